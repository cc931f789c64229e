import JvmDerived
import JvmDerived.Pilot.@@N@@Statement
import JvmDerived.Pilot.@@N@@Code
set_option linter.unusedVariables false
set_option linter.unusedSimpArgs false
namespace Jvm.OwnX
open Sem ClassFile Op Lib Jvm.Stand Jvm.Free Jvm.LawKit Jvm.RoadKit
/-! ### 1. Symbolic values -/
abbrev En := Nat → Int32 × Int64
def op2v (o : Binary) (x y : Int32 × Int64) : Int32 × Int64 := match o with
  | .iand => (x.1 &&& y.1, 0)
  | .ior => (x.1 ||| y.1, 0)
  | .ixor => (x.1 ^^^ y.1, 0)
  | .ishl => (x.1 <<< (y.1 &&& 31), 0)
  | .ishr => (x.1 >>> (y.1 &&& 31), 0)
  | .iushr => ((x.1.toUInt32 >>> (y.1 &&& 31).toUInt32).toInt32, 0)
  | .ladd => (0, x.2 + y.2)
  | .lsub => (0, x.2 - y.2)
  | .lmul => (0, x.2 * y.2)
  | .land => (0, x.2 &&& y.2)
  | .lor => (0, x.2 ||| y.2)
  | .lxor => (0, x.2 ^^^ y.2)
  | .lshl => (0, x.2 <<< (y.1 &&& 0x3f).toInt64)
  | .lshr => (0, x.2 >>> (y.1 &&& 0x3f).toInt64)
  | .lushr => (0, (x.2.toUInt64 >>> (y.1 &&& 0x3f).toInt64.toUInt64).toInt64)
  | .lcmp => (lcmpW x.2 y.2, 0)
  | _ => (0, 0)
def op1v (o : Unary) (x : Int32 × Int64) : Int32 × Int64 := match o with
  | .ineg => (-x.1, 0)
  | .lneg => (0, -x.2)
  | .i2l => (0, x.1.toInt64)
  | .l2i => (x.2.toInt32, 0)
  | .i2b => (x.1.toInt8.toInt32, 0)
  | .i2c => (x.1.toUInt32.toUInt16.toUInt32.toInt32, 0)
  | .i2s => (x.1.toInt16.toInt32, 0)
  | _ => (0, 0)
def te (A : En) : Term → Int32 × Int64
  | .arg i => A i
  | .int v => (v, 0)
  | .long v => (0, v)
  | .add a b => ((te A a).1 + (te A b).1, 0)
  | .sub a b => ((te A a).1 - (te A b).1, 0)
  | .mul a b => ((te A a).1 * (te A b).1, 0)
  | .div a b => ((te A a).1 / (te A b).1, 0)
  | .rem a b => ((te A a).1 % (te A b).1, 0)
  | .op2 o a b => op2v o (te A a) (te A b)
  | .op1 o a => op1v o (te A a)
  | _ => (0, 0)
def isLit : Term → Bool
  | .int _ => true
  | .long _ => true
  | _ => false
def kids : Term → Bool
  | .add a b => isLit a && isLit b
  | .sub a b => isLit a && isLit b
  | .mul a b => isLit a && isLit b
  | .div a b => isLit a && isLit b
  | .rem a b => isLit a && isLit b
  | .op2 _ a b => isLit a && isLit b
  | .op1 _ a => isLit a
  | _ => false
def e0 : En := fun _ => (0, 0)
def smI (t : Term) : Term := bif kids t then .int (te e0 t).1 else t
def smL (t : Term) : Term := bif kids t then .long (te e0 t).2 else t
theorem te_lit {t : Term} (h : isLit t = true) (A B : En) : te A t = te B t := by
  cases t <;> simp [isLit] at h <;> rfl
theorem te_kids {t : Term} (h : kids t = true) (A B : En) : te A t = te B t := by
  cases t <;> simp [kids] at h
  all_goals first
    | (rename_i a b; simp only [te, te_lit h.1 A B, te_lit h.2 A B])
    | (rename_i o a; simp only [te, te_lit h A B])
theorem te_smI (A : En) (t : Term) : (te A (smI t)).1 = (te A t).1 := by
  unfold smI
  cases h : kids t
  · rfl
  · simp only [cond_true, te, te_kids h A e0]
theorem te_smL (A : En) (t : Term) : (te A (smL t)).2 = (te A t).2 := by
  unfold smL
  cases h : kids t
  · rfl
  · simp only [cond_true, te, te_kids h A e0]
/-- a symbolic value: its kind (0 int, 1 long, 2 reference, 3 double) and its term -/
abbrev SV := Nat × Term
abbrev SL := Option (Option SV)
abbrev Ob := Nat × List SV
abbrev Cf := List SL × List SV × List Ob × Nat
abbrev Nx := List Cond × Nat × Cf
abbrev Stp := List Cond → Cf → Option (List Nx)
/-- a shape: an array's element type, or a class with its number of slots and its fields (declaring class, name, descriptor, type) -/
abbrev Fi := String × String × String × FieldType
abbrev Sh := Option FieldType × String × Nat × List Fi
def rf (O : Nat → Addr) (n0 : Nat) : Term → Value
  | .index k => .ref (n0 + k)
  | .arg i => .ref (O i)
  | _ => .null
def vv (A : En) (O : Nat → Addr) (n0 : Nat) (x : SV) : Value := match x.1 with
  | 0 => .int (te A x.2).1
  | 1 => .long (te A x.2).2
  | 2 => rf O n0 x.2
  | _ => .double (te A x.2).2.toUInt64
def sl1 (A : En) (O : Nat → Addr) (n0 : Nat) : SL → Slot
  | none => .unset
  | some none => .second
  | some (some x) => .val (vv A O n0 x)
def cat (x : SV) : Nat := match x.1 with
  | 1 => 2
  | 3 => 2
  | 0 => 1
  | 2 => 1
  | _ => 2
theorem rf_isRef (O : Nat → Addr) (n0 : Nat) (t : Term) : (rf O n0 t).isRef = true := by cases t <;> rfl
theorem vv_cat (A : En) (O : Nat → Addr) (n0 : Nat) (x : SV) : (vv A O n0 x).category = cat x := by
  obtain ⟨k, t⟩ := x
  match k with
  | 0 => rfl
  | 1 => rfl
  | 2 => show (rf O n0 t).category = 1; cases t <;> rfl
  | 3 => rfl
  | n + 4 => rfl
/-! ### 2. Facts -/
def hold (A : En) : Cond → Prop
  | .eq a b => (te A a).1 = (te A b).1
  | .lt a b => (te A a).1 < (te A b).1
  | .not c => ¬ hold A c
  | _ => True
def holds (A : En) (F : List Cond) : Prop := ∀ c ∈ F, hold A c
theorem holds_cons {A : En} {c : Cond} {F : List Cond} (h : hold A c) (H : holds A F) : holds A (c :: F) := by
  intro d hd
  rcases List.mem_cons.mp hd with rfl | hd
  · exact h
  · exact H d hd
/-- the same term -/
def tq : Term → Term → Bool
  | .arg i, .arg j => i == j
  | .int x, .int y => x == y
  | .long x, .long y => x == y
  | .null, .null => true
  | .index i, .index j => i == j
  | .add a b, .add c d => tq a c && tq b d
  | .sub a b, .sub c d => tq a c && tq b d
  | .mul a b, .mul c d => tq a c && tq b d
  | .div a b, .div c d => tq a c && tq b d
  | .rem a b, .rem c d => tq a c && tq b d
  | .op2 o a b, .op2 p c d => (o == p) && (tq a c && tq b d)
  | .op1 o a, .op1 p b => (o == p) && tq a b
  | _, _ => false
theorem tq_eq : ∀ {a b : Term}, tq a b = true → a = b := by
  intro a
  induction a <;> intro b h <;> cases b <;> simp [tq] at h
  all_goals first
    | rfl
    | (subst h; rfl)
    | (rename_i i1 i2 _ _; rw [i1 h.1, i2 h.2])
    | (rename_i i1 i2 _ _ _; rw [h.1, i1 h.2.1, i2 h.2.2])
    | (rename_i i1 _ _; rw [h.1, i1 h.2])
def cut (lo hi : Int) : Int × Int := bif (decide (-2147483648 ≤ lo)) && (decide (hi ≤ 2147483647)) then (lo, hi) else (-2147483648, 2147483647)
def lcr (p q : Int × Int) : Int × Int :=
  bif decide (p.2 < q.1) then (-1, -1) else bif decide (q.2 < p.1) then (1, 1) else
  bif decide (p.1 = p.2) && (decide (q.1 = q.2) && decide (p.1 = q.1)) then (0, 0) else
  bif decide (p.2 ≤ q.1) then (-1, 0) else bif decide (q.2 ≤ p.1) then (0, 1) else (-1, 1)
def fI : Int × Int := (-2147483648, 2147483647)
def fL : Int × Int := (-9223372036854775808, 9223372036854775807)
/-- bounds of a term's two views -/
def rg0 : Term → (Int × Int) × (Int × Int)
  | .int v => ((v.toInt, v.toInt), fL)
  | .long v => (fI, (v.toInt, v.toInt))
  | .add a b => (cut ((rg0 a).1.1 + (rg0 b).1.1) ((rg0 a).1.2 + (rg0 b).1.2), fL)
  | .sub a b => (cut ((rg0 a).1.1 - (rg0 b).1.2) ((rg0 a).1.2 - (rg0 b).1.1), fL)
  | .rem a b => (bif decide (0 < (rg0 b).1.1) then (bif decide (0 ≤ (rg0 a).1.1) then (0, (rg0 b).1.2 - 1) else (1 - (rg0 b).1.2, (rg0 b).1.2 - 1)) else fI, fL)
  | .op2 .iand a b => (bif decide (0 ≤ (rg0 b).1.1) then (0, (rg0 b).1.2) else bif decide (0 ≤ (rg0 a).1.1) then (0, (rg0 a).1.2) else fI, fL)
  | .op2 .lcmp a b => (bif tq a b then (0, 0) else lcr (rg0 a).2 (rg0 b).2, fL)
  | .op2 .land a b => (fI, bif decide (0 ≤ (rg0 b).2.1) || decide (0 ≤ (rg0 a).2.1) then (0, 9223372036854775807) else fL)
  | .op1 .i2c _ => ((0, 65535), fL)
  | .op1 .i2b _ => ((-128, 127), fL)
  | .op1 .i2l a => (fI, (rg0 a).1)
  | _ => (fI, fL)
def bI (p : Int × Int) (x : Int32) : Prop := p.1 ≤ x.toInt ∧ x.toInt ≤ p.2
def bL (p : Int × Int) (x : Int64) : Prop := p.1 ≤ x.toInt ∧ x.toInt ≤ p.2
theorem bI_full (x : Int32) : bI fI x := by have := rng32 x; simp only [bI, fI]; omega
theorem bL_full (x : Int64) : bL fL x := by have := rng64 x; simp only [bL, fL]; omega
theorem cut_ok {lo hi : Int} {x : Int32} {v : Int} (h1 : lo ≤ v) (h2 : v ≤ hi) (h3 : (x.toInt - v) % 4294967296 = 0) : bI (cut lo hi) x := by
  have := rng32 x
  unfold cut
  cases h : (decide (-2147483648 ≤ lo) && decide (hi ≤ 2147483647))
  · exact bI_full x
  · simp only [Bool.and_eq_true, decide_eq_true_eq] at h
    simp only [cond_true, bI]; omega
theorem lcr_ok {p q : Int × Int} {x y : Int64} (hx : bL p x) (hy : bL q y) : bI (lcr p q) (lcmpW x y) := by
  have h := c_lcmp x y
  obtain ⟨h1, h2⟩ := hx
  obtain ⟨h3, h4⟩ := hy
  obtain ⟨c1, c2, c3⟩ := h
  unfold lcr
  have hc : (lcmpW x y).toInt = -1 ∨ (lcmpW x y).toInt = 0 ∨ (lcmpW x y).toInt = 1 := by
    rcases Int.lt_trichotomy x.toInt y.toInt with h | h | h
    · exact Or.inl (c1 h)
    · exact Or.inr (Or.inl (c2 h))
    · exact Or.inr (Or.inr (c3 h))
  cases q1 : decide (p.2 < q.1)
  · cases q2 : decide (q.2 < p.1)
    · cases q3 : (decide (p.1 = p.2) && (decide (q.1 = q.2) && decide (p.1 = q.1)))
      · cases q4 : decide (p.2 ≤ q.1)
        · cases q5 : decide (q.2 ≤ p.1)
          · simp only [cond_false, cond_true, bI]; omega
          · simp only [cond_false, cond_true, bI]; simp only [decide_eq_true_eq] at q5
            rcases Int.lt_trichotomy x.toInt y.toInt with h | h | h
            · omega
            · have := c2 h; omega
            · have := c3 h; omega
        · simp only [cond_false, cond_true, bI]; simp only [decide_eq_true_eq] at q4
          rcases Int.lt_trichotomy x.toInt y.toInt with h | h | h
          · have := c1 h; omega
          · have := c2 h; omega
          · omega
      · simp only [Bool.and_eq_true, decide_eq_true_eq] at q3
        have := c2 (by omega)
        simp only [cond_false, cond_true, bI]; omega
    · simp only [decide_eq_true_eq] at q2
      have := c3 (by omega)
      simp only [cond_false, cond_true, bI]; omega
  · simp only [decide_eq_true_eq] at q1
    have := c1 (by omega)
    simp only [cond_true, bI]; omega
theorem rg0_ok (A : En) : ∀ t : Term, bI (rg0 t).1 (te A t).1 ∧ bL (rg0 t).2 (te A t).2 := by
  intro t
  induction t with
  | int v => exact ⟨⟨Int.le_refl _, Int.le_refl _⟩, bL_full _⟩
  | long v => exact ⟨bI_full _, ⟨Int.le_refl _, Int.le_refl _⟩⟩
  | add a b ia ib =>
    refine ⟨?_, bL_full _⟩
    exact cut_ok (v := (te A a).1.toInt + (te A b).1.toInt) (by have := ia.1.1; have := ib.1.1; omega) (by have := ia.1.2; have := ib.1.2; omega) (c_iadd _ _)
  | sub a b ia ib =>
    refine ⟨?_, bL_full _⟩
    exact cut_ok (v := (te A a).1.toInt - (te A b).1.toInt) (by have := ia.1.1; have := ib.1.2; omega) (by have := ia.1.2; have := ib.1.1; omega) (c_isub _ _)
  | rem a b ia ib =>
    refine ⟨?_, bL_full _⟩
    have ia := ia.1
    have ib := ib.1
    show bI (bif decide (0 < (rg0 b).1.1) then (bif decide (0 ≤ (rg0 a).1.1) then (0, (rg0 b).1.2 - 1) else (1 - (rg0 b).1.2, (rg0 b).1.2 - 1)) else fI) ((te A a).1 % (te A b).1)
    have h := c_iremV (te A a).1 (te A b).1
    cases q1 : decide (0 < (rg0 b).1.1)
    · exact bI_full _
    · simp only [decide_eq_true_eq] at q1
      have hb : 0 < (te A b).1.toInt := by have := ib.1; omega
      have hb2 := ib.2
      have ha1 := ia.1
      cases q2 : decide (0 ≤ (rg0 a).1.1)
      · simp only [cond_true, cond_false, bI]
        by_cases q : 0 ≤ (te A a).1.toInt
        · have := h.1 q hb; omega
        · have := h.2 (by omega) hb; omega
      · simp only [decide_eq_true_eq] at q2
        have := h.1 (by omega) hb
        simp only [cond_true, bI]; omega
  | op2 o a b ia ib =>
    cases o with
    | iand =>
      refine ⟨?_, bL_full _⟩
      have ia := ia.1
      have ib := ib.1
      show bI (bif decide (0 ≤ (rg0 b).1.1) then (0, (rg0 b).1.2) else bif decide (0 ≤ (rg0 a).1.1) then (0, (rg0 a).1.2) else fI) ((te A a).1 &&& (te A b).1)
      have ha1 := ia.1
      have ha2 := ia.2
      have hb1 := ib.1
      have hb2 := ib.2
      cases q1 : decide (0 ≤ (rg0 b).1.1)
      · cases q2 : decide (0 ≤ (rg0 a).1.1)
        · exact bI_full _
        · simp only [decide_eq_true_eq] at q2
          have := c_and' (te A a).1 (te A b).1 (by omega)
          simp only [cond_true, cond_false, bI]; omega
      · simp only [decide_eq_true_eq] at q1
        have := c_and (te A a).1 (te A b).1 (by omega)
        simp only [cond_true, bI]; omega
    | lcmp =>
      refine ⟨?_, bL_full _⟩
      show bI (bif tq a b then (0, 0) else lcr (rg0 a).2 (rg0 b).2) (lcmpW (te A a).2 (te A b).2)
      cases q : tq a b
      · exact lcr_ok ia.2 ib.2
      · obtain rfl := tq_eq q
        have e : lcmpW (te A a).2 (te A a).2 = 0 := by simp [lcmpW, Int64.lt_irrefl]
        rw [e]; show bI (0, 0) 0; exact ⟨by decide, by decide⟩
    | land =>
      refine ⟨bI_full _, ?_⟩
      have h1 := ia.2.1
      have h2 := ib.2.1
      have h3 := c_andSL (te A a).2 (te A b).2
      have h4 := rng64 ((te A a).2 &&& (te A b).2)
      show bL (bif decide (0 ≤ (rg0 b).2.1) || decide (0 ≤ (rg0 a).2.1) then (0, 9223372036854775807) else fL) ((te A a).2 &&& (te A b).2)
      cases q : (decide (0 ≤ (rg0 b).2.1) || decide (0 ≤ (rg0 a).2.1))
      · exact bL_full _
      · simp only [Bool.or_eq_true, decide_eq_true_eq] at q
        simp only [cond_true, bL]
        rcases q with q | q
        · have := h3.2.2 (by omega); omega
        · have := h3.2.1 (by omega); omega
    | _ => exact ⟨bI_full _, bL_full _⟩
  | op1 o a ia =>
    cases o with
    | i2c => refine ⟨?_, bL_full _⟩; have := c_i2c (te A a).1; show bI (0, 65535) _; simp only [bI, te, op1v]; omega
    | i2b => refine ⟨?_, bL_full _⟩; have := c_i2b (te A a).1; show bI (-128, 127) _; simp only [bI, te, op1v]; omega
    | i2l => refine ⟨bI_full _, ?_⟩; have := c_i2l (te A a).1; have h1 := ia.1.1; have h2 := ia.1.2; show bL (rg0 a).1 (te A a).1.toInt64; simp only [bL]; omega
    | _ => exact ⟨bI_full _, bL_full _⟩
  | _ => exact ⟨bI_full _, bL_full _⟩
/-- what one fact says of a term -/
def nr1 (t : Term) (c : Cond) (p : Int × Int) : Int × Int := match c with
  | .eq a (.int v) => bif tq a t then (v.toInt, v.toInt) else p
  | .lt a (.int v) => bif tq a t then (p.1, bif decide (v.toInt - 1 < p.2) then v.toInt - 1 else p.2) else p
  | .lt (.int v) a => bif tq a t then (bif decide (p.1 < v.toInt + 1) then v.toInt + 1 else p.1, p.2) else p
  | .not (.lt a (.int v)) => bif tq a t then (bif decide (p.1 < v.toInt) then v.toInt else p.1, p.2) else p
  | .not (.lt (.int v) a) => bif tq a t then (p.1, bif decide (v.toInt < p.2) then v.toInt else p.2) else p
  | .not (.eq a (.int v)) => bif tq a t then (bif decide (p.1 = v.toInt) then p.1 + 1 else p.1, bif decide (p.2 = v.toInt) then p.2 - 1 else p.2) else p
  | _ => p
def nr (t : Term) : List Cond → Int × Int → Int × Int
  | [], p => p
  | c :: F, p => nr1 t c (nr t F p)
/-- the facts on a comparison of longs are read both ways -/
def rg (F : List Cond) (t : Term) : Int × Int := match t with
  | .op2 .lcmp a b => nr t F (-(nr (.op2 .lcmp b a) F (rg0 (.op2 .lcmp b a)).1).2, -(nr (.op2 .lcmp b a) F (rg0 (.op2 .lcmp b a)).1).1)
  | t => nr t F (nr t F (rg0 t).1)
theorem nr1_ok {A : En} {t : Term} {c : Cond} {p : Int × Int} (hc : hold A c) (h : bI p (te A t).1) : bI (nr1 t c p) (te A t).1 := by
  obtain ⟨h1, h2⟩ := h
  unfold nr1
  split
  all_goals first
    | exact ⟨h1, h2⟩
    | (rename_i a v
       cases q : tq a t
       · exact ⟨h1, h2⟩
       · obtain rfl := tq_eq q
         simp only [hold, te, Int32.lt_iff_toInt_lt, ← Int32.toInt_inj] at hc
         simp only [cond_true, bI]
         try simp only [Bool.cond_decide]
         refine ⟨?_, ?_⟩ <;> first | omega | (split <;> omega))
    | (rename_i v a _
       cases q : tq a t
       · exact ⟨h1, h2⟩
       · obtain rfl := tq_eq q
         simp only [hold, te, Int32.lt_iff_toInt_lt, ← Int32.toInt_inj] at hc
         simp only [cond_true, bI]
         try simp only [Bool.cond_decide]
         refine ⟨?_, ?_⟩ <;> first | omega | (split <;> omega))
theorem nr_ok {A : En} {t : Term} : ∀ {F : List Cond} {p : Int × Int}, holds A F → bI p (te A t).1 → bI (nr t F p) (te A t).1
  | [], p, _, h => h
  | c :: F, p, hF, h => nr1_ok (hF c (List.mem_cons_self ..)) (nr_ok (fun d hd => hF d (List.mem_cons_of_mem _ hd)) h)
theorem cmp_flip (x y : Int64) : (lcmpW x y).toInt = -(lcmpW y x).toInt := by
  have h1 := c_lcmp x y
  have h2 := c_lcmp y x
  rcases Int.lt_trichotomy x.toInt y.toInt with h | h | h
  · have a := h1.1 h; have b := h2.2.2 h; omega
  · have a := h1.2.1 h; have b := h2.2.1 h.symm; omega
  · have a := h1.2.2 h; have b := h2.1 h; omega
theorem rg_ok {A : En} {F : List Cond} (hF : holds A F) (t : Term) : bI (rg F t) (te A t).1 := by
  unfold rg
  split
  · rename_i a b
    refine nr_ok hF ?_
    obtain ⟨h1, h2⟩ := nr_ok hF (rg0_ok A (.op2 .lcmp b a)).1
    have h3 : (te A (.op2 .lcmp a b)).1.toInt = -(te A (.op2 .lcmp b a)).1.toInt := cmp_flip _ _
    constructor <;> simp only <;> omega
  · exact nr_ok hF (nr_ok hF (rg0_ok A t).1)
def cq : Cond → Cond → Bool
  | .eq a b, .eq c d => tq a c && tq b d
  | .lt a b, .lt c d => tq a c && tq b d
  | _, _ => false
theorem cq_eq {c d : Cond} (h : cq c d = true) : c = d := by
  unfold cq at h
  split at h
  · simp only [Bool.and_eq_true] at h; rw [tq_eq h.1, tq_eq h.2]
  · simp only [Bool.and_eq_true] at h; rw [tq_eq h.1, tq_eq h.2]
  · cases h
def lk (c : Cond) : List Cond → Option Bool
  | [] => none
  | .not d :: F => bif cq c d then some false else lk c F
  | d :: F => bif cq c d then some true else lk c F
theorem lk_ok {A : En} {c : Cond} : ∀ {F : List Cond} {b : Bool}, holds A F → lk c F = some b → (hold A c ↔ b = true)
  | [], b, _, h => by cases h
  | d :: F, b, hF, h => by
    have hd := hF d (List.mem_cons_self ..)
    have ih := fun b h => lk_ok (A := A) (c := c) (F := F) (b := b) (fun d hd => hF d (List.mem_cons_of_mem _ hd)) h
    unfold lk at h
    split at h
    · cases h
    · rename_i d' F' q
      cases q
      cases q : cq c d'
      · rw [q] at h; exact ih b h
      · rw [q] at h; cases h; obtain rfl := cq_eq q
        exact ⟨fun x => absurd x hd, fun x => by cases x⟩
    · rename_i d' F' _ q
      cases q
      cases q : cq c d
      · rw [q] at h; exact ih b h
      · rw [q] at h; cases h; obtain rfl := cq_eq q
        exact ⟨fun _ => rfl, fun _ => hd⟩
/-- is the atom decided by the facts? -/
def dec (F : List Cond) (c : Cond) : Option Bool := match c with
  | .eq (.int x) (.int y) => some (x == y)
  | .lt (.int x) (.int y) => some (decide (x < y))
  | .eq a b => bif decide ((rg F a).2 < (rg F b).1) || decide ((rg F b).2 < (rg F a).1) then some false else
      bif decide ((rg F a).1 = (rg F a).2) && (decide ((rg F b).1 = (rg F b).2) && decide ((rg F a).1 = (rg F b).1)) then some true else lk c F
  | .lt a b => bif decide ((rg F a).2 < (rg F b).1) then some true else bif decide ((rg F b).2 ≤ (rg F a).1) then some false else lk c F
  | _ => none
theorem dec_ok {A : En} {F : List Cond} {c : Cond} {b : Bool} (hF : holds A F) (h : dec F c = some b) : hold A c ↔ b = true := by
  unfold dec at h
  split at h
  · cases h; simp [hold, te]
  · cases h; simp [hold, te]
  · rename_i a b' _
    have ha := rg_ok hF a
    have hb := rg_ok hF b'
    obtain ⟨a1, a2⟩ := ha
    obtain ⟨b1, b2⟩ := hb
    simp only [hold, ← Int32.toInt_inj]
    cases q1 : (decide ((rg F a).2 < (rg F b').1) || decide ((rg F b').2 < (rg F a).1))
    · cases q2 : (decide ((rg F a).1 = (rg F a).2) && (decide ((rg F b').1 = (rg F b').2) && decide ((rg F a).1 = (rg F b').1)))
      · rw [q1, q2] at h; have := lk_ok hF h; simpa only [hold, ← Int32.toInt_inj] using this
      · rw [q1, q2] at h; cases h
        simp only [Bool.and_eq_true, decide_eq_true_eq] at q2
        simp only [iff_true]; omega
    · rw [q1] at h; cases h
      simp only [Bool.or_eq_true, decide_eq_true_eq] at q1
      simp only [Bool.false_eq_true, iff_false]; omega
  · rename_i a b' _
    have ha := rg_ok hF a
    have hb := rg_ok hF b'
    obtain ⟨a1, a2⟩ := ha
    obtain ⟨b1, b2⟩ := hb
    cases q1 : decide ((rg F a).2 < (rg F b').1)
    · cases q2 : decide ((rg F b').2 ≤ (rg F a).1)
      · rw [q1, q2] at h; exact lk_ok hF h
      · rw [q1, q2] at h; cases h
        simp only [decide_eq_true_eq] at q2
        simp only [hold, Int32.lt_iff_toInt_lt, Bool.false_eq_true, iff_false]; omega
    · rw [q1] at h; cases h
      simp only [decide_eq_true_eq] at q1
      simp only [hold, Int32.lt_iff_toInt_lt, iff_true]; omega
  · cases h
/-- a branch: decided, or both ways with the fact noted -/
def fork (F : List Cond) (c : Cond) (yes no : List Cond → Nx) : List Nx := match dec F c with
  | some true => [yes F]
  | some false => [no F]
  | none => [yes (c :: F), no (.not c :: F)]
theorem fork_ok {A : En} {F : List Cond} {c : Cond} {yes no : List Cond → Nx} (hF : holds A F) (hy : ∀ G, (yes G).1 = G) (hn : ∀ G, (no G).1 = G) :
    ∃ G, holds A G ∧ ((hold A c ∧ yes G ∈ fork F c yes no) ∨ (¬ hold A c ∧ no G ∈ fork F c yes no)) := by
  unfold fork
  cases h : dec F c with
  | none =>
    by_cases q : hold A c
    · exact ⟨c :: F, holds_cons q hF, Or.inl ⟨q, List.mem_cons_self ..⟩⟩
    · exact ⟨.not c :: F, holds_cons (c := .not c) q hF, Or.inr ⟨q, List.mem_cons_of_mem _ (List.mem_cons_self ..)⟩⟩
  | some b =>
    have q := dec_ok hF h
    cases b with
    | true => exact ⟨F, hF, Or.inl ⟨q.mpr rfl, List.mem_cons_self ..⟩⟩
    | false => exact ⟨F, hF, Or.inr ⟨fun x => (by cases q.mp x), List.mem_cons_self ..⟩⟩
/-- a term's value, where the facts fix it -/
def cv (F : List Cond) (t : Term) : Option Int32 := match t with
  | .int v => some v
  | _ => bif decide ((rg F t).1 = (rg F t).2) then some (Int32.ofInt (rg F t).1) else none
theorem cv_ok {A : En} {F : List Cond} {t : Term} {v : Int32} (hF : holds A F) (h : cv F t = some v) : (te A t).1 = v := by
  unfold cv at h
  split at h
  · cases h; rfl
  · cases q : decide ((rg F t).1 = (rg F t).2)
    · rw [q] at h; cases h
    · rw [q] at h; cases h
      simp only [decide_eq_true_eq] at q
      obtain ⟨h1, h2⟩ := rg_ok hF t
      have : (rg F t).1 = (te A t).1.toInt := by omega
      rw [this, Int32.ofInt_toInt]
/-! ### 3. The heap of what the run has made -/
section Heap
variable (Z : State) (hz : Heap) (sh : List Sh) (A : En) (O : Nat → Addr)
def ArOk (h : Heap) (a : Addr) (ty : FieldType) (xs : List SV) : Prop := ∃ cl : Cell, Arr Z h a cl ty ∧ cl.slots = (xs.map (vv A O hz.size)).toArray ∧ xs.length < 2 ^ 31 ∧ ∀ C, ty = .object C → Ovr Z cl.cls C
def ClOk (h : Heap) (a : Addr) (C : String) (fs : List Fi) (xs : List SV) : Prop := Exa Z h a C ∧ xs.length = fs.length ∧ ∀ (i : Nat) (f : Fi) (x : SV), fs[i]? = some f → xs[i]? = some x → Fld Z h a f.1 f.2.1 f.2.2.1 (vv A O hz.size x)
def ObAt (h : Heap) (a : Addr) (o : Ob) : Prop := match sh[o.1]? with
  | some (some ty, _) => ArOk Z hz A O h a ty o.2
  | some (none, C, _, fs) => ClOk Z hz A O h a C fs o.2
  | none => False
def HD (h : Heap) (D : List Ob) : Prop := h.size = hz.size + D.length ∧ (∀ a, a < hz.size → h[a]? = hz[a]?) ∧ ∀ (k : Nat) (o : Ob), D[k]? = some o → ObAt Z hz sh A O h (hz.size + k) o
/-- the words on a shape that the sheet bears -/
def ShOk (a0 : Array Value) (s : Sh) : Prop := s.1 = none → (Cond.instantiable s.2.1 s.2.2.1).before a0 Z = true ∧ (∀ f ∈ s.2.2.2, Laid Z a0 s.2.1 f.1 f.2.1 f.2.2.1 ∧ parseFieldDescriptor f.2.2.1 = some f.2.2.2) ∧ (s.2.2.2.map (·.2.1)).Nodup
end Heap
section HeapLaws
variable {Z : State} {hz : Heap} {sh : List Sh} {A : En} {O : Nat → Addr} {h h' : Heap} {D : List Ob} {a0 : Array Value}
theorem HD.ext (H : HD Z hz sh A O h D) : Ext hz h := by
  refine ⟨by rw [H.1]; omega, fun a c hc => ?_⟩
  rw [H.2.1 a (Array.getElem?_eq_some_iff.mp hc).1]; exact hc
theorem ArOk.ext {a : Addr} {ty : FieldType} {xs : List SV} (E : Ext h h') (X : ArOk Z hz A O h a ty xs) : ArOk Z hz A O h' a ty xs := by
  obtain ⟨cl, h1, h2⟩ := X; exact ⟨cl, h1.ext E, h2⟩
theorem ClOk.ext {a : Addr} {C : String} {fs : List Fi} {xs : List SV} (E : Ext h h') (X : ClOk Z hz A O h a C fs xs) : ClOk Z hz A O h' a C fs xs :=
  ⟨X.1.ext E, X.2.1, fun i f x hf hx => (X.2.2 i f x hf hx).ext E⟩
theorem ObAt.ext {a : Addr} {o : Ob} (E : Ext h h') (X : ObAt Z hz sh A O h a o) : ObAt Z hz sh A O h' a o := by
  unfold ObAt at X ⊢
  split
  · rename_i q; rw [q] at X; exact ArOk.ext E X
  · rename_i q; rw [q] at X; exact ClOk.ext E X
  · rename_i q; rw [q] at X; exact X
theorem ObAt.other {a b : Addr} {o : Ob} {sl : Nat} {v : Value} (W : Wr h h' a sl v) (ne : b ≠ a) (X : ObAt Z hz sh A O h b o) : ObAt Z hz sh A O h' b o := by
  unfold ObAt at X ⊢
  split
  · rename_i q; rw [q] at X; obtain ⟨cl, h1, h2⟩ := X; exact ⟨cl, h1.other W ne, h2⟩
  · rename_i q; rw [q] at X; exact ⟨X.1.wr W, X.2.1, fun i f x hf hx => (X.2.2 i f x hf hx).other W (Or.inl ne)⟩
  · rename_i q; rw [q] at X; exact X
/-- a new object behind the last -/
theorem HD.push (H : HD Z hz sh A O h D) {o : Ob} (E : Ext h h') (hs : h'.size = h.size + 1) (ho : ObAt Z hz sh A O h' h.size o) : HD Z hz sh A O h' (D ++ [o]) := by
  refine ⟨by rw [hs, H.1, List.length_append]; rfl, fun a ha => ?_, fun k o' hk => ?_⟩
  · rw [← H.2.1 a ha]
    have hlt : a < h.size := by rw [H.1]; omega
    rw [E.2 a _ (Array.getElem?_eq_getElem hlt), Array.getElem?_eq_getElem hlt]
  · rcases Nat.lt_trichotomy k D.length with q | q | q
    · rw [List.getElem?_append_left q] at hk; exact (H.2.2 k o' hk).ext E
    · subst q
      rw [List.getElem?_append_right (Nat.le_refl _), Nat.sub_self] at hk
      cases hk; rw [← H.1]; exact ho
    · rw [List.getElem?_append_right (by omega)] at hk
      have : k - D.length ≠ 0 := by omega
      cases hq : k - D.length with
      | zero => exact absurd hq this
      | succ n => rw [hq] at hk; cases hk
/-- one object is written -/
theorem HD.set (H : HD Z hz sh A O h D) {k : Nat} {o o' : Ob} {sl : Nat} {v : Value} (hk : D[k]? = some o) (W : Wr h h' (hz.size + k) sl v) (ho : ObAt Z hz sh A O h' (hz.size + k) o') : HD Z hz sh A O h' (D.set k o') := by
  refine ⟨by rw [W.size, H.1, List.length_set], fun a ha => ?_, fun j o2 hj => ?_⟩
  · rw [← H.2.1 a ha]
    have hlt : a < h.size := by rw [H.1]; omega
    obtain ⟨cb, e1, -, -, -, e5, -⟩ := wr_at W (Array.getElem?_eq_getElem hlt)
    rw [e1, e5 (Nat.ne_of_lt (Nat.lt_of_lt_of_le ha (Nat.le_add_right _ _))), Array.getElem?_eq_getElem hlt]
  · by_cases q : j = k
    · subst q
      rw [List.getElem?_set_self (List.getElem?_eq_some_iff.mp hk).1] at hj
      cases hj; exact ho
    · rw [List.getElem?_set_ne (Ne.symm q)] at hj
      exact (H.2.2 j o2 hj).other W (fun e => q (Nat.add_left_cancel e))
theorem ObAt.arr {a : Addr} {o : Ob} {ty : FieldType} {r} (q : sh[o.1]? = some (some ty, r)) : ObAt Z hz sh A O h a o = ArOk Z hz A O h a ty o.2 := by unfold ObAt; rw [q]
theorem ObAt.cls {a : Addr} {o : Ob} {C : String} {n : Nat} {fs : List Fi} (q : sh[o.1]? = some (none, C, n, fs)) : ObAt Z hz sh A O h a o = ClOk Z hz A O h a C fs o.2 := by unfold ObAt; rw [q]
theorem ArOk.set {a : Addr} {ty : FieldType} {xs : List SV} (X : ArOk Z hz A O h a ty xs) {j : Nat} {x : SV} (W : Wr h h' a j (vv A O hz.size x)) : ArOk Z hz A O h' a ty (xs.set j x) := by
  obtain ⟨cl, h1, h2, h3, h4⟩ := X
  refine ⟨_, h1.same W, ?_, by rw [List.length_set]; exact h3, h4⟩
  show cl.slots.setIfInBounds j _ = _
  rw [h2, List.map_set]; simp
theorem ClOk.set {a : Addr} {C : String} {n : Nat} {fs : List Fi} {xs : List SV} (hs : ShOk Z a0 (none, C, n, fs)) (X : ClOk Z hz A O h a C fs xs) {i : Nat} {f : Fi} (hf : fs[i]? = some f) {x : SV} (W : Wr h h' a (RoadKit.slotOf Z f.1 f.2.1 f.2.2.1) (vv A O hz.size x)) : ClOk Z hz A O h' a C fs (xs.set i x) := by
  obtain ⟨h1, h2, h3⟩ := X
  obtain ⟨-, s2, s3⟩ := hs rfl
  refine ⟨h1.wr W, by rw [List.length_set]; exact h2, fun j g y hg hy => ?_⟩
  by_cases q : j = i
  · subst q
    cases hf.symm.trans hg
    have hlt : j < xs.length := by rw [h2]; exact (List.getElem?_eq_some_iff.mp hf).1
    rw [List.getElem?_set_self hlt] at hy
    cases hy
    exact Fld.same W (h3 j f xs[j] hf (List.getElem?_eq_getElem hlt))
  · rw [List.getElem?_set_ne (Ne.symm q)] at hy
    obtain ⟨l1, p1⟩ := s2 g (List.mem_of_getElem? hg)
    obtain ⟨l2, p2⟩ := s2 f (List.mem_of_getElem? hf)
    refine Fld.other W (h3 j g y hg hy) (Or.inr (slot_ne l1 l2 ?_ p1 p2))
    intro e
    have hj : (fs.map (·.2.1))[j]? = some g.2.1 := by simp [hg]
    have hi : (fs.map (·.2.1))[i]? = some f.2.1 := by simp [hf]
    have hjl : j < (fs.map (·.2.1)).length := (List.getElem?_eq_some_iff.mp hj).1
    exact q ((List.getElem?_inj hjl s3).mp (by rw [hj, hi, e]))
end HeapLaws
/-! ### 4. What a step says -/
section Sim
variable (l : Launch) (Z : State) (hz : Heap) (sh : List Sh) (A : En) (O : Nat → Addr) (y : MethodName) (bytes : ByteArray) (maxL : Nat) (ret : Option FieldType)
def Act (p : Program) (s : State) (m : MethodId) (meth : Method) (c : Code) : Prop := p.tables.exec = Jvm.exec ∧ Z.Warmed39 s.vm ∧ c.code = bytes ∧ c.maxLocals = maxL ∧ s.vm.findClass y.cls = some m.cls ∧ meth.name = y.name ∧ meth.sig.returnType = ret ∧ meth.locks = false
def frm (m : MethodId) (pc : Nat) (cf : Cf) : JFrame := mkF m pc (cf.1.map (sl1 A O hz.size)).toArray (cf.2.1.map (vv A O hz.size))
def Sim (fr lo pc : Nat) (cf : Cf) (pc' : Nat) (cf' : Cf) : Prop :=
  cf.2.2.1.length ≤ cf'.2.2.1.length ∧ cf.2.2.2 ≤ cf'.2.2.2 ∧
  ∀ (d0 s0 : Nat) (p : Program) (e : Env) (R : Room) (s : State) (m : MethodId) (args : Array Value) (below : List Frame) (meth : Method) (c : Code) (T : State) (locs : List Loc),
    d0 ≤ cf.2.2.1.length → s0 ≤ cf.2.2.2 → s.heap.size = hz.size + d0 → Act Z y bytes maxL ret p s m meth c →
    Stand p l e R s m args below meth c T locs (cf.2.2.1.length - d0) (cf.2.2.2 - s0) → HD Z hz sh A O T.heap cf.2.2.1 → Fr hz.size locs →
    cf'.2.2.1.length - d0 ≤ R.cells → cf'.2.2.2 - s0 ≤ R.slots → fr ≤ R.frames → lo ≤ R.locals →
    ∃ T' locs', Stand p l e R s m args below meth c T' locs' (cf'.2.2.1.length - d0) (cf'.2.2.2 - s0) ∧ HD Z hz sh A O T'.heap cf'.2.2.1 ∧ Fr hz.size locs' ∧
      ∀ target, Steps p.tables e below (T'.setTop (frm hz A O m pc' cf')) target → Steps p.tables e below (T.setTop (frm hz A O m pc cf)) target
def Good (pc : Nat) (f : Stp) : Prop := ∀ F cf ns, f F cf = some ns → holds A F → ∃ n ∈ ns, holds A n.1 ∧ Sim l Z hz sh A O y bytes maxL ret 0 0 pc cf n.2.1 n.2.2
/-- the run from here to the method's return -/
def Ret (fr lo pc : Nat) (cf : Cf) (v : Option SV) (D' : List Ob) (sl' : Nat) : Prop :=
  cf.2.2.1.length ≤ D'.length ∧ cf.2.2.2 ≤ sl' ∧
  ∀ (d0 s0 : Nat) (p : Program) (e : Env) (R : Room) (s : State) (m : MethodId) (args : Array Value) (below : List Frame) (meth : Method) (c : Code) (T : State) (locs : List Loc),
    d0 ≤ cf.2.2.1.length → s0 ≤ cf.2.2.2 → s.heap.size = hz.size + d0 → Act Z y bytes maxL ret p s m meth c →
    Stand p l e R s m args below meth c T locs (cf.2.2.1.length - d0) (cf.2.2.2 - s0) → HD Z hz sh A O T.heap cf.2.2.1 → Fr hz.size locs →
    D'.length - d0 ≤ R.cells → sl' - s0 ≤ R.slots → fr ≤ R.frames → lo ≤ R.locals →
    ∃ s₂ locs', Steps p.tables e below (T.setTop (frm hz A O m pc cf)) s₂ ∧ s₂.status = .running ∧ Ended s₂ below (.returned (v.map (vv A O hz.size))) ∧ HD Z hz sh A O s₂.heap D' ∧ Fr hz.size locs' ∧
      s.WarmedH s₂.vm ∧ s.sameButNew ({ s₂ with vm := s.vm } : State) locs' (D'.length - d0) (sl' - s0)
end Sim
section SimLaws
variable {l : Launch} {Z : State} {hz : Heap} {sh : List Sh} {A : En} {O : Nat → Addr} {y : MethodName} {bytes : ByteArray} {maxL : Nat} {ret : Option FieldType}
theorem Sim.thenRet {fr lo pc pc' : Nat} {cf cf' : Cf} {v : Option SV} {D' : List Ob} {sl' : Nat} (S : Sim l Z hz sh A O y bytes maxL ret fr lo pc cf pc' cf') (R : Ret l Z hz sh A O y bytes maxL ret fr lo pc' cf' v D' sl') :
    Ret l Z hz sh A O y bytes maxL ret fr lo pc cf v D' sl' := by
  obtain ⟨s1, s2, s3⟩ := S
  obtain ⟨r1, r2, r3⟩ := R
  refine ⟨Nat.le_trans s1 r1, Nat.le_trans s2 r2, ?_⟩
  intro d0 s0 p e R s m args below meth c T locs hd hs hh hA X H N hc hl hf hlo
  obtain ⟨T', locs', X', H', N', st⟩ := s3 d0 s0 p e R s m args below meth c T locs hd hs hh hA X H N (by omega) (by omega) hf hlo
  obtain ⟨s₂, L2, k1, k2⟩ := r3 d0 s0 p e R s m args below meth c T' locs' (by omega) (by omega) hh hA X' H' N' hc hl hf hlo
  exact ⟨s₂, L2, st _ k1, k2⟩
theorem Sim.mono {fr lo fr' lo' pc pc' : Nat} {cf cf' : Cf} (S : Sim l Z hz sh A O y bytes maxL ret fr lo pc cf pc' cf') (h1 : fr ≤ fr') (h2 : lo ≤ lo') : Sim l Z hz sh A O y bytes maxL ret fr' lo' pc cf pc' cf' := by
  obtain ⟨s1, s2, s3⟩ := S
  refine ⟨s1, s2, ?_⟩
  intro d0 s0 p e R s m args below meth c T locs hd hs hh hA X H N hc hl hf hlo
  exact s3 d0 s0 p e R s m args below meth c T locs hd hs hh hA X H N hc hl (Nat.le_trans h1 hf) (Nat.le_trans h2 hlo)
/-- a step that moves nothing but the frame -/
theorem sim_pure {pc pc' sl : Nat} {L L' : List SL} {S S' : List SV} {D : List Ob}
    (h : ∀ (p : Program) (e : Env) (R : Room) (s : State) (m : MethodId) (args : Array Value) (below : List Frame) (meth : Method) (c : Code) (T : State) (locs : List Loc) (cells slots : Nat),
      Act Z y bytes maxL ret p s m meth c → Stand p l e R s m args below meth c T locs cells slots → HD Z hz sh A O T.heap D →
      ∀ target, Steps p.tables e below (T.setTop (frm hz A O m pc' (L', S', D, sl))) target → Steps p.tables e below (T.setTop (frm hz A O m pc (L, S, D, sl))) target) :
    Sim l Z hz sh A O y bytes maxL ret 0 0 pc (L, S, D, sl) pc' (L', S', D, sl) :=
  ⟨Nat.le_refl _, Nat.le_refl _, fun d0 s0 p e R s m args below meth c T locs hd hs hh hA X H N hc hl hf hlo => ⟨T, locs, X, H, N, h p e R s m args below meth c T locs _ _ hA X H⟩⟩
theorem loc_at {L : List SL} {k : Nat} {x : SV} (h : L[k]? = some (some (some x))) : (L.map (sl1 A O hz.size)).toArray[k]? = some (.val (vv A O hz.size x)) := by
  simp [h, sl1]
/-! #### the single steps -/
def one (F : List Cond) (nx : Nat) (cf : Cf) : Option (List Nx) := some [(F, nx, cf)]
theorem good_one {pc nx : Nat} {f : Stp} (h : ∀ F L S D sl ns, f F (L, S, D, sl) = some ns → ∃ L' S', ns = [(F, nx, (L', S', D, sl))] ∧ (holds A F → 
    ∀ (p : Program) (e : Env) (R : Room) (s : State) (m : MethodId) (args : Array Value) (below : List Frame) (meth : Method) (c : Code) (T : State) (locs : List Loc) (cells slots : Nat),
      Act Z y bytes maxL ret p s m meth c → Stand p l e R s m args below meth c T locs cells slots → HD Z hz sh A O T.heap D →
      ∀ target, Steps p.tables e below (T.setTop (frm hz A O m nx (L', S', D, sl))) target → Steps p.tables e below (T.setTop (frm hz A O m pc (L, S, D, sl))) target)) :
    Good l Z hz sh A O y bytes maxL ret pc f := by
  intro F cf ns hf hF
  obtain ⟨L, S, D, sl⟩ := cf
  obtain ⟨L', S', rfl, k⟩ := h F L S D sl ns hf
  exact ⟨_, List.mem_cons_self .., hF, sim_pure (k hF)⟩
def sLoad (kd k nx : Nat) : Stp := fun F cf => match cf.1[k]? with
  | some (some (some x)) => bif x.1 == kd then some [(F, nx, (cf.1, x :: cf.2.1, cf.2.2))] else none
  | _ => none
theorem sLoad_inv {kd k nx : Nat} {F : List Cond} {L : List SL} {S : List SV} {D : List Ob} {sl : Nat} {ns : List Nx} (h : sLoad kd k nx F (L, S, D, sl) = some ns) : ∃ t, L[k]? = some (some (some (kd, t))) ∧ ns = [(F, nx, (L, (kd, t) :: S, D, sl))] := by
  simp only [sLoad] at h
  split at h
  · rename_i x q
    obtain ⟨k', t⟩ := x
    cases hk : (k' == kd)
    · rw [hk] at h; cases h
    · rw [hk] at h; obtain rfl := beq_iff_eq.mp hk; cases h; exact ⟨t, q, rfl⟩
  · cases h
theorem g_iload {pc k : Nat} (hd : decode bytes pc = .ok (.iload k, 2)) : Good l Z hz sh A O y bytes maxL ret pc (sLoad 0 k (pc + 2)) :=
  good_one fun F L S D sl ns h => by
    obtain ⟨t, q, rfl⟩ := sLoad_inv h
    refine ⟨_, _, rfl, fun hF p e R s m args below meth c T locs cells slots hA X H target st => ?_⟩
    exact XS.iload X.here hA.1 rfl (hb hA.2.2.1 hd) (loc_at q) st
theorem g_iloadN {pc : Nat} {k : Fin 4} (hd : decode bytes pc = .ok (.iload_n k, 1)) : Good l Z hz sh A O y bytes maxL ret pc (sLoad 0 k.val (pc + 1)) :=
  good_one fun F L S D sl ns h => by
    obtain ⟨t, q, rfl⟩ := sLoad_inv h
    refine ⟨_, _, rfl, fun hF p e R s m args below meth c T locs cells slots hA X H target st => ?_⟩
    exact XS.iloadN X.here hA.1 rfl (hb hA.2.2.1 hd) (loc_at q) st
theorem g_lload {pc k : Nat} (hd : decode bytes pc = .ok (.lload k, 2)) : Good l Z hz sh A O y bytes maxL ret pc (sLoad 1 k (pc + 2)) :=
  good_one fun F L S D sl ns h => by
    obtain ⟨t, q, rfl⟩ := sLoad_inv h
    refine ⟨_, _, rfl, fun hF p e R s m args below meth c T locs cells slots hA X H target st => ?_⟩
    exact XS.lload X.here hA.1 rfl (hb hA.2.2.1 hd) (loc_at q) st
theorem g_lloadN {pc : Nat} {k : Fin 4} (hd : decode bytes pc = .ok (.lload_n k, 1)) : Good l Z hz sh A O y bytes maxL ret pc (sLoad 1 k.val (pc + 1)) :=
  good_one fun F L S D sl ns h => by
    obtain ⟨t, q, rfl⟩ := sLoad_inv h
    refine ⟨_, _, rfl, fun hF p e R s m args below meth c T locs cells slots hA X H target st => ?_⟩
    exact XS.lloadN X.here hA.1 rfl (hb hA.2.2.1 hd) (loc_at q) st
theorem g_aload {pc k : Nat} (hd : decode bytes pc = .ok (.aload k, 2)) : Good l Z hz sh A O y bytes maxL ret pc (sLoad 2 k (pc + 2)) :=
  good_one fun F L S D sl ns h => by
    obtain ⟨t, q, rfl⟩ := sLoad_inv h
    refine ⟨_, _, rfl, fun hF p e R s m args below meth c T locs cells slots hA X H target st => ?_⟩
    exact XS.aload X.here hA.1 rfl (hb hA.2.2.1 hd) (loc_at q) (rf_isRef _ _ _) st
theorem g_aloadN {pc : Nat} {k : Fin 4} (hd : decode bytes pc = .ok (.aload_n k, 1)) : Good l Z hz sh A O y bytes maxL ret pc (sLoad 2 k.val (pc + 1)) :=
  good_one fun F L S D sl ns h => by
    obtain ⟨t, q, rfl⟩ := sLoad_inv h
    refine ⟨_, _, rfl, fun hF p e R s m args below meth c T locs cells slots hA X H target st => ?_⟩
    exact XS.aloadN X.here hA.1 rfl (hb hA.2.2.1 hd) (loc_at q) (rf_isRef _ _ _) st
/-! stores -/
def setL (L : List SL) (i : Nat) (x : SL) : Option (List SL) := bif Nat.blt i L.length then some (L.set i x) else none
def stSelf (L : List SL) (i : Nat) (x : SV) : Option (List SL) := match setL L i (some (some x)) with
  | none => none
  | some L => match cat x with
    | 2 => match L[i + 1]? with
      | none => none
      | some (some (some o)) => match cat o with
        | 2 => match setL L (i + 2) none with
          | none => none
          | some L => setL L (i + 1) (some none)
        | _ => setL L (i + 1) (some none)
      | some _ => setL L (i + 1) (some none)
    | _ => some L
def stL (L : List SL) (i : Nat) (x : SV) : Option (List SL) := match L[i]? with
  | none => none
  | some none => stSelf L i x
  | some (some none) => match setL L (i - 1) none with
    | none => none
    | some L => stSelf L i x
  | some (some (some o)) => match cat o with
    | 2 => match setL L (i + 1) none with
      | none => none
      | some L => stSelf L i x
    | _ => stSelf L i x
theorem setL_ok {L L' : List SL} {i : Nat} {x : SL} (h : setL L i x = some L') : setAt (L.map (sl1 A O hz.size)).toArray i (sl1 A O hz.size x) = some (L'.map (sl1 A O hz.size)).toArray := by
  unfold setL at h
  cases q : Nat.blt i L.length
  · rw [q] at h; cases h
  · rw [q] at h; cases h
    have hi : i < L.length := Nat.blt_eq.mp q
    simp [setAt, hi, List.map_set]
theorem stSelf_ok {L L' : List SL} {i : Nat} {x : SV} (h : stSelf L i x = some L') : storeSelf (L.map (sl1 A O hz.size)).toArray i (vv A O hz.size x) = some (L'.map (sl1 A O hz.size)).toArray := by
  unfold stSelf at h
  cases q : setL L i (some (some x)) with
  | none => rw [q] at h; cases h
  | some L1 =>
    rw [q] at h
    have e1 := setL_ok (A := A) (O := O) (hz := hz) q
    have e1' : setAt (L.map (sl1 A O hz.size)).toArray i (.val (vv A O hz.size x)) = some (L1.map (sl1 A O hz.size)).toArray := e1
    unfold storeSelf
    rw [e1', vv_cat]
    simp only [Option.bind_eq_bind, Option.bind_some]
    simp only at h
    split at h
    · rename_i hc
      rw [if_pos hc]
      have hg : (L1.map (sl1 A O hz.size)).toArray[i + 1]? = (L1[i + 1]?).map (sl1 A O hz.size) := by simp
      rw [hg]
      split at h
      · cases h
      · rename_i o hq
        rw [hq]
        simp only [Option.map_some, Option.bind_some, sl1, vv_cat]
        split at h
        · rename_i ho
          rw [if_pos ho]
          split at h
          · cases h
          · rename_i L2 hq2
            have e2 := setL_ok (A := A) (O := O) (hz := hz) hq2
            have e2' : setAt (L1.map (sl1 A O hz.size)).toArray (i + 2) .unset = some (L2.map (sl1 A O hz.size)).toArray := e2
            rw [e2']
            exact setL_ok (A := A) (O := O) (hz := hz) h
        · rename_i ho
          rw [if_neg ho]
          exact setL_ok (A := A) (O := O) (hz := hz) h
      · rename_i w hw hq
        rw [hq]
        simp only [Option.map_some, Option.bind_some]
        match w with
        | none => simp only [sl1]; exact setL_ok (A := A) (O := O) (hz := hz) h
        | some none => simp only [sl1]; exact setL_ok (A := A) (O := O) (hz := hz) h
        | some (some o) => exact absurd rfl (hw o)
    · rename_i hc
      rw [if_neg hc]; cases h; rfl
theorem stL_ok {L L' : List SL} {i : Nat} {x : SV} (h : stL L i x = some L') : storeLocals (L.map (sl1 A O hz.size)).toArray i (vv A O hz.size x) = some (L'.map (sl1 A O hz.size)).toArray := by
  have hg : (L.map (sl1 A O hz.size)).toArray[i]? = (L[i]?).map (sl1 A O hz.size) := by simp
  unfold stL at h
  unfold storeLocals
  rw [hg]
  split at h
  · cases h
  · rename_i q; rw [q]; simp only [Option.map_some, Option.bind_eq_bind, Option.bind_some, sl1]; exact stSelf_ok h
  · rename_i q; rw [q]; simp only [Option.map_some, Option.bind_eq_bind, Option.bind_some, sl1]
    split at h
    · cases h
    · rename_i L2 hq2
      have e2 := setL_ok (A := A) (O := O) (hz := hz) hq2
      have e2' : setAt (L.map (sl1 A O hz.size)).toArray (i - 1) .unset = some (L2.map (sl1 A O hz.size)).toArray := e2
      rw [e2']; exact stSelf_ok h
  · rename_i o q; rw [q]; simp only [Option.map_some, Option.bind_eq_bind, Option.bind_some, sl1, vv_cat]
    split at h
    · rename_i ho
      rw [if_pos ho]
      split at h
      · cases h
      · rename_i L2 hq2
        have e2 := setL_ok (A := A) (O := O) (hz := hz) hq2
        have e2' : setAt (L.map (sl1 A O hz.size)).toArray (i + 1) .unset = some (L2.map (sl1 A O hz.size)).toArray := e2
        rw [e2']; exact stSelf_ok h
    · rename_i ho
      rw [if_neg ho]; exact stSelf_ok h
def sStore (kd k nx : Nat) : Stp := fun F cf => match cf.2.1 with
  | x :: S => bif x.1 == kd then (match stL cf.1 k x with
    | some L => some [(F, nx, (L, S, cf.2.2))]
    | none => none) else none
  | [] => none
theorem sStore_inv {kd k nx : Nat} {F : List Cond} {L : List SL} {S : List SV} {D : List Ob} {sl : Nat} {ns : List Nx} (h : sStore kd k nx F (L, S, D, sl) = some ns) : ∃ t S' L', S = (kd, t) :: S' ∧ stL L k (kd, t) = some L' ∧ ns = [(F, nx, (L', S', D, sl))] := by
  simp only [sStore] at h
  split at h
  · rename_i x S'
    obtain ⟨k', t⟩ := x
    cases hk : (k' == kd)
    · rw [hk] at h; cases h
    · rw [hk] at h; obtain rfl := beq_iff_eq.mp hk
      simp only [cond_true] at h
      split at h
      · rename_i L' q; cases h; exact ⟨t, S', L', rfl, q, rfl⟩
      · cases h
  · cases h
theorem g_istore {pc k : Nat} (hd : decode bytes pc = .ok (.istore k, 2)) : Good l Z hz sh A O y bytes maxL ret pc (sStore 0 k (pc + 2)) :=
  good_one fun F L S D sl ns h => by
    obtain ⟨t, S', L', rfl, q, rfl⟩ := sStore_inv h
    refine ⟨_, _, rfl, fun hF p e R s m args below meth c T locs cells slots hA X H target st => ?_⟩
    exact XS.istore X.here hA.1 rfl (hb hA.2.2.1 hd) rfl (stL_ok q) st
theorem g_istoreN {pc : Nat} {k : Fin 4} (hd : decode bytes pc = .ok (.istore_n k, 1)) : Good l Z hz sh A O y bytes maxL ret pc (sStore 0 k.val (pc + 1)) :=
  good_one fun F L S D sl ns h => by
    obtain ⟨t, S', L', rfl, q, rfl⟩ := sStore_inv h
    refine ⟨_, _, rfl, fun hF p e R s m args below meth c T locs cells slots hA X H target st => ?_⟩
    exact XS.istoreN X.here hA.1 rfl (hb hA.2.2.1 hd) rfl (stL_ok q) st
theorem g_lstore {pc k : Nat} (hd : decode bytes pc = .ok (.lstore k, 2)) : Good l Z hz sh A O y bytes maxL ret pc (sStore 1 k (pc + 2)) :=
  good_one fun F L S D sl ns h => by
    obtain ⟨t, S', L', rfl, q, rfl⟩ := sStore_inv h
    refine ⟨_, _, rfl, fun hF p e R s m args below meth c T locs cells slots hA X H target st => ?_⟩
    exact XS.lstore X.here hA.1 rfl (hb hA.2.2.1 hd) rfl (stL_ok q) st
theorem g_lstoreN {pc : Nat} {k : Fin 4} (hd : decode bytes pc = .ok (.lstore_n k, 1)) : Good l Z hz sh A O y bytes maxL ret pc (sStore 1 k.val (pc + 1)) :=
  good_one fun F L S D sl ns h => by
    obtain ⟨t, S', L', rfl, q, rfl⟩ := sStore_inv h
    refine ⟨_, _, rfl, fun hF p e R s m args below meth c T locs cells slots hA X H target st => ?_⟩
    exact XS.lstoreN X.here hA.1 rfl (hb hA.2.2.1 hd) rfl (stL_ok q) st
theorem g_astore {pc k : Nat} (hd : decode bytes pc = .ok (.astore k, 2)) : Good l Z hz sh A O y bytes maxL ret pc (sStore 2 k (pc + 2)) :=
  good_one fun F L S D sl ns h => by
    obtain ⟨t, S', L', rfl, q, rfl⟩ := sStore_inv h
    refine ⟨_, _, rfl, fun hF p e R s m args below meth c T locs cells slots hA X H target st => ?_⟩
    exact XS.astore X.here hA.1 rfl (hb hA.2.2.1 hd) rfl (rf_isRef _ _ _) (stL_ok q) st
theorem g_astoreN {pc : Nat} {k : Fin 4} (hd : decode bytes pc = .ok (.astore_n k, 1)) : Good l Z hz sh A O y bytes maxL ret pc (sStore 2 k.val (pc + 1)) :=
  good_one fun F L S D sl ns h => by
    obtain ⟨t, S', L', rfl, q, rfl⟩ := sStore_inv h
    refine ⟨_, _, rfl, fun hF p e R s m args below meth c T locs cells slots hA X H target st => ?_⟩
    exact XS.astoreN X.here hA.1 rfl (hb hA.2.2.1 hd) rfl (rf_isRef _ _ _) (stL_ok q) st
/-! constants -/
def sPush (x : SV) (nx : Nat) : Stp := fun F cf => some [(F, nx, (cf.1, x :: cf.2.1, cf.2.2))]
theorem g_iconst {pc : Nat} {i : Int} {v : Int32} (hd : decode bytes pc = .ok (.iconst i, 1)) (hv : Int32.ofInt i = v) : Good l Z hz sh A O y bytes maxL ret pc (sPush (0, .int v) (pc + 1)) :=
  good_one fun F L S D sl ns h => by
    cases h
    refine ⟨_, _, rfl, fun hF p e R s m args below meth c T locs cells slots hA X H target st => ?_⟩
    subst hv; exact XS.iconst X.here hA.1 rfl (hb hA.2.2.1 hd) st
theorem g_bipush {pc : Nat} {i : Int} {v : Int32} (hd : decode bytes pc = .ok (.bipush i, 2)) (hv : (Int8.ofInt i).toInt32 = v) : Good l Z hz sh A O y bytes maxL ret pc (sPush (0, .int v) (pc + 2)) :=
  good_one fun F L S D sl ns h => by
    cases h
    refine ⟨_, _, rfl, fun hF p e R s m args below meth c T locs cells slots hA X H target st => ?_⟩
    subst hv; exact XS.bipush X.here hA.1 rfl (hb hA.2.2.1 hd) st
theorem g_sipush {pc : Nat} {i : Int} {v : Int32} (hd : decode bytes pc = .ok (.sipush i, 3)) (hv : (Int16.ofInt i).toInt32 = v) : Good l Z hz sh A O y bytes maxL ret pc (sPush (0, .int v) (pc + 3)) :=
  good_one fun F L S D sl ns h => by
    cases h
    refine ⟨_, _, rfl, fun hF p e R s m args below meth c T locs cells slots hA X H target st => ?_⟩
    subst hv; exact XS.sipush X.here hA.1 rfl (hb hA.2.2.1 hd) st
theorem g_lconst {pc : Nat} {k : Fin 2} {v : Int64} (hd : decode bytes pc = .ok (.lconst k, 1)) (hv : Int64.ofNat k = v) : Good l Z hz sh A O y bytes maxL ret pc (sPush (1, .long v) (pc + 1)) :=
  good_one fun F L S D sl ns h => by
    cases h
    refine ⟨_, _, rfl, fun hF p e R s m args below meth c T locs cells slots hA X H target st => ?_⟩
    subst hv; exact XS.lconst X.here hA.1 rfl (hb hA.2.2.1 hd) st
theorem g_null {pc : Nat} (hd : decode bytes pc = .ok (.aconst_null, 1)) : Good l Z hz sh A O y bytes maxL ret pc (sPush (2, .null) (pc + 1)) :=
  good_one fun F L S D sl ns h => by
    cases h
    refine ⟨_, _, rfl, fun hF p e R s m args below meth c T locs cells slots hA X H target st => ?_⟩
    exact XS.aconstNull X.here hA.1 rfl (hb hA.2.2.1 hd) st
theorem g_ldc {pc : Nat} {k : Nat} {v : Int32} {a0 : Array Value} (hd : decode bytes pc = .ok (.ldc k, 2)) (w : (Cond.constant y.cls k v).before a0 Z = true) : Good l Z hz sh A O y bytes maxL ret pc (sPush (0, .int v) (pc + 2)) :=
  good_one fun F L S D sl ns h => by
    cases h
    refine ⟨_, _, rfl, fun hF p e R s m args below meth c T locs cells slots hA X H target st => ?_⟩
    exact X.ldcInt hA.1 hA.2.2.2.2.1 (mvT hA.2.1 w) (g := frm hz A O m pc (L, S, D, sl)) rfl (hb hA.2.2.1 hd) _ st
theorem g_ldcw {pc : Nat} {k : Nat} {v : Int32} {a0 : Array Value} (hd : decode bytes pc = .ok (.ldc_w k, 3)) (w : (Cond.constant y.cls k v).before a0 Z = true) : Good l Z hz sh A O y bytes maxL ret pc (sPush (0, .int v) (pc + 3)) :=
  good_one fun F L S D sl ns h => by
    cases h
    refine ⟨_, _, rfl, fun hF p e R s m args below meth c T locs cells slots hA X H target st => ?_⟩
    exact X.ldcwInt hA.1 hA.2.2.2.2.1 (mvT hA.2.1 w) (g := frm hz A O m pc (L, S, D, sl)) rfl (hb hA.2.2.1 hd) _ st
theorem g_ldc2 {pc : Nat} {k : Nat} {v : Int64} {a0 : Array Value} (hd : decode bytes pc = .ok (.ldc2_w k, 3)) (w : (Cond.constantLong y.cls k v).before a0 Z = true) : Good l Z hz sh A O y bytes maxL ret pc (sPush (1, .long v) (pc + 3)) :=
  good_one fun F L S D sl ns h => by
    cases h
    refine ⟨_, _, rfl, fun hF p e R s m args below meth c T locs cells slots hA X H target st => ?_⟩
    exact X.ldc2Long hA.1 hA.2.2.2.2.1 (mvT hA.2.1 w) (g := frm hz A O m pc (L, S, D, sl)) rfl (hb hA.2.2.1 hd) _ st
def sStop : Stp := fun _ _ => none
theorem g_stop {pc : Nat} : Good l Z hz sh A O y bytes maxL ret pc sStop := fun _ _ _ h => by cases h
/-! operations -/
def jI (f : Term → Term → Term) (a b : Term) : Term := smI (f a b)
def jL (f : Term → Term → Term) (a b : Term) : Term := smL (f a b)
def sBin (k1 k2 k3 : Nat) (f : Term → Term → Term) (nx : Nat) : Stp := fun F cf => match cf.2.1 with
  | b :: a :: S => bif (a.1 == k1) && (b.1 == k2) then some [(F, nx, (cf.1, (k3, f a.2 b.2) :: S, cf.2.2))] else none
  | _ => none
theorem sBin_inv {k1 k2 k3 : Nat} {f : Term → Term → Term} {nx : Nat} {F : List Cond} {L : List SL} {S : List SV} {D : List Ob} {sl : Nat} {ns : List Nx} (h : sBin k1 k2 k3 f nx F (L, S, D, sl) = some ns) : ∃ a b S', S = (k2, b) :: (k1, a) :: S' ∧ ns = [(F, nx, (L, (k3, f a b) :: S', D, sl))] := by
  simp only [sBin] at h
  split at h
  · rename_i b a S'
    obtain ⟨kb, b⟩ := b
    obtain ⟨ka, a⟩ := a
    cases hk : ((ka == k1) && (kb == k2))
    · rw [hk] at h; cases h
    · rw [hk] at h
      simp only [Bool.and_eq_true, beq_iff_eq] at hk
      obtain ⟨rfl, rfl⟩ := hk
      cases h; exact ⟨a, b, S', rfl, rfl⟩
  · cases h
theorem g_iadd {pc : Nat} (hd : decode bytes pc = .ok (.iadd, 1)) : Good l Z hz sh A O y bytes maxL ret pc (sBin 0 0 0 (jI Term.add) (pc + 1)) :=
  good_one fun F L S D sl ns h => by
    obtain ⟨a, b, S', rfl, rfl⟩ := sBin_inv h
    refine ⟨_, _, rfl, fun hF p e_ R s m args below meth c T locs cells slots hA X H target st => ?_⟩
    have e : vv A O hz.size (0, jI Term.add a b) = .int ((te A a).1 + (te A b).1) := by show Value.int (te A (smI _)).1 = _; rw [te_smI]; rfl
    have st' : Steps p.tables e_ below (T.setTop (mkF m (pc + 1) (L.map (sl1 A O hz.size)).toArray (vv A O hz.size (0, jI Term.add a b) :: S'.map (vv A O hz.size)))) target := st
    rw [e] at st'
    exact XS.iadd X.here hA.1 rfl (hb hA.2.2.1 hd) rfl st'
theorem g_isub {pc : Nat} (hd : decode bytes pc = .ok (.isub, 1)) : Good l Z hz sh A O y bytes maxL ret pc (sBin 0 0 0 (jI Term.sub) (pc + 1)) :=
  good_one fun F L S D sl ns h => by
    obtain ⟨a, b, S', rfl, rfl⟩ := sBin_inv h
    refine ⟨_, _, rfl, fun hF p e_ R s m args below meth c T locs cells slots hA X H target st => ?_⟩
    have e : vv A O hz.size (0, jI Term.sub a b) = .int ((te A a).1 - (te A b).1) := by show Value.int (te A (smI _)).1 = _; rw [te_smI]; rfl
    have st' : Steps p.tables e_ below (T.setTop (mkF m (pc + 1) (L.map (sl1 A O hz.size)).toArray (vv A O hz.size (0, jI Term.sub a b) :: S'.map (vv A O hz.size)))) target := st
    rw [e] at st'
    exact XS.isub X.here hA.1 rfl (hb hA.2.2.1 hd) rfl st'
theorem g_imul {pc : Nat} (hd : decode bytes pc = .ok (.imul, 1)) : Good l Z hz sh A O y bytes maxL ret pc (sBin 0 0 0 (jI Term.mul) (pc + 1)) :=
  good_one fun F L S D sl ns h => by
    obtain ⟨a, b, S', rfl, rfl⟩ := sBin_inv h
    refine ⟨_, _, rfl, fun hF p e_ R s m args below meth c T locs cells slots hA X H target st => ?_⟩
    have e : vv A O hz.size (0, jI Term.mul a b) = .int ((te A a).1 * (te A b).1) := by show Value.int (te A (smI _)).1 = _; rw [te_smI]; rfl
    have st' : Steps p.tables e_ below (T.setTop (mkF m (pc + 1) (L.map (sl1 A O hz.size)).toArray (vv A O hz.size (0, jI Term.mul a b) :: S'.map (vv A O hz.size)))) target := st
    rw [e] at st'
    exact XS.imul X.here hA.1 rfl (hb hA.2.2.1 hd) rfl st'
theorem g_iand {pc : Nat} (hd : decode bytes pc = .ok (.iand, 1)) : Good l Z hz sh A O y bytes maxL ret pc (sBin 0 0 0 (jI (Term.op2 .iand)) (pc + 1)) :=
  good_one fun F L S D sl ns h => by
    obtain ⟨a, b, S', rfl, rfl⟩ := sBin_inv h
    refine ⟨_, _, rfl, fun hF p e_ R s m args below meth c T locs cells slots hA X H target st => ?_⟩
    have e : vv A O hz.size (0, jI (Term.op2 .iand) a b) = .int ((te A a).1 &&& (te A b).1) := by show Value.int (te A (smI _)).1 = _; rw [te_smI]; rfl
    have st' : Steps p.tables e_ below (T.setTop (mkF m (pc + 1) (L.map (sl1 A O hz.size)).toArray (vv A O hz.size (0, jI (Term.op2 .iand) a b) :: S'.map (vv A O hz.size)))) target := st
    rw [e] at st'
    exact XS.iand X.here hA.1 rfl (hb hA.2.2.1 hd) rfl st'
theorem g_ior {pc : Nat} (hd : decode bytes pc = .ok (.ior, 1)) : Good l Z hz sh A O y bytes maxL ret pc (sBin 0 0 0 (jI (Term.op2 .ior)) (pc + 1)) :=
  good_one fun F L S D sl ns h => by
    obtain ⟨a, b, S', rfl, rfl⟩ := sBin_inv h
    refine ⟨_, _, rfl, fun hF p e_ R s m args below meth c T locs cells slots hA X H target st => ?_⟩
    have e : vv A O hz.size (0, jI (Term.op2 .ior) a b) = .int ((te A a).1 ||| (te A b).1) := by show Value.int (te A (smI _)).1 = _; rw [te_smI]; rfl
    have st' : Steps p.tables e_ below (T.setTop (mkF m (pc + 1) (L.map (sl1 A O hz.size)).toArray (vv A O hz.size (0, jI (Term.op2 .ior) a b) :: S'.map (vv A O hz.size)))) target := st
    rw [e] at st'
    exact XS.ior X.here hA.1 rfl (hb hA.2.2.1 hd) rfl st'
theorem g_ixor {pc : Nat} (hd : decode bytes pc = .ok (.ixor, 1)) : Good l Z hz sh A O y bytes maxL ret pc (sBin 0 0 0 (jI (Term.op2 .ixor)) (pc + 1)) :=
  good_one fun F L S D sl ns h => by
    obtain ⟨a, b, S', rfl, rfl⟩ := sBin_inv h
    refine ⟨_, _, rfl, fun hF p e_ R s m args below meth c T locs cells slots hA X H target st => ?_⟩
    have e : vv A O hz.size (0, jI (Term.op2 .ixor) a b) = .int ((te A a).1 ^^^ (te A b).1) := by show Value.int (te A (smI _)).1 = _; rw [te_smI]; rfl
    have st' : Steps p.tables e_ below (T.setTop (mkF m (pc + 1) (L.map (sl1 A O hz.size)).toArray (vv A O hz.size (0, jI (Term.op2 .ixor) a b) :: S'.map (vv A O hz.size)))) target := st
    rw [e] at st'
    exact XS.ixor X.here hA.1 rfl (hb hA.2.2.1 hd) rfl st'
theorem g_ishl {pc : Nat} (hd : decode bytes pc = .ok (.ishl, 1)) : Good l Z hz sh A O y bytes maxL ret pc (sBin 0 0 0 (jI (Term.op2 .ishl)) (pc + 1)) :=
  good_one fun F L S D sl ns h => by
    obtain ⟨a, b, S', rfl, rfl⟩ := sBin_inv h
    refine ⟨_, _, rfl, fun hF p e_ R s m args below meth c T locs cells slots hA X H target st => ?_⟩
    have e : vv A O hz.size (0, jI (Term.op2 .ishl) a b) = .int ((te A a).1 <<< ((te A b).1 &&& 31)) := by show Value.int (te A (smI _)).1 = _; rw [te_smI]; rfl
    have st' : Steps p.tables e_ below (T.setTop (mkF m (pc + 1) (L.map (sl1 A O hz.size)).toArray (vv A O hz.size (0, jI (Term.op2 .ishl) a b) :: S'.map (vv A O hz.size)))) target := st
    rw [e] at st'
    exact XS.ishl X.here hA.1 rfl (hb hA.2.2.1 hd) rfl st'
theorem g_ishr {pc : Nat} (hd : decode bytes pc = .ok (.ishr, 1)) : Good l Z hz sh A O y bytes maxL ret pc (sBin 0 0 0 (jI (Term.op2 .ishr)) (pc + 1)) :=
  good_one fun F L S D sl ns h => by
    obtain ⟨a, b, S', rfl, rfl⟩ := sBin_inv h
    refine ⟨_, _, rfl, fun hF p e_ R s m args below meth c T locs cells slots hA X H target st => ?_⟩
    have e : vv A O hz.size (0, jI (Term.op2 .ishr) a b) = .int ((te A a).1 >>> ((te A b).1 &&& 31)) := by show Value.int (te A (smI _)).1 = _; rw [te_smI]; rfl
    have st' : Steps p.tables e_ below (T.setTop (mkF m (pc + 1) (L.map (sl1 A O hz.size)).toArray (vv A O hz.size (0, jI (Term.op2 .ishr) a b) :: S'.map (vv A O hz.size)))) target := st
    rw [e] at st'
    exact XS.ishr X.here hA.1 rfl (hb hA.2.2.1 hd) rfl st'
theorem g_iushr {pc : Nat} (hd : decode bytes pc = .ok (.iushr, 1)) : Good l Z hz sh A O y bytes maxL ret pc (sBin 0 0 0 (jI (Term.op2 .iushr)) (pc + 1)) :=
  good_one fun F L S D sl ns h => by
    obtain ⟨a, b, S', rfl, rfl⟩ := sBin_inv h
    refine ⟨_, _, rfl, fun hF p e_ R s m args below meth c T locs cells slots hA X H target st => ?_⟩
    have e : vv A O hz.size (0, jI (Term.op2 .iushr) a b) = .int (((te A a).1.toUInt32 >>> ((te A b).1 &&& 31).toUInt32).toInt32) := by show Value.int (te A (smI _)).1 = _; rw [te_smI]; rfl
    have st' : Steps p.tables e_ below (T.setTop (mkF m (pc + 1) (L.map (sl1 A O hz.size)).toArray (vv A O hz.size (0, jI (Term.op2 .iushr) a b) :: S'.map (vv A O hz.size)))) target := st
    rw [e] at st'
    exact XS.iushr X.here hA.1 rfl (hb hA.2.2.1 hd) rfl st'
theorem g_ladd {pc : Nat} (hd : decode bytes pc = .ok (.ladd, 1)) : Good l Z hz sh A O y bytes maxL ret pc (sBin 1 1 1 (jL (Term.op2 .ladd)) (pc + 1)) :=
  good_one fun F L S D sl ns h => by
    obtain ⟨a, b, S', rfl, rfl⟩ := sBin_inv h
    refine ⟨_, _, rfl, fun hF p e_ R s m args below meth c T locs cells slots hA X H target st => ?_⟩
    have e : vv A O hz.size (1, jL (Term.op2 .ladd) a b) = .long ((te A a).2 + (te A b).2) := by show Value.long (te A (smL _)).2 = _; rw [te_smL]; rfl
    have st' : Steps p.tables e_ below (T.setTop (mkF m (pc + 1) (L.map (sl1 A O hz.size)).toArray (vv A O hz.size (1, jL (Term.op2 .ladd) a b) :: S'.map (vv A O hz.size)))) target := st
    rw [e] at st'
    exact XS.ladd X.here hA.1 rfl (hb hA.2.2.1 hd) rfl st'
theorem g_lsub {pc : Nat} (hd : decode bytes pc = .ok (.lsub, 1)) : Good l Z hz sh A O y bytes maxL ret pc (sBin 1 1 1 (jL (Term.op2 .lsub)) (pc + 1)) :=
  good_one fun F L S D sl ns h => by
    obtain ⟨a, b, S', rfl, rfl⟩ := sBin_inv h
    refine ⟨_, _, rfl, fun hF p e_ R s m args below meth c T locs cells slots hA X H target st => ?_⟩
    have e : vv A O hz.size (1, jL (Term.op2 .lsub) a b) = .long ((te A a).2 - (te A b).2) := by show Value.long (te A (smL _)).2 = _; rw [te_smL]; rfl
    have st' : Steps p.tables e_ below (T.setTop (mkF m (pc + 1) (L.map (sl1 A O hz.size)).toArray (vv A O hz.size (1, jL (Term.op2 .lsub) a b) :: S'.map (vv A O hz.size)))) target := st
    rw [e] at st'
    exact XS.lsub X.here hA.1 rfl (hb hA.2.2.1 hd) rfl st'
theorem g_lmul {pc : Nat} (hd : decode bytes pc = .ok (.lmul, 1)) : Good l Z hz sh A O y bytes maxL ret pc (sBin 1 1 1 (jL (Term.op2 .lmul)) (pc + 1)) :=
  good_one fun F L S D sl ns h => by
    obtain ⟨a, b, S', rfl, rfl⟩ := sBin_inv h
    refine ⟨_, _, rfl, fun hF p e_ R s m args below meth c T locs cells slots hA X H target st => ?_⟩
    have e : vv A O hz.size (1, jL (Term.op2 .lmul) a b) = .long ((te A a).2 * (te A b).2) := by show Value.long (te A (smL _)).2 = _; rw [te_smL]; rfl
    have st' : Steps p.tables e_ below (T.setTop (mkF m (pc + 1) (L.map (sl1 A O hz.size)).toArray (vv A O hz.size (1, jL (Term.op2 .lmul) a b) :: S'.map (vv A O hz.size)))) target := st
    rw [e] at st'
    exact XS.lmul X.here hA.1 rfl (hb hA.2.2.1 hd) rfl st'
theorem g_land {pc : Nat} (hd : decode bytes pc = .ok (.land, 1)) : Good l Z hz sh A O y bytes maxL ret pc (sBin 1 1 1 (jL (Term.op2 .land)) (pc + 1)) :=
  good_one fun F L S D sl ns h => by
    obtain ⟨a, b, S', rfl, rfl⟩ := sBin_inv h
    refine ⟨_, _, rfl, fun hF p e_ R s m args below meth c T locs cells slots hA X H target st => ?_⟩
    have e : vv A O hz.size (1, jL (Term.op2 .land) a b) = .long ((te A a).2 &&& (te A b).2) := by show Value.long (te A (smL _)).2 = _; rw [te_smL]; rfl
    have st' : Steps p.tables e_ below (T.setTop (mkF m (pc + 1) (L.map (sl1 A O hz.size)).toArray (vv A O hz.size (1, jL (Term.op2 .land) a b) :: S'.map (vv A O hz.size)))) target := st
    rw [e] at st'
    exact XS.land X.here hA.1 rfl (hb hA.2.2.1 hd) rfl st'
theorem g_lor {pc : Nat} (hd : decode bytes pc = .ok (.lor, 1)) : Good l Z hz sh A O y bytes maxL ret pc (sBin 1 1 1 (jL (Term.op2 .lor)) (pc + 1)) :=
  good_one fun F L S D sl ns h => by
    obtain ⟨a, b, S', rfl, rfl⟩ := sBin_inv h
    refine ⟨_, _, rfl, fun hF p e_ R s m args below meth c T locs cells slots hA X H target st => ?_⟩
    have e : vv A O hz.size (1, jL (Term.op2 .lor) a b) = .long ((te A a).2 ||| (te A b).2) := by show Value.long (te A (smL _)).2 = _; rw [te_smL]; rfl
    have st' : Steps p.tables e_ below (T.setTop (mkF m (pc + 1) (L.map (sl1 A O hz.size)).toArray (vv A O hz.size (1, jL (Term.op2 .lor) a b) :: S'.map (vv A O hz.size)))) target := st
    rw [e] at st'
    exact XS.lor X.here hA.1 rfl (hb hA.2.2.1 hd) rfl st'
theorem g_lxor {pc : Nat} (hd : decode bytes pc = .ok (.lxor, 1)) : Good l Z hz sh A O y bytes maxL ret pc (sBin 1 1 1 (jL (Term.op2 .lxor)) (pc + 1)) :=
  good_one fun F L S D sl ns h => by
    obtain ⟨a, b, S', rfl, rfl⟩ := sBin_inv h
    refine ⟨_, _, rfl, fun hF p e_ R s m args below meth c T locs cells slots hA X H target st => ?_⟩
    have e : vv A O hz.size (1, jL (Term.op2 .lxor) a b) = .long ((te A a).2 ^^^ (te A b).2) := by show Value.long (te A (smL _)).2 = _; rw [te_smL]; rfl
    have st' : Steps p.tables e_ below (T.setTop (mkF m (pc + 1) (L.map (sl1 A O hz.size)).toArray (vv A O hz.size (1, jL (Term.op2 .lxor) a b) :: S'.map (vv A O hz.size)))) target := st
    rw [e] at st'
    exact XS.lxor X.here hA.1 rfl (hb hA.2.2.1 hd) rfl st'
theorem g_lshl {pc : Nat} (hd : decode bytes pc = .ok (.lshl, 1)) : Good l Z hz sh A O y bytes maxL ret pc (sBin 1 0 1 (jL (Term.op2 .lshl)) (pc + 1)) :=
  good_one fun F L S D sl ns h => by
    obtain ⟨a, b, S', rfl, rfl⟩ := sBin_inv h
    refine ⟨_, _, rfl, fun hF p e_ R s m args below meth c T locs cells slots hA X H target st => ?_⟩
    have e : vv A O hz.size (1, jL (Term.op2 .lshl) a b) = .long ((te A a).2 <<< ((te A b).1 &&& 0x3f).toInt64) := by show Value.long (te A (smL _)).2 = _; rw [te_smL]; rfl
    have st' : Steps p.tables e_ below (T.setTop (mkF m (pc + 1) (L.map (sl1 A O hz.size)).toArray (vv A O hz.size (1, jL (Term.op2 .lshl) a b) :: S'.map (vv A O hz.size)))) target := st
    rw [e] at st'
    exact XS.lshl X.here hA.1 rfl (hb hA.2.2.1 hd) rfl st'
theorem g_lshr {pc : Nat} (hd : decode bytes pc = .ok (.lshr, 1)) : Good l Z hz sh A O y bytes maxL ret pc (sBin 1 0 1 (jL (Term.op2 .lshr)) (pc + 1)) :=
  good_one fun F L S D sl ns h => by
    obtain ⟨a, b, S', rfl, rfl⟩ := sBin_inv h
    refine ⟨_, _, rfl, fun hF p e_ R s m args below meth c T locs cells slots hA X H target st => ?_⟩
    have e : vv A O hz.size (1, jL (Term.op2 .lshr) a b) = .long ((te A a).2 >>> ((te A b).1 &&& 0x3f).toInt64) := by show Value.long (te A (smL _)).2 = _; rw [te_smL]; rfl
    have st' : Steps p.tables e_ below (T.setTop (mkF m (pc + 1) (L.map (sl1 A O hz.size)).toArray (vv A O hz.size (1, jL (Term.op2 .lshr) a b) :: S'.map (vv A O hz.size)))) target := st
    rw [e] at st'
    exact XS.lshr X.here hA.1 rfl (hb hA.2.2.1 hd) rfl st'
theorem g_lushr {pc : Nat} (hd : decode bytes pc = .ok (.lushr, 1)) : Good l Z hz sh A O y bytes maxL ret pc (sBin 1 0 1 (jL (Term.op2 .lushr)) (pc + 1)) :=
  good_one fun F L S D sl ns h => by
    obtain ⟨a, b, S', rfl, rfl⟩ := sBin_inv h
    refine ⟨_, _, rfl, fun hF p e_ R s m args below meth c T locs cells slots hA X H target st => ?_⟩
    have e : vv A O hz.size (1, jL (Term.op2 .lushr) a b) = .long (((te A a).2.toUInt64 >>> ((te A b).1 &&& 0x3f).toInt64.toUInt64).toInt64) := by show Value.long (te A (smL _)).2 = _; rw [te_smL]; rfl
    have st' : Steps p.tables e_ below (T.setTop (mkF m (pc + 1) (L.map (sl1 A O hz.size)).toArray (vv A O hz.size (1, jL (Term.op2 .lushr) a b) :: S'.map (vv A O hz.size)))) target := st
    rw [e] at st'
    exact XS.lushr X.here hA.1 rfl (hb hA.2.2.1 hd) rfl st'
theorem g_lcmp {pc : Nat} (hd : decode bytes pc = .ok (.lcmp, 1)) : Good l Z hz sh A O y bytes maxL ret pc (sBin 1 1 0 (jI (Term.op2 .lcmp)) (pc + 1)) :=
  good_one fun F L S D sl ns h => by
    obtain ⟨a, b, S', rfl, rfl⟩ := sBin_inv h
    refine ⟨_, _, rfl, fun hF p e_ R s m args below meth c T locs cells slots hA X H target st => ?_⟩
    have e : vv A O hz.size (0, jI (Term.op2 .lcmp) a b) = .int (lcmpW (te A a).2 (te A b).2) := by show Value.int (te A (smI _)).1 = _; rw [te_smI]; rfl
    have st' : Steps p.tables e_ below (T.setTop (mkF m (pc + 1) (L.map (sl1 A O hz.size)).toArray (vv A O hz.size (0, jI (Term.op2 .lcmp) a b) :: S'.map (vv A O hz.size)))) target := st
    rw [e] at st'
    exact XS.lcmp X.here hA.1 rfl (hb hA.2.2.1 hd) rfl st'
def uI (f : Term → Term) (a : Term) : Term := smI (f a)
def uL (f : Term → Term) (a : Term) : Term := smL (f a)
def sUn (k1 k3 : Nat) (f : Term → Term) (nx : Nat) : Stp := fun F cf => match cf.2.1 with
  | a :: S => bif a.1 == k1 then some [(F, nx, (cf.1, (k3, f a.2) :: S, cf.2.2))] else none
  | _ => none
theorem sUn_inv {k1 k3 : Nat} {f : Term → Term} {nx : Nat} {F : List Cond} {L : List SL} {S : List SV} {D : List Ob} {sl : Nat} {ns : List Nx} (h : sUn k1 k3 f nx F (L, S, D, sl) = some ns) : ∃ a S', S = (k1, a) :: S' ∧ ns = [(F, nx, (L, (k3, f a) :: S', D, sl))] := by
  simp only [sUn] at h
  split at h
  · rename_i a S'
    obtain ⟨ka, a⟩ := a
    cases hk : (ka == k1)
    · rw [hk] at h; cases h
    · rw [hk] at h; obtain rfl := beq_iff_eq.mp hk
      cases h; exact ⟨a, S', rfl, rfl⟩
  · cases h
theorem g_ineg {pc : Nat} (hd : decode bytes pc = .ok (.ineg, 1)) : Good l Z hz sh A O y bytes maxL ret pc (sUn 0 0 (uI (Term.op1 .ineg)) (pc + 1)) :=
  good_one fun F L S D sl ns h => by
    obtain ⟨a, S', rfl, rfl⟩ := sUn_inv h
    refine ⟨_, _, rfl, fun hF p e_ R s m args below meth c T locs cells slots hA X H target st => ?_⟩
    have e : vv A O hz.size (0, uI (Term.op1 .ineg) a) = .int (-(te A a).1) := by show Value.int (te A (smI _)).1 = _; rw [te_smI]; rfl
    have st' : Steps p.tables e_ below (T.setTop (mkF m (pc + 1) (L.map (sl1 A O hz.size)).toArray (vv A O hz.size (0, uI (Term.op1 .ineg) a) :: S'.map (vv A O hz.size)))) target := st
    rw [e] at st'
    exact XS.ineg X.here hA.1 rfl (hb hA.2.2.1 hd) rfl st'
theorem g_lneg {pc : Nat} (hd : decode bytes pc = .ok (.lneg, 1)) : Good l Z hz sh A O y bytes maxL ret pc (sUn 1 1 (uL (Term.op1 .lneg)) (pc + 1)) :=
  good_one fun F L S D sl ns h => by
    obtain ⟨a, S', rfl, rfl⟩ := sUn_inv h
    refine ⟨_, _, rfl, fun hF p e_ R s m args below meth c T locs cells slots hA X H target st => ?_⟩
    have e : vv A O hz.size (1, uL (Term.op1 .lneg) a) = .long (-(te A a).2) := by show Value.long (te A (smL _)).2 = _; rw [te_smL]; rfl
    have st' : Steps p.tables e_ below (T.setTop (mkF m (pc + 1) (L.map (sl1 A O hz.size)).toArray (vv A O hz.size (1, uL (Term.op1 .lneg) a) :: S'.map (vv A O hz.size)))) target := st
    rw [e] at st'
    exact XS.lneg X.here hA.1 rfl (hb hA.2.2.1 hd) rfl st'
theorem g_i2l {pc : Nat} (hd : decode bytes pc = .ok (.i2l, 1)) : Good l Z hz sh A O y bytes maxL ret pc (sUn 0 1 (uL (Term.op1 .i2l)) (pc + 1)) :=
  good_one fun F L S D sl ns h => by
    obtain ⟨a, S', rfl, rfl⟩ := sUn_inv h
    refine ⟨_, _, rfl, fun hF p e_ R s m args below meth c T locs cells slots hA X H target st => ?_⟩
    have e : vv A O hz.size (1, uL (Term.op1 .i2l) a) = .long ((te A a).1.toInt64) := by show Value.long (te A (smL _)).2 = _; rw [te_smL]; rfl
    have st' : Steps p.tables e_ below (T.setTop (mkF m (pc + 1) (L.map (sl1 A O hz.size)).toArray (vv A O hz.size (1, uL (Term.op1 .i2l) a) :: S'.map (vv A O hz.size)))) target := st
    rw [e] at st'
    exact XS.i2l X.here hA.1 rfl (hb hA.2.2.1 hd) rfl st'
theorem g_l2i {pc : Nat} (hd : decode bytes pc = .ok (.l2i, 1)) : Good l Z hz sh A O y bytes maxL ret pc (sUn 1 0 (uI (Term.op1 .l2i)) (pc + 1)) :=
  good_one fun F L S D sl ns h => by
    obtain ⟨a, S', rfl, rfl⟩ := sUn_inv h
    refine ⟨_, _, rfl, fun hF p e_ R s m args below meth c T locs cells slots hA X H target st => ?_⟩
    have e : vv A O hz.size (0, uI (Term.op1 .l2i) a) = .int ((te A a).2.toInt32) := by show Value.int (te A (smI _)).1 = _; rw [te_smI]; rfl
    have st' : Steps p.tables e_ below (T.setTop (mkF m (pc + 1) (L.map (sl1 A O hz.size)).toArray (vv A O hz.size (0, uI (Term.op1 .l2i) a) :: S'.map (vv A O hz.size)))) target := st
    rw [e] at st'
    exact XS.l2i X.here hA.1 rfl (hb hA.2.2.1 hd) rfl st'
theorem g_i2b {pc : Nat} (hd : decode bytes pc = .ok (.i2b, 1)) : Good l Z hz sh A O y bytes maxL ret pc (sUn 0 0 (uI (Term.op1 .i2b)) (pc + 1)) :=
  good_one fun F L S D sl ns h => by
    obtain ⟨a, S', rfl, rfl⟩ := sUn_inv h
    refine ⟨_, _, rfl, fun hF p e_ R s m args below meth c T locs cells slots hA X H target st => ?_⟩
    have e : vv A O hz.size (0, uI (Term.op1 .i2b) a) = .int ((te A a).1.toInt8.toInt32) := by show Value.int (te A (smI _)).1 = _; rw [te_smI]; rfl
    have st' : Steps p.tables e_ below (T.setTop (mkF m (pc + 1) (L.map (sl1 A O hz.size)).toArray (vv A O hz.size (0, uI (Term.op1 .i2b) a) :: S'.map (vv A O hz.size)))) target := st
    rw [e] at st'
    exact XS.i2b X.here hA.1 rfl (hb hA.2.2.1 hd) rfl st'
theorem g_i2c {pc : Nat} (hd : decode bytes pc = .ok (.i2c, 1)) : Good l Z hz sh A O y bytes maxL ret pc (sUn 0 0 (uI (Term.op1 .i2c)) (pc + 1)) :=
  good_one fun F L S D sl ns h => by
    obtain ⟨a, S', rfl, rfl⟩ := sUn_inv h
    refine ⟨_, _, rfl, fun hF p e_ R s m args below meth c T locs cells slots hA X H target st => ?_⟩
    have e : vv A O hz.size (0, uI (Term.op1 .i2c) a) = .int ((te A a).1.toUInt32.toUInt16.toUInt32.toInt32) := by show Value.int (te A (smI _)).1 = _; rw [te_smI]; rfl
    have st' : Steps p.tables e_ below (T.setTop (mkF m (pc + 1) (L.map (sl1 A O hz.size)).toArray (vv A O hz.size (0, uI (Term.op1 .i2c) a) :: S'.map (vv A O hz.size)))) target := st
    rw [e] at st'
    exact XS.i2c X.here hA.1 rfl (hb hA.2.2.1 hd) rfl st'
theorem g_i2s {pc : Nat} (hd : decode bytes pc = .ok (.i2s, 1)) : Good l Z hz sh A O y bytes maxL ret pc (sUn 0 0 (uI (Term.op1 .i2s)) (pc + 1)) :=
  good_one fun F L S D sl ns h => by
    obtain ⟨a, S', rfl, rfl⟩ := sUn_inv h
    refine ⟨_, _, rfl, fun hF p e_ R s m args below meth c T locs cells slots hA X H target st => ?_⟩
    have e : vv A O hz.size (0, uI (Term.op1 .i2s) a) = .int ((te A a).1.toInt16.toInt32) := by show Value.int (te A (smI _)).1 = _; rw [te_smI]; rfl
    have st' : Steps p.tables e_ below (T.setTop (mkF m (pc + 1) (L.map (sl1 A O hz.size)).toArray (vv A O hz.size (0, uI (Term.op1 .i2s) a) :: S'.map (vv A O hz.size)))) target := st
    rw [e] at st'
    exact XS.i2s X.here hA.1 rfl (hb hA.2.2.1 hd) rfl st'
def s_irem (nx : Nat) : Stp := fun F cf => match cf.2.1 with
  | b :: a :: S => bif (a.1 == 0) && (b.1 == 0) then (match cv F b.2 with
    | some v => bif v == 0 then none else some [(F, nx, (cf.1, (0, jI Term.rem a.2 (.int v)) :: S, cf.2.2))]
    | none => none) else none
  | _ => none
theorem g_irem {pc : Nat} (hd : decode bytes pc = .ok (.irem, 1)) : Good l Z hz sh A O y bytes maxL ret pc (s_irem (pc + 1)) :=
  good_one fun F L S D sl ns h => by
    simp only [s_irem] at h
    split at h
    · rename_i b a S'
      obtain ⟨kb, b⟩ := b
      obtain ⟨ka, a⟩ := a
      cases hk : ((ka == 0) && (kb == 0))
      · rw [hk] at h; cases h
      · rw [hk] at h
        simp only [Bool.and_eq_true, beq_iff_eq] at hk
        obtain ⟨rfl, rfl⟩ := hk
        simp only [cond_true] at h
        split at h
        · rename_i v q
          cases hv : (v == 0)
          · rw [hv] at h; cases h
            refine ⟨_, _, rfl, fun hF p e_ R s m args below meth c T locs cells slots hA X H target st => ?_⟩
            have hb0 := cv_ok hF q
            have e : vv A O hz.size (0, jI Term.rem a (.int v)) = .int ((te A a).1 % (te A b).1) := by show Value.int (te A (smI _)).1 = _; rw [te_smI, hb0]; rfl
            have st' : Steps p.tables e_ below (T.setTop (mkF m (pc + 1) (L.map (sl1 A O hz.size)).toArray (vv A O hz.size (0, jI Term.rem a (.int v)) :: S'.map (vv A O hz.size)))) target := st
            rw [e] at st'
            exact iremM X hA.1 rfl (hb hA.2.2.1 hd) rfl (by rw [hb0]; simpa using hv) st'
          · rw [hv] at h; cases h
        · cases h
    · cases h
def s_idiv (nx : Nat) : Stp := fun F cf => match cf.2.1 with
  | b :: a :: S => bif (a.1 == 0) && (b.1 == 0) then (match cv F b.2 with
    | some v => bif v == 0 then none else some [(F, nx, (cf.1, (0, jI Term.div a.2 (.int v)) :: S, cf.2.2))]
    | none => none) else none
  | _ => none
theorem g_idiv {pc : Nat} (hd : decode bytes pc = .ok (.idiv, 1)) : Good l Z hz sh A O y bytes maxL ret pc (s_idiv (pc + 1)) :=
  good_one fun F L S D sl ns h => by
    simp only [s_idiv] at h
    split at h
    · rename_i b a S'
      obtain ⟨kb, b⟩ := b
      obtain ⟨ka, a⟩ := a
      cases hk : ((ka == 0) && (kb == 0))
      · rw [hk] at h; cases h
      · rw [hk] at h
        simp only [Bool.and_eq_true, beq_iff_eq] at hk
        obtain ⟨rfl, rfl⟩ := hk
        simp only [cond_true] at h
        split at h
        · rename_i v q
          cases hv : (v == 0)
          · rw [hv] at h; cases h
            refine ⟨_, _, rfl, fun hF p e_ R s m args below meth c T locs cells slots hA X H target st => ?_⟩
            have hb0 := cv_ok hF q
            have e : vv A O hz.size (0, jI Term.div a (.int v)) = .int ((te A a).1 / (te A b).1) := by show Value.int (te A (smI _)).1 = _; rw [te_smI, hb0]; rfl
            have st' : Steps p.tables e_ below (T.setTop (mkF m (pc + 1) (L.map (sl1 A O hz.size)).toArray (vv A O hz.size (0, jI Term.div a (.int v)) :: S'.map (vv A O hz.size)))) target := st
            rw [e] at st'
            exact XS.idiv X.here hA.1 rfl (hb hA.2.2.1 hd) rfl (by rw [hb0]; simpa using hv) st'
          · rw [hv] at h; cases h
        · cases h
    · cases h
def sIinc (k : Nat) (c : Int32) (nx : Nat) : Stp := fun F cf => match cf.1[k]? with
  | some (some (some x)) => bif x.1 == 0 then (match stL cf.1 k (0, jI Term.add x.2 (.int c)) with
    | some L => some [(F, nx, (L, cf.2))]
    | none => none) else none
  | _ => none
theorem g_iinc {pc k : Nat} {i : Int} {v : Int32} (hd : decode bytes pc = .ok (.iinc k i, 3)) (hv : Int32.ofInt i = v) : Good l Z hz sh A O y bytes maxL ret pc (sIinc k v (pc + 3)) :=
  good_one fun F L S D sl ns h => by
    simp only [sIinc] at h
    split at h
    · rename_i x q
      obtain ⟨kx, t⟩ := x
      cases hk : (kx == 0)
      · rw [hk] at h; cases h
      · rw [hk] at h; obtain rfl := beq_iff_eq.mp hk
        simp only [cond_true] at h
        split at h
        · rename_i L' q2
          cases h
          refine ⟨_, _, rfl, fun hF p e R s m args below meth c T locs cells slots hA X H target st => ?_⟩
          subst hv
          have k1 := stL_ok (A := A) (O := O) (hz := hz) q2
          have e1 : vv A O hz.size (0, jI Term.add t (.int (Int32.ofInt i))) = .int ((te A t).1 + Int32.ofInt i) := by show Value.int (te A (smI _)).1 = _; rw [te_smI]; rfl
          rw [e1] at k1
          exact XS.iinc X.here hA.1 rfl (hb hA.2.2.1 hd) (loc_at q) k1 st
        · cases h
    · cases h
/-! the stack -/
def sDup (nx : Nat) : Stp := fun F cf => match cf.2.1 with
  | x :: S => bif cat x == 1 then some [(F, nx, (cf.1, x :: x :: S, cf.2.2))] else none
  | _ => none
theorem g_dup {pc : Nat} (hd : decode bytes pc = .ok (.dup, 1)) : Good l Z hz sh A O y bytes maxL ret pc (sDup (pc + 1)) :=
  good_one fun F L S D sl ns h => by
    simp only [sDup] at h
    split at h
    · rename_i x S'
      cases hk : (cat x == 1)
      · rw [hk] at h; cases h
      · rw [hk] at h; cases h
        refine ⟨_, _, rfl, fun hF p e R s m args below meth c T locs cells slots hA X H target st => ?_⟩
        exact XS.dup X.here hA.1 rfl (hb hA.2.2.1 hd) rfl (by rw [vv_cat]; exact beq_iff_eq.mp hk) st
    · cases h
def sPop (nx : Nat) : Stp := fun F cf => match cf.2.1 with
  | x :: S => bif cat x == 1 then some [(F, nx, (cf.1, S, cf.2.2))] else none
  | _ => none
theorem g_pop {pc : Nat} (hd : decode bytes pc = .ok (.pop, 1)) : Good l Z hz sh A O y bytes maxL ret pc (sPop (pc + 1)) :=
  good_one fun F L S D sl ns h => by
    simp only [sPop] at h
    split at h
    · rename_i x S'
      cases hk : (cat x == 1)
      · rw [hk] at h; cases h
      · rw [hk] at h; cases h
        refine ⟨_, _, rfl, fun hF p e R s m args below meth c T locs cells slots hA X H target st => ?_⟩
        exact XS.pop X.here hA.1 rfl (hb hA.2.2.1 hd) rfl (by rw [vv_cat]; exact beq_iff_eq.mp hk) st
    · cases h
def sDupX1 (nx : Nat) : Stp := fun F cf => match cf.2.1 with
  | x :: z :: S => bif (cat x == 1) && (cat z == 1) then some [(F, nx, (cf.1, x :: z :: x :: S, cf.2.2))] else none
  | _ => none
theorem g_dupX1 {pc : Nat} (hd : decode bytes pc = .ok (.dup_x1, 1)) : Good l Z hz sh A O y bytes maxL ret pc (sDupX1 (pc + 1)) :=
  good_one fun F L S D sl ns h => by
    simp only [sDupX1] at h
    split at h
    · rename_i x z S'
      cases hk : ((cat x == 1) && (cat z == 1))
      · rw [hk] at h; cases h
      · rw [hk] at h; cases h
        simp only [Bool.and_eq_true, beq_iff_eq] at hk
        refine ⟨_, _, rfl, fun hF p e R s m args below meth c T locs cells slots hA X H target st => ?_⟩
        exact XT.dupX1 X.here hA.1 rfl (hb hA.2.2.1 hd) rfl (by rw [vv_cat]; exact hk.1) (by rw [vv_cat]; exact hk.2) st
    · cases h
def sDup2 (nx : Nat) : Stp := fun F cf => match cf.2.1 with
  | x :: z :: S => bif (cat x == 1) && (cat z == 1) then some [(F, nx, (cf.1, x :: z :: x :: z :: S, cf.2.2))] else none
  | _ => none
theorem g_dup2 {pc : Nat} (hd : decode bytes pc = .ok (.dup2, 1)) : Good l Z hz sh A O y bytes maxL ret pc (sDup2 (pc + 1)) :=
  good_one fun F L S D sl ns h => by
    simp only [sDup2] at h
    split at h
    · rename_i x z S'
      cases hk : ((cat x == 1) && (cat z == 1))
      · rw [hk] at h; cases h
      · rw [hk] at h; cases h
        simp only [Bool.and_eq_true, beq_iff_eq] at hk
        refine ⟨_, _, rfl, fun hF p e R s m args below meth c T locs cells slots hA X H target st => ?_⟩
        exact XT.dup2 X.here hA.1 rfl (hb hA.2.2.1 hd) rfl (by rw [vv_cat]; exact hk.1) (by rw [vv_cat]; exact hk.2) st
    · cases h
/-! jumps -/
def sGoto (tg : Nat) : Stp := fun F cf => some [(F, tg, cf)]
theorem g_goto {pc tg : Nat} {o : Int} (hd : decode bytes pc = .ok (.goto o, 3)) (h1 : 0 ≤ (pc : Int) + o) (h2 : ((pc : Int) + o).toNat = tg) : Good l Z hz sh A O y bytes maxL ret pc (sGoto tg) :=
  good_one fun F L S D sl ns h => by
    cases h
    refine ⟨_, _, rfl, fun hF p e R s m args below meth c T locs cells slots hA X H target st => ?_⟩
    exact XS.goto X.here hA.1 rfl (pc0 := pc) (pc' := tg) rfl (hb hA.2.2.1 hd) h1 h2 st
def atm : ClassFile.Cond → Term → Term → Cond × Bool
  | .eq, a, b => (.eq a b, true)
  | .ne, a, b => (.eq a b, false)
  | .lt, a, b => (.lt a b, true)
  | .ge, a, b => (.lt a b, false)
  | .gt, a, b => (.lt b a, true)
  | .le, a, b => (.lt b a, false)
theorem atm_ok (A : En) (cd : ClassFile.Cond) (a b : Term) : (hold A (atm cd a b).1 → if_icmp.holds cd (te A a).1 (te A b).1 = (atm cd a b).2) ∧ (¬ hold A (atm cd a b).1 → if_icmp.holds cd (te A a).1 (te A b).1 = !(atm cd a b).2) := by
  cases cd <;> refine ⟨fun h => ?_, fun h => ?_⟩ <;> simp only [atm, hold] at h <;> simp only [atm, Bool.not_true, Bool.not_false]
  · exact (teq h).1
  · exact (feq h).1
  · exact (teq h).2
  · exact (feq h).2
  · exact (tlt h).1
  · exact (flt h).1
  · exact (tlt h).2.1
  · exact (flt h).2.1
  · exact (tlt h).2.2.1
  · exact (flt h).2.2.1
  · exact (tlt h).2.2.2
  · exact (flt h).2.2.2
def br (F : List Cond) (q : Cond × Bool) (tg nx : Nat) (cf : Cf) : List Nx := match q.2 with
  | true => fork F q.1 (fun G => (G, tg, cf)) (fun G => (G, nx, cf))
  | false => fork F q.1 (fun G => (G, nx, cf)) (fun G => (G, tg, cf))
theorem br_ok {F : List Cond} {cd : ClassFile.Cond} {a b : Term} {tg nx : Nat} {cf : Cf} (hF : holds A F) :
    ∃ n ∈ br F (atm cd a b) tg nx cf, holds A n.1 ∧ n.2.2 = cf ∧ ((if_icmp.holds cd (te A a).1 (te A b).1 = true ∧ n.2.1 = tg) ∨ (if_icmp.holds cd (te A a).1 (te A b).1 = false ∧ n.2.1 = nx)) := by
  obtain ⟨k1, k2⟩ := atm_ok A cd a b
  unfold br
  cases hq : (atm cd a b).2
  · rw [hq] at k1 k2
    obtain ⟨G, hG, ⟨h1, h2⟩ | ⟨h1, h2⟩⟩ := fork_ok (A := A) (F := F) (c := (atm cd a b).1) (yes := fun G => (G, nx, cf)) (no := fun G => (G, tg, cf)) hF (fun _ => rfl) (fun _ => rfl)
    · exact ⟨_, h2, hG, rfl, Or.inr ⟨k1 h1, rfl⟩⟩
    · exact ⟨_, h2, hG, rfl, Or.inl ⟨k2 h1, rfl⟩⟩
  · rw [hq] at k1 k2
    obtain ⟨G, hG, ⟨h1, h2⟩ | ⟨h1, h2⟩⟩ := fork_ok (A := A) (F := F) (c := (atm cd a b).1) (yes := fun G => (G, tg, cf)) (no := fun G => (G, nx, cf)) hF (fun _ => rfl) (fun _ => rfl)
    · exact ⟨_, h2, hG, rfl, Or.inl ⟨k1 h1, rfl⟩⟩
    · exact ⟨_, h2, hG, rfl, Or.inr ⟨k2 h1, rfl⟩⟩
def sIcmp (cd : ClassFile.Cond) (tg nx : Nat) : Stp := fun F cf => match cf.2.1 with
  | b :: a :: S => bif (a.1 == 0) && (b.1 == 0) then some (br F (atm cd a.2 b.2) tg nx (cf.1, S, cf.2.2)) else none
  | _ => none
theorem g_icmp {pc tg : Nat} {cd : ClassFile.Cond} {o : Int} (hd : decode bytes pc = .ok (.if_icmp cd o, 3)) (h1 : 0 ≤ (pc : Int) + o) (h2 : ((pc : Int) + o).toNat = tg) : Good l Z hz sh A O y bytes maxL ret pc (sIcmp cd tg (pc + 3)) := by
  intro F cf ns h hF
  obtain ⟨L, S, D, sl⟩ := cf
  simp only [sIcmp] at h
  split at h
  · rename_i b a S'
    obtain ⟨kb, b⟩ := b
    obtain ⟨ka, a⟩ := a
    cases hk : ((ka == 0) && (kb == 0))
    · rw [hk] at h; cases h
    · rw [hk] at h; cases h
      simp only [Bool.and_eq_true, beq_iff_eq] at hk
      obtain ⟨rfl, rfl⟩ := hk
      obtain ⟨n, hn, hG, e1, ⟨e2, e3⟩ | ⟨e2, e3⟩⟩ := br_ok (cd := cd) (a := a) (b := b) (tg := tg) (nx := pc + 3) (cf := (L, S', D, sl)) hF
      · refine ⟨n, hn, hG, ?_⟩
        rw [e1, e3]
        refine sim_pure fun p e R s m args below meth c T locs cells slots hA X H target st => ?_
        exact XS.icmpYes X.here hA.1 rfl (pc0 := pc) (pc' := tg) rfl (hb hA.2.2.1 hd) rfl e2 h1 h2 st
      · refine ⟨n, hn, hG, ?_⟩
        rw [e1, e3]
        refine sim_pure fun p e R s m args below meth c T locs cells slots hA X H target st => ?_
        exact XS.icmpNo X.here hA.1 rfl (hb hA.2.2.1 hd) rfl e2 st
  · cases h
def sIf (cd : ClassFile.Cond) (tg nx : Nat) : Stp := fun F cf => match cf.2.1 with
  | a :: S => bif (a.1 == 0) then some (br F (atm cd a.2 (.int 0)) tg nx (cf.1, S, cf.2.2)) else none
  | _ => none
theorem g_if {pc tg : Nat} {cd : ClassFile.Cond} {o : Int} (hd : decode bytes pc = .ok (.ifCond cd o, 3)) (h1 : 0 ≤ (pc : Int) + o) (h2 : ((pc : Int) + o).toNat = tg) : Good l Z hz sh A O y bytes maxL ret pc (sIf cd tg (pc + 3)) := by
  intro F cf ns h hF
  obtain ⟨L, S, D, sl⟩ := cf
  simp only [sIf] at h
  split at h
  · rename_i a S'
    obtain ⟨ka, a⟩ := a
    cases hk : (ka == 0)
    · rw [hk] at h; cases h
    · rw [hk] at h; cases h
      obtain rfl := beq_iff_eq.mp hk
      obtain ⟨n, hn, hG, e1, ⟨e2, e3⟩ | ⟨e2, e3⟩⟩ := br_ok (cd := cd) (a := a) (b := .int 0) (tg := tg) (nx := pc + 3) (cf := (L, S', D, sl)) hF
      · refine ⟨n, hn, hG, ?_⟩
        rw [e1, e3]
        refine sim_pure fun p e R s m args below meth c T locs cells slots hA X H target st => ?_
        exact XS.ifYes X.here hA.1 rfl (pc0 := pc) (pc' := tg) rfl (hb hA.2.2.1 hd) rfl ((if0 _ _).trans e2) h1 h2 st
      · refine ⟨n, hn, hG, ?_⟩
        rw [e1, e3]
        refine sim_pure fun p e R s m args below meth c T locs cells slots hA X H target st => ?_
        exact XS.ifNo X.here hA.1 rfl (hb hA.2.2.1 hd) rfl ((if0 _ _).trans e2) st
  · cases h
/-- references whose being null is known -/
def isNull : Term → Bool
  | .index _ => false
  | .arg _ => false
  | _ => true
theorem rf_null {O : Nat → Addr} {n0 : Nat} {t : Term} (h : isNull t = true) : rf O n0 t = .null := by cases t <;> simp [isNull] at h <;> rfl
theorem rf_some {O : Nat → Addr} {n0 : Nat} {t : Term} (h : isNull t = false) : ∃ b, rf O n0 t = .ref b := by cases t <;> simp [isNull] at h <;> exact ⟨_, rfl⟩
def sIfNull (w : Bool) (tg nx : Nat) : Stp := fun F cf => match cf.2.1 with
  | a :: S => bif (a.1 == 2) then some [(F, bif isNull a.2 == w then tg else nx, (cf.1, S, cf.2.2))] else none
  | _ => none
theorem g_ifnull {pc tg : Nat} {o : Int} (hd : decode bytes pc = .ok (.ifnull o, 3)) (h1 : 0 ≤ (pc : Int) + o) (h2 : ((pc : Int) + o).toNat = tg) : Good l Z hz sh A O y bytes maxL ret pc (sIfNull true tg (pc + 3)) := by
  intro F cf ns h hF
  obtain ⟨L, S, D, sl⟩ := cf
  simp only [sIfNull] at h
  split at h
  · rename_i a S'
    obtain ⟨ka, a⟩ := a
    cases hk : (ka == 2)
    · rw [hk] at h; cases h
    · rw [hk] at h; cases h
      obtain rfl := beq_iff_eq.mp hk
      refine ⟨_, List.mem_cons_self .., hF, ?_⟩
      cases q : isNull a
      · obtain ⟨b, hb'⟩ := rf_some (O := O) (n0 := hz.size) q
        refine sim_pure fun p e R s m args below meth c T locs cells slots hA X H target st => ?_
        have hs : (frm hz A O m pc (L, (2, a) :: S', D, sl)).stack = .ref b :: S'.map (vv A O hz.size) := by show rf O hz.size a :: _ = _; rw [hb']
        exact XS.ifnullNo X.here hA.1 rfl (hb hA.2.2.1 hd) hs st
      · have hb' := rf_null (O := O) (n0 := hz.size) q
        refine sim_pure fun p e R s m args below meth c T locs cells slots hA X H target st => ?_
        have hs : (frm hz A O m pc (L, (2, a) :: S', D, sl)).stack = .null :: S'.map (vv A O hz.size) := by show rf O hz.size a :: _ = _; rw [hb']
        exact XS.ifnullYes X.here hA.1 rfl (pc0 := pc) (pc' := tg) rfl (hb hA.2.2.1 hd) hs h1 h2 st
  · cases h
theorem g_ifnonnull {pc tg : Nat} {o : Int} (hd : decode bytes pc = .ok (.ifnonnull o, 3)) (h1 : 0 ≤ (pc : Int) + o) (h2 : ((pc : Int) + o).toNat = tg) : Good l Z hz sh A O y bytes maxL ret pc (sIfNull false tg (pc + 3)) := by
  intro F cf ns h hF
  obtain ⟨L, S, D, sl⟩ := cf
  simp only [sIfNull] at h
  split at h
  · rename_i a S'
    obtain ⟨ka, a⟩ := a
    cases hk : (ka == 2)
    · rw [hk] at h; cases h
    · rw [hk] at h; cases h
      obtain rfl := beq_iff_eq.mp hk
      refine ⟨_, List.mem_cons_self .., hF, ?_⟩
      cases q : isNull a
      · obtain ⟨b, hb'⟩ := rf_some (O := O) (n0 := hz.size) q
        refine sim_pure fun p e R s m args below meth c T locs cells slots hA X H target st => ?_
        have hs : (frm hz A O m pc (L, (2, a) :: S', D, sl)).stack = .ref b :: S'.map (vv A O hz.size) := by show rf O hz.size a :: _ = _; rw [hb']
        exact XS.ifnonnullYes X.here hA.1 rfl (pc0 := pc) (pc' := tg) rfl (hb hA.2.2.1 hd) hs h1 h2 st
      · have hb' := rf_null (O := O) (n0 := hz.size) q
        refine sim_pure fun p e R s m args below meth c T locs cells slots hA X H target st => ?_
        have hs : (frm hz A O m pc (L, (2, a) :: S', D, sl)).stack = .null :: S'.map (vv A O hz.size) := by show rf O hz.size a :: _ = _; rw [hb']
        exact XS.ifnonnullNo X.here hA.1 rfl (hb hA.2.2.1 hd) hs st
  · cases h
/-! enumeration of an int whose bounds are near each other -/
def enum (F : List Cond) (pc : Nat) (t : Term) (L : List SL) (S : List SV) (r : List Ob × Nat) (lo : Int) (n : Nat) : List Nx :=
  ((List.range n).map fun (i : Nat) => (Cond.eq t (.int (Int32.ofInt (lo + Int.ofNat i))) :: F, pc, (L, (0, .int (Int32.ofInt (lo + Int.ofNat i))) :: S, r))).filter fun n => (match n.1 with
    | c :: _ => (match lk c F with
      | some false => false
      | _ => true)
    | [] => true)
def sSplit (pc : Nat) (f : Stp) : Stp := fun F cf => match cf.2.1 with
  | (0, t) :: S => bif isLit t then f F cf else
      bif decide ((rg F t).2 - (rg F t).1 < 300) then some (enum F pc t cf.1 S cf.2.2 (rg F t).1 ((rg F t).2 - (rg F t).1 + 1).toNat) else none
  | _ => none
theorem g_split {pc : Nat} {f : Stp} (g : Good l Z hz sh A O y bytes maxL ret pc f) : Good l Z hz sh A O y bytes maxL ret pc (sSplit pc f) := by
  intro F cf ns h hF
  obtain ⟨L, S, D, sl⟩ := cf
  simp only [sSplit] at h
  split at h
  · rename_i t S'
    cases hl : isLit t
    · rw [hl] at h
      cases hq : decide ((rg F t).2 - (rg F t).1 < 300)
      · rw [hq] at h; cases h
      · rw [hq] at h; cases h
        obtain ⟨h1, h2⟩ := rg_ok hF t
        have e : (rg F t).1 + Int.ofNat ((te A t).1.toInt - (rg F t).1).toNat = (te A t).1.toInt := by
          show (rg F t).1 + (((te A t).1.toInt - (rg F t).1).toNat : Int) = _; omega
        refine ⟨(Cond.eq t (.int (Int32.ofInt ((rg F t).1 + Int.ofNat ((te A t).1.toInt - (rg F t).1).toNat))) :: F, pc, (L, (0, .int (Int32.ofInt ((rg F t).1 + Int.ofNat ((te A t).1.toInt - (rg F t).1).toNat))) :: S', (D, sl))), ?_, ?_, ?_⟩
        · refine List.mem_filter.mpr ⟨List.mem_map.mpr ⟨((te A t).1.toInt - (rg F t).1).toNat, List.mem_range.mpr (by omega), rfl⟩, ?_⟩
          simp only
          split
          · rename_i q
            have hh : hold A (Cond.eq t (.int (Int32.ofInt ((rg F t).1 + Int.ofNat ((te A t).1.toInt - (rg F t).1).toNat)))) := by show (te A t).1 = Int32.ofInt _; rw [e, Int32.ofInt_toInt]
            exact absurd ((lk_ok hF q).mp hh) (by simp)
          · rfl
        · refine holds_cons ?_ hF
          show (te A t).1 = Int32.ofInt _
          rw [e, Int32.ofInt_toInt]
        · refine sim_pure fun p e' R s m args below meth c T locs cells slots hA X H target st => ?_
          have q : frm hz A O m pc (L, (0, .int (Int32.ofInt ((rg F t).1 + Int.ofNat ((te A t).1.toInt - (rg F t).1).toNat))) :: S', D, sl) = frm hz A O m pc (L, (0, t) :: S', D, sl) := by
            rw [e, Int32.ofInt_toInt]; rfl
          rw [q] at st; exact st
    · rw [hl] at h; exact g F _ ns h hF
  · cases h
/-! ### 5. Arrays and objects -/
def dflt : FieldType → SV
  | .long => (1, .long 0)
  | .double => (3, .long 0)
  | .object _ => (2, .null)
  | .array _ => (2, .null)
  | _ => (0, .int 0)
theorem dflt_ok {ty : FieldType} (h : ty ≠ .float) : vv A O hz.size (dflt ty) = defaultValue ty := by
  cases ty <;> first | rfl | exact absurd rfl h
theorem list_rep (n : Nat) (x : SV) : ((List.replicate n x).map (vv A O hz.size)).toArray = Array.replicate n (vv A O hz.size x) := by simp
/-- the state has grown by just one cell -/
theorem grown {p : Program} {e : Env} {R : Room} {s : State} {m : MethodId} {args : Array Value} {below : List Frame} {meth : Method} {c : Code} {T T' : State} {locs : List Loc} {d0 slots : Nat} {D : List Ob}
    (X : Stand p l e R s m args below meth c T' locs (D.length - d0 + 1) slots) (hd : d0 ≤ D.length) (hh : s.heap.size = hz.size + d0) (H : HD Z hz sh A O T.heap D) (hlt : T.heap.size < T'.heap.size) : T'.heap.size = T.heap.size + 1 := by
  have h1 := X.heapSize
  have h2 := H.1
  omega
def sNewA (sid : Nat) (ty : FieldType) (nx : Nat) : Stp := fun F cf => match cf.2.1 with
  | (0, t) :: S => (match cv F t with
    | some v => bif decide (0 ≤ v) && Nat.ble v.toNatClampNeg 67108864 then some [(F, nx, (cf.1, (2, .index cf.2.2.1.length) :: S, cf.2.2.1 ++ [(sid, List.replicate v.toNatClampNeg (dflt ty))], cf.2.2.2 + v.toNatClampNeg))] else none
    | none => none)
  | _ => none
theorem g_newarray {pc sid : Nat} {aty : ArrayType} {r : String × Nat × List Fi} {a0 : Array Value} (hd : decode bytes pc = .ok (.newarray aty, 2)) (hs : sh[sid]? = some (some (newarray.typeOf aty), r)) (hf : aty ≠ .float) (w : (Cond.arrayClass (newarray.typeOf aty)).before a0 Z = true) :
    Good l Z hz sh A O y bytes maxL ret pc (sNewA sid (newarray.typeOf aty) (pc + 2)) := by
  intro F cf ns h hF
  obtain ⟨L, S, D, sl⟩ := cf
  simp only [sNewA] at h
  split at h
  · rename_i t S'
    split at h
    · rename_i v q
      cases hv : (decide (0 ≤ v) && Nat.ble v.toNatClampNeg 67108864)
      · rw [hv] at h; cases h
      · rw [hv] at h; cases h
        simp only [Bool.and_eq_true, decide_eq_true_eq] at hv
        obtain ⟨v1, v2⟩ := hv
        have v2 := Nat.le_of_ble_eq_true v2
        have hv0 : ¬ v < 0 := Int32.not_lt.mpr v1
        have ev := cv_ok hF q
        refine ⟨_, List.mem_cons_self .., hF, by simp, by simp, ?_⟩
        intro d0 s0 p e R s m args below meth c T locs hd0 hs0 hh hA X H N hc hl hfr hlo
        simp only [List.length_append, List.length_cons, List.length_nil] at hc hl hd0 hs0 X H ⊢
        have hgs : (frm hz A O m pc (L, (0, t) :: S', D, sl)).stack = .int v :: S'.map (vv A O hz.size) := by show Value.int (te A t).1 :: _ = _; rw [ev]
        obtain ⟨T', h', cA, X', e1, E, Ar, st⟩ := newP X hA.1 hA.2.1 w rfl (g := frm hz A O m pc (L, (0, t) :: S', D, sl)) rfl (hb hA.2.2.1 hd) hgs hv0 (cap := v.toNatClampNeg) (Nat.le_refl _) (by omega) (by omega) (by omega)
        have hsz : T'.heap.size = T.heap.size + 1 := grown X' hd0 hh H (by rw [e1]; exact Ar.lt)
        have c1 : D.length + (0 + 1) - d0 = D.length - d0 + 1 := by omega
        have c2 : sl + v.toNatClampNeg - s0 = sl - s0 + v.toNatClampNeg := by omega
        refine ⟨T', locs, by rw [c1, c2]; exact X', ?_, N, ?_⟩
        · subst e1
          refine H.push E hsz ?_
          rw [ObAt.arr (o := (sid, _)) hs]
          refine ⟨_, Ar, ?_, ?_, fun C q => ?_⟩
          · show Array.replicate _ _ = _
            rw [list_rep, dflt_ok]
            intro q; cases aty <;> first | exact hf rfl | cases q
          · rw [List.length_replicate]; omega
          · cases aty <;> cases q
        · intro target k
          refine st target ?_
          have hi : vv A O hz.size (2, .index D.length) = .ref T.heap.size := by show Value.ref (hz.size + D.length) = _; rw [H.1]
          have k' : Steps p.tables e below (T'.setTop (mkF m (pc + 2) (L.map (sl1 A O hz.size)).toArray (vv A O hz.size (2, .index D.length) :: S'.map (vv A O hz.size)))) target := k
          rw [hi] at k'; exact k'
    · cases h
  · cases h
def sLen (nx : Nat) : Stp := fun F cf => match cf.2.1 with
  | (2, .index k) :: S => (match cf.2.2.1[k]? with
    | some o => some [(F, nx, (cf.1, (0, .int o.2.length.toInt32) :: S, cf.2.2))]
    | none => none)
  | _ => none
def sLenA (sid nx : Nat) : Stp := fun F cf => match cf.2.1 with
  | (2, .index k) :: S => (match cf.2.2.1[k]? with
    | some o => bif o.1 == sid then some [(F, nx, (cf.1, (0, .int o.2.length.toInt32) :: S, cf.2.2))] else none
    | none => none)
  | _ => none
theorem g_len {pc sid : Nat} {ty : FieldType} {r : String × Nat × List Fi} (hd : decode bytes pc = .ok (.arraylength, 1)) (hs : sh[sid]? = some (some ty, r)) : Good l Z hz sh A O y bytes maxL ret pc (sLenA sid (pc + 1)) :=
  good_one fun F L S D sl ns h => by
    simp only [sLenA] at h
    split at h
    · rename_i k S'
      split at h
      · rename_i o q
        cases hk : (o.1 == sid)
        · rw [hk] at h; cases h
        · rw [hk] at h; cases h
          obtain rfl := beq_iff_eq.mp hk
          refine ⟨_, _, rfl, fun hF p e R s m args below meth c T locs cells slots hA X H target st => ?_⟩
          have ho := H.2.2 k o q
          rw [ObAt.arr hs] at ho
          obtain ⟨cl, Ar, a1, a2, a3⟩ := ho
          refine X.arraylength hA.1 Ar.1 (State.isArrayOf_alike hA.2.1.alike Ar.2.1) (g := frm hz A O m pc (L, (2, .index k) :: S', D, sl)) rfl rfl (hb hA.2.2.1 hd) _ ?_
          have : cl.slots.size = o.2.length := by rw [a1]; simp
          rw [this]; exact st
      · cases h
    · cases h
def sAld (sid nx : Nat) : Stp := fun F cf => match cf.2.1 with
  | (0, j) :: (2, .index k) :: S => (match cv F j with
    | some v => (match cf.2.2.1[k]? with
      | some o => bif (o.1 == sid) && decide (0 ≤ v) then (match o.2[v.toNatClampNeg]? with
        | some x => some [(F, nx, (cf.1, x :: S, cf.2.2))]
        | none => none) else none
      | none => none)
    | none => none)
  | _ => none
theorem sAld_inv {sid nx : Nat} {F : List Cond} {L : List SL} {S : List SV} {D : List Ob} {sl : Nat} {ns : List Nx} (h : sAld sid nx F (L, S, D, sl) = some ns) : ∃ j k S' v xs x, S = (0, j) :: (2, .index k) :: S' ∧ cv F j = some v ∧ D[k]? = some (sid, xs) ∧ ¬ v < 0 ∧ xs[v.toNatClampNeg]? = some x ∧ ns = [(F, nx, (L, x :: S', D, sl))] := by
  simp only [sAld] at h
  split at h
  · rename_i j k S'
    split at h
    · rename_i v q
      split at h
      · rename_i o q2
        obtain ⟨o1, xs⟩ := o
        cases hk : ((o1 == sid) && decide (0 ≤ v))
        · rw [hk] at h; cases h
        · rw [hk] at h
          simp only [Bool.and_eq_true, decide_eq_true_eq, beq_iff_eq] at hk
          obtain ⟨rfl, v1⟩ := hk
          simp only [cond_true] at h
          split at h
          · rename_i x q3; cases h
            exact ⟨j, k, S', v, xs, x, rfl, q, q2, Int32.not_lt.mpr v1, q3, rfl⟩
          · cases h
      · cases h
    · cases h
  · cases h
theorem g_iaload {pc sid : Nat} {r : String × Nat × List Fi} (hd : decode bytes pc = .ok (.iaload, 1)) (hs : sh[sid]? = some (some .int, r)) : Good l Z hz sh A O y bytes maxL ret pc (sAld sid (pc + 1)) :=
  good_one fun F L S D sl ns h => by
    obtain ⟨j, k, S', v, xs, x, rfl, q1, q2, q3, q4, rfl⟩ := sAld_inv h
    refine ⟨_, _, rfl, fun hF p e R s m args below meth c T locs cells slots hA X H target st => ?_⟩
    have ho := H.2.2 k _ q2
    rw [ObAt.arr (o := (sid, xs)) hs] at ho
    obtain ⟨cl, Ar, a1, a2, a3⟩ := ho
    have hlt := (List.getElem?_eq_some_iff.mp q4).1
    have hsz : cl.slots.size = xs.length := by rw [a1]; simp
    have hgs : (frm hz A O m pc (L, (0, j) :: (2, .index k) :: S', D, sl)).stack = .int v :: .ref (hz.size + k) :: S'.map (vv A O hz.size) := by show Value.int (te A j).1 :: _ = _; rw [cv_ok hF q1]; rfl
    exact X.iaload hA.1 Ar.1 (State.isArrayOf_alike hA.2.1.alike Ar.2.1) Ar.2.2 (j := v) (v := vv A O hz.size x) (fun q => q.elim q3 (fun q => by omega)) (by rw [a1]; simp [q4]) (g := frm hz A O m pc (L, (0, j) :: (2, .index k) :: S', D, sl)) rfl hgs (hb hA.2.2.1 hd) _ st
theorem g_laload {pc sid : Nat} {r : String × Nat × List Fi} (hd : decode bytes pc = .ok (.laload, 1)) (hs : sh[sid]? = some (some .long, r)) : Good l Z hz sh A O y bytes maxL ret pc (sAld sid (pc + 1)) :=
  good_one fun F L S D sl ns h => by
    obtain ⟨j, k, S', v, xs, x, rfl, q1, q2, q3, q4, rfl⟩ := sAld_inv h
    refine ⟨_, _, rfl, fun hF p e R s m args below meth c T locs cells slots hA X H target st => ?_⟩
    have ho := H.2.2 k _ q2
    rw [ObAt.arr (o := (sid, xs)) hs] at ho
    obtain ⟨cl, Ar, a1, a2, a3⟩ := ho
    have hlt := (List.getElem?_eq_some_iff.mp q4).1
    have hsz : cl.slots.size = xs.length := by rw [a1]; simp
    have hgs : (frm hz A O m pc (L, (0, j) :: (2, .index k) :: S', D, sl)).stack = .int v :: .ref (hz.size + k) :: S'.map (vv A O hz.size) := by show Value.int (te A j).1 :: _ = _; rw [cv_ok hF q1]; rfl
    exact X.laload hA.1 Ar.1 (State.isArrayOf_alike hA.2.1.alike Ar.2.1) Ar.2.2 (j := v) (v := vv A O hz.size x) (fun q => q.elim q3 (fun q => by omega)) (by rw [a1]; simp [q4]) (g := frm hz A O m pc (L, (0, j) :: (2, .index k) :: S', D, sl)) rfl hgs (hb hA.2.2.1 hd) _ st
theorem g_caload {pc sid : Nat} {r : String × Nat × List Fi} (hd : decode bytes pc = .ok (.caload, 1)) (hs : sh[sid]? = some (some .char, r)) : Good l Z hz sh A O y bytes maxL ret pc (sAld sid (pc + 1)) :=
  good_one fun F L S D sl ns h => by
    obtain ⟨j, k, S', v, xs, x, rfl, q1, q2, q3, q4, rfl⟩ := sAld_inv h
    refine ⟨_, _, rfl, fun hF p e R s m args below meth c T locs cells slots hA X H target st => ?_⟩
    have ho := H.2.2 k _ q2
    rw [ObAt.arr (o := (sid, xs)) hs] at ho
    obtain ⟨cl, Ar, a1, a2, a3⟩ := ho
    have hlt := (List.getElem?_eq_some_iff.mp q4).1
    have hsz : cl.slots.size = xs.length := by rw [a1]; simp
    have hgs : (frm hz A O m pc (L, (0, j) :: (2, .index k) :: S', D, sl)).stack = .int v :: .ref (hz.size + k) :: S'.map (vv A O hz.size) := by show Value.int (te A j).1 :: _ = _; rw [cv_ok hF q1]; rfl
    exact X.caload hA.1 Ar.1 (State.isArrayOf_alike hA.2.1.alike Ar.2.1) Ar.2.2 (j := v) (v := vv A O hz.size x) (fun q => q.elim q3 (fun q => by omega)) (by rw [a1]; simp [q4]) (g := frm hz A O m pc (L, (0, j) :: (2, .index k) :: S', D, sl)) rfl hgs (hb hA.2.2.1 hd) _ st
theorem g_baloadB {pc sid : Nat} {r : String × Nat × List Fi} (hd : decode bytes pc = .ok (.baload, 1)) (hs : sh[sid]? = some (some .byte, r)) : Good l Z hz sh A O y bytes maxL ret pc (sAld sid (pc + 1)) :=
  good_one fun F L S D sl ns h => by
    obtain ⟨j, k, S', v, xs, x, rfl, q1, q2, q3, q4, rfl⟩ := sAld_inv h
    refine ⟨_, _, rfl, fun hF p e R s m args below meth c T locs cells slots hA X H target st => ?_⟩
    have ho := H.2.2 k _ q2
    rw [ObAt.arr (o := (sid, xs)) hs] at ho
    obtain ⟨cl, Ar, a1, a2, a3⟩ := ho
    have hlt := (List.getElem?_eq_some_iff.mp q4).1
    have hsz : cl.slots.size = xs.length := by rw [a1]; simp
    have hgs : (frm hz A O m pc (L, (0, j) :: (2, .index k) :: S', D, sl)).stack = .int v :: .ref (hz.size + k) :: S'.map (vv A O hz.size) := by show Value.int (te A j).1 :: _ = _; rw [cv_ok hF q1]; rfl
    exact X.baloadBytes hA.1 Ar.1 (State.isArrayOf_alike hA.2.1.alike Ar.2.1) Ar.2.2 (j := v) (v := vv A O hz.size x) (fun q => q.elim q3 (fun q => by omega)) (by rw [a1]; simp [q4]) (g := frm hz A O m pc (L, (0, j) :: (2, .index k) :: S', D, sl)) rfl hgs (hb hA.2.2.1 hd) _ st
theorem g_baloadZ {pc sid : Nat} {r : String × Nat × List Fi} (hd : decode bytes pc = .ok (.baload, 1)) (hs : sh[sid]? = some (some .boolean, r)) : Good l Z hz sh A O y bytes maxL ret pc (sAld sid (pc + 1)) :=
  good_one fun F L S D sl ns h => by
    obtain ⟨j, k, S', v, xs, x, rfl, q1, q2, q3, q4, rfl⟩ := sAld_inv h
    refine ⟨_, _, rfl, fun hF p e R s m args below meth c T locs cells slots hA X H target st => ?_⟩
    have ho := H.2.2 k _ q2
    rw [ObAt.arr (o := (sid, xs)) hs] at ho
    obtain ⟨cl, Ar, a1, a2, a3⟩ := ho
    have hlt := (List.getElem?_eq_some_iff.mp q4).1
    have hsz : cl.slots.size = xs.length := by rw [a1]; simp
    have hgs : (frm hz A O m pc (L, (0, j) :: (2, .index k) :: S', D, sl)).stack = .int v :: .ref (hz.size + k) :: S'.map (vv A O hz.size) := by show Value.int (te A j).1 :: _ = _; rw [cv_ok hF q1]; rfl
    exact X.baloadBooleans hA.1 Ar.1 (State.isArrayOf_alike hA.2.1.alike Ar.2.1) Ar.2.2 (j := v) (v := vv A O hz.size x) (fun q => q.elim q3 (fun q => by omega)) (by rw [a1]; simp [q4]) (g := frm hz A O m pc (L, (0, j) :: (2, .index k) :: S', D, sl)) rfl hgs (hb hA.2.2.1 hd) _ st
def nrT (ty : FieldType) (t : Term) : Term := match ty with
  | .boolean => smI (.op2 .iand t (.int 1))
  | .byte => smI (.op1 .i2b t)
  | .char => smI (.op1 .i2c t)
  | .short => smI (.op1 .i2s t)
  | _ => t
def kdOf : FieldType → Nat
  | .long => 1
  | .double => 3
  | .object _ => 2
  | .array _ => 2
  | _ => 0
theorem nrT_ok {ty : FieldType} (hf : ty ≠ .float) (t : Term) : narrow ty (vv A O hz.size (kdOf ty, t)) = vv A O hz.size (kdOf ty, nrT ty t) ∧ fits ty (vv A O hz.size (kdOf ty, nrT ty t)) = true := by
  have rr : ∀ (t : Term), (∀ n, fits (.object n) (rf O hz.size t) = true) ∧ (∀ u, fits (.array u) (rf O hz.size t) = true) := fun t => by
    rcases ref_cases (rf_isRef O hz.size t) with q | ⟨a, q⟩ <;> rw [q] <;> exact ⟨fun _ => rfl, fun _ => rfl⟩
  cases ty with
  | float => exact absurd rfl hf
  | boolean =>
    have e : vv A O hz.size (kdOf .boolean, nrT .boolean t) = .int (nar .boolean (te A t).1) := by show Value.int (te A (smI _)).1 = _; rw [te_smI]; rfl
    rw [e]; exact ⟨rfl, fits_nar_bool _⟩
  | byte =>
    have e : vv A O hz.size (kdOf .byte, nrT .byte t) = .int (nar .byte (te A t).1) := by show Value.int (te A (smI _)).1 = _; rw [te_smI]; rfl
    rw [e]; exact ⟨rfl, fits_nar_byte _⟩
  | char =>
    have e : vv A O hz.size (kdOf .char, nrT .char t) = .int (nar .char (te A t).1) := by show Value.int (te A (smI _)).1 = _; rw [te_smI]; rfl
    rw [e]; exact ⟨rfl, fits_nar_char _⟩
  | short =>
    have e : vv A O hz.size (kdOf .short, nrT .short t) = .int (nar .short (te A t).1) := by show Value.int (te A (smI _)).1 = _; rw [te_smI]; rfl
    rw [e]; exact ⟨rfl, fits_nar_short _⟩
  | int => exact ⟨rfl, rfl⟩
  | long => exact ⟨rfl, rfl⟩
  | double => exact ⟨rfl, rfl⟩
  | object n => exact ⟨by show narrow _ (rf O hz.size t) = rf O hz.size t; rcases ref_cases (rf_isRef O hz.size t) with q | ⟨a, q⟩ <;> rw [q] <;> rfl, (rr t).1 n⟩
  | array u => exact ⟨by show narrow _ (rf O hz.size t) = rf O hz.size t; rcases ref_cases (rf_isRef O hz.size t) with q | ⟨a, q⟩ <;> rw [q] <;> rfl, (rr t).2 u⟩
def sAst (sid : Nat) (ty : FieldType) (nx : Nat) : Stp := fun F cf => match cf.2.1 with
  | x :: (0, j) :: (2, .index k) :: S => (match cv F j with
    | some v => (match cf.2.2.1[k]? with
      | some o => bif (x.1 == kdOf ty) && ((o.1 == sid) && (decide (0 ≤ v) && Nat.blt v.toNatClampNeg o.2.length)) then
          some [(F, nx, (cf.1, S, cf.2.2.1.set k (sid, o.2.set v.toNatClampNeg (kdOf ty, nrT ty x.2)), cf.2.2.2))] else none
      | none => none)
    | none => none)
  | _ => none
theorem sAst_inv {sid nx : Nat} {ty : FieldType} {F : List Cond} {L : List SL} {S : List SV} {D : List Ob} {sl : Nat} {ns : List Nx} (h : sAst sid ty nx F (L, S, D, sl) = some ns) : ∃ t j k S' v xs, S = (kdOf ty, t) :: (0, j) :: (2, .index k) :: S' ∧ cv F j = some v ∧ D[k]? = some (sid, xs) ∧ ¬ v < 0 ∧ v.toNatClampNeg < xs.length ∧ ns = [(F, nx, (L, S', D.set k (sid, xs.set v.toNatClampNeg (kdOf ty, nrT ty t)), sl))] := by
  simp only [sAst] at h
  split at h
  · rename_i x j k S'
    obtain ⟨kx, t⟩ := x
    split at h
    · rename_i v q
      split at h
      · rename_i o q2
        obtain ⟨o1, xs⟩ := o
        cases hk : ((kx == kdOf ty) && ((o1 == sid) && (decide (0 ≤ v) && Nat.blt v.toNatClampNeg xs.length)))
        · rw [hk] at h; cases h
        · rw [hk] at h
          simp only [Bool.and_eq_true, decide_eq_true_eq, beq_iff_eq, Nat.blt_eq] at hk
          obtain ⟨rfl, rfl, v1, v2⟩ := hk
          cases h
          exact ⟨t, j, k, S', v, xs, rfl, q, q2, Int32.not_lt.mpr v1, v2, rfl⟩
      · cases h
    · cases h
  · cases h
theorem g_iastore {pc sid : Nat} {r : String × Nat × List Fi} (hd : decode bytes pc = .ok (.iastore, 1)) (hs : sh[sid]? = some (some .int, r)) : Good l Z hz sh A O y bytes maxL ret pc (sAst sid .int (pc + 1)) := by
  intro F cf ns h hF
  obtain ⟨L, S, D, sl⟩ := cf
  obtain ⟨t, j, k, S', v, xs, rfl, q1, q2, q3, q4, rfl⟩ := sAst_inv h
  refine ⟨_, List.mem_cons_self .., hF, by simp, by simp, ?_⟩
  intro d0 s0 p e R s m args below meth c T locs hd0 hs0 hh hA X H N hc hl hfr hlo
  simp only [List.length_set] at hc hl hd0 hs0 X H ⊢
  have ho := H.2.2 k _ q2
  rw [ObAt.arr (o := (sid, xs)) hs] at ho
  have ho' := ho
  obtain ⟨cl, Ar, a1, a2, a3⟩ := ho
  have hsz : cl.slots.size = xs.length := by rw [a1]; simp
  have hgs : (frm hz A O m pc (L, (kdOf .int, t) :: (0, j) :: (2, .index k) :: S', D, sl)).stack = .int (te A t).1 :: .int v :: .ref (hz.size + k) :: S'.map (vv A O hz.size) := by show _ :: Value.int (te A j).1 :: _ = _; rw [cv_ok hF q1]; rfl
  obtain ⟨T', h', X', e1, W, st⟩ := stI X hA.1 hA.2.1 rfl Ar (j := v) (fun q => q.elim q3 (fun q => by omega)) (g := frm hz A O m pc (L, (kdOf .int, t) :: (0, j) :: (2, .index k) :: S', D, sl)) rfl hgs (hb hA.2.2.1 hd)
  have hval := (nrT_ok (A := A) (O := O) (hz := hz) (ty := .int) (by decide) t).1
  subst e1
  have W' : Wr T.heap T'.heap (hz.size + k) v.toNatClampNeg (vv A O hz.size (kdOf .int, nrT .int t)) := by rw [← hval]; exact W
  refine ⟨T', _, X', ?_, Fr.snoc X' N (Nat.le_add_right _ _), st⟩
  refine H.set q2 W' ?_
  rw [ObAt.arr (o := (sid, _)) hs]
  exact ho'.set W'
theorem g_lastore {pc sid : Nat} {r : String × Nat × List Fi} (hd : decode bytes pc = .ok (.lastore, 1)) (hs : sh[sid]? = some (some .long, r)) : Good l Z hz sh A O y bytes maxL ret pc (sAst sid .long (pc + 1)) := by
  intro F cf ns h hF
  obtain ⟨L, S, D, sl⟩ := cf
  obtain ⟨t, j, k, S', v, xs, rfl, q1, q2, q3, q4, rfl⟩ := sAst_inv h
  refine ⟨_, List.mem_cons_self .., hF, by simp, by simp, ?_⟩
  intro d0 s0 p e R s m args below meth c T locs hd0 hs0 hh hA X H N hc hl hfr hlo
  simp only [List.length_set] at hc hl hd0 hs0 X H ⊢
  have ho := H.2.2 k _ q2
  rw [ObAt.arr (o := (sid, xs)) hs] at ho
  have ho' := ho
  obtain ⟨cl, Ar, a1, a2, a3⟩ := ho
  have hsz : cl.slots.size = xs.length := by rw [a1]; simp
  have hgs : (frm hz A O m pc (L, (kdOf .long, t) :: (0, j) :: (2, .index k) :: S', D, sl)).stack = .long (te A t).2 :: .int v :: .ref (hz.size + k) :: S'.map (vv A O hz.size) := by show _ :: Value.int (te A j).1 :: _ = _; rw [cv_ok hF q1]; rfl
  obtain ⟨T', h', X', e1, W, st⟩ := stJ X hA.1 hA.2.1 rfl Ar (j := v) (fun q => q.elim q3 (fun q => by omega)) (g := frm hz A O m pc (L, (kdOf .long, t) :: (0, j) :: (2, .index k) :: S', D, sl)) rfl hgs (hb hA.2.2.1 hd)
  have hval := (nrT_ok (A := A) (O := O) (hz := hz) (ty := .long) (by decide) t).1
  subst e1
  have W' : Wr T.heap T'.heap (hz.size + k) v.toNatClampNeg (vv A O hz.size (kdOf .long, nrT .long t)) := by rw [← hval]; exact W
  refine ⟨T', _, X', ?_, Fr.snoc X' N (Nat.le_add_right _ _), st⟩
  refine H.set q2 W' ?_
  rw [ObAt.arr (o := (sid, _)) hs]
  exact ho'.set W'
theorem g_castore {pc sid : Nat} {r : String × Nat × List Fi} (hd : decode bytes pc = .ok (.castore, 1)) (hs : sh[sid]? = some (some .char, r)) : Good l Z hz sh A O y bytes maxL ret pc (sAst sid .char (pc + 1)) := by
  intro F cf ns h hF
  obtain ⟨L, S, D, sl⟩ := cf
  obtain ⟨t, j, k, S', v, xs, rfl, q1, q2, q3, q4, rfl⟩ := sAst_inv h
  refine ⟨_, List.mem_cons_self .., hF, by simp, by simp, ?_⟩
  intro d0 s0 p e R s m args below meth c T locs hd0 hs0 hh hA X H N hc hl hfr hlo
  simp only [List.length_set] at hc hl hd0 hs0 X H ⊢
  have ho := H.2.2 k _ q2
  rw [ObAt.arr (o := (sid, xs)) hs] at ho
  have ho' := ho
  obtain ⟨cl, Ar, a1, a2, a3⟩ := ho
  have hsz : cl.slots.size = xs.length := by rw [a1]; simp
  have hgs : (frm hz A O m pc (L, (kdOf .char, t) :: (0, j) :: (2, .index k) :: S', D, sl)).stack = .int (te A t).1 :: .int v :: .ref (hz.size + k) :: S'.map (vv A O hz.size) := by show _ :: Value.int (te A j).1 :: _ = _; rw [cv_ok hF q1]; rfl
  obtain ⟨T', h', X', e1, W, st⟩ := stC X hA.1 hA.2.1 rfl Ar (j := v) (fun q => q.elim q3 (fun q => by omega)) (g := frm hz A O m pc (L, (kdOf .char, t) :: (0, j) :: (2, .index k) :: S', D, sl)) rfl hgs (hb hA.2.2.1 hd)
  have hval := (nrT_ok (A := A) (O := O) (hz := hz) (ty := .char) (by decide) t).1
  subst e1
  have W' : Wr T.heap T'.heap (hz.size + k) v.toNatClampNeg (vv A O hz.size (kdOf .char, nrT .char t)) := by rw [← hval]; exact W
  refine ⟨T', _, X', ?_, Fr.snoc X' N (Nat.le_add_right _ _), st⟩
  refine H.set q2 W' ?_
  rw [ObAt.arr (o := (sid, _)) hs]
  exact ho'.set W'
theorem g_bastoreB {pc sid : Nat} {r : String × Nat × List Fi} (hd : decode bytes pc = .ok (.bastore, 1)) (hs : sh[sid]? = some (some .byte, r)) : Good l Z hz sh A O y bytes maxL ret pc (sAst sid .byte (pc + 1)) := by
  intro F cf ns h hF
  obtain ⟨L, S, D, sl⟩ := cf
  obtain ⟨t, j, k, S', v, xs, rfl, q1, q2, q3, q4, rfl⟩ := sAst_inv h
  refine ⟨_, List.mem_cons_self .., hF, by simp, by simp, ?_⟩
  intro d0 s0 p e R s m args below meth c T locs hd0 hs0 hh hA X H N hc hl hfr hlo
  simp only [List.length_set] at hc hl hd0 hs0 X H ⊢
  have ho := H.2.2 k _ q2
  rw [ObAt.arr (o := (sid, xs)) hs] at ho
  have ho' := ho
  obtain ⟨cl, Ar, a1, a2, a3⟩ := ho
  have hsz : cl.slots.size = xs.length := by rw [a1]; simp
  have hgs : (frm hz A O m pc (L, (kdOf .byte, t) :: (0, j) :: (2, .index k) :: S', D, sl)).stack = .int (te A t).1 :: .int v :: .ref (hz.size + k) :: S'.map (vv A O hz.size) := by show _ :: Value.int (te A j).1 :: _ = _; rw [cv_ok hF q1]; rfl
  obtain ⟨T', h', X', e1, W, st⟩ := stB X hA.1 hA.2.1 rfl Ar (j := v) (fun q => q.elim q3 (fun q => by omega)) (g := frm hz A O m pc (L, (kdOf .byte, t) :: (0, j) :: (2, .index k) :: S', D, sl)) rfl hgs (hb hA.2.2.1 hd)
  have hval := (nrT_ok (A := A) (O := O) (hz := hz) (ty := .byte) (by decide) t).1
  subst e1
  have W' : Wr T.heap T'.heap (hz.size + k) v.toNatClampNeg (vv A O hz.size (kdOf .byte, nrT .byte t)) := by rw [← hval]; exact W
  refine ⟨T', _, X', ?_, Fr.snoc X' N (Nat.le_add_right _ _), st⟩
  refine H.set q2 W' ?_
  rw [ObAt.arr (o := (sid, _)) hs]
  exact ho'.set W'
theorem g_bastoreZ {pc sid : Nat} {r : String × Nat × List Fi} (hd : decode bytes pc = .ok (.bastore, 1)) (hs : sh[sid]? = some (some .boolean, r)) : Good l Z hz sh A O y bytes maxL ret pc (sAst sid .boolean (pc + 1)) := by
  intro F cf ns h hF
  obtain ⟨L, S, D, sl⟩ := cf
  obtain ⟨t, j, k, S', v, xs, rfl, q1, q2, q3, q4, rfl⟩ := sAst_inv h
  refine ⟨_, List.mem_cons_self .., hF, by simp, by simp, ?_⟩
  intro d0 s0 p e R s m args below meth c T locs hd0 hs0 hh hA X H N hc hl hfr hlo
  simp only [List.length_set] at hc hl hd0 hs0 X H ⊢
  have ho := H.2.2 k _ q2
  rw [ObAt.arr (o := (sid, xs)) hs] at ho
  have ho' := ho
  obtain ⟨cl, Ar, a1, a2, a3⟩ := ho
  have hsz : cl.slots.size = xs.length := by rw [a1]; simp
  have hgs : (frm hz A O m pc (L, (kdOf .boolean, t) :: (0, j) :: (2, .index k) :: S', D, sl)).stack = .int (te A t).1 :: .int v :: .ref (hz.size + k) :: S'.map (vv A O hz.size) := by show _ :: Value.int (te A j).1 :: _ = _; rw [cv_ok hF q1]; rfl
  obtain ⟨T', h', X', e1, W, st⟩ := stZ X hA.1 hA.2.1 rfl Ar (j := v) (fun q => q.elim q3 (fun q => by omega)) (g := frm hz A O m pc (L, (kdOf .boolean, t) :: (0, j) :: (2, .index k) :: S', D, sl)) rfl hgs (hb hA.2.2.1 hd)
  have hval := (nrT_ok (A := A) (O := O) (hz := hz) (ty := .boolean) (by decide) t).1
  subst e1
  have W' : Wr T.heap T'.heap (hz.size + k) v.toNatClampNeg (vv A O hz.size (kdOf .boolean, nrT .boolean t)) := by rw [← hval]; exact W
  refine ⟨T', _, X', ?_, Fr.snoc X' N (Nat.le_add_right _ _), st⟩
  refine H.set q2 W' ?_
  rw [ObAt.arr (o := (sid, _)) hs]
  exact ho'.set W'
/-! objects -/
def sNew (sid kk : Nat) (ds : List SV) (nx : Nat) : Stp := fun F cf => some [(F, nx, (cf.1, (2, .index cf.2.2.1.length) :: cf.2.1, cf.2.2.1 ++ [(sid, ds)], cf.2.2.2 + kk))]
theorem g_new {pc sid kk idx : Nat} {C : String} {fs : List Fi} {ds : List SV} {a0 : Array Value} (hd : decode bytes pc = .ok (.new idx, 3)) (hs : sh[sid]? = some (none, C, kk, fs)) (hso : ShOk Z a0 (none, C, kk, fs)) (hfl : ∀ f ∈ fs, f.2.2.2 ≠ .float) (hds : ds = fs.map fun f => dflt f.2.2.2)
    (w : (Cond.classLink y.cls idx C).before a0 Z = true) (wz : (Cond.initialized C).before a0 Z = true) : Good l Z hz sh A O y bytes maxL ret pc (sNew sid kk ds (pc + 3)) := by
  intro F cf ns h hF
  obtain ⟨L, S, D, sl⟩ := cf
  cases h
  refine ⟨_, List.mem_cons_self .., hF, by simp, by simp, ?_⟩
  intro d0 s0 p e R s m args below meth c T locs hd0 hs0 hh hA X H N hc hl hfr hlo
  simp only [List.length_append, List.length_cons, List.length_nil] at hc hl hd0 hs0 X H ⊢
  have hso1 : (Cond.instantiable C kk).before a0 Z = true := (hso rfl).1
  obtain ⟨T', h', X', e1, E, Ex, Df, -, st⟩ := newO X hA.1 hA.2.1 hA.2.2.2.2.1 w hso1 wz rfl (g := frm hz A O m pc (L, S, D, sl)) rfl (hb hA.2.2.1 hd) (by omega) (by omega)
  have hsz : T'.heap.size = T.heap.size + 1 := grown X' hd0 hh H (by rw [e1]; exact Ex.lt)
  have c1 : D.length + (0 + 1) - d0 = D.length - d0 + 1 := by omega
  have c2 : sl + kk - s0 = sl - s0 + kk := by omega
  refine ⟨T', locs, by rw [c1, c2]; exact X', ?_, N, ?_⟩
  · subst e1
    refine H.push E hsz ?_
    rw [ObAt.cls (o := (sid, ds)) hs]
    refine ⟨Ex, by rw [hds, List.length_map], fun i f x hf hx => ?_⟩
    subst hds
    rw [List.getElem?_map, hf] at hx
    cases hx
    have hm := List.mem_of_getElem? hf
    rw [dflt_ok (hfl f hm)]
    exact Df ((hso rfl).2.1 f hm).1 ((hso rfl).2.1 f hm).2
  · intro target k
    refine st target ?_
    have hi : vv A O hz.size (2, .index D.length) = .ref T.heap.size := by show Value.ref (hz.size + D.length) = _; rw [H.1]
    have k' : Steps p.tables e below (T'.setTop (mkF m (pc + 3) (L.map (sl1 A O hz.size)).toArray (vv A O hz.size (2, .index D.length) :: S.map (vv A O hz.size)))) target := k
    rw [hi] at k'; exact k'
def sGetF (sid i nx : Nat) : Stp := fun F cf => match cf.2.1 with
  | (2, .index k) :: S => (match cf.2.2.1[k]? with
    | some o => bif o.1 == sid then (match o.2[i]? with
      | some x => some [(F, nx, (cf.1, x :: S, cf.2.2))]
      | none => none) else none
    | none => none)
  | _ => none
theorem g_getfield {pc sid i kk idx : Nat} {C R0 host : String} {fs : List Fi} {f : Fi} {a0 : Array Value} (hd : decode bytes pc = .ok (.getfield idx, 3)) (hs : sh[sid]? = some (none, C, kk, fs)) (hi : fs[i]? = some f)
    (w : (Cond.fieldLink y.cls idx R0 f.2.1 f.2.2.1).before a0 Z = true ∨ (Cond.fieldLinkNest y.cls idx R0 f.2.1 f.2.2.1 host).before a0 Z = true) (via : Via Z R0 f.1 f.2.1 f.2.2.1) : Good l Z hz sh A O y bytes maxL ret pc (sGetF sid i (pc + 3)) := by
  intro F cf ns h hF
  obtain ⟨L, S, D, sl⟩ := cf
  simp only [sGetF] at h
  split at h
  · rename_i k S'
    split at h
    · rename_i o q
      obtain ⟨o1, xs⟩ := o
      cases hk : (o1 == sid)
      · rw [hk] at h; cases h
      · rw [hk] at h; obtain rfl := beq_iff_eq.mp hk
        simp only [cond_true] at h
        split at h
        · rename_i x q2; cases h
          refine ⟨_, List.mem_cons_self .., hF, by simp, by simp, ?_⟩
          intro d0 s0 p e R s m args below meth c T locs hd0 hs0 hh hA X H N hc hl hfr hlo
          have ho := H.2.2 k _ q
          rw [ObAt.cls (o := (o1, xs)) hs] at ho
          obtain ⟨T', X', e1, st⟩ := getF X hA.1 hA.2.1 hA.2.2.2.2.1 w via rfl (ho.2.2 i f x hi q2) (g := frm hz A O m pc (L, (2, .index k) :: S', D, sl)) rfl rfl (hb hA.2.2.1 hd)
          exact ⟨T', locs, X', by rw [e1]; exact H, N, st⟩
        · cases h
    · cases h
  · cases h
def sPutF (sid i : Nat) (ty : FieldType) (nx : Nat) : Stp := fun F cf => match cf.2.1 with
  | x :: (2, .index k) :: S => (match cf.2.2.1[k]? with
    | some o => bif (o.1 == sid) && (x.1 == kdOf ty) then some [(F, nx, (cf.1, S, cf.2.2.1.set k (sid, o.2.set i (kdOf ty, nrT ty x.2)), cf.2.2.2))] else none
    | none => none)
  | _ => none
theorem g_putfield {pc sid i kk idx : Nat} {C R0 : String} {fs : List Fi} {f : Fi} {a0 : Array Value} (hd : decode bytes pc = .ok (.putfield idx, 3)) (hs : sh[sid]? = some (none, C, kk, fs)) (hso : ShOk Z a0 (none, C, kk, fs)) (hi : fs[i]? = some f) (hfl : f.2.2.2 ≠ .float)
    (w : (Cond.fieldLink y.cls idx R0 f.2.1 f.2.2.1).before a0 Z = true) (via : Via Z R0 f.1 f.2.1 f.2.2.1)
    (wl : (Cond.lays C f.1 f.2.1 f.2.2.1).before a0 Z = true ∨ ((Cond.laysFinal C f.1 f.2.1 f.2.2.1).before a0 Z = true ∧ y.cls = f.1 ∧ y.name = "<init>")) : Good l Z hz sh A O y bytes maxL ret pc (sPutF sid i f.2.2.2 (pc + 3)) := by
  intro F cf ns h hF
  obtain ⟨L, S, D, sl⟩ := cf
  simp only [sPutF] at h
  split at h
  · rename_i x k S'
    obtain ⟨kx, t⟩ := x
    split at h
    · rename_i o q
      obtain ⟨o1, xs⟩ := o
      cases hk : ((o1 == sid) && (kx == kdOf f.2.2.2))
      · rw [hk] at h; cases h
      · rw [hk] at h; cases h
        simp only [Bool.and_eq_true, beq_iff_eq] at hk
        obtain ⟨rfl, rfl⟩ := hk
        refine ⟨_, List.mem_cons_self .., hF, by simp, by simp, ?_⟩
        intro d0 s0 p e R s m args below meth c T locs hd0 hs0 hh hA X H N hc hl hfr hlo
        simp only [List.length_set] at hc hl hd0 hs0 X H ⊢
        have ho := H.2.2 k _ q
        rw [ObAt.cls (o := (o1, xs)) hs] at ho
        have hlt : i < xs.length := by rw [ho.2.1]; exact (List.getElem?_eq_some_iff.mp hi).1
        have hF0 := ho.2.2 i f xs[i] hi (List.getElem?_eq_getElem hlt)
        obtain ⟨n1, n2⟩ := nrT_ok (A := A) (O := O) (hz := hz) hfl t
        obtain ⟨T', h', X', e1, W, st⟩ := putFN X hA.1 hA.2.1 hA.2.2.2.2.1 w via rfl hF0 ho.1 (wl.imp id fun q => ⟨q.1, q.2.1, hA.2.2.2.2.2.1.trans q.2.2⟩) (hso rfl).1 ((hso rfl).2.1 f (List.mem_of_getElem? hi)).2 n1 n2 (g := frm hz A O m pc (L, (kdOf f.2.2.2, t) :: (2, .index k) :: S', D, sl)) rfl rfl (hb hA.2.2.1 hd)
        subst e1
        refine ⟨T', _, X', ?_, Fr.snoc X' N (Nat.le_add_right _ _), st⟩
        refine H.set q W ?_
        rw [ObAt.cls (o := (o1, _)) hs]
        exact ClOk.set hso ho hi W
    · cases h
  · cases h
/-! ### 6. Methods: entry, return, call -/
def fill : List SV → List SL
  | [] => []
  | x :: xs => match cat x with
    | 2 => some (some x) :: some none :: fill xs
    | _ => some (some x) :: fill xs
def entL (xs : List SV) (mx : Nat) : List SL := fill xs ++ List.replicate (mx - (fill xs).length) none
theorem fill_fold (xs : List SV) : ∀ acc : Array Slot, (xs.map (vv A O hz.size)).foldl (fun acc v => if v.category = 2 then (acc.push (.val v)).push .second else acc.push (.val v)) acc = acc ++ ((fill xs).map (sl1 A O hz.size)).toArray := by
  induction xs with
  | nil => intro acc; simp [fill]
  | cons x xs ih =>
    intro acc
    rw [List.map_cons, List.foldl_cons, ih, vv_cat]
    rw [show fill (x :: xs) = (match cat x with | 2 => some (some x) :: some none :: fill xs | _ => some (some x) :: fill xs) from rfl]
    split
    · rename_i h; simp [h, sl1]
    · rename_i h; simp [h, sl1]
theorem ent_ok (m : MethodId) (xs : List SV) (mx : Nat) (r : List Ob × Nat) : entryFrame m (xs.map (vv A O hz.size)).toArray mx = frm hz A O m 0 (entL xs mx, [], r) := by
  have e : argsToLocals (xs.map (vv A O hz.size)).toArray mx = ((entL xs mx).map (sl1 A O hz.size)).toArray := by
    unfold argsToLocals entL
    have h := fill_fold (A := A) (O := O) (hz := hz) xs #[]
    have h' : (xs.map (vv A O hz.size)).toArray.foldl (init := #[]) (fun acc v => if v.category = 2 then (acc.push (.val v)).push .second else acc.push (.val v)) = ((fill xs).map (sl1 A O hz.size)).toArray := by
      rw [List.foldl_toArray]; rw [h]; simp
    simp only [h']
    simp [sl1]
  show ({ method := m, pc := 0, locals := argsToLocals _ mx, stack := [], locked := none } : JFrame) = _
  rw [e]; rfl
/-- the callee's own walk pays its contract -/
theorem met_of_ret {y' : MethodName} {bytes' : ByteArray} {mx : Nat} {ret' : Option FieldType} (hpl : plainFor y' = true) {fr lo : Nat} {xs : List SV} {D D' : List Ob} {sl sl' : Nat} {v : Option SV} {h : Heap} (H : HD Z hz sh A O h D)
    (K : Ret l Z hz sh A O y' bytes' mx ret' fr lo 0 (entL xs mx, [], D, sl) v D' sl') (ws : List Cond) (rm : Room) (hr : rm = { frames := fr, cells := D'.length - D.length, slots := sl' - sl, locals := lo }) :
    MetFree l y' (head1 (Cond.code y' bytes' mx ret' :: ws) rm)
      (fun a U => a = (xs.map (vv A O hz.size)).toArray ∧ Z.Warmed39 U.vm ∧ U.heap = h) (fun _ _ _ _ _ => True)
      (fun _ U o U' => ∃ w L, o = .returned w ∧ (w = v.map (vv A O hz.size) ∧ HD Z hz sh A O U'.heap D' ∧ Fr hz.size L) ∧ FrameEnd U o U' L rm.cells rm.slots) := by
  refine MetFree.of_bodySF hpl hisR ?_
  intro p e s m args below meth c s₁ Bd hml hP hK
  obtain ⟨rfl, hZ, hh⟩ := hP
  obtain ⟨-, -, k3⟩ := K
  have X0 : Stand p l e rm s m _ below meth c s₁ [] 0 0 := Stand.of_body Bd
  have e0 : s₁.heap = h := by rw [← hh, Bd.state]; rfl
  have hsz : s.heap.size = hz.size + D.length := by rw [hh]; exact H.1
  subst hr
  obtain ⟨s₂, L2, k1, k2, k3, k4, k5, k6, k7⟩ := k3 D.length sl p e _ s m _ below meth c s₁ [] (Nat.le_refl _) (Nat.le_refl _) hsz
    ⟨Bd.exec, hZ, Bd.bytes, hml, findClass_of_methodNamed Bd.named, (name_of_methodNamed Bd.named Bd.method).1, Bd.returns, Bd.notSynchronized⟩
    (by simp only [Nat.sub_self]; exact X0) (by rw [e0]; exact H) (Fr.nil _) (Nat.le_refl _) (Nat.le_refl _) (Nat.le_refl _) (Nat.le_refl _)
  refine ⟨s₂, .returned (v.map (vv A O hz.size)), ?_, k2, k3, _, L2, rfl, ⟨rfl, k4, k5⟩, ⟨_, rfl⟩, k6, k7⟩
  rw [ent_ok m xs mx (D, sl)]; exact k1
abbrev Kl := Nat × Nat × Nat × (List SV → List Ob → Bool)
def wt (S : List SV) : Nat := (S.map cat).sum
theorem wt_ok (S : List SV) : ((S.map (vv A O hz.size)).map fun v => v.category).sum = wt S := by
  unfold wt
  rw [List.map_map]
  congr 1
  exact List.map_congr_left fun x _ => vv_cat A O hz.size x
/-- a call of the method cj (its body's maxLocals: mx) with na operands -/
def CallGood (l : Launch) (Z : State) (hz : Heap) (sh : List Sh) (A : En) (O : Nat → Addr) (y : MethodName) (bytes : ByteArray) (maxL : Nat) (ret : Option FieldType) (y' : MethodName) (bytes' : ByteArray) (mx : Nat) (ret' : Option FieldType) (pc na nx : Nat) (ck : List SV → List Ob → Bool) : Prop :=
  ∀ (L : List SL) (S : List SV) (D : List Ob) (sl fr lo : Nat) (v : Option SV) (D' : List Ob) (sl' : Nat), na ≤ S.length → L.length = maxL → ck (S.take na) D = true → 1 ≤ fr → wt (S.drop na) + (mx + 11) ≤ lo →
    Ret l Z hz sh A O y' bytes' mx ret' (fr - 1) (lo - (wt (S.drop na) + (mx + 11))) 0 (entL (S.take na).reverse mx, [], D, sl) v D' sl' →
    Sim l Z hz sh A O y bytes maxL ret fr lo pc (L, S, D, sl) nx (L, v.toList ++ S.drop na, D', sl')
def RetGood (l : Launch) (Z : State) (hz : Heap) (sh : List Sh) (A : En) (O : Nat → Addr) (y : MethodName) (bytes : ByteArray) (maxL : Nat) (ret : Option FieldType) (pc : Nat) (g : List SV → Option (Option SV)) : Prop :=
  ∀ (L : List SL) (S : List SV) (D : List Ob) (sl fr lo : Nat) (v : Option SV), g S = some v → Ret l Z hz sh A O y bytes maxL ret fr lo pc (L, S, D, sl) v D sl
def rVoid : List SV → Option (Option SV)
  | [] => some none
  | _ => none
def rVal (ty : FieldType) : List SV → Option (Option SV)
  | x :: _ => bif x.1 == kdOf ty then some (some (kdOf ty, nrT ty x.2)) else none
  | _ => none
theorem g_return {pc : Nat} (hd : decode bytes pc = .ok (.return_, 1)) : RetGood l Z hz sh A O y bytes maxL none pc rVoid := by
  intro L S D sl fr lo v h
  unfold rVoid at h
  split at h
  · cases h
    refine ⟨Nat.le_refl _, Nat.le_refl _, ?_⟩
    intro d0 s0 p e R s m args below meth c T locs hd0 hs0 hh hA X H N hc hl hfr hlo
    obtain ⟨fs, hr, hrun, hended, hW, hsame⟩ := X.leave (v := none) (fun _ => rfl) hA.2.2.2.2.2.2.2
    exact ⟨_, locs, X.returnOut hA.1 hA.2.2.2.2.2.2.1 (hb hA.2.2.1 hd) hr, hrun, hended, H, N, hW, hsame⟩
  · cases h
theorem g_ret {pc : Nat} {ty : FieldType} {i : Instr} (hd : decode bytes pc = .ok (i, 1)) (hf : ty ≠ .float) (hi : (i = .ireturn ∧ (ty = .int ∨ ty = .boolean ∨ ty = .byte ∨ ty = .char ∨ ty = .short)) ∨ (i = .lreturn ∧ ty = .long) ∨ (i = .dreturn ∧ ty = .double) ∨ (i = .areturn ∧ ty.isReference = true)) :
    RetGood l Z hz sh A O y bytes maxL (some ty) pc (rVal ty) := by
  intro L S D sl fr lo v h
  unfold rVal at h
  split at h
  · rename_i x S'
    obtain ⟨kx, t⟩ := x
    cases hk : (kx == kdOf ty)
    · rw [hk] at h; cases h
    · rw [hk] at h; obtain rfl := beq_iff_eq.mp hk; cases h
      refine ⟨Nat.le_refl _, Nat.le_refl _, ?_⟩
      intro d0 s0 p e R s m args below meth c T locs hd0 hs0 hh hA X H N hc hl hfr hlo
      have hret : meth.sig.returnType = some ty := hA.2.2.2.2.2.2.1
      obtain ⟨n1, n2⟩ := nrT_ok (A := A) (O := O) (hz := hz) hf t
      obtain ⟨fs, hr, hrun, hended, hW, hsame⟩ := X.leave (v := some (vv A O hz.size (kdOf ty, nrT ty t))) (fun h => by rw [hret] at h; cases h) hA.2.2.2.2.2.2.2
      refine ⟨_, locs, ?_, hrun, hended, H, N, hW, hsame⟩
      show Steps p.tables e below (T.setTop (mkF m pc (L.map (sl1 A O hz.size)).toArray (vv A O hz.size (kdOf ty, t) :: S'.map (vv A O hz.size)))) _
      rw [← n1] at hr
      rcases hi with ⟨rfl, hi⟩ | ⟨rfl, rfl⟩ | ⟨rfl, rfl⟩ | ⟨rfl, hi⟩
      · by_cases hq : ty = .boolean ∨ ty = .byte ∨ ty = .char ∨ ty = .short
        · have e1 : vv A O hz.size (kdOf ty, t) = .int (te A t).1 := by rcases hq with rfl | rfl | rfl | rfl <;> rfl
          have e2 : narrow ty (.int (te A t).1) = .int (nar ty (te A t).1) := by rcases hq with rfl | rfl | rfl | rfl <;> rfl
          rw [e1]; rw [e1, e2] at hr
          exact retN X hA.1 (t := ty) hret hq (hb hA.2.2.1 hd) hr
        · have : ty = .int := by
            rcases hi with q | q | q | q | q
            · exact q
            all_goals exact absurd (by simp [q]) hq
          subst this
          exact retOut X hA.1 hret rfl (Or.inl ⟨rfl, Or.inl rfl, _, rfl⟩) (hb hA.2.2.1 hd) hr
      · exact retOut X hA.1 hret rfl (Or.inr (Or.inl ⟨rfl, rfl, _, rfl⟩)) (hb hA.2.2.1 hd) hr
      · exact retOut X hA.1 hret rfl (Or.inr (Or.inr (Or.inl ⟨rfl, rfl, _, rfl⟩))) (hb hA.2.2.1 hd) hr
      · have hkd : kdOf ty = 2 := by cases ty <;> simp [FieldType.isReference] at hi <;> rfl
        have hn : narrow ty (vv A O hz.size (kdOf ty, t)) = vv A O hz.size (kdOf ty, t) := by
          rw [hkd]; show narrow ty (rf O hz.size t) = rf O hz.size t
          cases ty <;> simp [FieldType.isReference] at hi <;> rcases ref_cases (rf_isRef O hz.size t) with q | ⟨a, q⟩ <;> rw [q] <;> rfl
        rw [hn] at hr
        exact retOut X hA.1 hret hn (Or.inr (Or.inr (Or.inr (Or.inr ⟨rfl, hi, by rw [hkd]; exact rf_isRef _ _ _⟩)))) (hb hA.2.2.1 hd) hr
  · cases h
def ckAny : List SV → List Ob → Bool := fun _ _ => true
/-- the receiver (the deepest operand) is a made object of the shape -/
def ckObj (sid : Nat) : List SV → List Ob → Bool := fun a D => match a.getLast? with
  | some (2, .index k) => (match D[k]? with
    | some o => o.1 == sid
    | none => false)
  | _ => false
theorem ckObj_inv {sid : Nat} {a : List SV} {D : List Ob} (h : ckObj sid a D = true) : ∃ a' k xs, a = a' ++ [(2, .index k)] ∧ D[k]? = some (sid, xs) := by
  unfold ckObj at h
  split at h
  · rename_i k q
    split at h
    · rename_i o q2
      obtain ⟨o1, xs⟩ := o
      obtain rfl := beq_iff_eq.mp h
      obtain ⟨a', rfl⟩ := List.getLast?_eq_some_iff.mp q
      exact ⟨a', k, xs, rfl, q2⟩
    · cases h
  · cases h
section Calls
variable {y' : MethodName} {bytes' : ByteArray} {mx : Nat} {ret' : Option FieldType} {a0 : Array Value}
theorem c_static {pc idx na : Nat} {ps : List FieldType} {r : Option FieldType} (hd : decode bytes pc = .ok (.invokestatic idx, 3)) (hpl : plainFor y' = true) (hdesc : parseMethodDescriptor y'.desc = some ⟨ps, r⟩) (hna : ps.length = na) (hy : y'.cls ≠ "java/lang/invoke/MethodHandle" ∧ y'.cls ≠ "java/lang/invoke/VarHandle")
    (w1 : (Cond.methodLink y.cls idx y').before a0 Z = true) (w2 : (Cond.static y').before a0 Z = true) (w3 : (Cond.initialized y'.cls).before a0 Z = true) (w4 : (Cond.code y' bytes' mx ret').before a0 Z = true) :
    CallGood l Z hz sh A O y bytes maxL ret y' bytes' mx ret' pc na (pc + 3) ckAny := by
  intro L S D sl fr lo v D' sl' h1 h2 h3 h4 h5 K
  have kk := K
  obtain ⟨k1, k2, -⟩ := kk
  refine ⟨k1, k2, ?_⟩
  intro d0 s0 p e R s m args below meth c T locs hd0 hs0 hh hA X H N hc hl hfr hlo
  have k1' : D.length ≤ D'.length := k1
  have k2' : sl ≤ sl' := k2
  have hd0' : d0 ≤ D.length := hd0
  have hs0' : s0 ≤ sl := hs0
  have hc' : D'.length - d0 ≤ R.cells := hc
  have hl' : sl' - s0 ≤ R.slots := hl
  have hM := met_of_ret hpl H K [] { frames := fr - 1, cells := D'.length - D.length, slots := sl' - sl, locals := lo - (wt (S.drop na) + (mx + 11)) } rfl
  obtain ⟨w, vm₁, ⟨T', L', k', n'⟩, -, X', ⟨Lc, ⟨rfl, H', N'⟩, l1, y1, z1⟩, st⟩ := Jvm.LawKit.callS X hA.1 (y := y') hA.2.2.2.2.1 (mvT hA.2.1 w1) (mvT hA.2.1 w2) (mvT hA.2.1 w3) (mvT hA.2.1 w4) hy
    (backOf (W := wt (S.drop na)) (rm := { frames := fr - 1, cells := D'.length - D.length, slots := sl' - sl, locals := lo - (wt (S.drop na) + (mx + 11)) }) (Q := fun w h' L => w = v.map (vv A O hz.size) ∧ HD Z hz sh A O h' D' ∧ Fr hz.size L) hM hA.2.1 w4 w3 (by show fr - 1 + 1 ≤ _; omega) (by show _ + (lo - _) ≤ _; omega)) (g := frm hz A O m pc (L, S, D, sl)) rfl (by show (L.map (sl1 A O hz.size)).toArray.size = _; rw [hA.2.2.2.1, ← h2]; simp)
    (argsL := (S.take na).reverse.map (vv A O hz.size)) (rest := (S.drop na).map (vv A O hz.size)) (lenOf hdesc (by rw [List.length_map, List.length_reverse, List.length_take, hna]; omega))
    (by show S.map (vv A O hz.size) = _; rw [← List.map_reverse, List.reverse_reverse, ← List.map_append, List.take_append_drop]) (by show 2 * 0 + _ ≤ _; rw [wt_ok]; omega) (hb hA.2.2.1 hd)
    (fun _ _ => ⟨rfl, rfl, by show D.length - d0 + (D'.length - D.length) ≤ _; omega, by show sl - s0 + (sl' - sl) ≤ _; omega⟩)
  dsimp only [Pt.U, Pt.locs, Pt.cells, Pt.slots] at X' l1 y1 z1 st H'
  subst l1 y1 z1
  have c1 : D.length - d0 + (D'.length - D.length) = D'.length - d0 := by omega
  have c2 : sl - s0 + (sl' - sl) = sl' - s0 := by omega
  refine ⟨T', _, by rw [← c1, ← c2]; exact X', H', N.app N', fun target k => st target ?_⟩
  have e2 : (v.toList ++ S.drop na).map (vv A O hz.size) = (v.map (vv A O hz.size)).toList ++ (S.drop na).map (vv A O hz.size) := by cases v <;> simp
  have k' : Steps p.tables e below (T'.setTop (mkF m (pc + 3) (L.map (sl1 A O hz.size)).toArray ((v.toList ++ S.drop na).map (vv A O hz.size)))) target := k
  rw [e2] at k'; exact k'
theorem c_init {pc idx na sid : Nat} {ps : List FieldType} {r : Option FieldType} (hd : decode bytes pc = .ok (.invokespecial idx, 3)) (hpl : plainFor y' = true) (hdesc : parseMethodDescriptor y'.desc = some ⟨ps, r⟩) (hna : ps.length + 1 = na) (hy : y'.cls ≠ "java/lang/invoke/MethodHandle" ∧ y'.cls ≠ "java/lang/invoke/VarHandle")
    (w1 : (Cond.methodLink y.cls idx y').before a0 Z = true) (w2 : (Cond.instanceMethod y').before a0 Z = true) (w3 : (Cond.initialized y'.cls).before a0 Z = true) (w4 : (Cond.code y' bytes' mx none).before a0 Z = true) (hn : y'.name = "<init>") :
    CallGood l Z hz sh A O y bytes maxL ret y' bytes' mx none pc na (pc + 3) (ckObj sid) := by
  intro L S D sl fr lo v D' sl' h1 h2 h3 h4 h5 K
  have kk := K
  obtain ⟨k1, k2, -⟩ := kk
  refine ⟨k1, k2, ?_⟩
  intro d0 s0 p e R s m args below meth c T locs hd0 hs0 hh hA X H N hc hl hfr hlo
  have k1' : D.length ≤ D'.length := k1
  have k2' : sl ≤ sl' := k2
  have hd0' : d0 ≤ D.length := hd0
  have hs0' : s0 ≤ sl := hs0
  have hc' : D'.length - d0 ≤ R.cells := hc
  have hl' : sl' - s0 ≤ R.slots := hl
  obtain ⟨a', k, xs, ea, ek⟩ := ckObj_inv h3
  have hM := met_of_ret hpl H K [] { frames := fr - 1, cells := D'.length - D.length, slots := sl' - sl, locals := lo - (wt (S.drop na) + (mx + 11)) } rfl
  have er : (S.take na).reverse.map (vv A O hz.size) = .ref (hz.size + k) :: a'.reverse.map (vv A O hz.size) := by rw [ea]; simp [vv, rf]
  have el : (a'.reverse.map (vv A O hz.size)).length = ps.length := by
    have := congrArg List.length ea
    rw [List.length_take, List.length_append] at this
    simp only [List.length_cons, List.length_nil] at this
    rw [List.length_map, List.length_reverse]; omega
  rw [er] at hM
  have es : S.map (vv A O hz.size) = (a'.reverse.map (vv A O hz.size)).reverse ++ .ref (hz.size + k) :: (S.drop na).map (vv A O hz.size) := by
    conv => lhs; rw [← List.take_append_drop na S, ea]
    simp [vv, rf]

  obtain ⟨w, vm₁, ⟨T', L', k', n'⟩, -, X', ⟨Lc, ⟨rfl, H', N'⟩, l1, y1, z1⟩, st⟩ := X.specialBack hA.1 (y := y') hn hA.2.2.2.2.1 (mvT hA.2.1 w1) (mvT hA.2.1 w2) (mvT hA.2.1 w4) hy
    (backOf (W := wt (S.drop na)) (rm := { frames := fr - 1, cells := D'.length - D.length, slots := sl' - sl, locals := lo - (wt (S.drop na) + (mx + 11)) }) (Q := fun w h' L => w = v.map (vv A O hz.size) ∧ HD Z hz sh A O h' D' ∧ Fr hz.size L) hM hA.2.1 w4 w3 (by show fr - 1 + 1 ≤ _; omega) (by show _ + (lo - _) ≤ _; omega)) (g := frm hz A O m pc (L, S, D, sl)) rfl (by show (L.map (sl1 A O hz.size)).toArray.size = _; rw [hA.2.2.2.1, ← h2]; simp) (Steps.refl _) (a := hz.size + k)
    (argsL := a'.reverse.map (vv A O hz.size)) (rest := (S.drop na).map (vv A O hz.size)) (lenOf hdesc el)
    es (by show 2 * 0 + _ ≤ _; rw [wt_ok]; omega) (hb hA.2.2.1 hd)
    (fun _ _ => ⟨rfl, rfl, by show D.length - d0 + (D'.length - D.length) ≤ _; omega, by show sl - s0 + (sl' - sl) ≤ _; omega⟩)
  dsimp only [Pt.U, Pt.locs, Pt.cells, Pt.slots] at X' l1 y1 z1 st H'
  subst l1 y1 z1
  have c1 : D.length - d0 + (D'.length - D.length) = D'.length - d0 := by omega
  have c2 : sl - s0 + (sl' - sl) = sl' - s0 := by omega
  refine ⟨T', _, by rw [← c1, ← c2]; exact X', H', N.app N', fun target kt => st.trans ?_⟩
  have e2 : (v.toList ++ S.drop na).map (vv A O hz.size) = (v.map (vv A O hz.size)).toList ++ (S.drop na).map (vv A O hz.size) := by cases v <;> simp
  have kt' : Steps p.tables e below (T'.setTop (mkF m (pc + 3) (L.map (sl1 A O hz.size)).toArray ((v.toList ++ S.drop na).map (vv A O hz.size)))) target := kt
  rw [e2] at kt'; exact kt'
theorem c_virtual {pc idx na sid : Nat} {ps : List FieldType} {r : Option FieldType} {C : String} {kk : Nat} {fs : List Fi} (hd : decode bytes pc = .ok (.invokevirtual idx, 3)) (hpl : plainFor y' = true) (hdesc : parseMethodDescriptor y'.desc = some ⟨ps, r⟩) (hna : ps.length + 1 = na) (hy : y'.cls ≠ "java/lang/invoke/MethodHandle" ∧ y'.cls ≠ "java/lang/invoke/VarHandle")
    (w1 : (Cond.methodLink y.cls idx y').before a0 Z = true) (w2 : (Cond.instanceMethod y').before a0 Z = true) (w3 : (Cond.initialized y'.cls).before a0 Z = true) (w4 : (Cond.code y' bytes' mx ret').before a0 Z = true) (hs : sh[sid]? = some (none, C, kk, fs)) (w5 : (Cond.declares y').before a0 Z = true) (w6 : (Cond.selects C y' y').before a0 Z = true) :
    CallGood l Z hz sh A O y bytes maxL ret y' bytes' mx ret' pc na (pc + 3) (ckObj sid) := by
  intro L S D sl fr lo v D' sl' h1 h2 h3 h4 h5 K
  have kk := K
  obtain ⟨k1, k2, -⟩ := kk
  refine ⟨k1, k2, ?_⟩
  intro d0 s0 p e R s m args below meth c T locs hd0 hs0 hh hA X H N hc hl hfr hlo
  have k1' : D.length ≤ D'.length := k1
  have k2' : sl ≤ sl' := k2
  have hd0' : d0 ≤ D.length := hd0
  have hs0' : s0 ≤ sl := hs0
  have hc' : D'.length - d0 ≤ R.cells := hc
  have hl' : sl' - s0 ≤ R.slots := hl
  obtain ⟨a', k, xs, ea, ek⟩ := ckObj_inv h3
  have hM := met_of_ret hpl H K [] { frames := fr - 1, cells := D'.length - D.length, slots := sl' - sl, locals := lo - (wt (S.drop na) + (mx + 11)) } rfl
  have er : (S.take na).reverse.map (vv A O hz.size) = .ref (hz.size + k) :: a'.reverse.map (vv A O hz.size) := by rw [ea]; simp [vv, rf]
  have el : (a'.reverse.map (vv A O hz.size)).length = ps.length := by
    have := congrArg List.length ea
    rw [List.length_take, List.length_append] at this
    simp only [List.length_cons, List.length_nil] at this
    rw [List.length_map, List.length_reverse]; omega
  rw [er] at hM
  have es : S.map (vv A O hz.size) = (a'.reverse.map (vv A O hz.size)).reverse ++ .ref (hz.size + k) :: (S.drop na).map (vv A O hz.size) := by
    conv => lhs; rw [← List.take_append_drop na S, ea]
    simp [vv, rf]
  have ho := H.2.2 k _ ek
  rw [ObAt.cls (o := (sid, xs)) hs] at ho
  obtain ⟨cq, kq, qa, qb, qc⟩ := isOf hA.2.1 rfl ho.1
  obtain ⟨w, vm₁, ⟨T', L', k', n'⟩, -, X', ⟨Lc, ⟨rfl, H', N'⟩, l1, y1, z1⟩, st⟩ := X.virtualBack hA.1 (y := y') (z := y') hA.2.2.2.2.1 (mvT hA.2.1 w1) (mvT hA.2.1 w5) (notFace_of_selects (args := #[]) (mvT hA.2.1 w6)) (mvT hA.2.1 w6) (mvT hA.2.1 w2) hy
    (backOf (W := wt (S.drop na)) (rm := { frames := fr - 1, cells := D'.length - D.length, slots := sl' - sl, locals := lo - (wt (S.drop na) + (mx + 11)) }) (Q := fun w h' L => w = v.map (vv A O hz.size) ∧ HD Z hz sh A O h' D' ∧ Fr hz.size L) hM hA.2.1 w4 w3 (by show fr - 1 + 1 ≤ _; omega) (by show _ + (lo - _) ≤ _; omega)) qa qc (g := frm hz A O m pc (L, S, D, sl)) rfl (by show (L.map (sl1 A O hz.size)).toArray.size = _; rw [hA.2.2.2.1, ← h2]; simp) (Steps.refl _) 
    (argsL := a'.reverse.map (vv A O hz.size)) (rest := (S.drop na).map (vv A O hz.size)) (lenOf hdesc el)
    es (by show 2 * 0 + _ ≤ _; rw [wt_ok]; omega) (hb hA.2.2.1 hd)
    (fun _ _ => ⟨rfl, rfl, by show D.length - d0 + (D'.length - D.length) ≤ _; omega, by show sl - s0 + (sl' - sl) ≤ _; omega⟩)
  dsimp only [Pt.U, Pt.locs, Pt.cells, Pt.slots] at X' l1 y1 z1 st H'
  subst l1 y1 z1
  have c1 : D.length - d0 + (D'.length - D.length) = D'.length - d0 := by omega
  have c2 : sl - s0 + (sl' - sl) = sl' - s0 := by omega
  refine ⟨T', _, by rw [← c1, ← c2]; exact X', H', N.app N', fun target kt => st.trans ?_⟩
  have e2 : (v.toList ++ S.drop na).map (vv A O hz.size) = (v.map (vv A O hz.size)).toList ++ (S.drop na).map (vv A O hz.size) := by cases v <;> simp
  have kt' : Steps p.tables e below (T'.setTop (mkF m (pc + 3) (L.map (sl1 A O hz.size)).toArray ((v.toList ++ S.drop na).map (vv A O hz.size)))) target := kt
  rw [e2] at kt'; exact kt'
theorem c_private {pc idx na sid : Nat} {ps : List FieldType} {r : Option FieldType} {C : String} {kk : Nat} {fs : List Fi} (hd : decode bytes pc = .ok (.invokevirtual idx, 3)) (hpl : plainFor y' = true) (hdesc : parseMethodDescriptor y'.desc = some ⟨ps, r⟩) (hna : ps.length + 1 = na) (hy : y'.cls ≠ "java/lang/invoke/MethodHandle" ∧ y'.cls ≠ "java/lang/invoke/VarHandle")
    (w1 : (Cond.methodLink y.cls idx y').before a0 Z = true) (w2 : (Cond.instanceMethod y').before a0 Z = true) (w3 : (Cond.initialized y'.cls).before a0 Z = true) (w4 : (Cond.code y' bytes' mx ret').before a0 Z = true) (hs : sh[sid]? = some (none, C, kk, fs)) (w5 : (Cond.privateMethod y').before a0 Z = true) (w6 : (Cond.instantiable y'.cls kk).before a0 Z = true) :
    CallGood l Z hz sh A O y bytes maxL ret y' bytes' mx ret' pc na (pc + 3) (ckObj sid) := by
  intro L S D sl fr lo v D' sl' h1 h2 h3 h4 h5 K
  have kk := K
  obtain ⟨k1, k2, -⟩ := kk
  refine ⟨k1, k2, ?_⟩
  intro d0 s0 p e R s m args below meth c T locs hd0 hs0 hh hA X H N hc hl hfr hlo
  have k1' : D.length ≤ D'.length := k1
  have k2' : sl ≤ sl' := k2
  have hd0' : d0 ≤ D.length := hd0
  have hs0' : s0 ≤ sl := hs0
  have hc' : D'.length - d0 ≤ R.cells := hc
  have hl' : sl' - s0 ≤ R.slots := hl
  obtain ⟨a', k, xs, ea, ek⟩ := ckObj_inv h3
  have hM := met_of_ret hpl H K [] { frames := fr - 1, cells := D'.length - D.length, slots := sl' - sl, locals := lo - (wt (S.drop na) + (mx + 11)) } rfl
  have er : (S.take na).reverse.map (vv A O hz.size) = .ref (hz.size + k) :: a'.reverse.map (vv A O hz.size) := by rw [ea]; simp [vv, rf]
  have el : (a'.reverse.map (vv A O hz.size)).length = ps.length := by
    have := congrArg List.length ea
    rw [List.length_take, List.length_append] at this
    simp only [List.length_cons, List.length_nil] at this
    rw [List.length_map, List.length_reverse]; omega
  rw [er] at hM
  have es : S.map (vv A O hz.size) = (a'.reverse.map (vv A O hz.size)).reverse ++ .ref (hz.size + k) :: (S.drop na).map (vv A O hz.size) := by
    conv => lhs; rw [← List.take_append_drop na S, ea]
    simp [vv, rf]
  have ho := H.2.2 k _ ek
  rw [ObAt.cls (o := (sid, xs)) hs] at ho
  obtain ⟨cq, q1, q2⟩ := ho.1.cell
  have w6' : (Cond.instantiable y'.cls kk).before args s = true := mvT hA.2.1 w6
  obtain ⟨ci, ki, i1, i2, i3, i4, -⟩ := Cond.instantiable_spec w6'
  have hpv := Cond.privateMethod_at (mvP hA.2.1 w5 (args := args))
  have hsf : (Cond.selects y'.cls y' y').before args s = true := selects_self_of_private i1 i2 (Bool.or_eq_false_iff.mp i4).1 hpv (mvT hA.2.1 w2) hy
  obtain ⟨w, vm₁, ⟨T', L', k', n'⟩, -, X', ⟨Lc, ⟨rfl, H', N'⟩, l1, y1, z1⟩, st⟩ := X.privateBack hA.1 (y := y') hA.2.2.2.2.1 (mvT hA.2.1 w1) (mvT hA.2.1 w2) hsf hpv (mvT hA.2.1 w4) hy
    (backOf (W := wt (S.drop na)) (rm := { frames := fr - 1, cells := D'.length - D.length, slots := sl' - sl, locals := lo - (wt (S.drop na) + (mx + 11)) }) (Q := fun w h' L => w = v.map (vv A O hz.size) ∧ HD Z hz sh A O h' D' ∧ Fr hz.size L) hM hA.2.1 w4 w3 (by show fr - 1 + 1 ≤ _; omega) (by show _ + (lo - _) ≤ _; omega)) (g := frm hz A O m pc (L, S, D, sl)) rfl (by show (L.map (sl1 A O hz.size)).toArray.size = _; rw [hA.2.2.2.1, ← h2]; simp) (Steps.refl _) (a := hz.size + k) q1 q2
    (argsL := a'.reverse.map (vv A O hz.size)) (rest := (S.drop na).map (vv A O hz.size)) (lenOf hdesc el)
    es (by show 2 * 0 + _ ≤ _; rw [wt_ok]; omega) (hb hA.2.2.1 hd)
    (fun _ _ => ⟨rfl, rfl, by show D.length - d0 + (D'.length - D.length) ≤ _; omega, by show sl - s0 + (sl' - sl) ≤ _; omega⟩)
  dsimp only [Pt.U, Pt.locs, Pt.cells, Pt.slots] at X' l1 y1 z1 st H'
  subst l1 y1 z1
  have c1 : D.length - d0 + (D'.length - D.length) = D'.length - d0 := by omega
  have c2 : sl - s0 + (sl' - sl) = sl' - s0 := by omega
  refine ⟨T', _, by rw [← c1, ← c2]; exact X', H', N.app N', fun target kt => st.trans ?_⟩
  have e2 : (v.toList ++ S.drop na).map (vv A O hz.size) = (v.map (vv A O hz.size)).toList ++ (S.drop na).map (vv A O hz.size) := by cases v <;> simp
  have kt' : Steps p.tables e below (T'.setTop (mkF m (pc + 3) (L.map (sl1 A O hz.size)).toArray ((v.toList ++ S.drop na).map (vv A O hz.size)))) target := kt
  rw [e2] at kt'; exact kt'
end Calls
/-! ### 7. The run -/
/-- a step that asks for room: a native -/
abbrev Stq := Nat → Nat → Stp
def GoodN (l : Launch) (Z : State) (hz : Heap) (sh : List Sh) (A : En) (O : Nat → Addr) (y : MethodName) (bytes : ByteArray) (maxL : Nat) (ret : Option FieldType) (pc : Nat) (f : Stq) : Prop := ∀ fr lo F cf ns, f fr lo F cf = some ns → holds A F → ∃ n ∈ ns, holds A n.1 ∧ Sim l Z hz sh A O y bytes maxL ret fr lo pc cf n.2.1 n.2.2
/-- Object's constructor -/
def sInitO (mx nx : Nat) : Stq := fun fr lo F cf => match cf.2.1 with
  | (2, .index _) :: S => bif Nat.ble 1 fr && (Nat.ble (wt S + 12) lo && Nat.beq cf.1.length mx) then some [(F, nx, (cf.1, S, cf.2.2))] else none
  | _ => none
theorem g_initO {pc idx : Nat} {a0 : Array Value} (hd : decode bytes pc = .ok (.invokespecial idx, 3)) (w1 : (Cond.methodLink y.cls idx Lib.objectInit).before a0 Z = true) (w2 : (Cond.instanceMethod Lib.objectInit).before a0 Z = true) (w3 : (Cond.code Lib.objectInit ⟨#[0xb1]⟩ 1 none).before a0 Z = true) :
    GoodN l Z hz sh A O y bytes maxL ret pc (sInitO maxL (pc + 3)) := by
  intro fr lo F cf ns h hF
  obtain ⟨L, S, D, sl⟩ := cf
  simp only [sInitO] at h
  split at h
  · rename_i k S'
    cases hk : (Nat.ble 1 fr && (Nat.ble (wt S' + 12) lo && Nat.beq L.length maxL))
    · rw [hk] at h; cases h
    · rw [hk] at h; cases h
      simp only [Bool.and_eq_true] at hk
      have c1 := Nat.le_of_ble_eq_true hk.1
      have c2 := Nat.le_of_ble_eq_true hk.2.1
      have c3 := Nat.eq_of_beq_eq_true hk.2.2
      refine ⟨_, List.mem_cons_self .., hF, Nat.le_refl _, Nat.le_refl _, ?_⟩
      intro d0 s0 p e R s m args below meth c T locs hd0 hs0 hh hA X H N hc hl hfr hlo
      obtain ⟨T', X', e1, st⟩ := initO X hA.1 hA.2.1 hA.2.2.2.2.1 w1 w2 w3 rfl (g := frm hz A O m pc (L, (2, .index k) :: S', D, sl)) rfl (by show (L.map (sl1 A O hz.size)).toArray.size = _; rw [hA.2.2.2.1, ← c3]; simp) (a := hz.size + k) (rest := S'.map (vv A O hz.size)) rfl (hb hA.2.2.1 hd) (by omega) (W := wt S') (by show 2 * 0 + _ ≤ _; rw [wt_ok]; omega) (by omega)
      exact ⟨T', locs, X', by rw [e1]; exact H, N, st⟩
  · cases h
/-- the law's own run from here on returns 1 within the frame's figures -/
def Top (l : Launch) (Z : State) (hz : Heap) (sh : List Sh) (A : En) (O : Nat → Addr) (y : MethodName) (bytes : ByteArray) (maxL : Nat) (ret : Option FieldType) (C N fr lo pc : Nat) (cf : Cf) : Prop :=
  cf.2.2.1.length ≤ C ∧ cf.2.2.2 ≤ N ∧
  ∀ (p : Program) (e : Env) (R : Room) (s : State) (m : MethodId) (args : Array Value) (below : List Frame) (meth : Method) (c : Code) (T : State) (locs : List Loc),
    s.heap.size = hz.size → Act Z y bytes maxL ret p s m meth c → Stand p l e R s m args below meth c T locs cf.2.2.1.length cf.2.2.2 → HD Z hz sh A O T.heap cf.2.2.1 → Fr hz.size locs →
    C ≤ R.cells → N ≤ R.slots → fr ≤ R.frames → lo ≤ R.locals →
    ∃ s₂ locs', Steps p.tables e below (T.setTop (frm hz A O m pc cf)) s₂ ∧ s₂.status = .running ∧ Ended s₂ below (.returned (some (.int 1))) ∧ Fr hz.size locs' ∧
      s.WarmedH s₂.vm ∧ s.sameButNew ({ s₂ with vm := s.vm } : State) locs' C N
theorem Sim.top {fr lo C N pc pc' : Nat} {cf cf' : Cf} (S : Sim l Z hz sh A O y bytes maxL ret fr lo pc cf pc' cf') (K : Top l Z hz sh A O y bytes maxL ret C N fr lo pc' cf') : Top l Z hz sh A O y bytes maxL ret C N fr lo pc cf := by
  obtain ⟨s1, s2, s3⟩ := S
  obtain ⟨k1, k2, k3⟩ := K
  refine ⟨Nat.le_trans s1 k1, Nat.le_trans s2 k2, ?_⟩
  intro p e R s m args below meth c T locs hh hA X H N' hc hl hf hlo
  obtain ⟨T', locs', X', H', N'', st⟩ := s3 0 0 p e R s m args below meth c T locs (Nat.zero_le _) (Nat.zero_le _) hh hA X H N' (by rw [Nat.sub_zero]; omega) (by rw [Nat.sub_zero]; omega) hf hlo
  obtain ⟨s₂, L2, q1, q2⟩ := k3 p e R s m args below meth c T' locs' hh hA X' H' N'' hc hl hf hlo
  exact ⟨s₂, L2, st _ q1, q2⟩
theorem Top.mono {fr lo fr' lo' C N pc : Nat} {cf : Cf} (K : Top l Z hz sh A O y bytes maxL ret C N fr lo pc cf) (h1 : fr ≤ fr') (h2 : lo ≤ lo') : Top l Z hz sh A O y bytes maxL ret C N fr' lo' pc cf := by
  obtain ⟨k1, k2, k3⟩ := K
  refine ⟨k1, k2, ?_⟩
  intro p e R s m args below meth c T locs hh hA X H N' hc hl hf hlo
  exact k3 p e R s m args below meth c T locs hh hA X H N' hc hl (Nat.le_trans h1 hf) (Nat.le_trans h2 hlo)
theorem Ret.top {fr lo C N pc : Nat} {cf : Cf} {v : Option SV} {D' : List Ob} {sl' : Nat} (K : Ret l Z hz sh A O y bytes maxL ret fr lo pc cf v D' sl') (hv : v.map (vv A O hz.size) = some (.int 1)) (h1 : D'.length ≤ C) (h2 : sl' ≤ N) : Top l Z hz sh A O y bytes maxL ret C N fr lo pc cf := by
  obtain ⟨k1, k2, k3⟩ := K
  refine ⟨Nat.le_trans k1 h1, Nat.le_trans k2 h2, ?_⟩
  intro p e R s m args below meth c T locs hh hA X H N' hc hl hf hlo
  obtain ⟨s₂, L2, q1, q2, q3, q4, q5, q6, q7⟩ := k3 0 0 p e R s m args below meth c T locs (Nat.zero_le _) (Nat.zero_le _) hh hA X H N' (by rw [Nat.sub_zero]; omega) (by rw [Nat.sub_zero]; omega) hf hlo
  rw [hv] at q3
  exact ⟨s₂, L2, q1, q2, q3, q5, q6, q7.mono h1 h2⟩
end SimLaws
/-! a cut: the values in some locals are taken for new unknowns -/
def sub (σ : List Term) : Term → Term
  | .arg i => σ.getD i (.arg i)
  | .add a b => .add (sub σ a) (sub σ b)
  | .sub a b => .sub (sub σ a) (sub σ b)
  | .mul a b => .mul (sub σ a) (sub σ b)
  | .div a b => .div (sub σ a) (sub σ b)
  | .rem a b => .rem (sub σ a) (sub σ b)
  | .op2 o a b => .op2 o (sub σ a) (sub σ b)
  | .op1 o a => .op1 o (sub σ a)
  | t => t
def env' (A : En) (σ : List Term) : En := fun i => te A (σ.getD i (.arg i))
theorem te_sub (A : En) (σ : List Term) (t : Term) : te A (sub σ t) = te (env' A σ) t := by
  induction t <;> simp_all [sub, te, env']
def vq (σ : List Term) (x0 x : SV) : Bool := Nat.beq x0.1 x.1 && (match x0.1 with
  | 2 => tq x0.2 x.2
  | _ => tq (sub σ x0.2) x.2)
def vqs (σ : List Term) : List SV → List SV → Bool
  | [], [] => true
  | x :: xs, z :: zs => vq σ x z && vqs σ xs zs
  | _, _ => false
def lqs (σ : List Term) : List SL → List SL → Bool
  | [], [] => true
  | x :: xs, z :: zs => (match x, z with
    | none, none => true
    | some none, some none => true
    | some (some a), some (some b) => vq σ a b
    | _, _ => false) && lqs σ xs zs
  | _, _ => false
def oqs (σ : List Term) : List Ob → List Ob → Bool
  | [], [] => true
  | x :: xs, z :: zs => (Nat.beq x.1 z.1 && vqs σ x.2 z.2) && oqs σ xs zs
  | _, _ => false
def cfq (σ : List Term) (c0 c : Cf) : Bool := lqs σ c0.1 c.1 && (vqs σ c0.2.1 c.2.1 && (oqs σ c0.2.2.1 c.2.2.1 && Nat.beq c0.2.2.2 c.2.2.2))
theorem vq_ok {A : En} {O : Nat → Addr} {n0 : Nat} {σ : List Term} {x0 x : SV} (h : vq σ x0 x = true) : vv A O n0 x = vv (env' A σ) O n0 x0 := by
  obtain ⟨k0, t0⟩ := x0
  obtain ⟨k, t⟩ := x
  simp only [vq, Bool.and_eq_true] at h
  obtain ⟨h1, h2⟩ := h
  obtain rfl := Nat.eq_of_beq_eq_true h1
  by_cases q : k0 = 2
  · subst q
    simp only at h2
    obtain rfl := tq_eq h2; rfl
  · have h3 : sub σ t0 = t := by
      split at h2
      · exact absurd rfl q
      · exact tq_eq h2
    subst h3
    unfold vv
    simp only
    split
    · rw [te_sub]
    · rw [te_sub]
    · exact absurd rfl q
    · rw [te_sub]
theorem vqs_ok {A : En} {O : Nat → Addr} {n0 : Nat} {σ : List Term} : ∀ {xs zs : List SV}, vqs σ xs zs = true → zs.map (vv A O n0) = xs.map (vv (env' A σ) O n0)
  | [], [], _ => rfl
  | x :: xs, z :: zs, h => by
    simp only [vqs, Bool.and_eq_true] at h
    rw [List.map_cons, List.map_cons, vq_ok h.1, vqs_ok h.2]
  | [], _ :: _, h => by cases h
  | _ :: _, [], h => by cases h
theorem lqs_ok {A : En} {O : Nat → Addr} {n0 : Nat} {σ : List Term} : ∀ {xs zs : List SL}, lqs σ xs zs = true → zs.map (sl1 A O n0) = xs.map (sl1 (env' A σ) O n0)
  | [], [], _ => rfl
  | x :: xs, z :: zs, h => by
    simp only [lqs, Bool.and_eq_true] at h
    rw [List.map_cons, List.map_cons, lqs_ok h.2]
    congr 1
    have h1 := h.1
    match x, z, h1 with
    | none, none, _ => rfl
    | some none, some none, _ => rfl
    | some (some a), some (some b), h1 => exact congrArg Slot.val (vq_ok h1)
  | [], _ :: _, h => by cases h
  | _ :: _, [], h => by cases h
theorem oqs_ok {σ : List Term} : ∀ {xs zs : List Ob}, oqs σ xs zs = true → zs.length = xs.length ∧ ∀ (k : Nat) (o : Ob), xs[k]? = some o → ∃ ys, zs[k]? = some (o.1, ys) ∧ vqs σ o.2 ys = true
  | [], [], _ => ⟨rfl, fun k o h => by simp at h⟩
  | x :: xs, z :: zs, h => by
    simp only [oqs, Bool.and_eq_true] at h
    obtain ⟨i1, i2⟩ := oqs_ok h.2
    refine ⟨by simp [i1], fun k o hk => ?_⟩
    cases k with
    | zero =>
      simp only [List.getElem?_cons_zero, Option.some.injEq] at hk ⊢
      subst hk
      exact ⟨z.2, by rw [Nat.eq_of_beq_eq_true h.1.1], h.1.2⟩
    | succ k => simpa using i2 k o (by simpa using hk)
  | [], _ :: _, h => by cases h
  | _ :: _, [], h => by cases h
theorem ObAt.sub {Z : State} {hz : Heap} {sh : List Sh} {A : En} {O : Nat → Addr} {σ : List Term} {h : Heap} {a : Addr} {n : Nat} {xs ys : List SV} (q : vqs σ xs ys = true) (X : ObAt Z hz sh A O h a (n, ys)) : ObAt Z hz sh (env' A σ) O h a (n, xs) := by
  have e := vqs_ok (A := A) (O := O) (n0 := hz.size) q
  have el : ys.length = xs.length := by simpa using congrArg List.length e
  unfold ObAt at X ⊢
  split
  · rename_i q2; rw [q2] at X; obtain ⟨cl, h1, h2, h3, h4⟩ := X; exact ⟨cl, h1, by rw [h2]; simp only; rw [e], by simp only; rw [← el]; exact h3, h4⟩
  · rename_i q2; rw [q2] at X
    obtain ⟨x1, x2, x3⟩ := X
    refine ⟨x1, el.symm.trans x2, fun i f x hf hx => ?_⟩
    simp only at hx x3
    have hi : i < ys.length := by rw [el]; exact (List.getElem?_eq_some_iff.mp hx).1
    have := x3 i f ys[i] hf (List.getElem?_eq_getElem hi)
    have e2 : vv A O hz.size ys[i] = vv (env' A σ) O hz.size x := by
      have := congrArg (fun L => L[i]?) e
      simp only [List.getElem?_map, hx, List.getElem?_eq_getElem hi, Option.map_some] at this
      exact Option.some.inj this
    rw [e2] at this; exact this
  · rename_i q2; rw [q2] at X; exact X
theorem HD.sub {Z : State} {hz : Heap} {sh : List Sh} {A : En} {O : Nat → Addr} {σ : List Term} {h : Heap} {D0 D : List Ob} (q : oqs σ D0 D = true) (H : HD Z hz sh A O h D) : HD Z hz sh (env' A σ) O h D0 := by
  obtain ⟨i1, i2⟩ := oqs_ok q
  refine ⟨by rw [H.1, i1], H.2.1, fun k o hk => ?_⟩
  obtain ⟨ys, e1, e2⟩ := i2 k o hk
  exact ObAt.sub e2 (H.2.2 k _ e1)
theorem Top.sub {l : Launch} {Z : State} {hz : Heap} {sh : List Sh} {A : En} {O : Nat → Addr} {y : MethodName} {bytes : ByteArray} {maxL : Nat} {ret : Option FieldType} {σ : List Term} {C N fr lo pc : Nat} {c0 c : Cf} (q : cfq σ c0 c = true) (K : Top l Z hz sh (env' A σ) O y bytes maxL ret C N fr lo pc c0) : Top l Z hz sh A O y bytes maxL ret C N fr lo pc c := by
  simp only [cfq, Bool.and_eq_true] at q
  obtain ⟨q1, q2, q3, q4⟩ := q
  have e4 := Nat.eq_of_beq_eq_true q4
  have e3 := (oqs_ok q3).1
  obtain ⟨k1, k2, k3⟩ := K
  refine ⟨by rw [e3]; exact k1, by rw [← e4]; exact k2, ?_⟩
  intro p e R s m args below meth cc T locs hh hA X H N' hc hl hf hlo
  have ef : frm hz A O m pc c = frm hz (env' A σ) O m pc c0 := by unfold frm; rw [lqs_ok q1, vqs_ok q2]
  rw [ef]
  exact k3 p e R s m args below meth cc T locs hh hA (by rw [← e3, e4]; exact X) (HD.sub q3 H) N' hc hl hf hlo
/-- the terms that stand in some locals -/
def pick (L : List SL) : List Nat → List Term
  | [] => []
  | k :: ks => (match L[k]? with
    | some (some (some x)) => x.2
    | _ => .null) :: pick L ks
def allDec (F : List Cond) (σ : List Term) : List Cond → Bool
  | [] => true
  | c :: cs => (match c with
    | .eq a b => (match dec F (.eq (sub σ a) (sub σ b)) with
      | some true => true
      | _ => false)
    | .lt a b => (match dec F (.lt (sub σ a) (sub σ b)) with
      | some true => true
      | _ => false)
    | .not (.eq a b) => (match dec F (.eq (sub σ a) (sub σ b)) with
      | some false => true
      | _ => false)
    | .not (.lt a b) => (match dec F (.lt (sub σ a) (sub σ b)) with
      | some false => true
      | _ => false)
    | _ => false) && allDec F σ cs
theorem allDec_ok {A : En} {F : List Cond} {σ : List Term} (hF : holds A F) : ∀ {cs : List Cond}, allDec F σ cs = true → holds (env' A σ) cs
  | [], _ => fun _ h => nomatch h
  | c :: cs, h => by
    simp only [allDec, Bool.and_eq_true] at h
    refine holds_cons ?_ (allDec_ok hF h.2)
    have h1 := h.1
    split at h1
    · rename_i a b
      split at h1
      · rename_i q; have := (dec_ok hF q).mpr rfl; simpa only [hold, te_sub] using this
      · cases h1
    · rename_i a b
      split at h1
      · rename_i q; have := (dec_ok hF q).mpr rfl; simpa only [hold, te_sub] using this
      · cases h1
    · rename_i a b
      split at h1
      · rename_i q; have this : ¬ _ := fun x => nomatch (dec_ok hF q).mp x; simpa only [hold, te_sub] using this
      · cases h1
    · rename_i a b
      split at h1
      · rename_i q; have this : ¬ _ := fun x => nomatch (dec_ok hF q).mp x; simpa only [hold, te_sub] using this
      · cases h1
    · cases h1
/-- a cut: least room, the state there over new unknowns, the locals that name them, the facts asked of them -/
abbrev Ct := Nat × Nat × Cf × List Nat × List Cond
def atCut (k : Ct) (fr lo : Nat) (F : List Cond) (cf : Cf) : Bool := Nat.ble k.1 fr && (Nat.ble k.2.1 lo && (cfq (pick cf.1 k.2.2.2.1) k.2.2.1 cf && allDec F (pick cf.1 k.2.2.2.1) k.2.2.2.2))
abbrev Rt := List SV → Option (Option SV)
abbrev Ki := Stp ⊕ (Kl ⊕ (Rt ⊕ (Stq ⊕ Ct)))
abbrev El := Nat × Ki
abbrev Mt := Nat × List El
abbrev Fm := Nat × List El × List SL × List SV × Nat × Nat
abbrev Pd := List Cond × Option SV
abbrev St := Nat × List El × Cf × List Cond × Nat × Nat × List Fm
def kS (f : Stp) : Ki := .inl f
def kC (cj na nx : Nat) (ck : List SV → List Ob → Bool) : Ki := .inr (.inl (cj, na, nx, ck))
def kR (g : Rt) : Ki := .inr (.inr (.inl g))
def kN (f : Stq) : Ki := .inr (.inr (.inr (.inl f)))
def kX (k : Ct) : Ki := .inr (.inr (.inr (.inr k)))
def seekF : List El → Nat → List El
  | [], _ => []
  | el :: r, pc => bif Nat.beq el.1 pc then el :: r else seekF r pc
def seek (M : List Mt) (j : Nat) (tl : List El) (pc : Nat) : List El := match tl with
  | [] => (match M[j]? with
    | some m => seekF m.2 pc
    | none => [])
  | el :: r => bif Nat.beq el.1 pc then el :: r else (match M[j]? with
    | some m => seekF m.2 pc
    | none => [])
def coll (g : Nx → Option (List Pd)) : List Nx → Option (List Pd)
  | [] => some []
  | [n] => g n
  | n :: ns => match g n with
    | none => none
    | some a => match coll g ns with
      | none => none
      | some b => some (a ++ b)
def isOne : Option SV → Bool
  | some (0, .int x) => x == 1
  | _ => false
def leaf (C N : Nat) (F : List Cond) (v : Option SV) (r : List Ob × Nat) : Option (List Pd) :=
  bif Nat.ble r.1.length C && Nat.ble r.2 N then (bif isOne v then some [] else some [(F, v)]) else none
def body (M : List Mt) (C N : Nat) (ih : St → Option (List Pd)) (st : St) : Option (List Pd) := match st with
  | (j, rem, cf, F, fr, lo, stk) => match rem with
    | [] => none
    | el :: tl => match el.2 with
      | .inl f => (match f F cf with
        | none => some [(F, none)]
        | some ns => coll (fun n => ih (j, seek M j tl n.2.1, n.2.2, n.1, fr, lo, stk)) ns)
      | .inr (.inl k) => (match M[k.1]? with
        | none => none
        | some m => (match M[j]? with
          | none => none
          | some mj => bif Nat.ble k.2.1 cf.2.1.length && (Nat.beq cf.1.length mj.1 && (k.2.2.2 (cf.2.1.take k.2.1) cf.2.2.1 && (Nat.ble 1 fr && Nat.ble (wt (cf.2.1.drop k.2.1) + (m.1 + 11)) lo))) then
              ih (k.1, m.2, (entL (cf.2.1.take k.2.1).reverse m.1, [], cf.2.2), F, fr - 1, lo - (wt (cf.2.1.drop k.2.1) + (m.1 + 11)), (j, seek M j tl k.2.2.1, cf.1, cf.2.1.drop k.2.1, fr, lo) :: stk)
            else some [(F, none)]))
      | .inr (.inr (.inl g)) => (match g cf.2.1 with
        | none => some [(F, none)]
        | some v => (match stk with
          | [] => leaf C N F v cf.2.2
          | fm :: stk' => ih (fm.1, fm.2.1, (fm.2.2.1, v.toList ++ fm.2.2.2.1, cf.2.2), F, fm.2.2.2.2.1, fm.2.2.2.2.2, stk')))
      | .inr (.inr (.inr (.inl f))) => (match f fr lo F cf with
        | none => some [(F, none)]
        | some ns => coll (fun n => ih (j, seek M j tl n.2.1, n.2.2, n.1, fr, lo, stk)) ns)
      | .inr (.inr (.inr (.inr k))) => (match stk with
        | [] => bif atCut k fr lo F cf then some [] else some [(F, none)]
        | _ => some [(F, none)])
def xgo (M : List Mt) (C N : Nat) : Nat → St → Option (List Pd)
  | 0, _ => none
  | n + 1, st => body M C N (xgo M C N n) st
theorem xgo_succ (M : List Mt) (C N n : Nat) (st : St) : xgo M C N (n + 1) st = body M C N (xgo M C N n) st := rfl
def cont (M : List Mt) (C N n : Nat) (stk : List Fm) (F : List Cond) (v : Option SV) (r : List Ob × Nat) : Option (List Pd) := match stk with
  | [] => leaf C N F v r
  | fm :: stk' => xgo M C N n (fm.1, fm.2.1, (fm.2.2.1, v.toList ++ fm.2.2.2.1, r), F, fm.2.2.2.2.1, fm.2.2.2.2.2, stk')
theorem coll_mem {g : Nx → Option (List Pd)} : ∀ {ns : List Nx} {P : List Pd} {n : Nx}, coll g ns = some P → n ∈ ns → ∃ P', g n = some P' ∧ ∀ q ∈ P', q ∈ P
  | [], P, n, _, hn => nomatch hn
  | [m], P, n, h, hn => by
    rcases List.mem_singleton.mp hn with rfl
    exact ⟨P, h, fun _ q => q⟩
  | m :: k :: ns, P, n, h, hn => by
    simp only [coll] at h
    cases hg : g m with
    | none => rw [hg] at h; cases h
    | some a =>
      rw [hg] at h
      simp only at h
      cases hc : coll g (k :: ns) with
      | none => rw [hc] at h; cases h
      | some b =>
        rw [hc] at h; cases h
        rcases List.mem_cons.mp hn with rfl | hn
        · exact ⟨a, hg, fun q hq => List.mem_append_left _ hq⟩
        · obtain ⟨P', h1, h2⟩ := coll_mem hc hn
          exact ⟨P', h1, fun q hq => List.mem_append_right _ (h2 q hq)⟩
theorem seekF_ok {code : List El} {pc : Nat} : (∀ el ∈ seekF code pc, el ∈ code) ∧ ∀ el tl, seekF code pc = el :: tl → el.1 = pc := by
  induction code with
  | nil => exact ⟨fun _ h => h, fun _ _ h => by cases h⟩
  | cons e r ih =>
    unfold seekF
    cases q : Nat.beq e.1 pc
    · exact ⟨fun el h => List.mem_cons_of_mem _ (ih.1 el h), ih.2⟩
    · refine ⟨fun _ h => h, fun el tl h => ?_⟩
      cases h; exact Nat.eq_of_beq_eq_true q
theorem seek_ok {M : List Mt} {j mx pc : Nat} {code tl : List El} (hM : M[j]? = some (mx, code)) (ht : ∀ el ∈ tl, el ∈ code) : (∀ el ∈ seek M j tl pc, el ∈ code) ∧ ∀ el tl', seek M j tl pc = el :: tl' → el.1 = pc := by
  unfold seek
  rw [hM]
  split
  · exact seekF_ok
  · rename_i e r
    cases q : Nat.beq e.1 pc
    · exact seekF_ok
    · refine ⟨ht, fun el tl h => ?_⟩
      cases h; exact Nat.eq_of_beq_eq_true q
section Run
variable {l : Launch} {Z : State} {hz : Heap} {sh : List Sh} {A : En} {O : Nat → Addr}
def ElOk (l : Launch) (Z : State) (hz : Heap) (sh : List Sh) (A : En) (O : Nat → Addr) (C N : Nat) (M : List Mt) (MI : Nat → MethodName × ByteArray × Option FieldType) (j mx : Nat) (el : El) : Prop := match el.2 with
  | .inl f => Good l Z hz sh A O (MI j).1 (MI j).2.1 mx (MI j).2.2 el.1 f
  | .inr (.inl k) => ∀ m, M[k.1]? = some m → CallGood l Z hz sh A O (MI j).1 (MI j).2.1 mx (MI j).2.2 (MI k.1).1 (MI k.1).2.1 m.1 (MI k.1).2.2 el.1 k.2.1 k.2.2.1 k.2.2.2
  | .inr (.inr (.inl g)) => RetGood l Z hz sh A O (MI j).1 (MI j).2.1 mx (MI j).2.2 el.1 g
  | .inr (.inr (.inr (.inl f))) => GoodN l Z hz sh A O (MI j).1 (MI j).2.1 mx (MI j).2.2 el.1 f
  | .inr (.inr (.inr (.inr k))) => ∀ A' : En, holds A' k.2.2.2.2 → Top l Z hz sh A' O (MI j).1 (MI j).2.1 mx (MI j).2.2 C N k.1 k.2.1 el.1 k.2.2.1
def MtOk (l : Launch) (Z : State) (hz : Heap) (sh : List Sh) (A : En) (O : Nat → Addr) (C N : Nat) (M : List Mt) (MI : Nat → MethodName × ByteArray × Option FieldType) : Prop := ∀ j mx code, M[j]? = some (mx, code) → (∀ el ∈ code, ElOk l Z hz sh A O C N M MI j mx el) ∧ ∀ el tl, code = el :: tl → el.1 = 0
theorem run_ok {M : List Mt} {C N : Nat} {MI : Nat → MethodName × ByteArray × Option FieldType} (hM : MtOk l Z hz sh A O C N M MI) : ∀ (n : Nat) (j : Nat) (rem : List El) (cf : Cf) (F : List Cond) (fr lo : Nat) (stk : List Fm) (P : List Pd) (mx : Nat) (code : List El),
    xgo M C N n (j, rem, cf, F, fr, lo, stk) = some P → holds A F → (∀ q ∈ P, q.2 = none → ¬ holds A q.1) → M[j]? = some (mx, code) → (∀ el ∈ rem, el ∈ code) →
    ∃ el tl, rem = el :: tl ∧ ((∃ k, k < n ∧ ∃ F' v D' sl' P', holds A F' ∧ cont M C N k stk F' v (D', sl') = some P' ∧ (∀ q ∈ P', q ∈ P) ∧ Ret l Z hz sh A O (MI j).1 (MI j).2.1 mx (MI j).2.2 fr lo el.1 cf v D' sl')
      ∨ (stk = [] ∧ Top l Z hz sh A O (MI j).1 (MI j).2.1 mx (MI j).2.2 C N fr lo el.1 cf)) := by
  intro n
  induction n using Nat.strongRecOn with
  | ind n IH =>
    intro j rem cf F fr lo stk P mx code h hF hP hj hr
    cases n with
    | zero => cases h
    | succ n =>
      rw [xgo_succ] at h
      unfold body at h
      cases rem with
      | nil => cases h
      | cons el tl =>
        refine ⟨el, tl, rfl, ?_⟩
        have hel := (hM j mx code hj).1 el (hr el (List.mem_cons_self ..))
        have htl : ∀ e ∈ tl, e ∈ code := fun e he => hr e (List.mem_cons_of_mem _ he)
        have step : ∀ (ns : List Nx) (pc : Nat), coll (fun n' => xgo M C N n (j, seek M j tl n'.2.1, n'.2.2, n'.1, fr, lo, stk)) ns = some P → (∃ nx ∈ ns, holds A nx.1 ∧ Sim l Z hz sh A O (MI j).1 (MI j).2.1 mx (MI j).2.2 fr lo pc cf nx.2.1 nx.2.2) →
            ((∃ k, k < n + 1 ∧ ∃ F' v D' sl' P', holds A F' ∧ cont M C N k stk F' v (D', sl') = some P' ∧ (∀ q ∈ P', q ∈ P) ∧ Ret l Z hz sh A O (MI j).1 (MI j).2.1 mx (MI j).2.2 fr lo pc cf v D' sl')
              ∨ (stk = [] ∧ Top l Z hz sh A O (MI j).1 (MI j).2.1 mx (MI j).2.2 C N fr lo pc cf)) := by
          intro ns pc h ⟨nx, hn, hG, hS⟩
          obtain ⟨P1, g1, g2⟩ := coll_mem h hn
          obtain ⟨k1, k2⟩ := seek_ok (pc := nx.2.1) hj htl
          obtain ⟨el', tl', er, a⟩ := IH n (Nat.lt_succ_self n) j _ nx.2.2 nx.1 fr lo stk P1 mx code g1 hG (fun q hq => hP q (g2 q hq)) hj k1
          rw [k2 el' tl' er] at a
          rcases a with ⟨k, hk, F', v, D', sl', P', a1, a2, a3, a4⟩ | ⟨a1, a2⟩
          · exact Or.inl ⟨k, Nat.lt_succ_of_lt hk, F', v, D', sl', P', a1, a2, fun q hq => g2 q (a3 q hq), hS.thenRet a4⟩
          · exact Or.inr ⟨a1, hS.top a2⟩
        obtain ⟨pc, kind⟩ := el
        simp only at h
        cases kind with
        | inl f =>
          simp only at h
          have hgood : Good l Z hz sh A O (MI j).1 (MI j).2.1 mx (MI j).2.2 pc f := hel
          cases hf : f F cf with
          | none =>
            rw [hf] at h; cases h
            exact absurd hF (hP (F, none) (List.mem_cons_self ..) rfl)
          | some ns =>
            rw [hf] at h
            simp only at h
            obtain ⟨nx, hn, hG, hS⟩ := hgood F cf ns hf hF
            exact step ns pc h ⟨nx, hn, hG, hS.mono (Nat.zero_le _) (Nat.zero_le _)⟩
        | inr kind =>
          cases kind with
          | inl kl =>
            simp only at h
            have hcall : ∀ m, M[kl.1]? = some m → CallGood l Z hz sh A O (MI j).1 (MI j).2.1 mx (MI j).2.2 (MI kl.1).1 (MI kl.1).2.1 m.1 (MI kl.1).2.2 pc kl.2.1 kl.2.2.1 kl.2.2.2 := hel
            obtain ⟨cj, na, nx, ck⟩ := kl
            obtain ⟨L, S, D, sl⟩ := cf
            simp only at h hcall
            cases hm : M[cj]? with
            | none => rw [hm] at h; cases h
            | some m =>
              obtain ⟨mx', code'⟩ := m
              rw [hm, hj] at h
              simp only at h
              cases hc : (Nat.ble na S.length && (Nat.beq L.length mx && (ck (S.take na) D && (Nat.ble 1 fr && Nat.ble (wt (S.drop na) + (mx' + 11)) lo))))
              · rw [hc] at h; cases h
                exact absurd hF (hP (F, none) (List.mem_cons_self ..) rfl)
              · rw [hc] at h
                simp only [Bool.and_eq_true] at hc
                obtain ⟨c1, c2, c3, c4, c5⟩ := hc
                have c1 := Nat.le_of_ble_eq_true c1
                have c2 := Nat.eq_of_beq_eq_true c2
                have c4 := Nat.le_of_ble_eq_true c4
                have c5 := Nat.le_of_ble_eq_true c5
                simp only [cond_true] at h
                obtain ⟨el', tl', er, a⟩ := IH n (Nat.lt_succ_self n) cj code' _ F (fr - 1) _ _ P mx' code' h hF hP hm (fun _ q => q)
                rw [(hM cj mx' code' hm).2 el' tl' er] at a
                rcases a with ⟨k, hk, F', v, D', sl', P', a1, a2, a3, a4⟩ | ⟨a1, -⟩
                · have hS := hcall (mx', code') hm L S D sl fr lo v D' sl' c1 c2 c3 c4 c5 a4
                  have a2' : xgo M C N k (j, seek M j tl nx, (L, v.toList ++ S.drop na, (D', sl')), F', fr, lo, stk) = some P' := a2
                  obtain ⟨k1, k2⟩ := seek_ok (pc := nx) hj htl
                  obtain ⟨el2, tl2, er2, b⟩ := IH k (Nat.lt_succ_of_lt hk) j _ _ F' fr lo stk P' mx code a2' a1 (fun q hq => hP q (a3 q hq)) hj k1
                  rw [k2 el2 tl2 er2] at b
                  rcases b with ⟨k', hk', F2, v2, D2, sl2, P2, b1, b2, b3, b4⟩ | ⟨b1, b2⟩
                  · exact Or.inl ⟨k', by omega, F2, v2, D2, sl2, P2, b1, b2, fun q hq => a3 q (b3 q hq), hS.thenRet b4⟩
                  · exact Or.inr ⟨b1, hS.top b2⟩
                · cases a1
          | inr kind =>
            cases kind with
            | inl g =>
              simp only at h
              have hret : RetGood l Z hz sh A O (MI j).1 (MI j).2.1 mx (MI j).2.2 pc g := hel
              obtain ⟨L, S, D, sl⟩ := cf
              simp only at h
              cases hg : g S with
              | none =>
                rw [hg] at h; cases h
                exact absurd hF (hP (F, none) (List.mem_cons_self ..) rfl)
              | some v =>
                rw [hg] at h
                simp only at h
                refine Or.inl ⟨n, Nat.lt_succ_self n, F, v, D, sl, P, hF, ?_, fun _ q => q, hret L S D sl fr lo v hg⟩
                unfold cont
                cases stk with
                | nil => exact h
                | cons fm stk' => exact h
            | inr kind =>
              cases kind with
              | inl f =>
                simp only at h
                have hgood : GoodN l Z hz sh A O (MI j).1 (MI j).2.1 mx (MI j).2.2 pc f := hel
                cases hf : f fr lo F cf with
                | none =>
                  rw [hf] at h; cases h
                  exact absurd hF (hP (F, none) (List.mem_cons_self ..) rfl)
                | some ns =>
                  rw [hf] at h
                  simp only at h
                  exact step ns pc h (hgood fr lo F cf ns hf hF)
              | inr k =>
                simp only at h
                have hcut : ∀ A' : En, holds A' k.2.2.2.2 → Top l Z hz sh A' O (MI j).1 (MI j).2.1 mx (MI j).2.2 C N k.1 k.2.1 pc k.2.2.1 := hel
                cases stk with
                | nil =>
                  simp only at h
                  cases hc : atCut k fr lo F cf
                  · rw [hc] at h; cases h
                    exact absurd hF (hP (F, none) (List.mem_cons_self ..) rfl)
                  · simp only [atCut, Bool.and_eq_true] at hc
                    obtain ⟨c1, c2, c3, c4⟩ := hc
                    exact Or.inr ⟨rfl, Top.sub c3 ((hcut _ (allDec_ok hF c4)).mono (Nat.le_of_ble_eq_true c1) (Nat.le_of_ble_eq_true c2))⟩
                | cons fm stk' =>
                  cases h
                  exact absurd hF (hP (F, none) (List.mem_cons_self ..) rfl)
/-- the run from some pc of the law's own body -/
theorem top_ok {M : List Mt} {C N : Nat} {MI : Nat → MethodName × ByteArray × Option FieldType} (hM : MtOk l Z hz sh A O C N M MI) {n mx pc : Nat} {code : List El} {cf : Cf} {F : List Cond} {fr lo : Nat} {P : List Pd}
    (hj : M[0]? = some (mx, code)) (hg : xgo M C N n (0, seekF code pc, cf, F, fr, lo, []) = some P) (hF : holds A F) (hP : ∀ q ∈ P, holds A q.1 → ∃ t, q.2 = some (0, t) ∧ (te A t).1 = 1) :
    Top l Z hz sh A O (MI 0).1 (MI 0).2.1 mx (MI 0).2.2 C N fr lo pc cf := by
  obtain ⟨el, tl, er, a⟩ := run_ok hM n 0 _ cf F fr lo [] P mx code hg hF (fun q hq h0 h1 => by obtain ⟨t, h2, -⟩ := hP q hq h1; rw [h0] at h2; cases h2) hj (seekF_ok).1
  rw [(seekF_ok).2 el tl er] at a
  rcases a with ⟨k, -, F', v, D', sl', P', a1, a2, a3, a4⟩ | ⟨-, a2⟩
  · have a2' : leaf C N F' v (D', sl') = some P' := a2
    unfold leaf at a2'
    cases hq : (Nat.ble (D', sl').1.length C && Nat.ble (D', sl').2 N)
    · rw [hq] at a2'; cases a2'
    · rw [hq] at a2'
      simp only [Bool.and_eq_true] at hq
      have q1 := Nat.le_of_ble_eq_true hq.1
      have q2 := Nat.le_of_ble_eq_true hq.2
      have q1 : D'.length ≤ C := q1
      have q2 : sl' ≤ N := q2
      have hv : v.map (vv A O hz.size) = some (.int 1) := by
        cases h1 : isOne v
        · rw [h1] at a2'; cases a2'
          obtain ⟨t, h2, h3⟩ := hP (F', v) (a3 _ (List.mem_cons_self ..)) a1
          simp only at h2
          rw [h2]
          show some (Value.int (te A t).1) = _
          rw [h3]
        · unfold isOne at h1
          split at h1
          · rename_i x
            obtain rfl := beq_iff_eq.mp h1; rfl
          · cases h1
      exact a4.top hv q1 q2
  · exact a2
/-- the same tables with a cut laid into the law's own body -/
def xcut (code : List El) (pc : Nat) (k : Ct) : List El := code.map fun el => bif Nat.beq el.1 pc then (el.1, kX k) else el
theorem mt_cut {C N : Nat} {MI : Nat → MethodName × ByteArray × Option FieldType} {mx pc : Nat} {code : List El} {Ms : List Mt} {k : Ct} (hM : MtOk l Z hz sh A O C N ((mx, code) :: Ms) MI)
    (hK : ∀ A' : En, holds A' k.2.2.2.2 → Top l Z hz sh A' O (MI 0).1 (MI 0).2.1 mx (MI 0).2.2 C N k.1 k.2.1 pc k.2.2.1) : MtOk l Z hz sh A O C N ((mx, xcut code pc k) :: Ms) MI := by
  have key : ∀ (j mxj : Nat) (el : El), ElOk l Z hz sh A O C N ((mx, code) :: Ms) MI j mxj el → ElOk l Z hz sh A O C N ((mx, xcut code pc k) :: Ms) MI j mxj el := by
    intro j mxj el h
    obtain ⟨p, kind⟩ := el
    rcases kind with f | kl | g | f | q
    · exact h
    · intro m hm
      have h' : ∀ m, ((mx, code) :: Ms)[kl.1]? = some m → CallGood l Z hz sh A O (MI j).1 (MI j).2.1 mxj (MI j).2.2 (MI kl.1).1 (MI kl.1).2.1 m.1 (MI kl.1).2.2 p kl.2.1 kl.2.2.1 kl.2.2.2 := h
      cases hq : kl.1 with
      | zero =>
        rw [hq] at hm
        have e : m = (mx, xcut code pc k) := by simpa using hm.symm
        subst e
        have := h' (mx, code) (by rw [hq]; rfl)
        simpa [hq] using this
      | succ n =>
        rw [hq] at hm
        have := h' m (by rw [hq]; simpa using hm)
        simpa [hq] using this
    · exact h
    · exact h
    · exact h
  intro j mxj code' hj
  cases j with
  | zero =>
    have e : (mx, xcut code pc k) = (mxj, code') := by simpa using hj
    cases e
    obtain ⟨h1, h2⟩ := hM 0 mx code rfl
    refine ⟨fun el hel => ?_, fun el tl q => ?_⟩
    · obtain ⟨el0, h3, h4⟩ := List.mem_map.mp hel
      cases hb : Nat.beq el0.1 pc
      · rw [hb] at h4; cases h4; exact key 0 mx el0 (h1 el0 h3)
      · rw [hb] at h4; cases h4
        have e2 := Nat.eq_of_beq_eq_true hb
        intro A' hA'
        rw [e2]; exact hK A' hA'
    · unfold xcut at q
      cases code with
      | nil => cases q
      | cons el0 tl0 =>
        rw [List.map_cons] at q
        have := h2 el0 tl0 rfl
        injection q with q1 q2
        rw [← q1]
        cases hb : Nat.beq el0.1 pc
        · exact this
        · exact this
  | succ n =>
    have e : ((mx, code) :: Ms)[n + 1]? = some (mxj, code') := by simpa using hj
    obtain ⟨h1, h2⟩ := hM (n + 1) mxj code' e
    exact ⟨fun el hel => key (n + 1) mxj el (h1 el hel), h2⟩
/-- from the run to the law's contract -/
theorem law_ok {y : MethodName} {bytes : ByteArray} {mx : Nat} {ret : Option FieldType} {C N fr lo : Nat} {xs : List SV} (K : Top l Z hz sh A O y bytes mx ret C N fr lo 0 (entL xs mx, [], [], 0)) (hpl : plainFor y = true) (ws : List Cond) (R : Room) (hR : R = { frames := fr, cells := C, slots := N, locals := lo }) :
    MetFree l y (head1 (Cond.code y bytes mx ret :: ws) R) (fun a U => a = (xs.map (vv A O hz.size)).toArray ∧ Z.Warmed39 U.vm ∧ U.heap = hz) (fun _ _ _ _ _ => True)
      (fun _ U o U' => ∃ v L, o = .returned v ∧ (v = some (.int 1) ∧ Fr hz.size L) ∧ FrameEnd U o U' L C N) := by
  obtain ⟨-, -, k3⟩ := K
  have H0 : HD Z hz sh A O hz [] := ⟨rfl, fun _ _ => rfl, fun k o h => by simp at h⟩
  refine MetFree.of_bodySF hpl hisR ?_
  intro p e s m args below meth c s₁ Bd hml hPp hK
  obtain ⟨rfl, hZ, hh⟩ := hPp
  have X0 : Stand p l e R s m _ below meth c s₁ [] 0 0 := Stand.of_body Bd
  have e0 : s₁.heap = hz := by rw [← hh, Bd.state]; rfl
  subst hR
  obtain ⟨s₂, L2, k1, k2, k3, k5, k6, k7⟩ := k3 p e _ s m _ below meth c s₁ [] (by rw [hh])
    ⟨Bd.exec, hZ, Bd.bytes, hml, findClass_of_methodNamed Bd.named, (name_of_methodNamed Bd.named Bd.method).1, Bd.returns, Bd.notSynchronized⟩
    X0 (by rw [e0]; exact H0) (Fr.nil _) (Nat.le_refl _) (Nat.le_refl _) (Nat.le_refl _) (Nat.le_refl _)
  refine ⟨s₂, .returned (some (.int 1)), ?_, k2, k3, _, L2, rfl, ⟨rfl, k5⟩, ⟨_, rfl⟩, k6, k7⟩
  rw [ent_ok m xs mx ([], 0)]; exact k1
end Run
end Jvm.OwnX

/-! ### 8. More steps -/
namespace Jvm.OwnX
open Sem ClassFile Op Lib Jvm.Stand Jvm.Free Jvm.LawKit Jvm.RoadKit
section More
variable {l : Launch} {Z : State} {hz : Heap} {sh : List Sh} {A : En} {O : Nat → Addr} {y : MethodName} {bytes : ByteArray} {maxL : Nat} {ret : Option FieldType} {a0 : Array Value}
def sDupX2 (nx : Nat) : Stp := fun F cf => match cf.2.1 with
  | x :: z :: w :: S => bif (cat x == 1) && ((cat z == 1) && (cat w == 1)) then some [(F, nx, (cf.1, x :: z :: w :: x :: S, cf.2.2))] else none
  | _ => none
theorem g_dupX2 {pc : Nat} (hd : decode bytes pc = .ok (.dup_x2, 1)) : Good l Z hz sh A O y bytes maxL ret pc (sDupX2 (pc + 1)) :=
  good_one fun F L S D sl ns h => by
    simp only [sDupX2] at h
    split at h
    · rename_i x z w S'
      cases hk : ((cat x == 1) && ((cat z == 1) && (cat w == 1)))
      · rw [hk] at h; cases h
      · rw [hk] at h; cases h
        simp only [Bool.and_eq_true, beq_iff_eq] at hk
        refine ⟨_, _, rfl, fun hF p e R s m args below meth c T locs cells slots hA X H target st => ?_⟩
        have c1 : (vv A O hz.size x).category = 1 := by rw [vv_cat]; exact hk.1
        have c2 : (vv A O hz.size z).category = 1 := by rw [vv_cat]; exact hk.2.1
        have c3 : (vv A O hz.size w).category = 1 := by rw [vv_cat]; exact hk.2.2
        have hdd := hb hA.2.2.1 hd
        show Steps p.tables e below (T.setTop (mkF m pc (L.map (sl1 A O hz.size)).toArray (vv A O hz.size x :: vv A O hz.size z :: vv A O hz.size w :: S'.map (vv A O hz.size)))) target
        have st' : Steps p.tables e below (T.setTop (mkF m (pc + 1) (L.map (sl1 A O hz.size)).toArray (vv A O hz.size x :: vv A O hz.size z :: vv A O hz.size w :: vv A O hz.size x :: S'.map (vv A O hz.size)))) target := st
        revert st'
        generalize vv A O hz.size x = vx at *
        generalize vv A O hz.size z = vz at *
        generalize vv A O hz.size w = vw at *
        intro st'
        jvm_step X.here [X.here.top, hA.1, hdd, c1, c2, c3]
        exact st'
    · cases h
/-- a static field whose value is known -/
theorem g_getstatic {pc idx : Nat} {K n d : String} {x : SV} (hd : decode bytes pc = .ok (.getstatic idx, 3)) (w : (Cond.fieldLink y.cls idx K n d).before a0 Z = true) (hS : Sta Z hz K n d (vv A O hz.size x)) : Good l Z hz sh A O y bytes maxL ret pc (sPush x (pc + 3)) := by
  intro F cf ns h hF
  obtain ⟨L, S, D, sl⟩ := cf
  cases h
  refine ⟨_, List.mem_cons_self .., hF, Nat.le_refl _, Nat.le_refl _, ?_⟩
  intro d0 s0 p e R s m args below meth c T locs hd0 hs0 hh hA X H N hc hl hfr hlo
  obtain ⟨T', X', e1, st⟩ := getS X hA.1 hA.2.1 hA.2.2.2.2.1 w Via.refl (host := "") rfl (hS.ext H.ext) (g := frm hz A O m pc (L, S, D, sl)) rfl (hb hA.2.2.1 hd)
  exact ⟨T', locs, X', by rw [e1]; exact H, N, st⟩
/-! arrays of references -/
def sNewR (sid : Nat) (nx : Nat) : Stp := fun F cf => match cf.2.1 with
  | (0, t) :: S => (match cv F t with
    | some v => bif decide (0 ≤ v) && Nat.ble v.toNatClampNeg 67108864 then some [(F, nx, (cf.1, (2, .index cf.2.2.1.length) :: S, cf.2.2.1 ++ [(sid, List.replicate v.toNatClampNeg (2, .null))], cf.2.2.2 + v.toNatClampNeg))] else none
    | none => none)
  | _ => none
theorem g_anewarray {pc sid idx : Nat} {C : String} {r : String × Nat × List Fi} (hd : decode bytes pc = .ok (.anewarray idx, 3)) (hs : sh[sid]? = some (some (.object C), r)) (w1 : (Cond.classLink y.cls idx C).before a0 Z = true) (w2 : (Cond.arrayOver (.object C)).before a0 Z = true) :
    Good l Z hz sh A O y bytes maxL ret pc (sNewR sid (pc + 3)) := by
  intro F cf ns h hF
  obtain ⟨L, S, D, sl⟩ := cf
  simp only [sNewR] at h
  split at h
  · rename_i t S'
    split at h
    · rename_i v q
      cases hv : (decide (0 ≤ v) && Nat.ble v.toNatClampNeg 67108864)
      · rw [hv] at h; cases h
      · rw [hv] at h; cases h
        simp only [Bool.and_eq_true, decide_eq_true_eq] at hv
        obtain ⟨v1, v2⟩ := hv
        have v2 := Nat.le_of_ble_eq_true v2
        have hv0 : ¬ v < 0 := Int32.not_lt.mpr v1
        have ev := cv_ok hF q
        refine ⟨_, List.mem_cons_self .., hF, by simp, by simp, ?_⟩
        intro d0 s0 p e R s m args below meth c T locs hd0 hs0 hh hA X H N hc hl hfr hlo
        simp only [List.length_append, List.length_cons, List.length_nil] at hc hl hd0 hs0 X H ⊢
        have hgs : (frm hz A O m pc (L, (0, t) :: S', D, sl)).stack = .int v :: S'.map (vv A O hz.size) := by show Value.int (te A t).1 :: _ = _; rw [ev]
        obtain ⟨T', h', cA, X', e1, E, Ar, Ov, st⟩ := newR X hA.1 hA.2.1 hA.2.2.2.2.1 w1 w2 rfl (g := frm hz A O m pc (L, (0, t) :: S', D, sl)) rfl (hb hA.2.2.1 hd) hgs hv0 (cap := v.toNatClampNeg) (Nat.le_refl _) (by omega) (by omega) (by omega)
        have hsz : T'.heap.size = T.heap.size + 1 := grown X' hd0 hh H (by rw [e1]; exact Ar.lt)
        have c1 : D.length + (0 + 1) - d0 = D.length - d0 + 1 := by omega
        have c2 : sl + v.toNatClampNeg - s0 = sl - s0 + v.toNatClampNeg := by omega
        refine ⟨T', locs, by rw [c1, c2]; exact X', ?_, N, ?_⟩
        · subst e1
          refine H.push E hsz ?_
          rw [ObAt.arr (o := (sid, _)) hs]
          refine ⟨_, Ar, ?_, ?_, fun C' q => ?_⟩
          · show Array.replicate _ _ = _
            rw [list_rep]; rfl
          · rw [List.length_replicate]; omega
          · cases q; exact Ov
        · intro target k
          refine st target ?_
          have hi : vv A O hz.size (2, .index D.length) = .ref T.heap.size := by show Value.ref (hz.size + D.length) = _; rw [H.1]
          have k' : Steps p.tables e below (T'.setTop (mkF m (pc + 3) (L.map (sl1 A O hz.size)).toArray (vv A O hz.size (2, .index D.length) :: S'.map (vv A O hz.size)))) target := k
          rw [hi] at k'; exact k'
    · cases h
  · cases h
/-- an old object of a known class goes into an array over that class -/
def sAstOld (sid n nx : Nat) : Stp := fun F cf => match cf.2.1 with
  | (2, .arg i) :: (0, j) :: (2, .index k) :: S => (match cv F j with
    | some v => (match cf.2.2.1[k]? with
      | some o => bif Nat.blt i n && ((o.1 == sid) && (decide (0 ≤ v) && Nat.blt v.toNatClampNeg o.2.length)) then
          some [(F, nx, (cf.1, S, cf.2.2.1.set k (sid, o.2.set v.toNatClampNeg (2, .arg i)), cf.2.2.2))] else none
      | none => none)
    | none => none)
  | _ => none
theorem g_aastoreOld {pc sid n : Nat} {C : String} {r : String × Nat × List Fi} (hd : decode bytes pc = .ok (.aastore, 1)) (hs : sh[sid]? = some (some (.object C), r)) (hE : ∀ i, i < n → Exa Z hz (O i) C) : Good l Z hz sh A O y bytes maxL ret pc (sAstOld sid n (pc + 1)) := by
  intro F cf ns h hF
  obtain ⟨L, S, D, sl⟩ := cf
  simp only [sAstOld] at h
  split at h
  · rename_i i j k S'
    split at h
    · rename_i v q1
      split at h
      · rename_i o q2
        obtain ⟨o1, xs⟩ := o
        cases hk : (Nat.blt i n && ((o1 == sid) && (decide (0 ≤ v) && Nat.blt v.toNatClampNeg xs.length)))
        · rw [hk] at h; cases h
        · rw [hk] at h
          simp only [Bool.and_eq_true, decide_eq_true_eq, beq_iff_eq, Nat.blt_eq] at hk
          obtain ⟨hi, rfl, v1, v2⟩ := hk
          have q3 : ¬ v < 0 := Int32.not_lt.mpr v1
          cases h
          refine ⟨_, List.mem_cons_self .., hF, by simp, by simp, ?_⟩
          intro d0 s0 p e R s m args below meth c T locs hd0 hs0 hh hA X H N hc hl hfr hlo
          simp only [List.length_set] at hc hl hd0 hs0 X H ⊢
          have ho := H.2.2 k _ q2
          rw [ObAt.arr (o := (o1, xs)) hs] at ho
          have ho' := ho
          obtain ⟨cl, Ar, a1, a2, a3⟩ := ho
          have hsz : cl.slots.size = xs.length := by rw [a1]; simp
          have hgs : (frm hz A O m pc (L, (2, .arg i) :: (0, j) :: (2, .index k) :: S', D, sl)).stack = .ref (O i) :: .int v :: .ref (hz.size + k) :: S'.map (vv A O hz.size) := by show _ :: Value.int (te A j).1 :: _ = _; rw [cv_ok hF q1]; rfl
          have hsto : Sto Z T.heap (hz.size + k) (.ref (O i)) := Sto.of Ar (a3 C rfl) (Ins.self ((hE i hi).ext H.ext))
          obtain ⟨T', h', X', e1, W, st⟩ := stR X hA.1 hA.2.1 rfl Ar (j := v) (fun q => q.elim q3 (fun q => by omega)) rfl hsto (g := frm hz A O m pc (L, (2, .arg i) :: (0, j) :: (2, .index k) :: S', D, sl)) rfl hgs (hb hA.2.2.1 hd)
          subst e1
          have W' : Wr T.heap T'.heap (hz.size + k) v.toNatClampNeg (vv A O hz.size (2, .arg i)) := W
          refine ⟨T', _, X', ?_, Fr.snoc X' N (Nat.le_add_right _ _), st⟩
          refine H.set q2 W' ?_
          rw [ObAt.arr (o := (o1, _)) hs]
          exact ho'.set W'
      · cases h
    · cases h
  · cases h
theorem g_aaload {pc sid : Nat} {C : String} {r : String × Nat × List Fi} (hd : decode bytes pc = .ok (.aaload, 1)) (hs : sh[sid]? = some (some (.object C), r)) : Good l Z hz sh A O y bytes maxL ret pc (sAld sid (pc + 1)) :=
  good_one fun F L S D sl ns h => by
    obtain ⟨j, k, S', v, xs, x, rfl, q1, q2, q3, q4, rfl⟩ := sAld_inv h
    refine ⟨_, _, rfl, fun hF p e R s m args below meth c T locs cells slots hA X H target st => ?_⟩
    have ho := H.2.2 k _ q2
    rw [ObAt.arr (o := (sid, xs)) hs] at ho
    obtain ⟨cl, Ar, a1, a2, a3⟩ := ho
    have hlt := (List.getElem?_eq_some_iff.mp q4).1
    have hsz : cl.slots.size = xs.length := by rw [a1]; simp
    have hgs : (frm hz A O m pc (L, (0, j) :: (2, .index k) :: S', D, sl)).stack = .int v :: .ref (hz.size + k) :: S'.map (vv A O hz.size) := by show Value.int (te A j).1 :: _ = _; rw [cv_ok hF q1]; rfl
    exact X.aaload hA.1 Ar.1 (State.isArrayOf_alike hA.2.1.alike Ar.2.1) rfl Ar.2.2 (j := v) (v := vv A O hz.size x) (fun q => q.elim q3 (fun q => by omega)) (by rw [a1]; simp [q4]) (g := frm hz A O m pc (L, (0, j) :: (2, .index k) :: S', D, sl)) rfl hgs (hb hA.2.2.1 hd) _ st
/-- two old objects, by their numbers -/
def sAcmpOld (cd : ClassFile.ACond) (n tg nx : Nat) : Stp := fun F cf => match cf.2.1 with
  | (2, .arg i) :: (2, .arg j) :: S => bif Nat.blt i n && Nat.blt j n then some [(F, bif acV cd (Nat.beq j i) then tg else nx, (cf.1, S, cf.2.2))] else none
  | _ => none
theorem g_acmpOld {pc tg n : Nat} {cd : ClassFile.ACond} {o : Int} (hd : decode bytes pc = .ok (.if_acmp cd o, 3)) (h1 : 0 ≤ (pc : Int) + o) (h2 : ((pc : Int) + o).toNat = tg) (hO : ∀ i j, i < n → j < n → O i = O j → i = j) : Good l Z hz sh A O y bytes maxL ret pc (sAcmpOld cd n tg (pc + 3)) := by
  intro F cf ns h hF
  obtain ⟨L, S, D, sl⟩ := cf
  simp only [sAcmpOld] at h
  split at h
  · rename_i i j S'
    cases hk : (Nat.blt i n && Nat.blt j n)
    · rw [hk] at h; cases h
    · rw [hk] at h; cases h
      simp only [Bool.and_eq_true, Nat.blt_eq] at hk
      refine ⟨_, List.mem_cons_self .., hF, ?_⟩
      refine sim_pure fun p e R s m args below meth c T locs cells slots hA X H target st => ?_
      have hq : decide (Value.ref (O j) = Value.ref (O i)) = Nat.beq j i := by
        cases hb : Nat.beq j i
        · refine decide_eq_false fun q => ?_
          have := hO j i hk.2 hk.1 (Value.ref.inj q)
          subst this
          rw [Nat.beq_refl] at hb; cases hb
        · obtain rfl := Nat.eq_of_beq_eq_true hb; simp
      refine Jvm.RoadKit.acmp (g := frm hz A O m pc (L, (2, .arg i) :: (2, .arg j) :: S', D, sl)) X hA.1 rfl (x := .ref (O j)) (y := .ref (O i)) rfl rfl (pc0 := pc) (pc' := bif acV cd (Nat.beq j i) then tg else pc + 3) rfl (hb hA.2.2.1 hd) rfl hq h1 ?_ st
      rw [h2]
      cases acV cd (Nat.beq j i) <;> rfl
  · cases h
/-- the receiver is an old object -/
def ckOld (n : Nat) : List SV → List Ob → Bool := fun a _ => match a.getLast? with
  | some (2, .arg i) => Nat.blt i n
  | _ => false
theorem ckOld_inv {n : Nat} {a : List SV} {D : List Ob} (h : ckOld n a D = true) : ∃ a' i, a = a' ++ [(2, .arg i)] ∧ i < n := by
  unfold ckOld at h
  split at h
  · rename_i i q
    obtain ⟨a', rfl⟩ := List.getLast?_eq_some_iff.mp q
    exact ⟨a', i, rfl, Nat.blt_eq.mp h⟩
  · cases h
theorem c_virtualOld {y' : MethodName} {bytes' : ByteArray} {mx : Nat} {ret' : Option FieldType} {pc idx na n : Nat} {ps : List FieldType} {r : Option FieldType} {C : String} (hd : decode bytes pc = .ok (.invokevirtual idx, 3)) (hpl : plainFor y' = true) (hdesc : parseMethodDescriptor y'.desc = some ⟨ps, r⟩) (hna : ps.length + 1 = na) (hy : y'.cls ≠ "java/lang/invoke/MethodHandle" ∧ y'.cls ≠ "java/lang/invoke/VarHandle")
    (w1 : (Cond.methodLink y.cls idx y').before a0 Z = true) (w2 : (Cond.instanceMethod y').before a0 Z = true) (w3 : (Cond.initialized y'.cls).before a0 Z = true) (w4 : (Cond.code y' bytes' mx ret').before a0 Z = true) (w5 : (Cond.declares y').before a0 Z = true) (w6 : (Cond.selects C y' y').before a0 Z = true) (hE : ∀ i, i < n → Exa Z hz (O i) C) :
    CallGood l Z hz sh A O y bytes maxL ret y' bytes' mx ret' pc na (pc + 3) (ckOld n) := by
  intro L S D sl fr lo v D' sl' h1 h2 h3 h4 h5 K
  have kk := K
  obtain ⟨k1, k2, -⟩ := kk
  refine ⟨k1, k2, ?_⟩
  intro d0 s0 p e R s m args below meth c T locs hd0 hs0 hh hA X H N hc hl hfr hlo
  have k1' : D.length ≤ D'.length := k1
  have k2' : sl ≤ sl' := k2
  have hd0' : d0 ≤ D.length := hd0
  have hs0' : s0 ≤ sl := hs0
  have hc' : D'.length - d0 ≤ R.cells := hc
  have hl' : sl' - s0 ≤ R.slots := hl
  obtain ⟨a', i, ea, ei⟩ := ckOld_inv h3
  have hM := met_of_ret hpl H K [] { frames := fr - 1, cells := D'.length - D.length, slots := sl' - sl, locals := lo - (wt (S.drop na) + (mx + 11)) } rfl
  have er : (S.take na).reverse.map (vv A O hz.size) = .ref (O i) :: a'.reverse.map (vv A O hz.size) := by rw [ea]; simp [vv, rf]
  have el : (a'.reverse.map (vv A O hz.size)).length = ps.length := by
    have := congrArg List.length ea
    rw [List.length_take, List.length_append] at this
    simp only [List.length_cons, List.length_nil] at this
    rw [List.length_map, List.length_reverse]; omega
  rw [er] at hM
  have es : S.map (vv A O hz.size) = (a'.reverse.map (vv A O hz.size)).reverse ++ .ref (O i) :: (S.drop na).map (vv A O hz.size) := by
    conv => lhs; rw [← List.take_append_drop na S, ea]
    simp [vv, rf]
  obtain ⟨cq, kq, qa, qb, qc⟩ := isOf hA.2.1 rfl ((hE i ei).ext H.ext)
  obtain ⟨w, vm₁, ⟨T', L', k', n'⟩, -, X', ⟨Lc, ⟨rfl, H', N'⟩, l1, y1, z1⟩, st⟩ := X.virtualBack hA.1 (y := y') (z := y') hA.2.2.2.2.1 (mvT hA.2.1 w1) (mvT hA.2.1 w5) (notFace_of_selects (args := #[]) (mvT hA.2.1 w6)) (mvT hA.2.1 w6) (mvT hA.2.1 w2) hy
    (backOf (W := wt (S.drop na)) (rm := { frames := fr - 1, cells := D'.length - D.length, slots := sl' - sl, locals := lo - (wt (S.drop na) + (mx + 11)) }) (Q := fun w h' L => w = v.map (vv A O hz.size) ∧ HD Z hz sh A O h' D' ∧ Fr hz.size L) hM hA.2.1 w4 w3 (by show fr - 1 + 1 ≤ _; omega) (by show _ + (lo - _) ≤ _; omega)) qa qc (g := frm hz A O m pc (L, S, D, sl)) rfl (by show (L.map (sl1 A O hz.size)).toArray.size = _; rw [hA.2.2.2.1, ← h2]; simp) (Steps.refl _)
    (argsL := a'.reverse.map (vv A O hz.size)) (rest := (S.drop na).map (vv A O hz.size)) (lenOf hdesc el)
    es (by show 2 * 0 + _ ≤ _; rw [wt_ok]; omega) (hb hA.2.2.1 hd)
    (fun _ _ => ⟨rfl, rfl, by show D.length - d0 + (D'.length - D.length) ≤ _; omega, by show sl - s0 + (sl' - sl) ≤ _; omega⟩)
  dsimp only [Pt.U, Pt.locs, Pt.cells, Pt.slots] at X' l1 y1 z1 st H'
  subst l1 y1 z1
  have c1 : D.length - d0 + (D'.length - D.length) = D'.length - d0 := by omega
  have c2 : sl - s0 + (sl' - sl) = sl' - s0 := by omega
  refine ⟨T', _, by rw [← c1, ← c2]; exact X', H', N.app N', fun target kt => st.trans ?_⟩
  have e2 : (v.toList ++ S.drop na).map (vv A O hz.size) = (v.map (vv A O hz.size)).toList ++ (S.drop na).map (vv A O hz.size) := by cases v <;> simp
  have kt' : Steps p.tables e below (T'.setTop (mkF m (pc + 3) (L.map (sl1 A O hz.size)).toArray ((v.toList ++ S.drop na).map (vv A O hz.size)))) target := kt
  rw [e2] at kt'; exact kt'
end More
end Jvm.OwnX

/-! ### 9. Operations that simplify, and arraycopy -/
namespace Jvm.OwnX
open Sem ClassFile Op Lib Jvm.Stand Jvm.Free Jvm.LawKit Jvm.RoadKit
section Simp
variable {l : Launch} {Z : State} {hz : Heap} {sh : List Sh} {A : En} {O : Nat → Addr} {y : MethodName} {bytes : ByteArray} {maxL : Nat} {ret : Option FieldType} {a0 : Array Value}
theorem gx_isub {pc : Nat} {f : Term → Term → Term} (hf : ∀ A a b, (te A (f a b)).1 = (te A a).1 - (te A b).1) (hd : decode bytes pc = .ok (.isub, 1)) : Good l Z hz sh A O y bytes maxL ret pc (sBin 0 0 0 f (pc + 1)) :=
  good_one fun F L S D sl ns h => by
    obtain ⟨a, b, S', rfl, rfl⟩ := sBin_inv h
    refine ⟨_, _, rfl, fun hF p e_ R s m args below meth c T locs cells slots hA X H target st => ?_⟩
    have e : vv A O hz.size (0, f a b) = .int ((te A a).1 - (te A b).1) := by show Value.int (te A (f a b)).1 = _; rw [hf]
    have st' : Steps p.tables e_ below (T.setTop (mkF m (pc + 1) (L.map (sl1 A O hz.size)).toArray (vv A O hz.size (0, f a b) :: S'.map (vv A O hz.size)))) target := st
    rw [e] at st'
    exact XS.isub X.here hA.1 rfl (hb hA.2.2.1 hd) rfl st'
theorem gx_ladd {pc : Nat} {f : Term → Term → Term} (hf : ∀ A a b, (te A (f a b)).2 = (te A a).2 + (te A b).2) (hd : decode bytes pc = .ok (.ladd, 1)) : Good l Z hz sh A O y bytes maxL ret pc (sBin 1 1 1 f (pc + 1)) :=
  good_one fun F L S D sl ns h => by
    obtain ⟨a, b, S', rfl, rfl⟩ := sBin_inv h
    refine ⟨_, _, rfl, fun hF p e_ R s m args below meth c T locs cells slots hA X H target st => ?_⟩
    have e : vv A O hz.size (1, f a b) = .long ((te A a).2 + (te A b).2) := by show Value.long (te A (f a b)).2 = _; rw [hf]
    have st' : Steps p.tables e_ below (T.setTop (mkF m (pc + 1) (L.map (sl1 A O hz.size)).toArray (vv A O hz.size (1, f a b) :: S'.map (vv A O hz.size)))) target := st
    rw [e] at st'
    exact XS.ladd X.here hA.1 rfl (hb hA.2.2.1 hd) rfl st'
theorem gx_lsub {pc : Nat} {f : Term → Term → Term} (hf : ∀ A a b, (te A (f a b)).2 = (te A a).2 - (te A b).2) (hd : decode bytes pc = .ok (.lsub, 1)) : Good l Z hz sh A O y bytes maxL ret pc (sBin 1 1 1 f (pc + 1)) :=
  good_one fun F L S D sl ns h => by
    obtain ⟨a, b, S', rfl, rfl⟩ := sBin_inv h
    refine ⟨_, _, rfl, fun hF p e_ R s m args below meth c T locs cells slots hA X H target st => ?_⟩
    have e : vv A O hz.size (1, f a b) = .long ((te A a).2 - (te A b).2) := by show Value.long (te A (f a b)).2 = _; rw [hf]
    have st' : Steps p.tables e_ below (T.setTop (mkF m (pc + 1) (L.map (sl1 A O hz.size)).toArray (vv A O hz.size (1, f a b) :: S'.map (vv A O hz.size)))) target := st
    rw [e] at st'
    exact XS.lsub X.here hA.1 rfl (hb hA.2.2.1 hd) rfl st'
theorem gx_lushr {pc : Nat} {f : Term → Term → Term} (hf : ∀ A a b, (te A (f a b)).2 = ((te A a).2.toUInt64 >>> ((te A b).1 &&& 0x3f).toInt64.toUInt64).toInt64) (hd : decode bytes pc = .ok (.lushr, 1)) : Good l Z hz sh A O y bytes maxL ret pc (sBin 1 0 1 f (pc + 1)) :=
  good_one fun F L S D sl ns h => by
    obtain ⟨a, b, S', rfl, rfl⟩ := sBin_inv h
    refine ⟨_, _, rfl, fun hF p e_ R s m args below meth c T locs cells slots hA X H target st => ?_⟩
    have e : vv A O hz.size (1, f a b) = .long (((te A a).2.toUInt64 >>> ((te A b).1 &&& 0x3f).toInt64.toUInt64).toInt64) := by show Value.long (te A (f a b)).2 = _; rw [hf]
    have st' : Steps p.tables e_ below (T.setTop (mkF m (pc + 1) (L.map (sl1 A O hz.size)).toArray (vv A O hz.size (1, f a b) :: S'.map (vv A O hz.size)))) target := st
    rw [e] at st'
    exact XS.lushr X.here hA.1 rfl (hb hA.2.2.1 hd) rfl st'
theorem gx_l2i {pc : Nat} {f : Term → Term} (hf : ∀ A a, (te A (f a)).1 = (te A a).2.toInt32) (hd : decode bytes pc = .ok (.l2i, 1)) : Good l Z hz sh A O y bytes maxL ret pc (sUn 1 0 f (pc + 1)) :=
  good_one fun F L S D sl ns h => by
    obtain ⟨a, S', rfl, rfl⟩ := sUn_inv h
    refine ⟨_, _, rfl, fun hF p e_ R s m args below meth c T locs cells slots hA X H target st => ?_⟩
    have e : vv A O hz.size (0, f a) = .int ((te A a).2.toInt32) := by show Value.int (te A (f a)).1 = _; rw [hf]
    have st' : Steps p.tables e_ below (T.setTop (mkF m (pc + 1) (L.map (sl1 A O hz.size)).toArray (vv A O hz.size (0, f a) :: S'.map (vv A O hz.size)))) target := st
    rw [e] at st'
    exact XS.l2i X.here hA.1 rfl (hb hA.2.2.1 hd) rfl st'
def isZ : Term → Bool
  | .long z => z == 0
  | _ => false
theorem isZ_ok {t : Term} (h : isZ t = true) (A : En) : (te A t).2 = 0 := by
  cases t <;> simp [isZ] at h
  simp [te, h]
def xSub (a b : Term) : Term := match b with
  | .op1 .ineg t => (match a with
    | .int z => bif z == 0 then t else smI (.add a t)
    | _ => smI (.add a t))
  | _ => smI (.sub a b)
theorem xSub_ok (A : En) (a b : Term) : (te A (xSub a b)).1 = (te A a).1 - (te A b).1 := by
  unfold xSub
  split
  · rename_i t
    have e : (te A (.op1 .ineg t)).1 = -(te A t).1 := rfl
    have e2 : ∀ x : Int32, x - -(te A t).1 = x + (te A t).1 := fun x => Int32.sub_neg
    rw [e]
    split
    · rename_i z
      cases hz : (z == 0)
      · rw [cond_false, te_smI, e2]; rfl
      · obtain rfl := beq_iff_eq.mp hz
        rw [cond_true, e2]; show _ = (0 : Int32) + _; rw [Int32.zero_add]
    · rw [te_smI, e2]; rfl
  · rw [te_smI]; rfl
def noOv (u v : Term) : Bool := decide (-2147483648 ≤ (rg0 u).1.1 + (rg0 v).1.1) && decide ((rg0 u).1.2 + (rg0 v).1.2 ≤ 2147483647)
theorem noOv_ok {u v : Term} (h : noOv u v = true) (A : En) : ((te A u).1 + (te A v).1).toInt64 = (te A u).1.toInt64 + (te A v).1.toInt64 := by
  simp only [noOv, Bool.and_eq_true, decide_eq_true_eq] at h
  obtain ⟨u1, u2⟩ := (rg0_ok A u).1
  obtain ⟨v1, v2⟩ := (rg0_ok A v).1
  apply Int64.toInt_inj.mp
  have a1 := c_i2l ((te A u).1 + (te A v).1)
  have a2 := c_i2l (te A u).1
  have a3 := c_i2l (te A v).1
  have a4 := c_iadd (te A u).1 (te A v).1
  have a5 := c_ladd (te A u).1.toInt64 (te A v).1.toInt64
  have a6 := rng32 ((te A u).1 + (te A v).1)
  have a7 := rng64 ((te A u).1.toInt64 + (te A v).1.toInt64)
  omega
def xAddL (a b : Term) : Term := bif isZ a then b else bif isZ b then a else (match a, b with
  | .op2 .lsub r x, .op2 .lsub z r' => bif isZ z && tq r r' then smL (.op2 .lsub (.long 0) x) else smL (.op2 .ladd a b)
  | .op1 .i2l u, .op1 .i2l v => bif noOv u v then smL (.op1 .i2l (smI (.add u v))) else smL (.op2 .ladd a b)
  | r, .op2 .lsub z r' => bif isZ z && tq r r' then .long 0 else smL (.op2 .ladd a b)
  | _, _ => smL (.op2 .ladd a b))
theorem xAddL_ok (A : En) (a b : Term) : (te A (xAddL a b)).2 = (te A a).2 + (te A b).2 := by
  unfold xAddL
  cases h1 : isZ a
  · cases h2 : isZ b
    · simp only [cond_false]
      split
      · rename_i r x z r'
        cases h3 : (isZ z && tq r r')
        · rw [cond_false, te_smL]; rfl
        · simp only [Bool.and_eq_true] at h3
          obtain rfl := tq_eq h3.2
          rw [cond_true, te_smL]
          show (0 : Int64) - (te A x).2 = ((te A r).2 - (te A x).2) + ((te A z).2 - (te A r).2)
          rw [isZ_ok h3.1 A]
          apply Int64.toInt_inj.mp
          have c1 := c_lsub 0 (te A x).2
          have c2 := c_lsub (te A r).2 (te A x).2
          have c3 := c_lsub 0 (te A r).2
          have c4 := c_ladd ((te A r).2 - (te A x).2) (0 - (te A r).2)
          have c5 := rng64 (0 - (te A x).2)
          have c6 := rng64 (((te A r).2 - (te A x).2) + (0 - (te A r).2))
          have c7 : (0 : Int64).toInt = 0 := rfl
          omega
      · rename_i u v
        cases h3 : noOv u v
        · rw [cond_false, te_smL]; rfl
        · rw [cond_true, te_smL]
          show (te A (smI (.add u v))).1.toInt64 = (te A u).1.toInt64 + (te A v).1.toInt64
          rw [te_smI]; exact noOv_ok h3 A
      · rename_i r z r' _
        cases h3 : (isZ z && tq a r')
        · rw [cond_false, te_smL]; rfl
        · simp only [Bool.and_eq_true] at h3
          obtain rfl := tq_eq h3.2
          rw [cond_true]
          show (0 : Int64) = (te A a).2 + ((te A z).2 - (te A a).2)
          rw [isZ_ok h3.1 A]
          apply Int64.toInt_inj.mp
          have c3 := c_lsub 0 (te A a).2
          have c4 := c_ladd (te A a).2 (0 - (te A a).2)
          have c6 := rng64 ((te A a).2 + (0 - (te A a).2))
          have c7 : (0 : Int64).toInt = 0 := rfl
          omega
      · rw [te_smL]; rfl
    · simp only [cond_false, cond_true]; rw [isZ_ok h2 A, Int64.add_zero]
  · simp only [cond_true]; rw [isZ_ok h1 A, Int64.zero_add]
def xSubL (a b : Term) : Term := bif isZ b then a else smL (.op2 .lsub a b)
theorem xSubL_ok (A : En) (a b : Term) : (te A (xSubL a b)).2 = (te A a).2 - (te A b).2 := by
  unfold xSubL
  cases h : isZ b
  · rw [cond_false, te_smL]; rfl
  · rw [cond_true, isZ_ok h A, Int64.sub_zero]
def low (c : Int64) : Bool := decide (0 ≤ c.toInt) && decide (c.toInt < 4294967296)
theorem mix (x c : Int64) (h : low c = true) : ((x <<< ((32 : Int32) &&& 0x3f).toInt64 ||| c).toInt - (x.toInt * 4294967296 + c.toInt)) % 18446744073709551616 = 0 := by
  simp only [low, Bool.and_eq_true, decide_eq_true_eq] at h
  have h1 := c_lshl x 32 32 (by decide)
  have h2 := c_orL (x <<< ((32 : Int32) &&& 0x3f).toInt64) c 32 (by decide) 4294967296 (by decide)
  have e : ((2 ^ 32 : Nat) : Int) = 4294967296 := by decide
  rw [e] at h1
  have h3 := h2 (by omega) h.1 h.2
  omega
def xL2I (a : Term) : Term := match a with
  | .op1 .i2l t => t
  | .op2 .lor (.op2 .lshl _ (.int k)) (.long c) => bif (k == 32) && low c then .int c.toInt32 else smI (.op1 .l2i a)
  | _ => smI (.op1 .l2i a)
theorem xL2I_ok (A : En) (a : Term) : (te A (xL2I a)).1 = (te A a).2.toInt32 := by
  unfold xL2I
  split
  · rename_i t
    show _ = (te A t).1.toInt64.toInt32
    rw [Int32.toInt32_toInt64]
  · rename_i x k c
    cases h : ((k == 32) && low c)
    · rw [cond_false, te_smI]; rfl
    · simp only [Bool.and_eq_true] at h
      obtain rfl := beq_iff_eq.mp h.1
      rw [cond_true]
      show c.toInt32 = ((te A x).2 <<< ((32 : Int32) &&& 0x3f).toInt64 ||| c).toInt32
      apply Int32.toInt_inj.mp
      have h1 := mix (te A x).2 c h.2
      have h2 := c_l2i c
      have h3 := c_l2i ((te A x).2 <<< ((32 : Int32) &&& 0x3f).toInt64 ||| c)
      have h4 := rng32 c.toInt32
      have h5 := rng32 ((te A x).2 <<< ((32 : Int32) &&& 0x3f).toInt64 ||| c).toInt32
      omega
  · rw [te_smI]; rfl
def xLushr (a b : Term) : Term := match a, b with
  | .op2 .lor (.op2 .lshl (.op1 .i2l t) (.int k)) (.long c), .int k2 => bif (k == 32) && ((k2 == 32) && (low c && decide (0 ≤ (rg0 t).1.1))) then .op1 .i2l t else smL (.op2 .lushr a b)
  | _, _ => smL (.op2 .lushr a b)
theorem xLushr_ok (A : En) (a b : Term) : (te A (xLushr a b)).2 = ((te A a).2.toUInt64 >>> ((te A b).1 &&& 0x3f).toInt64.toUInt64).toInt64 := by
  unfold xLushr
  split
  · rename_i t k c k2
    cases h : ((k == 32) && ((k2 == 32) && (low c && decide (0 ≤ (rg0 t).1.1))))
    · rw [cond_false, te_smL]; rfl
    · simp only [Bool.and_eq_true, decide_eq_true_eq] at h
      obtain ⟨h1, h2, h3, h4⟩ := h
      obtain rfl := beq_iff_eq.mp h1
      obtain rfl := beq_iff_eq.mp h2
      rw [cond_true]
      show (te A t).1.toInt64 = (((te A t).1.toInt64 <<< ((32 : Int32) &&& 0x3f).toInt64 ||| c).toUInt64 >>> ((32 : Int32) &&& 0x3f).toInt64.toUInt64).toInt64
      apply Int64.toInt_inj.mp
      rw [c_lushr _ 32 32 (by decide) (by decide)]
      have m := mix (te A t).1.toInt64 c h3
      have e := c_i2l (te A t).1
      have r := (rg0_ok A t).1.1
      have r2 := rng32 (te A t).1
      have q : ((2 ^ 32 : Nat) : Int) = 4294967296 := by decide
      rw [q]
      simp only [low, Bool.and_eq_true, decide_eq_true_eq] at h3
      have r3 := rng64 ((te A t).1.toInt64 <<< ((32 : Int32) &&& 0x3f).toInt64 ||| c)
      omega
  · rw [te_smL]; rfl
/-! one cell is laid anew -/
theorem ObAt.congr {h h' : Heap} {a : Addr} {o : Ob} (e : h'[a]? = h[a]?) (X : ObAt Z hz sh A O h a o) : ObAt Z hz sh A O h' a o := by
  unfold ObAt at X ⊢
  split
  · rename_i q; rw [q] at X; obtain ⟨cl, h1, h2⟩ := X; exact ⟨cl, ⟨e.trans h1.1, h1.2⟩, h2⟩
  · rename_i q; rw [q] at X
    obtain ⟨⟨cell, k, x1, x2⟩, x3, x4⟩ := X
    refine ⟨⟨cell, k, e.trans x1, x2⟩, x3, fun i f x hf hx => ?_⟩
    obtain ⟨c2, cf, k2, i2, f2, z1, z2⟩ := x4 i f x hf hx
    exact ⟨c2, cf, k2, i2, f2, e.trans z1, z2⟩
  · rename_i q; rw [q] at X; exact X
theorem HD.cell {h : Heap} {D : List Ob} (H : HD Z hz sh A O h D) {k : Nat} {o o' : Ob} {cl : Cell} (hk : D[k]? = some o) (ho : ObAt Z hz sh A O (h.setIfInBounds (hz.size + k) cl) (hz.size + k) o') : HD Z hz sh A O (h.setIfInBounds (hz.size + k) cl) (D.set k o') := by
  refine ⟨by rw [Array.size_setIfInBounds, H.1, List.length_set], fun a ha => ?_, fun j o2 hj => ?_⟩
  · rw [Array.getElem?_setIfInBounds_ne (Ne.symm (Nat.ne_of_lt (Nat.lt_of_lt_of_le ha (Nat.le_add_right _ _))))]
    exact H.2.1 a ha
  · by_cases q : j = k
    · subst q
      rw [List.getElem?_set_self (List.getElem?_eq_some_iff.mp hk).1] at hj
      cases hj; exact ho
    · rw [List.getElem?_set_ne (Ne.symm q)] at hj
      exact ObAt.congr (Array.getElem?_setIfInBounds_ne (fun e => q (Nat.add_left_cancel e).symm)) (H.2.2 j o2 hj)
def splice (ys : List SV) (d : Nat) (zs : List SV) : List SV := ys.take d ++ (zs ++ ys.drop (d + zs.length))
theorem splice_get (ys zs : List SV) (d j : Nat) (h : d + zs.length ≤ ys.length) : (splice ys d zs)[j]? = if d ≤ j ∧ j < d + zs.length then zs[j - d]? else ys[j]? := by
  unfold splice
  by_cases h1 : j < d
  · rw [if_neg (by omega), List.getElem?_append_left (by rw [List.length_take]; omega), List.getElem?_take_of_lt h1]
  · rw [List.getElem?_append_right (by rw [List.length_take]; omega), List.length_take, show min d ys.length = d by omega]
    by_cases h2 : j < d + zs.length
    · rw [if_pos (by omega), List.getElem?_append_left (by omega)]
    · rw [if_neg (by omega), List.getElem?_append_right (by omega), List.getElem?_drop]
      congr 1; omega
def sCopy (sid mx nx : Nat) : Stq := fun fr lo F cf => match cf.2.1 with
  | (0, tn) :: (0, td) :: (2, .index kd) :: (0, ts) :: (2, .index ks) :: S => (match cv F tn, cv F td, cv F ts with
    | some n, some dp, some sp => (match cf.2.2.1[ks]?, cf.2.2.1[kd]? with
      | some os, some od => bif (os.1 == sid) && ((od.1 == sid) && (decide (0 ≤ n) && (decide (0 ≤ dp) && (decide (0 ≤ sp) && (Nat.ble (sp.toNatClampNeg + n.toNatClampNeg) os.2.length && (Nat.ble (dp.toNatClampNeg + n.toNatClampNeg) od.2.length &&
            ((((os.2.drop sp.toNatClampNeg).take n.toNatClampNeg).all fun x => x.1 == 0) && (Nat.ble 1 fr && (Nat.ble (wt S + 18) lo && Nat.beq cf.1.length mx))))))))) then
          some [(F, nx, (cf.1, S, cf.2.2.1.set kd (sid, splice od.2 dp.toNatClampNeg ((os.2.drop sp.toNatClampNeg).take n.toNatClampNeg)), cf.2.2.2))] else none
      | _, _ => none)
    | _, _, _ => none)
  | _ => none
theorem nn32 {v : Int32} (h : 0 ≤ v) : ¬ v < 0 ∧ v.toInt = (v.toNatClampNeg : Int) := by
  have h1 := Int32.not_lt.mpr h
  refine ⟨h1, ?_⟩
  simp only [Int32.lt_iff_toInt_lt, Int32.reduceToInt] at h1
  simp only [Int32.toNatClampNeg]; omega
theorem g_copy {pc idx sid : Nat} {r : String × Nat × List Fi} (hd : decode bytes pc = .ok (.invokestatic idx, 3)) (hs : sh[sid]? = some (some .int, r)) (w1 : (Cond.methodLink y.cls idx arraycopyName).before a0 Z = true) (w2 : (Cond.native arraycopyName).before a0 Z = true) (w3 : (Cond.static arraycopyName).before a0 Z = true) (w4 : (Cond.initialized "java/lang/System").before a0 Z = true) :
    GoodN l Z hz sh A O y bytes maxL ret pc (sCopy sid maxL (pc + 3)) := by
  intro fr lo F cf ns h hF
  obtain ⟨L, S, D, sl⟩ := cf
  simp only [sCopy] at h
  split at h
  · rename_i tn td kd ts ks S'
    split at h
    · rename_i n dp sp qn qd qs
      split at h
      · rename_i os od q1 q2
        obtain ⟨o1, xs⟩ := os
        obtain ⟨o2, ys⟩ := od
        simp only at h
        cases hk : ((o1 == sid) && ((o2 == sid) && (decide (0 ≤ n) && (decide (0 ≤ dp) && (decide (0 ≤ sp) && (Nat.ble (sp.toNatClampNeg + n.toNatClampNeg) xs.length && (Nat.ble (dp.toNatClampNeg + n.toNatClampNeg) ys.length &&
            ((((xs.drop sp.toNatClampNeg).take n.toNatClampNeg).all fun x => x.1 == 0) && (Nat.ble 1 fr && (Nat.ble (wt S' + 18) lo && Nat.beq L.length maxL))))))))))
        · rw [hk] at h; cases h
        · rw [hk] at h; cases h
          simp only [Bool.and_eq_true, decide_eq_true_eq, beq_iff_eq] at hk
          obtain ⟨rfl, rfl, n0, d0', s0', k1, k2, k3, k4, k5, k6⟩ := hk
          have k1 := Nat.le_of_ble_eq_true k1
          have k2 := Nat.le_of_ble_eq_true k2
          have k4 := Nat.le_of_ble_eq_true k4
          have k5 := Nat.le_of_ble_eq_true k5
          have k6 := Nat.eq_of_beq_eq_true k6
          obtain ⟨n1, n2⟩ := nn32 n0
          obtain ⟨d1, d2⟩ := nn32 d0'
          obtain ⟨s1, s2⟩ := nn32 s0'
          refine ⟨_, List.mem_cons_self .., hF, by simp, by simp, ?_⟩
          intro d0 s0 p e R s m args below meth c T locs hd0 hs0 hh hA X H N hc hl hfr hlo
          simp only [List.length_set] at hc hl hd0 hs0 X H ⊢
          have hos := H.2.2 ks _ q1
          have hod := H.2.2 kd _ q2
          rw [ObAt.arr (o := (o2, xs)) hs] at hos
          rw [ObAt.arr (o := (o2, ys)) hs] at hod
          obtain ⟨cs, As, a1, a2, -⟩ := hos
          obtain ⟨cd, Ad, b1, b2, b3⟩ := hod
          simp only at a1 a2 b1 b2
          have zs : cs.slots.size = xs.length := by rw [a1]; simp
          have zd : cd.slots.size = ys.length := by rw [b1]; simp
          obtain ⟨us, kks, us2, compS, us3⟩ := State.isArrayOf_alike hA.2.1.alike As.2.1
          obtain ⟨ud, kkd, ud2, compD, ud3⟩ := State.isArrayOf_alike hA.2.1.alike Ad.2.1
          have hgs : (frm hz A O m pc (L, (0, tn) :: (0, td) :: (2, .index kd) :: (0, ts) :: (2, .index ks) :: S', D, sl)).stack = .int n :: .int dp :: .ref (hz.size + kd) :: .int sp :: .ref (hz.size + ks) :: S'.map (vv A O hz.size) := by
            show Value.int (te A tn).1 :: Value.int (te A td).1 :: _ :: Value.int (te A ts).1 :: _ = _
            rw [cv_ok hF qn, cv_ok hF qd, cv_ok hF qs]; rfl
          have hval : ∀ i, i < n.toNatClampNeg → ∃ z, cs.slots.getD (sp.toNatClampNeg + i) .null = .int z := by
            intro i hi
            have hlt : sp.toNatClampNeg + i < xs.length := by omega
            have hm : xs[sp.toNatClampNeg + i] ∈ (xs.drop sp.toNatClampNeg).take n.toNatClampNeg := by
              refine List.mem_of_getElem? (i := i) ?_
              rw [List.getElem?_take_of_lt hi, List.getElem?_drop, List.getElem?_eq_getElem hlt]
            have hz0 := beq_iff_eq.mp (List.all_eq_true.mp k3 _ hm)
            refine ⟨(te A xs[sp.toNatClampNeg + i].2).1, ?_⟩
            rw [a1, Array.getD_eq_getD_getElem?]
            simp only [List.getElem?_toArray, List.getElem?_map, List.getElem?_eq_getElem hlt, Option.map_some, Option.getD_some]
            unfold vv; rw [hz0]; rfl
          obtain ⟨vm', X', st⟩ := X.arraycopy hA.1 hA.2.2.2.2.1 (mvT hA.2.1 w1) (mvT hA.2.1 w2) (mvT hA.2.1 w3) (mvT hA.2.1 w4) (src := hz.size + ks) (dst := hz.size + kd) (srcPos := sp) (destPos := dp) (n := n) As.1 Ad.1 us ud As.2.2 Ad.2.2 us2 ud2 us3 ud3 (by decide) s1 d1 n1 (by rw [zs]; omega) (by rw [zd]; omega)
            (fun vm' _ i hi => by obtain ⟨z, hz1⟩ := hval i hi; rw [hz1]; exact ⟨rfl, trivial⟩) (g := frm hz A O m pc (L, (0, tn) :: (0, td) :: (2, .index kd) :: (0, ts) :: (2, .index ks) :: S', D, sl)) rfl (by show (L.map (sl1 A O hz.size)).toArray.size = _; rw [hA.2.2.2.1, ← k6]; simp) hgs (hb hA.2.2.1 hd) (by omega) (by show 2 * 0 + _ + (nativeFrameWords "java/lang/System" "arraycopy" 5 + 11) ≤ _; rw [wt_ok, show nativeFrameWords "java/lang/System" "arraycopy" 5 = 7 from by decide]; omega)
          refine ⟨_, _, X', ?_, N.app fun z hz1 => ?_, st⟩
          · show HD Z hz sh A O (T.heap.setIfInBounds (hz.size + kd) (copied cs cd sp dp n)) _
            refine H.cell q2 ?_
            rw [ObAt.arr (o := (o2, _)) hs]
            obtain ⟨f1, f2, f3, -, -⟩ := cd.storeRun_facts dp.toNatClampNeg (cs.stretch sp.toNatClampNeg n.toNatClampNeg)
            have hlt : hz.size + kd < T.heap.size := Ad.lt
            have zl : ((xs.drop sp.toNatClampNeg).take n.toNatClampNeg).length = n.toNatClampNeg := by rw [List.length_take, List.length_drop]; omega
            have tl : (cs.stretch sp.toNatClampNeg n.toNatClampNeg).length = n.toNatClampNeg := by simp [Cell.stretch]
            refine ⟨copied cs cd sp dp n, ⟨by simp [hlt], ⟨fun q => by rw [f2]; exact Ad.2.1.1 q, ?_⟩, by rw [f2]; exact Ad.2.2⟩, ?_, ?_, fun C q => by cases q⟩
            · obtain ⟨-, kq, z1, z2⟩ := Ad.2.1
              exact ⟨kq, by rw [f1]; exact z1, z2⟩
            · apply Array.ext_getElem?
              intro j
              show (cd.storeRun dp.toNatClampNeg (cs.stretch sp.toNatClampNeg n.toNatClampNeg)).slots[j]? = _
              rw [Cell.storeRun_get _ _ _ _ (by rw [tl, zd]; exact k2), tl]
              have eR : ((splice ys dp.toNatClampNeg ((xs.drop sp.toNatClampNeg).take n.toNatClampNeg)).map (vv A O hz.size)).toArray[j]? = ((splice ys dp.toNatClampNeg ((xs.drop sp.toNatClampNeg).take n.toNatClampNeg))[j]?).map (vv A O hz.size) := by simp
              show _ = ((splice ys dp.toNatClampNeg ((xs.drop sp.toNatClampNeg).take n.toNatClampNeg)).map (vv A O hz.size)).toArray[j]?
              rw [eR, splice_get _ _ _ _ (by rw [zl]; exact k2), zl]
              by_cases q : dp.toNatClampNeg ≤ j ∧ j < dp.toNatClampNeg + n.toNatClampNeg
              · rw [if_pos q, if_pos q]
                have hi : j - dp.toNatClampNeg < n.toNatClampNeg := by omega
                have hlt2 : sp.toNatClampNeg + (j - dp.toNatClampNeg) < xs.length := by omega
                rw [List.getElem?_take_of_lt hi, List.getElem?_drop, List.getElem?_eq_getElem hlt2]
                simp only [Cell.stretch, List.getElem?_map, List.getElem?_range hi, Option.map_some]
                rw [a1, Array.getD_eq_getD_getElem?]
                simp [List.getElem?_eq_getElem hlt2]
              · rw [if_neg q, if_neg q, b1]; simp
            · have : (splice ys dp.toNatClampNeg ((xs.drop sp.toNatClampNeg).take n.toNatClampNeg)).length = ys.length := by unfold splice; rw [List.length_append, List.length_append, List.length_take, List.length_drop, zl]; omega
              show (splice ys dp.toNatClampNeg _).length < _
              rw [this]; exact b2
          · obtain ⟨q, -, rfl⟩ := List.mem_map.mp hz1
            exact Nat.le_add_right _ _
      · cases h
    · cases h
  · cases h
/-- a field reference that has been resolved -/
theorem getReady {p : Program} {e : Env} {R : Room} {s : State} {m : MethodId} {args : Array Value} {below : List Frame} {meth : Method} {c : Code} {T : State} {locs : List Loc} {cells slots : Nat} (X : Stand p l e R s m args below meth c T locs cells slots) (hexec : p.tables.exec = Jvm.exec) {index cf : Nat} {fd : Field} {a : Addr} {cell : Cell} {v : Value}
    (hready : T.vm.fieldReady m.cls index cf fd) (hst : fd.isStatic = false) (hcell : T.heap[a]? = some cell) (hknown : cell.vm ≠ .unknown) (hslot : cell.slots[fd.slot]? = some v) {g : JFrame} (hg : g.method = m) {rest : List Value} (hstack : g.stack = .ref a :: rest) (hdg : decode c.code g.pc = .ok (.getfield index, 3)) :
    ∀ target, Steps p.tables e below (T.setTop { g with pc := g.pc + 3, stack := v :: rest }) target → Steps p.tables e below (T.setTop g) target := by
  intro target hrest
  subst hg
  jvm_step X.here [hexec, hdg, Op.getfield.wp_ready (e := e) (s := T) (f := g) X.here.top hready hst hstack hcell hknown hslot]
  exact hrest
theorem g_getfieldRef {pc sid i kk idx : Nat} {C : String} {fs : List Fi} {f : Fi} (hd : decode bytes pc = .ok (.getfield idx, 3)) (hs : sh[sid]? = some (none, C, kk, fs)) (hi : fs[i]? = some f)
    (w : (Cond.fieldRef y.cls idx f.1 f.2.1 f.2.2.1).before a0 Z = true) : Good l Z hz sh A O y bytes maxL ret pc (sGetF sid i (pc + 3)) := by
  intro F cf ns h hF
  obtain ⟨L, S, D, sl⟩ := cf
  simp only [sGetF] at h
  split at h
  · rename_i k S'
    split at h
    · rename_i o q
      obtain ⟨o1, xs⟩ := o
      cases hk : (o1 == sid)
      · rw [hk] at h; cases h
      · rw [hk] at h; obtain rfl := beq_iff_eq.mp hk
        simp only [cond_true] at h
        split at h
        · rename_i x q2; cases h
          refine ⟨_, List.mem_cons_self .., hF, Nat.le_refl _, Nat.le_refl _, ?_⟩
          intro d0 s0 p e R s m args below meth c T locs hd0 hs0 hh hA X H N hc hl hfr hlo
          have ho := H.2.2 k _ q
          rw [ObAt.cls (o := (o1, xs)) hs] at ho
          obtain ⟨cell, cf, kc, j, fd, z1, z2, z3, z4, z5, z6, z7⟩ := ho.2.2 i f x hi q2
          have hZT : Z.Warmed39 T.vm := wtrans hA.2.1 X.warmed
          have hp := Cond.fieldRef_warmed39 hZT w
          have hown : T.vm.findClass y.cls = some m.cls := by rw [hZT.alike.findClass, ← hA.2.1.alike.findClass]; exact hA.2.2.2.2.1
          obtain ⟨c', k', j', f', y1, y2⟩ := Cond.fieldRef_spec (s := Z.setVm T.vm) (cur := m.cls) (by show T.vm.findClass _ = _; exact hown) hp
          obtain ⟨k'', y3, -⟩ := State.fieldFound?_setVm (s := Z) hZT.alike z2
          cases y1.symm.trans y3
          have hready : T.vm.fieldReady m.cls idx cf fd := y2
          refine ⟨T, locs, X, H, N, fun target kt => ?_⟩
          exact getReady X hA.1 hready z3 z1 z4 z7 (g := frm hz A O m pc (L, (2, .index k) :: S', D, sl)) rfl rfl (hb hA.2.2.1 hd) target kt
        · cases h
    · cases h
  · cases h
end Simp
end Jvm.OwnX

namespace Jvm.Pilot.@@N@@
open Jvm Jvm.ClassFile Sem Op Lib Jvm.Free Jvm.Stand Jvm.LawKit Jvm.RoadKit Bundle Jvm.OwnX Jvm.Pilot.@@N@@.Jvm.D
theorem d1_0 : decode prog_28_method_1_code 0 = .ok (.aload_n 0, 1) := by decide +kernel
theorem d1_1 : decode prog_28_method_1_code 1 = .ok (.invokespecial 1, 3) := by decide +kernel
theorem d1_4 : decode prog_28_method_1_code 4 = .ok (.aload_n 0, 1) := by decide +kernel
theorem d1_5 : decode prog_28_method_1_code 5 = .ok (.new 7, 3) := by decide +kernel
theorem d1_8 : decode prog_28_method_1_code 8 = .ok (.dup, 1) := by decide +kernel
theorem d1_9 : decode prog_28_method_1_code 9 = .ok (.invokespecial 9, 3) := by decide +kernel
theorem d1_12 : decode prog_28_method_1_code 12 = .ok (.putfield 10, 3) := by decide +kernel
theorem d1_15 : decode prog_28_method_1_code 15 = .ok (.aload_n 0, 1) := by decide +kernel
theorem d1_16 : decode prog_28_method_1_code 16 = .ok (.new 7, 3) := by decide +kernel
theorem d1_19 : decode prog_28_method_1_code 19 = .ok (.dup, 1) := by decide +kernel
theorem d1_20 : decode prog_28_method_1_code 20 = .ok (.invokespecial 9, 3) := by decide +kernel
theorem d1_23 : decode prog_28_method_1_code 23 = .ok (.putfield 16, 3) := by decide +kernel
theorem d1_26 : decode prog_28_method_1_code 26 = .ok (.aload_n 0, 1) := by decide +kernel
theorem d1_27 : decode prog_28_method_1_code 27 = .ok (.new 7, 3) := by decide +kernel
theorem d1_30 : decode prog_28_method_1_code 30 = .ok (.dup, 1) := by decide +kernel
theorem d1_31 : decode prog_28_method_1_code 31 = .ok (.invokespecial 9, 3) := by decide +kernel
theorem d1_34 : decode prog_28_method_1_code 34 = .ok (.putfield 19, 3) := by decide +kernel
theorem d1_37 : decode prog_28_method_1_code 37 = .ok (.aload_n 0, 1) := by decide +kernel
theorem d1_38 : decode prog_28_method_1_code 38 = .ok (.new 7, 3) := by decide +kernel
theorem d1_41 : decode prog_28_method_1_code 41 = .ok (.dup, 1) := by decide +kernel
theorem d1_42 : decode prog_28_method_1_code 42 = .ok (.invokespecial 9, 3) := by decide +kernel
theorem d1_45 : decode prog_28_method_1_code 45 = .ok (.putfield 22, 3) := by decide +kernel
theorem d1_48 : decode prog_28_method_1_code 48 = .ok (.aload_n 0, 1) := by decide +kernel
theorem d1_49 : decode prog_28_method_1_code 49 = .ok (.iload_n 1, 1) := by decide +kernel
theorem d1_50 : decode prog_28_method_1_code 50 = .ok (.putfield 25, 3) := by decide +kernel
theorem d1_53 : decode prog_28_method_1_code 53 = .ok (.return_, 1) := by decide +kernel
theorem d3_0 : decode prog_99_method_1_code 0 = .ok (.aload_n 0, 1) := by decide +kernel
theorem d3_1 : decode prog_99_method_1_code 1 = .ok (.invokespecial 3, 3) := by decide +kernel
theorem d3_4 : decode prog_99_method_1_code 4 = .ok (.aload_n 0, 1) := by decide +kernel
theorem d3_5 : decode prog_99_method_1_code 5 = .ok (.bipush 16, 2) := by decide +kernel
theorem d3_7 : decode prog_99_method_1_code 7 = .ok (.newarray .int, 2) := by decide +kernel
theorem d3_9 : decode prog_99_method_1_code 9 = .ok (.putfield 9, 3) := by decide +kernel
theorem d3_12 : decode prog_99_method_1_code 12 = .ok (.return_, 1) := by decide +kernel
theorem d4_0 : decode prog_28_method_2_code 0 = .ok (.aload_n 0, 1) := by decide +kernel
theorem d4_1 : decode prog_28_method_2_code 1 = .ok (.getfield 10, 3) := by decide +kernel
theorem d4_4 : decode prog_28_method_2_code 4 = .ok (.iload_n 1, 1) := by decide +kernel
theorem d4_5 : decode prog_28_method_2_code 5 = .ok (.invokevirtual 29, 3) := by decide +kernel
theorem d4_8 : decode prog_28_method_2_code 8 = .ok (.aload_n 0, 1) := by decide +kernel
theorem d4_9 : decode prog_28_method_2_code 9 = .ok (.getfield 16, 3) := by decide +kernel
theorem d4_12 : decode prog_28_method_2_code 12 = .ok (.iload_n 2, 1) := by decide +kernel
theorem d4_13 : decode prog_28_method_2_code 13 = .ok (.invokevirtual 29, 3) := by decide +kernel
theorem d4_16 : decode prog_28_method_2_code 16 = .ok (.aload_n 0, 1) := by decide +kernel
theorem d4_17 : decode prog_28_method_2_code 17 = .ok (.getfield 19, 3) := by decide +kernel
theorem d4_20 : decode prog_28_method_2_code 20 = .ok (.iload_n 3, 1) := by decide +kernel
theorem d4_21 : decode prog_28_method_2_code 21 = .ok (.invokevirtual 29, 3) := by decide +kernel
theorem d4_24 : decode prog_28_method_2_code 24 = .ok (.aload_n 0, 1) := by decide +kernel
theorem d4_25 : decode prog_28_method_2_code 25 = .ok (.getfield 22, 3) := by decide +kernel
theorem d4_28 : decode prog_28_method_2_code 28 = .ok (.iload 4, 2) := by decide +kernel
theorem d4_30 : decode prog_28_method_2_code 30 = .ok (.invokevirtual 29, 3) := by decide +kernel
theorem d4_33 : decode prog_28_method_2_code 33 = .ok (.aload_n 0, 1) := by decide +kernel
theorem d4_34 : decode prog_28_method_2_code 34 = .ok (.getfield 10, 3) := by decide +kernel
theorem d4_37 : decode prog_28_method_2_code 37 = .ok (.invokevirtual 33, 3) := by decide +kernel
theorem d4_40 : decode prog_28_method_2_code 40 = .ok (.iconst 1, 1) := by decide +kernel
theorem d4_41 : decode prog_28_method_2_code 41 = .ok (.isub, 1) := by decide +kernel
theorem d4_42 : decode prog_28_method_2_code 42 = .ok (.ireturn, 1) := by decide +kernel
theorem d5_0 : decode prog_99_method_5_code 0 = .ok (.aload_n 0, 1) := by decide +kernel
theorem d5_1 : decode prog_99_method_5_code 1 = .ok (.iconst 1, 1) := by decide +kernel
theorem d5_2 : decode prog_99_method_5_code 2 = .ok (.invokevirtual 19, 3) := by decide +kernel
theorem d5_5 : decode prog_99_method_5_code 5 = .ok (.aload_n 0, 1) := by decide +kernel
theorem d5_6 : decode prog_99_method_5_code 6 = .ok (.getfield 9, 3) := by decide +kernel
theorem d5_9 : decode prog_99_method_5_code 9 = .ok (.aload_n 0, 1) := by decide +kernel
theorem d5_10 : decode prog_99_method_5_code 10 = .ok (.dup, 1) := by decide +kernel
theorem d5_11 : decode prog_99_method_5_code 11 = .ok (.getfield 15, 3) := by decide +kernel
theorem d5_14 : decode prog_99_method_5_code 14 = .ok (.dup_x1, 1) := by decide +kernel
theorem d5_15 : decode prog_99_method_5_code 15 = .ok (.iconst 1, 1) := by decide +kernel
theorem d5_16 : decode prog_99_method_5_code 16 = .ok (.iadd, 1) := by decide +kernel
theorem d5_17 : decode prog_99_method_5_code 17 = .ok (.putfield 15, 3) := by decide +kernel
theorem d5_20 : decode prog_99_method_5_code 20 = .ok (.iload_n 1, 1) := by decide +kernel
theorem d5_21 : decode prog_99_method_5_code 21 = .ok (.iastore, 1) := by decide +kernel
theorem d5_22 : decode prog_99_method_5_code 22 = .ok (.return_, 1) := by decide +kernel
theorem d6_0 : decode prog_99_method_7_code 0 = .ok (.aload_n 0, 1) := by decide +kernel
theorem d6_1 : decode prog_99_method_7_code 1 = .ok (.getfield 15, 3) := by decide +kernel
theorem d6_4 : decode prog_99_method_7_code 4 = .ok (.i2l, 1) := by decide +kernel
theorem d6_5 : decode prog_99_method_7_code 5 = .ok (.iload_n 1, 1) := by decide +kernel
theorem d6_6 : decode prog_99_method_7_code 6 = .ok (.i2l, 1) := by decide +kernel
theorem d6_7 : decode prog_99_method_7_code 7 = .ok (.ladd, 1) := by decide +kernel
theorem d6_8 : decode prog_99_method_7_code 8 = .ok (.lstore_n 2, 1) := by decide +kernel
theorem d6_9 : decode prog_99_method_7_code 9 = .ok (.lload_n 2, 1) := by decide +kernel
theorem d6_10 : decode prog_99_method_7_code 10 = .ok (.aload_n 0, 1) := by decide +kernel
theorem d6_11 : decode prog_99_method_7_code 11 = .ok (.getfield 9, 3) := by decide +kernel
theorem d6_14 : decode prog_99_method_7_code 14 = .ok (.arraylength, 1) := by decide +kernel
theorem d6_15 : decode prog_99_method_7_code 15 = .ok (.i2l, 1) := by decide +kernel
theorem d6_16 : decode prog_99_method_7_code 16 = .ok (.lcmp, 1) := by decide +kernel
theorem d6_17 : decode prog_99_method_7_code 17 = .ok (.ifCond .le 57, 3) := by decide +kernel
theorem d6_20 : decode prog_99_method_7_code 20 = .ok (.lload_n 2, 1) := by decide +kernel
theorem d6_21 : decode prog_99_method_7_code 21 = .ok (.ldc2_w 29, 3) := by decide +kernel
theorem d6_24 : decode prog_99_method_7_code 24 = .ok (.lcmp, 1) := by decide +kernel
theorem d6_25 : decode prog_99_method_7_code 25 = .ok (.ifCond .le 13, 3) := by decide +kernel
theorem d6_28 : decode prog_99_method_7_code 28 = .ok (.new 31, 3) := by decide +kernel
theorem d6_31 : decode prog_99_method_7_code 31 = .ok (.dup, 1) := by decide +kernel
theorem d6_32 : decode prog_99_method_7_code 32 = .ok (.ldc 33, 2) := by decide +kernel
theorem d6_34 : decode prog_99_method_7_code 34 = .ok (.invokespecial 35, 3) := by decide +kernel
theorem d6_37 : decode prog_99_method_7_code 37 = .ok (.athrow, 1) := by decide +kernel
theorem d6_38 : decode prog_99_method_7_code 38 = .ok (.ldc2_w 38, 3) := by decide +kernel
theorem d6_41 : decode prog_99_method_7_code 41 = .ok (.aload_n 0, 1) := by decide +kernel
theorem d6_42 : decode prog_99_method_7_code 42 = .ok (.getfield 9, 3) := by decide +kernel
theorem d6_45 : decode prog_99_method_7_code 45 = .ok (.arraylength, 1) := by decide +kernel
theorem d6_46 : decode prog_99_method_7_code 46 = .ok (.i2l, 1) := by decide +kernel
theorem d6_47 : decode prog_99_method_7_code 47 = .ok (.lmul, 1) := by decide +kernel
theorem d6_48 : decode prog_99_method_7_code 48 = .ok (.lload_n 2, 1) := by decide +kernel
theorem d6_49 : decode prog_99_method_7_code 49 = .ok (.invokestatic 40, 3) := by decide +kernel
theorem d6_52 : decode prog_99_method_7_code 52 = .ok (.lstore 4, 2) := by decide +kernel
theorem d6_54 : decode prog_99_method_7_code 54 = .ok (.aload_n 0, 1) := by decide +kernel
theorem d6_55 : decode prog_99_method_7_code 55 = .ok (.aload_n 0, 1) := by decide +kernel
theorem d6_56 : decode prog_99_method_7_code 56 = .ok (.getfield 9, 3) := by decide +kernel
theorem d6_59 : decode prog_99_method_7_code 59 = .ok (.lload 4, 2) := by decide +kernel
theorem d6_61 : decode prog_99_method_7_code 61 = .ok (.ldc2_w 29, 3) := by decide +kernel
theorem d6_64 : decode prog_99_method_7_code 64 = .ok (.invokestatic 46, 3) := by decide +kernel
theorem d6_67 : decode prog_99_method_7_code 67 = .ok (.l2i, 1) := by decide +kernel
theorem d6_68 : decode prog_99_method_7_code 68 = .ok (.invokestatic 49, 3) := by decide +kernel
theorem d6_71 : decode prog_99_method_7_code 71 = .ok (.putfield 9, 3) := by decide +kernel
theorem d6_74 : decode prog_99_method_7_code 74 = .ok (.return_, 1) := by decide +kernel
theorem d7_0 : decode prog_99_method_2_code 0 = .ok (.aload_n 0, 1) := by decide +kernel
theorem d7_1 : decode prog_99_method_2_code 1 = .ok (.getfield 15, 3) := by decide +kernel
theorem d7_4 : decode prog_99_method_2_code 4 = .ok (.ireturn, 1) := by decide +kernel
theorem d8_0 : decode prog_26_method_1_code 0 = .ok (.aload_n 0, 1) := by decide +kernel
theorem d8_1 : decode prog_26_method_1_code 1 = .ok (.invokespecial 3, 3) := by decide +kernel
theorem d8_4 : decode prog_26_method_1_code 4 = .ok (.aload_n 0, 1) := by decide +kernel
theorem d8_5 : decode prog_26_method_1_code 5 = .ok (.bipush 64, 2) := by decide +kernel
theorem d8_7 : decode prog_26_method_1_code 7 = .ok (.newarray .long, 2) := by decide +kernel
theorem d8_9 : decode prog_26_method_1_code 9 = .ok (.putfield 9, 3) := by decide +kernel
theorem d8_12 : decode prog_26_method_1_code 12 = .ok (.aload_n 0, 1) := by decide +kernel
theorem d8_13 : decode prog_26_method_1_code 13 = .ok (.new 15, 3) := by decide +kernel
theorem d8_16 : decode prog_26_method_1_code 16 = .ok (.dup, 1) := by decide +kernel
theorem d8_17 : decode prog_26_method_1_code 17 = .ok (.invokespecial 17, 3) := by decide +kernel
theorem d8_20 : decode prog_26_method_1_code 20 = .ok (.putfield 18, 3) := by decide +kernel
theorem d8_23 : decode prog_26_method_1_code 23 = .ok (.aload_n 1, 1) := by decide +kernel
theorem d8_24 : decode prog_26_method_1_code 24 = .ok (.getfield 22, 3) := by decide +kernel
theorem d8_27 : decode prog_26_method_1_code 27 = .ok (.istore_n 2, 1) := by decide +kernel
theorem d8_28 : decode prog_26_method_1_code 28 = .ok (.aload_n 1, 1) := by decide +kernel
theorem d8_29 : decode prog_26_method_1_code 29 = .ok (.getfield 28, 3) := by decide +kernel
theorem d8_32 : decode prog_26_method_1_code 32 = .ok (.invokevirtual 31, 3) := by decide +kernel
theorem d8_35 : decode prog_26_method_1_code 35 = .ok (.istore_n 3, 1) := by decide +kernel
theorem d8_36 : decode prog_26_method_1_code 36 = .ok (.iload_n 2, 1) := by decide +kernel
theorem d8_37 : decode prog_26_method_1_code 37 = .ok (.newarray .int, 2) := by decide +kernel
theorem d8_39 : decode prog_26_method_1_code 39 = .ok (.astore 4, 2) := by decide +kernel
theorem d8_41 : decode prog_26_method_1_code 41 = .ok (.iload_n 2, 1) := by decide +kernel
theorem d8_42 : decode prog_26_method_1_code 42 = .ok (.newarray .int, 2) := by decide +kernel
theorem d8_44 : decode prog_26_method_1_code 44 = .ok (.astore 5, 2) := by decide +kernel
theorem d8_46 : decode prog_26_method_1_code 46 = .ok (.iconst 0, 1) := by decide +kernel
theorem d8_47 : decode prog_26_method_1_code 47 = .ok (.istore 6, 2) := by decide +kernel
theorem d8_49 : decode prog_26_method_1_code 49 = .ok (.iload 6, 2) := by decide +kernel
theorem d8_51 : decode prog_26_method_1_code 51 = .ok (.iload_n 3, 1) := by decide +kernel
theorem d8_52 : decode prog_26_method_1_code 52 = .ok (.if_icmp .ge 57, 3) := by decide +kernel
theorem d8_55 : decode prog_26_method_1_code 55 = .ok (.aload 4, 2) := by decide +kernel
theorem d8_57 : decode prog_26_method_1_code 57 = .ok (.aload_n 1, 1) := by decide +kernel
theorem d8_58 : decode prog_26_method_1_code 58 = .ok (.getfield 28, 3) := by decide +kernel
theorem d8_61 : decode prog_26_method_1_code 61 = .ok (.iload 6, 2) := by decide +kernel
theorem d8_63 : decode prog_26_method_1_code 63 = .ok (.invokevirtual 35, 3) := by decide +kernel
theorem d8_66 : decode prog_26_method_1_code 66 = .ok (.dup2, 1) := by decide +kernel
theorem d8_67 : decode prog_26_method_1_code 67 = .ok (.iaload, 1) := by decide +kernel
theorem d8_68 : decode prog_26_method_1_code 68 = .ok (.iconst 1, 1) := by decide +kernel
theorem d8_69 : decode prog_26_method_1_code 69 = .ok (.iadd, 1) := by decide +kernel
theorem d8_70 : decode prog_26_method_1_code 70 = .ok (.iastore, 1) := by decide +kernel
theorem d8_71 : decode prog_26_method_1_code 71 = .ok (.aload 4, 2) := by decide +kernel
theorem d8_73 : decode prog_26_method_1_code 73 = .ok (.aload_n 1, 1) := by decide +kernel
theorem d8_74 : decode prog_26_method_1_code 74 = .ok (.getfield 39, 3) := by decide +kernel
theorem d8_77 : decode prog_26_method_1_code 77 = .ok (.iload 6, 2) := by decide +kernel
theorem d8_79 : decode prog_26_method_1_code 79 = .ok (.invokevirtual 35, 3) := by decide +kernel
theorem d8_82 : decode prog_26_method_1_code 82 = .ok (.dup2, 1) := by decide +kernel
theorem d8_83 : decode prog_26_method_1_code 83 = .ok (.iaload, 1) := by decide +kernel
theorem d8_84 : decode prog_26_method_1_code 84 = .ok (.iconst 1, 1) := by decide +kernel
theorem d8_85 : decode prog_26_method_1_code 85 = .ok (.iadd, 1) := by decide +kernel
theorem d8_86 : decode prog_26_method_1_code 86 = .ok (.iastore, 1) := by decide +kernel
theorem d8_87 : decode prog_26_method_1_code 87 = .ok (.aload 5, 2) := by decide +kernel
theorem d8_89 : decode prog_26_method_1_code 89 = .ok (.aload_n 1, 1) := by decide +kernel
theorem d8_90 : decode prog_26_method_1_code 90 = .ok (.getfield 28, 3) := by decide +kernel
theorem d8_93 : decode prog_26_method_1_code 93 = .ok (.iload 6, 2) := by decide +kernel
theorem d8_95 : decode prog_26_method_1_code 95 = .ok (.invokevirtual 35, 3) := by decide +kernel
theorem d8_98 : decode prog_26_method_1_code 98 = .ok (.dup2, 1) := by decide +kernel
theorem d8_99 : decode prog_26_method_1_code 99 = .ok (.iaload, 1) := by decide +kernel
theorem d8_100 : decode prog_26_method_1_code 100 = .ok (.iconst 1, 1) := by decide +kernel
theorem d8_101 : decode prog_26_method_1_code 101 = .ok (.iadd, 1) := by decide +kernel
theorem d8_102 : decode prog_26_method_1_code 102 = .ok (.iastore, 1) := by decide +kernel
theorem d8_103 : decode prog_26_method_1_code 103 = .ok (.iinc 6 1, 3) := by decide +kernel
theorem d8_106 : decode prog_26_method_1_code 106 = .ok (.goto (-57), 3) := by decide +kernel
theorem d8_109 : decode prog_26_method_1_code 109 = .ok (.aload_n 0, 1) := by decide +kernel
theorem d8_110 : decode prog_26_method_1_code 110 = .ok (.iload_n 2, 1) := by decide +kernel
theorem d8_111 : decode prog_26_method_1_code 111 = .ok (.iconst 1, 1) := by decide +kernel
theorem d8_112 : decode prog_26_method_1_code 112 = .ok (.iadd, 1) := by decide +kernel
theorem d8_113 : decode prog_26_method_1_code 113 = .ok (.newarray .int, 2) := by decide +kernel
theorem d8_115 : decode prog_26_method_1_code 115 = .ok (.putfield 42, 3) := by decide +kernel
theorem d8_118 : decode prog_26_method_1_code 118 = .ok (.aload_n 0, 1) := by decide +kernel
theorem d8_119 : decode prog_26_method_1_code 119 = .ok (.iload_n 2, 1) := by decide +kernel
theorem d8_120 : decode prog_26_method_1_code 120 = .ok (.iconst 1, 1) := by decide +kernel
theorem d8_121 : decode prog_26_method_1_code 121 = .ok (.iadd, 1) := by decide +kernel
theorem d8_122 : decode prog_26_method_1_code 122 = .ok (.newarray .int, 2) := by decide +kernel
theorem d8_124 : decode prog_26_method_1_code 124 = .ok (.putfield 46, 3) := by decide +kernel
theorem d8_127 : decode prog_26_method_1_code 127 = .ok (.iconst 0, 1) := by decide +kernel
theorem d8_128 : decode prog_26_method_1_code 128 = .ok (.istore 6, 2) := by decide +kernel
theorem d8_130 : decode prog_26_method_1_code 130 = .ok (.iload 6, 2) := by decide +kernel
theorem d8_132 : decode prog_26_method_1_code 132 = .ok (.iload_n 2, 1) := by decide +kernel
theorem d8_133 : decode prog_26_method_1_code 133 = .ok (.if_icmp .ge 53, 3) := by decide +kernel
theorem d8_136 : decode prog_26_method_1_code 136 = .ok (.aload_n 0, 1) := by decide +kernel
theorem d8_137 : decode prog_26_method_1_code 137 = .ok (.getfield 42, 3) := by decide +kernel
theorem d8_140 : decode prog_26_method_1_code 140 = .ok (.iload 6, 2) := by decide +kernel
theorem d8_142 : decode prog_26_method_1_code 142 = .ok (.iconst 1, 1) := by decide +kernel
theorem d8_143 : decode prog_26_method_1_code 143 = .ok (.iadd, 1) := by decide +kernel
theorem d8_144 : decode prog_26_method_1_code 144 = .ok (.aload_n 0, 1) := by decide +kernel
theorem d8_145 : decode prog_26_method_1_code 145 = .ok (.getfield 42, 3) := by decide +kernel
theorem d8_148 : decode prog_26_method_1_code 148 = .ok (.iload 6, 2) := by decide +kernel
theorem d8_150 : decode prog_26_method_1_code 150 = .ok (.iaload, 1) := by decide +kernel
theorem d8_151 : decode prog_26_method_1_code 151 = .ok (.aload 4, 2) := by decide +kernel
theorem d8_153 : decode prog_26_method_1_code 153 = .ok (.iload 6, 2) := by decide +kernel
theorem d8_155 : decode prog_26_method_1_code 155 = .ok (.iaload, 1) := by decide +kernel
theorem d8_156 : decode prog_26_method_1_code 156 = .ok (.iadd, 1) := by decide +kernel
theorem d8_157 : decode prog_26_method_1_code 157 = .ok (.iastore, 1) := by decide +kernel
theorem d8_158 : decode prog_26_method_1_code 158 = .ok (.aload_n 0, 1) := by decide +kernel
theorem d8_159 : decode prog_26_method_1_code 159 = .ok (.getfield 46, 3) := by decide +kernel
theorem d8_162 : decode prog_26_method_1_code 162 = .ok (.iload 6, 2) := by decide +kernel
theorem d8_164 : decode prog_26_method_1_code 164 = .ok (.iconst 1, 1) := by decide +kernel
theorem d8_165 : decode prog_26_method_1_code 165 = .ok (.iadd, 1) := by decide +kernel
theorem d8_166 : decode prog_26_method_1_code 166 = .ok (.aload_n 0, 1) := by decide +kernel
theorem d8_167 : decode prog_26_method_1_code 167 = .ok (.getfield 46, 3) := by decide +kernel
theorem d8_170 : decode prog_26_method_1_code 170 = .ok (.iload 6, 2) := by decide +kernel
theorem d8_172 : decode prog_26_method_1_code 172 = .ok (.iaload, 1) := by decide +kernel
theorem d8_173 : decode prog_26_method_1_code 173 = .ok (.aload 5, 2) := by decide +kernel
theorem d8_175 : decode prog_26_method_1_code 175 = .ok (.iload 6, 2) := by decide +kernel
theorem d8_177 : decode prog_26_method_1_code 177 = .ok (.iaload, 1) := by decide +kernel
theorem d8_178 : decode prog_26_method_1_code 178 = .ok (.iadd, 1) := by decide +kernel
theorem d8_179 : decode prog_26_method_1_code 179 = .ok (.iastore, 1) := by decide +kernel
theorem d8_180 : decode prog_26_method_1_code 180 = .ok (.iinc 6 1, 3) := by decide +kernel
theorem d8_183 : decode prog_26_method_1_code 183 = .ok (.goto (-53), 3) := by decide +kernel
theorem d8_186 : decode prog_26_method_1_code 186 = .ok (.aload_n 0, 1) := by decide +kernel
theorem d8_187 : decode prog_26_method_1_code 187 = .ok (.iconst 2, 1) := by decide +kernel
theorem d8_188 : decode prog_26_method_1_code 188 = .ok (.iload_n 3, 1) := by decide +kernel
theorem d8_189 : decode prog_26_method_1_code 189 = .ok (.imul, 1) := by decide +kernel
theorem d8_190 : decode prog_26_method_1_code 190 = .ok (.newarray .int, 2) := by decide +kernel
theorem d8_192 : decode prog_26_method_1_code 192 = .ok (.putfield 49, 3) := by decide +kernel
theorem d8_195 : decode prog_26_method_1_code 195 = .ok (.aload_n 0, 1) := by decide +kernel
theorem d8_196 : decode prog_26_method_1_code 196 = .ok (.iconst 2, 1) := by decide +kernel
theorem d8_197 : decode prog_26_method_1_code 197 = .ok (.iload_n 3, 1) := by decide +kernel
theorem d8_198 : decode prog_26_method_1_code 198 = .ok (.imul, 1) := by decide +kernel
theorem d8_199 : decode prog_26_method_1_code 199 = .ok (.newarray .int, 2) := by decide +kernel
theorem d8_201 : decode prog_26_method_1_code 201 = .ok (.putfield 52, 3) := by decide +kernel
theorem d8_204 : decode prog_26_method_1_code 204 = .ok (.aload_n 0, 1) := by decide +kernel
theorem d8_205 : decode prog_26_method_1_code 205 = .ok (.iconst 2, 1) := by decide +kernel
theorem d8_206 : decode prog_26_method_1_code 206 = .ok (.iload_n 3, 1) := by decide +kernel
theorem d8_207 : decode prog_26_method_1_code 207 = .ok (.imul, 1) := by decide +kernel
theorem d8_208 : decode prog_26_method_1_code 208 = .ok (.newarray .int, 2) := by decide +kernel
theorem d8_210 : decode prog_26_method_1_code 210 = .ok (.putfield 55, 3) := by decide +kernel
theorem d8_213 : decode prog_26_method_1_code 213 = .ok (.aload_n 0, 1) := by decide +kernel
theorem d8_214 : decode prog_26_method_1_code 214 = .ok (.iconst 2, 1) := by decide +kernel
theorem d8_215 : decode prog_26_method_1_code 215 = .ok (.iload_n 3, 1) := by decide +kernel
theorem d8_216 : decode prog_26_method_1_code 216 = .ok (.imul, 1) := by decide +kernel
theorem d8_217 : decode prog_26_method_1_code 217 = .ok (.newarray .int, 2) := by decide +kernel
theorem d8_219 : decode prog_26_method_1_code 219 = .ok (.putfield 58, 3) := by decide +kernel
theorem d8_222 : decode prog_26_method_1_code 222 = .ok (.aload_n 0, 1) := by decide +kernel
theorem d8_223 : decode prog_26_method_1_code 223 = .ok (.iconst 2, 1) := by decide +kernel
theorem d8_224 : decode prog_26_method_1_code 224 = .ok (.iload_n 3, 1) := by decide +kernel
theorem d8_225 : decode prog_26_method_1_code 225 = .ok (.imul, 1) := by decide +kernel
theorem d8_226 : decode prog_26_method_1_code 226 = .ok (.newarray .int, 2) := by decide +kernel
theorem d8_228 : decode prog_26_method_1_code 228 = .ok (.putfield 61, 3) := by decide +kernel
theorem d8_231 : decode prog_26_method_1_code 231 = .ok (.aload_n 0, 1) := by decide +kernel
theorem d8_232 : decode prog_26_method_1_code 232 = .ok (.iconst 2, 1) := by decide +kernel
theorem d8_233 : decode prog_26_method_1_code 233 = .ok (.iload_n 3, 1) := by decide +kernel
theorem d8_234 : decode prog_26_method_1_code 234 = .ok (.imul, 1) := by decide +kernel
theorem d8_235 : decode prog_26_method_1_code 235 = .ok (.newarray .boolean, 2) := by decide +kernel
theorem d8_237 : decode prog_26_method_1_code 237 = .ok (.putfield 64, 3) := by decide +kernel
theorem d8_240 : decode prog_26_method_1_code 240 = .ok (.aload_n 0, 1) := by decide +kernel
theorem d8_241 : decode prog_26_method_1_code 241 = .ok (.iload_n 3, 1) := by decide +kernel
theorem d8_242 : decode prog_26_method_1_code 242 = .ok (.newarray .int, 2) := by decide +kernel
theorem d8_244 : decode prog_26_method_1_code 244 = .ok (.putfield 68, 3) := by decide +kernel
theorem d8_247 : decode prog_26_method_1_code 247 = .ok (.aload_n 0, 1) := by decide +kernel
theorem d8_248 : decode prog_26_method_1_code 248 = .ok (.getfield 42, 3) := by decide +kernel
theorem d8_251 : decode prog_26_method_1_code 251 = .ok (.iload_n 2, 1) := by decide +kernel
theorem d8_252 : decode prog_26_method_1_code 252 = .ok (.invokestatic 71, 3) := by decide +kernel
theorem d8_255 : decode prog_26_method_1_code 255 = .ok (.astore 6, 2) := by decide +kernel
theorem d8_257 : decode prog_26_method_1_code 257 = .ok (.iconst 0, 1) := by decide +kernel
theorem d8_258 : decode prog_26_method_1_code 258 = .ok (.istore 7, 2) := by decide +kernel
theorem d8_260 : decode prog_26_method_1_code 260 = .ok (.iload 7, 2) := by decide +kernel
theorem d8_262 : decode prog_26_method_1_code 262 = .ok (.iload_n 3, 1) := by decide +kernel
theorem d8_263 : decode prog_26_method_1_code 263 = .ok (.if_icmp .ge 171, 3) := by decide +kernel
theorem d8_266 : decode prog_26_method_1_code 266 = .ok (.aload_n 1, 1) := by decide +kernel
theorem d8_267 : decode prog_26_method_1_code 267 = .ok (.getfield 28, 3) := by decide +kernel
theorem d8_270 : decode prog_26_method_1_code 270 = .ok (.iload 7, 2) := by decide +kernel
theorem d8_272 : decode prog_26_method_1_code 272 = .ok (.invokevirtual 35, 3) := by decide +kernel
theorem d8_275 : decode prog_26_method_1_code 275 = .ok (.istore 8, 2) := by decide +kernel
theorem d8_277 : decode prog_26_method_1_code 277 = .ok (.aload_n 1, 1) := by decide +kernel
theorem d8_278 : decode prog_26_method_1_code 278 = .ok (.getfield 39, 3) := by decide +kernel
theorem d8_281 : decode prog_26_method_1_code 281 = .ok (.iload 7, 2) := by decide +kernel
theorem d8_283 : decode prog_26_method_1_code 283 = .ok (.invokevirtual 35, 3) := by decide +kernel
theorem d8_286 : decode prog_26_method_1_code 286 = .ok (.istore 9, 2) := by decide +kernel
theorem d8_288 : decode prog_26_method_1_code 288 = .ok (.aload 6, 2) := by decide +kernel
theorem d8_290 : decode prog_26_method_1_code 290 = .ok (.iload 8, 2) := by decide +kernel
theorem d8_292 : decode prog_26_method_1_code 292 = .ok (.dup2, 1) := by decide +kernel
theorem d8_293 : decode prog_26_method_1_code 293 = .ok (.iaload, 1) := by decide +kernel
theorem d8_294 : decode prog_26_method_1_code 294 = .ok (.dup_x2, 1) := by decide +kernel
theorem d8_295 : decode prog_26_method_1_code 295 = .ok (.iconst 1, 1) := by decide +kernel
theorem d8_296 : decode prog_26_method_1_code 296 = .ok (.iadd, 1) := by decide +kernel
theorem d8_297 : decode prog_26_method_1_code 297 = .ok (.iastore, 1) := by decide +kernel
theorem d8_298 : decode prog_26_method_1_code 298 = .ok (.istore 10, 2) := by decide +kernel
theorem d8_300 : decode prog_26_method_1_code 300 = .ok (.aload 6, 2) := by decide +kernel
theorem d8_302 : decode prog_26_method_1_code 302 = .ok (.iload 9, 2) := by decide +kernel
theorem d8_304 : decode prog_26_method_1_code 304 = .ok (.dup2, 1) := by decide +kernel
theorem d8_305 : decode prog_26_method_1_code 305 = .ok (.iaload, 1) := by decide +kernel
theorem d8_306 : decode prog_26_method_1_code 306 = .ok (.dup_x2, 1) := by decide +kernel
theorem d8_307 : decode prog_26_method_1_code 307 = .ok (.iconst 1, 1) := by decide +kernel
theorem d8_308 : decode prog_26_method_1_code 308 = .ok (.iadd, 1) := by decide +kernel
theorem d8_309 : decode prog_26_method_1_code 309 = .ok (.iastore, 1) := by decide +kernel
theorem d8_310 : decode prog_26_method_1_code 310 = .ok (.istore 11, 2) := by decide +kernel
theorem d8_312 : decode prog_26_method_1_code 312 = .ok (.aload_n 0, 1) := by decide +kernel
theorem d8_313 : decode prog_26_method_1_code 313 = .ok (.getfield 68, 3) := by decide +kernel
theorem d8_316 : decode prog_26_method_1_code 316 = .ok (.iload 7, 2) := by decide +kernel
theorem d8_318 : decode prog_26_method_1_code 318 = .ok (.iload 10, 2) := by decide +kernel
theorem d8_320 : decode prog_26_method_1_code 320 = .ok (.iastore, 1) := by decide +kernel
theorem d8_321 : decode prog_26_method_1_code 321 = .ok (.aload_n 0, 1) := by decide +kernel
theorem d8_322 : decode prog_26_method_1_code 322 = .ok (.getfield 49, 3) := by decide +kernel
theorem d8_325 : decode prog_26_method_1_code 325 = .ok (.iload 10, 2) := by decide +kernel
theorem d8_327 : decode prog_26_method_1_code 327 = .ok (.iload 9, 2) := by decide +kernel
theorem d8_329 : decode prog_26_method_1_code 329 = .ok (.iastore, 1) := by decide +kernel
theorem d8_330 : decode prog_26_method_1_code 330 = .ok (.aload_n 0, 1) := by decide +kernel
theorem d8_331 : decode prog_26_method_1_code 331 = .ok (.getfield 52, 3) := by decide +kernel
theorem d8_334 : decode prog_26_method_1_code 334 = .ok (.iload 10, 2) := by decide +kernel
theorem d8_336 : decode prog_26_method_1_code 336 = .ok (.aload_n 1, 1) := by decide +kernel
theorem d8_337 : decode prog_26_method_1_code 337 = .ok (.getfield 77, 3) := by decide +kernel
theorem d8_340 : decode prog_26_method_1_code 340 = .ok (.iload 7, 2) := by decide +kernel
theorem d8_342 : decode prog_26_method_1_code 342 = .ok (.invokevirtual 35, 3) := by decide +kernel
theorem d8_345 : decode prog_26_method_1_code 345 = .ok (.iastore, 1) := by decide +kernel
theorem d8_346 : decode prog_26_method_1_code 346 = .ok (.aload_n 0, 1) := by decide +kernel
theorem d8_347 : decode prog_26_method_1_code 347 = .ok (.getfield 55, 3) := by decide +kernel
theorem d8_350 : decode prog_26_method_1_code 350 = .ok (.iload 10, 2) := by decide +kernel
theorem d8_352 : decode prog_26_method_1_code 352 = .ok (.aload_n 1, 1) := by decide +kernel
theorem d8_353 : decode prog_26_method_1_code 353 = .ok (.getfield 80, 3) := by decide +kernel
theorem d8_356 : decode prog_26_method_1_code 356 = .ok (.iload 7, 2) := by decide +kernel
theorem d8_358 : decode prog_26_method_1_code 358 = .ok (.invokevirtual 35, 3) := by decide +kernel
theorem d8_361 : decode prog_26_method_1_code 361 = .ok (.iastore, 1) := by decide +kernel
theorem d8_362 : decode prog_26_method_1_code 362 = .ok (.aload_n 0, 1) := by decide +kernel
theorem d8_363 : decode prog_26_method_1_code 363 = .ok (.getfield 61, 3) := by decide +kernel
theorem d8_366 : decode prog_26_method_1_code 366 = .ok (.iload 11, 2) := by decide +kernel
theorem d8_368 : decode prog_26_method_1_code 368 = .ok (.aload_n 0, 1) := by decide +kernel
theorem d8_369 : decode prog_26_method_1_code 369 = .ok (.getfield 55, 3) := by decide +kernel
theorem d8_372 : decode prog_26_method_1_code 372 = .ok (.iload 10, 2) := by decide +kernel
theorem d8_374 : decode prog_26_method_1_code 374 = .ok (.iaload, 1) := by decide +kernel
theorem d8_375 : decode prog_26_method_1_code 375 = .ok (.iastore, 1) := by decide +kernel
theorem d8_376 : decode prog_26_method_1_code 376 = .ok (.aload_n 0, 1) := by decide +kernel
theorem d8_377 : decode prog_26_method_1_code 377 = .ok (.getfield 58, 3) := by decide +kernel
theorem d8_380 : decode prog_26_method_1_code 380 = .ok (.iload 10, 2) := by decide +kernel
theorem d8_382 : decode prog_26_method_1_code 382 = .ok (.iload 11, 2) := by decide +kernel
theorem d8_384 : decode prog_26_method_1_code 384 = .ok (.iastore, 1) := by decide +kernel
theorem d8_385 : decode prog_26_method_1_code 385 = .ok (.aload_n 0, 1) := by decide +kernel
theorem d8_386 : decode prog_26_method_1_code 386 = .ok (.getfield 64, 3) := by decide +kernel
theorem d8_389 : decode prog_26_method_1_code 389 = .ok (.iload 10, 2) := by decide +kernel
theorem d8_391 : decode prog_26_method_1_code 391 = .ok (.iconst 1, 1) := by decide +kernel
theorem d8_392 : decode prog_26_method_1_code 392 = .ok (.bastore, 1) := by decide +kernel
theorem d8_393 : decode prog_26_method_1_code 393 = .ok (.aload_n 0, 1) := by decide +kernel
theorem d8_394 : decode prog_26_method_1_code 394 = .ok (.getfield 49, 3) := by decide +kernel
theorem d8_397 : decode prog_26_method_1_code 397 = .ok (.iload 11, 2) := by decide +kernel
theorem d8_399 : decode prog_26_method_1_code 399 = .ok (.iload 8, 2) := by decide +kernel
theorem d8_401 : decode prog_26_method_1_code 401 = .ok (.iastore, 1) := by decide +kernel
theorem d8_402 : decode prog_26_method_1_code 402 = .ok (.aload_n 0, 1) := by decide +kernel
theorem d8_403 : decode prog_26_method_1_code 403 = .ok (.getfield 52, 3) := by decide +kernel
theorem d8_406 : decode prog_26_method_1_code 406 = .ok (.iload 11, 2) := by decide +kernel
theorem d8_408 : decode prog_26_method_1_code 408 = .ok (.aload_n 1, 1) := by decide +kernel
theorem d8_409 : decode prog_26_method_1_code 409 = .ok (.getfield 77, 3) := by decide +kernel
theorem d8_412 : decode prog_26_method_1_code 412 = .ok (.iload 7, 2) := by decide +kernel
theorem d8_414 : decode prog_26_method_1_code 414 = .ok (.invokevirtual 35, 3) := by decide +kernel
theorem d8_417 : decode prog_26_method_1_code 417 = .ok (.ineg, 1) := by decide +kernel
theorem d8_418 : decode prog_26_method_1_code 418 = .ok (.iastore, 1) := by decide +kernel
theorem d8_419 : decode prog_26_method_1_code 419 = .ok (.aload_n 0, 1) := by decide +kernel
theorem d8_420 : decode prog_26_method_1_code 420 = .ok (.getfield 58, 3) := by decide +kernel
theorem d8_423 : decode prog_26_method_1_code 423 = .ok (.iload 11, 2) := by decide +kernel
theorem d8_425 : decode prog_26_method_1_code 425 = .ok (.iload 10, 2) := by decide +kernel
theorem d8_427 : decode prog_26_method_1_code 427 = .ok (.iastore, 1) := by decide +kernel
theorem d8_428 : decode prog_26_method_1_code 428 = .ok (.iinc 7 1, 3) := by decide +kernel
theorem d8_431 : decode prog_26_method_1_code 431 = .ok (.goto (-171), 3) := by decide +kernel
theorem d8_434 : decode prog_26_method_1_code 434 = .ok (.aload_n 0, 1) := by decide +kernel
theorem d8_435 : decode prog_26_method_1_code 435 = .ok (.aload_n 0, 1) := by decide +kernel
theorem d8_436 : decode prog_26_method_1_code 436 = .ok (.getfield 46, 3) := by decide +kernel
theorem d8_439 : decode prog_26_method_1_code 439 = .ok (.iload_n 2, 1) := by decide +kernel
theorem d8_440 : decode prog_26_method_1_code 440 = .ok (.iaload, 1) := by decide +kernel
theorem d8_441 : decode prog_26_method_1_code 441 = .ok (.newarray .int, 2) := by decide +kernel
theorem d8_443 : decode prog_26_method_1_code 443 = .ok (.putfield 83, 3) := by decide +kernel
theorem d8_446 : decode prog_26_method_1_code 446 = .ok (.aload_n 0, 1) := by decide +kernel
theorem d8_447 : decode prog_26_method_1_code 447 = .ok (.iload_n 2, 1) := by decide +kernel
theorem d8_448 : decode prog_26_method_1_code 448 = .ok (.newarray .int, 2) := by decide +kernel
theorem d8_450 : decode prog_26_method_1_code 450 = .ok (.putfield 86, 3) := by decide +kernel
theorem d8_453 : decode prog_26_method_1_code 453 = .ok (.aload_n 0, 1) := by decide +kernel
theorem d8_454 : decode prog_26_method_1_code 454 = .ok (.iconst 2, 1) := by decide +kernel
theorem d8_455 : decode prog_26_method_1_code 455 = .ok (.iload_n 3, 1) := by decide +kernel
theorem d8_456 : decode prog_26_method_1_code 456 = .ok (.imul, 1) := by decide +kernel
theorem d8_457 : decode prog_26_method_1_code 457 = .ok (.newarray .int, 2) := by decide +kernel
theorem d8_459 : decode prog_26_method_1_code 459 = .ok (.putfield 89, 3) := by decide +kernel
theorem d8_462 : decode prog_26_method_1_code 462 = .ok (.aload_n 0, 1) := by decide +kernel
theorem d8_463 : decode prog_26_method_1_code 463 = .ok (.iload_n 2, 1) := by decide +kernel
theorem d8_464 : decode prog_26_method_1_code 464 = .ok (.newarray .int, 2) := by decide +kernel
theorem d8_466 : decode prog_26_method_1_code 466 = .ok (.putfield 92, 3) := by decide +kernel
theorem d8_469 : decode prog_26_method_1_code 469 = .ok (.aload_n 0, 1) := by decide +kernel
theorem d8_470 : decode prog_26_method_1_code 470 = .ok (.iload_n 2, 1) := by decide +kernel
theorem d8_471 : decode prog_26_method_1_code 471 = .ok (.newarray .long, 2) := by decide +kernel
theorem d8_473 : decode prog_26_method_1_code 473 = .ok (.putfield 95, 3) := by decide +kernel
theorem d8_476 : decode prog_26_method_1_code 476 = .ok (.aload_n 0, 1) := by decide +kernel
theorem d8_477 : decode prog_26_method_1_code 477 = .ok (.iload_n 2, 1) := by decide +kernel
theorem d8_478 : decode prog_26_method_1_code 478 = .ok (.newarray .int, 2) := by decide +kernel
theorem d8_480 : decode prog_26_method_1_code 480 = .ok (.putfield 98, 3) := by decide +kernel
theorem d8_483 : decode prog_26_method_1_code 483 = .ok (.aload_n 0, 1) := by decide +kernel
theorem d8_484 : decode prog_26_method_1_code 484 = .ok (.iload_n 2, 1) := by decide +kernel
theorem d8_485 : decode prog_26_method_1_code 485 = .ok (.newarray .int, 2) := by decide +kernel
theorem d8_487 : decode prog_26_method_1_code 487 = .ok (.putfield 101, 3) := by decide +kernel
theorem d8_490 : decode prog_26_method_1_code 490 = .ok (.aload_n 0, 1) := by decide +kernel
theorem d8_491 : decode prog_26_method_1_code 491 = .ok (.iload_n 2, 1) := by decide +kernel
theorem d8_492 : decode prog_26_method_1_code 492 = .ok (.newarray .int, 2) := by decide +kernel
theorem d8_494 : decode prog_26_method_1_code 494 = .ok (.putfield 104, 3) := by decide +kernel
theorem d8_497 : decode prog_26_method_1_code 497 = .ok (.aload_n 0, 1) := by decide +kernel
theorem d8_498 : decode prog_26_method_1_code 498 = .ok (.iload_n 2, 1) := by decide +kernel
theorem d8_499 : decode prog_26_method_1_code 499 = .ok (.newarray .boolean, 2) := by decide +kernel
theorem d8_501 : decode prog_26_method_1_code 501 = .ok (.putfield 107, 3) := by decide +kernel
theorem d8_504 : decode prog_26_method_1_code 504 = .ok (.aload_n 0, 1) := by decide +kernel
theorem d8_505 : decode prog_26_method_1_code 505 = .ok (.iload_n 2, 1) := by decide +kernel
theorem d8_506 : decode prog_26_method_1_code 506 = .ok (.newarray .int, 2) := by decide +kernel
theorem d8_508 : decode prog_26_method_1_code 508 = .ok (.putfield 110, 3) := by decide +kernel
theorem d8_511 : decode prog_26_method_1_code 511 = .ok (.aload_n 0, 1) := by decide +kernel
theorem d8_512 : decode prog_26_method_1_code 512 = .ok (.iload_n 2, 1) := by decide +kernel
theorem d8_513 : decode prog_26_method_1_code 513 = .ok (.newarray .int, 2) := by decide +kernel
theorem d8_515 : decode prog_26_method_1_code 515 = .ok (.putfield 113, 3) := by decide +kernel
theorem d8_518 : decode prog_26_method_1_code 518 = .ok (.aload_n 0, 1) := by decide +kernel
theorem d8_519 : decode prog_26_method_1_code 519 = .ok (.new 116, 3) := by decide +kernel
theorem d8_522 : decode prog_26_method_1_code 522 = .ok (.dup, 1) := by decide +kernel
theorem d8_523 : decode prog_26_method_1_code 523 = .ok (.iload_n 2, 1) := by decide +kernel
theorem d8_524 : decode prog_26_method_1_code 524 = .ok (.invokespecial 118, 3) := by decide +kernel
theorem d8_527 : decode prog_26_method_1_code 527 = .ok (.putfield 121, 3) := by decide +kernel
theorem d8_530 : decode prog_26_method_1_code 530 = .ok (.aload_n 0, 1) := by decide +kernel
theorem d8_531 : decode prog_26_method_1_code 531 = .ok (.new 116, 3) := by decide +kernel
theorem d8_534 : decode prog_26_method_1_code 534 = .ok (.dup, 1) := by decide +kernel
theorem d8_535 : decode prog_26_method_1_code 535 = .ok (.iload_n 2, 1) := by decide +kernel
theorem d8_536 : decode prog_26_method_1_code 536 = .ok (.invokespecial 118, 3) := by decide +kernel
theorem d8_539 : decode prog_26_method_1_code 539 = .ok (.putfield 125, 3) := by decide +kernel
theorem d8_542 : decode prog_26_method_1_code 542 = .ok (.return_, 1) := by decide +kernel
theorem d9_0 : decode prog_99_method_3_code 0 = .ok (.aload_n 0, 1) := by decide +kernel
theorem d9_1 : decode prog_99_method_3_code 1 = .ok (.getfield 9, 3) := by decide +kernel
theorem d9_4 : decode prog_99_method_3_code 4 = .ok (.iload_n 1, 1) := by decide +kernel
theorem d9_5 : decode prog_99_method_3_code 5 = .ok (.iaload, 1) := by decide +kernel
theorem d9_6 : decode prog_99_method_3_code 6 = .ok (.ireturn, 1) := by decide +kernel
theorem d10_0 : decode jdk_65_method_123_code 0 = .ok (.iload_n 1, 1) := by decide +kernel
theorem d10_1 : decode jdk_65_method_123_code 1 = .ok (.aload_n 0, 1) := by decide +kernel
theorem d10_2 : decode jdk_65_method_123_code 2 = .ok (.arraylength, 1) := by decide +kernel
theorem d10_3 : decode jdk_65_method_123_code 3 = .ok (.if_icmp .ne 11, 3) := by decide +kernel
theorem d10_6 : decode jdk_65_method_123_code 6 = .ok (.aload_n 0, 1) := by decide +kernel
theorem d10_7 : decode jdk_65_method_123_code 7 = .ok (.invokevirtual 316, 3) := by decide +kernel
theorem d10_10 : decode jdk_65_method_123_code 10 = .ok (.checkcast 317, 3) := by decide +kernel
theorem d10_13 : decode jdk_65_method_123_code 13 = .ok (.areturn, 1) := by decide +kernel
theorem d10_14 : decode jdk_65_method_123_code 14 = .ok (.iload_n 1, 1) := by decide +kernel
theorem d10_15 : decode jdk_65_method_123_code 15 = .ok (.newarray .int, 2) := by decide +kernel
theorem d10_17 : decode jdk_65_method_123_code 17 = .ok (.astore_n 2, 1) := by decide +kernel
theorem d10_18 : decode jdk_65_method_123_code 18 = .ok (.aload_n 0, 1) := by decide +kernel
theorem d10_19 : decode jdk_65_method_123_code 19 = .ok (.iconst 0, 1) := by decide +kernel
theorem d10_20 : decode jdk_65_method_123_code 20 = .ok (.aload_n 2, 1) := by decide +kernel
theorem d10_21 : decode jdk_65_method_123_code 21 = .ok (.iconst 0, 1) := by decide +kernel
theorem d10_22 : decode jdk_65_method_123_code 22 = .ok (.aload_n 0, 1) := by decide +kernel
theorem d10_23 : decode jdk_65_method_123_code 23 = .ok (.arraylength, 1) := by decide +kernel
theorem d10_24 : decode jdk_65_method_123_code 24 = .ok (.iload_n 1, 1) := by decide +kernel
theorem d10_25 : decode jdk_65_method_123_code 25 = .ok (.invokestatic 304, 3) := by decide +kernel
theorem d10_28 : decode jdk_65_method_123_code 28 = .ok (.invokestatic 150, 3) := by decide +kernel
theorem d10_31 : decode jdk_65_method_123_code 31 = .ok (.aload_n 2, 1) := by decide +kernel
theorem d10_32 : decode jdk_65_method_123_code 32 = .ok (.areturn, 1) := by decide +kernel
theorem d11_0 : decode jdk_29_method_69_code 0 = .ok (.iload_n 0, 1) := by decide +kernel
theorem d11_1 : decode jdk_29_method_69_code 1 = .ok (.iload_n 1, 1) := by decide +kernel
theorem d11_2 : decode jdk_29_method_69_code 2 = .ok (.if_icmp .gt 7, 3) := by decide +kernel
theorem d11_5 : decode jdk_29_method_69_code 5 = .ok (.iload_n 0, 1) := by decide +kernel
theorem d11_6 : decode jdk_29_method_69_code 6 = .ok (.goto 4, 3) := by decide +kernel
theorem d11_9 : decode jdk_29_method_69_code 9 = .ok (.iload_n 1, 1) := by decide +kernel
theorem d11_10 : decode jdk_29_method_69_code 10 = .ok (.ireturn, 1) := by decide +kernel
theorem d12_0 : decode prog_27_method_1_code 0 = .ok (.aload_n 0, 1) := by decide +kernel
theorem d12_1 : decode prog_27_method_1_code 1 = .ok (.invokespecial 1, 3) := by decide +kernel
theorem d12_4 : decode prog_27_method_1_code 4 = .ok (.aload_n 0, 1) := by decide +kernel
theorem d12_5 : decode prog_27_method_1_code 5 = .ok (.iload_n 1, 1) := by decide +kernel
theorem d12_6 : decode prog_27_method_1_code 6 = .ok (.newarray .int, 2) := by decide +kernel
theorem d12_8 : decode prog_27_method_1_code 8 = .ok (.putfield 7, 3) := by decide +kernel
theorem d12_11 : decode prog_27_method_1_code 11 = .ok (.aload_n 0, 1) := by decide +kernel
theorem d12_12 : decode prog_27_method_1_code 12 = .ok (.iload_n 1, 1) := by decide +kernel
theorem d12_13 : decode prog_27_method_1_code 13 = .ok (.newarray .int, 2) := by decide +kernel
theorem d12_15 : decode prog_27_method_1_code 15 = .ok (.putfield 13, 3) := by decide +kernel
theorem d12_18 : decode prog_27_method_1_code 18 = .ok (.aload_n 0, 1) := by decide +kernel
theorem d12_19 : decode prog_27_method_1_code 19 = .ok (.iload_n 1, 1) := by decide +kernel
theorem d12_20 : decode prog_27_method_1_code 20 = .ok (.newarray .int, 2) := by decide +kernel
theorem d12_22 : decode prog_27_method_1_code 22 = .ok (.putfield 16, 3) := by decide +kernel
theorem d12_25 : decode prog_27_method_1_code 25 = .ok (.return_, 1) := by decide +kernel
theorem d13_0 : decode prog_26_method_10_code 0 = .ok (.aload_n 0, 1) := by decide +kernel
theorem d13_1 : decode prog_26_method_10_code 1 = .ok (.iload_n 1, 1) := by decide +kernel
theorem d13_2 : decode prog_26_method_10_code 2 = .ok (.invokevirtual 149, 3) := by decide +kernel
theorem d13_5 : decode prog_26_method_10_code 5 = .ok (.return_, 1) := by decide +kernel
theorem d14_0 : decode prog_26_method_25_code 0 = .ok (.aload_n 0, 1) := by decide +kernel
theorem d14_1 : decode prog_26_method_25_code 1 = .ok (.dup, 1) := by decide +kernel
theorem d14_2 : decode prog_26_method_25_code 2 = .ok (.getfield 170, 3) := by decide +kernel
theorem d14_5 : decode prog_26_method_25_code 5 = .ok (.iconst 1, 1) := by decide +kernel
theorem d14_6 : decode prog_26_method_25_code 6 = .ok (.iadd, 1) := by decide +kernel
theorem d14_7 : decode prog_26_method_25_code 7 = .ok (.putfield 170, 3) := by decide +kernel
theorem d14_10 : decode prog_26_method_25_code 10 = .ok (.aload_n 0, 1) := by decide +kernel
theorem d14_11 : decode prog_26_method_25_code 11 = .ok (.iload_n 1, 1) := by decide +kernel
theorem d14_12 : decode prog_26_method_25_code 12 = .ok (.putfield 173, 3) := by decide +kernel
theorem d14_15 : decode prog_26_method_25_code 15 = .ok (.aload_n 0, 1) := by decide +kernel
theorem d14_16 : decode prog_26_method_25_code 16 = .ok (.iconst 0, 1) := by decide +kernel
theorem d14_17 : decode prog_26_method_25_code 17 = .ok (.putfield 176, 3) := by decide +kernel
theorem d14_20 : decode prog_26_method_25_code 20 = .ok (.aload_n 0, 1) := by decide +kernel
theorem d14_21 : decode prog_26_method_25_code 21 = .ok (.iconst 0, 1) := by decide +kernel
theorem d14_22 : decode prog_26_method_25_code 22 = .ok (.putfield 230, 3) := by decide +kernel
theorem d14_25 : decode prog_26_method_25_code 25 = .ok (.aload_n 0, 1) := by decide +kernel
theorem d14_26 : decode prog_26_method_25_code 26 = .ok (.iconst 0, 1) := by decide +kernel
theorem d14_27 : decode prog_26_method_25_code 27 = .ok (.putfield 233, 3) := by decide +kernel
theorem d14_30 : decode prog_26_method_25_code 30 = .ok (.aload_n 0, 1) := by decide +kernel
theorem d14_31 : decode prog_26_method_25_code 31 = .ok (.iconst 0, 1) := by decide +kernel
theorem d14_32 : decode prog_26_method_25_code 32 = .ok (.putfield 236, 3) := by decide +kernel
theorem d14_35 : decode prog_26_method_25_code 35 = .ok (.aload_n 0, 1) := by decide +kernel
theorem d14_36 : decode prog_26_method_25_code 36 = .ok (.iconst 0, 1) := by decide +kernel
theorem d14_37 : decode prog_26_method_25_code 37 = .ok (.putfield 179, 3) := by decide +kernel
theorem d14_40 : decode prog_26_method_25_code 40 = .ok (.aload_n 0, 1) := by decide +kernel
theorem d14_41 : decode prog_26_method_25_code 41 = .ok (.iload_n 1, 1) := by decide +kernel
theorem d14_42 : decode prog_26_method_25_code 42 = .ok (.iconst 0, 1) := by decide +kernel
theorem d14_43 : decode prog_26_method_25_code 43 = .ok (.iconst (-1), 1) := by decide +kernel
theorem d14_44 : decode prog_26_method_25_code 44 = .ok (.invokevirtual 166, 3) := by decide +kernel
theorem d14_47 : decode prog_26_method_25_code 47 = .ok (.pop, 1) := by decide +kernel
theorem d14_48 : decode prog_26_method_25_code 48 = .ok (.return_, 1) := by decide +kernel
theorem d15_0 : decode prog_26_method_27_code 0 = .ok (.aload_n 0, 1) := by decide +kernel
theorem d15_1 : decode prog_26_method_27_code 1 = .ok (.getfield 98, 3) := by decide +kernel
theorem d15_4 : decode prog_26_method_27_code 4 = .ok (.iload_n 1, 1) := by decide +kernel
theorem d15_5 : decode prog_26_method_27_code 5 = .ok (.iaload, 1) := by decide +kernel
theorem d15_6 : decode prog_26_method_27_code 6 = .ok (.aload_n 0, 1) := by decide +kernel
theorem d15_7 : decode prog_26_method_27_code 7 = .ok (.getfield 170, 3) := by decide +kernel
theorem d15_10 : decode prog_26_method_27_code 10 = .ok (.if_icmp .ne 15, 3) := by decide +kernel
theorem d15_13 : decode prog_26_method_27_code 13 = .ok (.aload_n 0, 1) := by decide +kernel
theorem d15_14 : decode prog_26_method_27_code 14 = .ok (.getfield 101, 3) := by decide +kernel
theorem d15_17 : decode prog_26_method_27_code 17 = .ok (.iload_n 1, 1) := by decide +kernel
theorem d15_18 : decode prog_26_method_27_code 18 = .ok (.iaload, 1) := by decide +kernel
theorem d15_19 : decode prog_26_method_27_code 19 = .ok (.iload_n 2, 1) := by decide +kernel
theorem d15_20 : decode prog_26_method_27_code 20 = .ok (.if_icmp .gt 5, 3) := by decide +kernel
theorem d15_23 : decode prog_26_method_27_code 23 = .ok (.iconst 0, 1) := by decide +kernel
theorem d15_24 : decode prog_26_method_27_code 24 = .ok (.ireturn, 1) := by decide +kernel
theorem d15_25 : decode prog_26_method_27_code 25 = .ok (.aload_n 0, 1) := by decide +kernel
theorem d15_26 : decode prog_26_method_27_code 26 = .ok (.getfield 98, 3) := by decide +kernel
theorem d15_29 : decode prog_26_method_27_code 29 = .ok (.iload_n 1, 1) := by decide +kernel
theorem d15_30 : decode prog_26_method_27_code 30 = .ok (.iaload, 1) := by decide +kernel
theorem d15_31 : decode prog_26_method_27_code 31 = .ok (.aload_n 0, 1) := by decide +kernel
theorem d15_32 : decode prog_26_method_27_code 32 = .ok (.getfield 170, 3) := by decide +kernel
theorem d15_35 : decode prog_26_method_27_code 35 = .ok (.if_icmp .eq 20, 3) := by decide +kernel
theorem d15_38 : decode prog_26_method_27_code 38 = .ok (.aload_n 0, 1) := by decide +kernel
theorem d15_39 : decode prog_26_method_27_code 39 = .ok (.getfield 98, 3) := by decide +kernel
theorem d15_42 : decode prog_26_method_27_code 42 = .ok (.iload_n 1, 1) := by decide +kernel
theorem d15_43 : decode prog_26_method_27_code 43 = .ok (.aload_n 0, 1) := by decide +kernel
theorem d15_44 : decode prog_26_method_27_code 44 = .ok (.getfield 170, 3) := by decide +kernel
theorem d15_47 : decode prog_26_method_27_code 47 = .ok (.iastore, 1) := by decide +kernel
theorem d15_48 : decode prog_26_method_27_code 48 = .ok (.aload_n 0, 1) := by decide +kernel
theorem d15_49 : decode prog_26_method_27_code 49 = .ok (.getfield 107, 3) := by decide +kernel
theorem d15_52 : decode prog_26_method_27_code 52 = .ok (.iload_n 1, 1) := by decide +kernel
theorem d15_53 : decode prog_26_method_27_code 53 = .ok (.iconst 0, 1) := by decide +kernel
theorem d15_54 : decode prog_26_method_27_code 54 = .ok (.bastore, 1) := by decide +kernel
theorem d15_55 : decode prog_26_method_27_code 55 = .ok (.aload_n 0, 1) := by decide +kernel
theorem d15_56 : decode prog_26_method_27_code 56 = .ok (.getfield 101, 3) := by decide +kernel
theorem d15_59 : decode prog_26_method_27_code 59 = .ok (.iload_n 1, 1) := by decide +kernel
theorem d15_60 : decode prog_26_method_27_code 60 = .ok (.iload_n 2, 1) := by decide +kernel
theorem d15_61 : decode prog_26_method_27_code 61 = .ok (.iastore, 1) := by decide +kernel
theorem d15_62 : decode prog_26_method_27_code 62 = .ok (.aload_n 0, 1) := by decide +kernel
theorem d15_63 : decode prog_26_method_27_code 63 = .ok (.getfield 104, 3) := by decide +kernel
theorem d15_66 : decode prog_26_method_27_code 66 = .ok (.iload_n 1, 1) := by decide +kernel
theorem d15_67 : decode prog_26_method_27_code 67 = .ok (.iload_n 3, 1) := by decide +kernel
theorem d15_68 : decode prog_26_method_27_code 68 = .ok (.iastore, 1) := by decide +kernel
theorem d15_69 : decode prog_26_method_27_code 69 = .ok (.iload_n 2, 1) := by decide +kernel
theorem d15_70 : decode prog_26_method_27_code 70 = .ok (.aload_n 0, 1) := by decide +kernel
theorem d15_71 : decode prog_26_method_27_code 71 = .ok (.getfield 179, 3) := by decide +kernel
theorem d15_74 : decode prog_26_method_27_code 74 = .ok (.if_icmp .ne 23, 3) := by decide +kernel
theorem d15_77 : decode prog_26_method_27_code 77 = .ok (.aload_n 0, 1) := by decide +kernel
theorem d15_78 : decode prog_26_method_27_code 78 = .ok (.getfield 113, 3) := by decide +kernel
theorem d15_81 : decode prog_26_method_27_code 81 = .ok (.aload_n 0, 1) := by decide +kernel
theorem d15_82 : decode prog_26_method_27_code 82 = .ok (.dup, 1) := by decide +kernel
theorem d15_83 : decode prog_26_method_27_code 83 = .ok (.getfield 236, 3) := by decide +kernel
theorem d15_86 : decode prog_26_method_27_code 86 = .ok (.dup_x1, 1) := by decide +kernel
theorem d15_87 : decode prog_26_method_27_code 87 = .ok (.iconst 1, 1) := by decide +kernel
theorem d15_88 : decode prog_26_method_27_code 88 = .ok (.iadd, 1) := by decide +kernel
theorem d15_89 : decode prog_26_method_27_code 89 = .ok (.putfield 236, 3) := by decide +kernel
theorem d15_92 : decode prog_26_method_27_code 92 = .ok (.iload_n 1, 1) := by decide +kernel
theorem d15_93 : decode prog_26_method_27_code 93 = .ok (.iastore, 1) := by decide +kernel
theorem d15_94 : decode prog_26_method_27_code 94 = .ok (.goto 15, 3) := by decide +kernel
theorem d15_97 : decode prog_26_method_27_code 97 = .ok (.aload_n 0, 1) := by decide +kernel
theorem d15_98 : decode prog_26_method_27_code 98 = .ok (.iload_n 2, 1) := by decide +kernel
theorem d15_99 : decode prog_26_method_27_code 99 = .ok (.i2l, 1) := by decide +kernel
theorem d15_100 : decode prog_26_method_27_code 100 = .ok (.bipush 32, 2) := by decide +kernel
theorem d15_102 : decode prog_26_method_27_code 102 = .ok (.lshl, 1) := by decide +kernel
theorem d15_103 : decode prog_26_method_27_code 103 = .ok (.iload_n 1, 1) := by decide +kernel
theorem d15_104 : decode prog_26_method_27_code 104 = .ok (.i2l, 1) := by decide +kernel
theorem d15_105 : decode prog_26_method_27_code 105 = .ok (.lor, 1) := by decide +kernel
theorem d15_106 : decode prog_26_method_27_code 106 = .ok (.invokevirtual 241, 3) := by decide +kernel
theorem d15_109 : decode prog_26_method_27_code 109 = .ok (.iconst 1, 1) := by decide +kernel
theorem d15_110 : decode prog_26_method_27_code 110 = .ok (.ireturn, 1) := by decide +kernel
theorem d16_0 : decode prog_26_method_11_code 0 = .ok (.aload_n 0, 1) := by decide +kernel
theorem d16_1 : decode prog_26_method_11_code 1 = .ok (.invokevirtual 152, 3) := by decide +kernel
theorem d16_4 : decode prog_26_method_11_code 4 = .ok (.lconst 0, 1) := by decide +kernel
theorem d16_5 : decode prog_26_method_11_code 5 = .ok (.lcmp, 1) := by decide +kernel
theorem d16_6 : decode prog_26_method_11_code 6 = .ok (.ifCond .lt 122, 3) := by decide +kernel
theorem d16_9 : decode prog_26_method_11_code 9 = .ok (.aload_n 0, 1) := by decide +kernel
theorem d16_10 : decode prog_26_method_11_code 10 = .ok (.invokevirtual 152, 3) := by decide +kernel
theorem d16_13 : decode prog_26_method_11_code 13 = .ok (.lload_n 1, 1) := by decide +kernel
theorem d16_14 : decode prog_26_method_11_code 14 = .ok (.lcmp, 1) := by decide +kernel
theorem d16_15 : decode prog_26_method_11_code 15 = .ok (.ifCond .gt 113, 3) := by decide +kernel
theorem d16_18 : decode prog_26_method_11_code 18 = .ok (.aload_n 0, 1) := by decide +kernel
theorem d16_19 : decode prog_26_method_11_code 19 = .ok (.invokevirtual 156, 3) := by decide +kernel
theorem d16_22 : decode prog_26_method_11_code 22 = .ok (.istore_n 3, 1) := by decide +kernel
theorem d16_23 : decode prog_26_method_11_code 23 = .ok (.iload_n 3, 1) := by decide +kernel
theorem d16_24 : decode prog_26_method_11_code 24 = .ok (.ifCond .ge 6, 3) := by decide +kernel
theorem d16_27 : decode prog_26_method_11_code 27 = .ok (.goto (-27), 3) := by decide +kernel
theorem d16_30 : decode prog_26_method_11_code 30 = .ok (.aload_n 0, 1) := by decide +kernel
theorem d16_31 : decode prog_26_method_11_code 31 = .ok (.getfield 42, 3) := by decide +kernel
theorem d16_34 : decode prog_26_method_11_code 34 = .ok (.iload_n 3, 1) := by decide +kernel
theorem d16_35 : decode prog_26_method_11_code 35 = .ok (.iaload, 1) := by decide +kernel
theorem d16_36 : decode prog_26_method_11_code 36 = .ok (.istore 4, 2) := by decide +kernel
theorem d16_38 : decode prog_26_method_11_code 38 = .ok (.iload 4, 2) := by decide +kernel
theorem d16_40 : decode prog_26_method_11_code 40 = .ok (.aload_n 0, 1) := by decide +kernel
theorem d16_41 : decode prog_26_method_11_code 41 = .ok (.getfield 42, 3) := by decide +kernel
theorem d16_44 : decode prog_26_method_11_code 44 = .ok (.iload_n 3, 1) := by decide +kernel
theorem d16_45 : decode prog_26_method_11_code 45 = .ok (.iconst 1, 1) := by decide +kernel
theorem d16_46 : decode prog_26_method_11_code 46 = .ok (.iadd, 1) := by decide +kernel
theorem d16_47 : decode prog_26_method_11_code 47 = .ok (.iaload, 1) := by decide +kernel
theorem d16_48 : decode prog_26_method_11_code 48 = .ok (.if_icmp .ge 78, 3) := by decide +kernel
theorem d16_51 : decode prog_26_method_11_code 51 = .ok (.aload_n 0, 1) := by decide +kernel
theorem d16_52 : decode prog_26_method_11_code 52 = .ok (.getfield 49, 3) := by decide +kernel
theorem d16_55 : decode prog_26_method_11_code 55 = .ok (.iload 4, 2) := by decide +kernel
theorem d16_57 : decode prog_26_method_11_code 57 = .ok (.iaload, 1) := by decide +kernel
theorem d16_58 : decode prog_26_method_11_code 58 = .ok (.istore 5, 2) := by decide +kernel
theorem d16_60 : decode prog_26_method_11_code 60 = .ok (.aload_n 0, 1) := by decide +kernel
theorem d16_61 : decode prog_26_method_11_code 61 = .ok (.getfield 101, 3) := by decide +kernel
theorem d16_64 : decode prog_26_method_11_code 64 = .ok (.iload_n 3, 1) := by decide +kernel
theorem d16_65 : decode prog_26_method_11_code 65 = .ok (.iaload, 1) := by decide +kernel
theorem d16_66 : decode prog_26_method_11_code 66 = .ok (.aload_n 0, 1) := by decide +kernel
theorem d16_67 : decode prog_26_method_11_code 67 = .ok (.iload_n 3, 1) := by decide +kernel
theorem d16_68 : decode prog_26_method_11_code 68 = .ok (.iload 4, 2) := by decide +kernel
theorem d16_70 : decode prog_26_method_11_code 70 = .ok (.invokevirtual 159, 3) := by decide +kernel
theorem d16_73 : decode prog_26_method_11_code 73 = .ok (.isub, 1) := by decide +kernel
theorem d16_74 : decode prog_26_method_11_code 74 = .ok (.i2l, 1) := by decide +kernel
theorem d16_75 : decode prog_26_method_11_code 75 = .ok (.lstore 6, 2) := by decide +kernel
theorem d16_77 : decode prog_26_method_11_code 77 = .ok (.aload_n 0, 1) := by decide +kernel
theorem d16_78 : decode prog_26_method_11_code 78 = .ok (.getfield 61, 3) := by decide +kernel
theorem d16_81 : decode prog_26_method_11_code 81 = .ok (.iload 4, 2) := by decide +kernel
theorem d16_83 : decode prog_26_method_11_code 83 = .ok (.iaload, 1) := by decide +kernel
theorem d16_84 : decode prog_26_method_11_code 84 = .ok (.ifCond .le 36, 3) := by decide +kernel
theorem d16_87 : decode prog_26_method_11_code 87 = .ok (.lload 6, 2) := by decide +kernel
theorem d16_89 : decode prog_26_method_11_code 89 = .ok (.lload_n 1, 1) := by decide +kernel
theorem d16_90 : decode prog_26_method_11_code 90 = .ok (.lcmp, 1) := by decide +kernel
theorem d16_91 : decode prog_26_method_11_code 91 = .ok (.ifCond .gt 29, 3) := by decide +kernel
theorem d16_94 : decode prog_26_method_11_code 94 = .ok (.aload_n 0, 1) := by decide +kernel
theorem d16_95 : decode prog_26_method_11_code 95 = .ok (.iload 5, 2) := by decide +kernel
theorem d16_97 : decode prog_26_method_11_code 97 = .ok (.invokevirtual 163, 3) := by decide +kernel
theorem d16_100 : decode prog_26_method_11_code 100 = .ok (.ifCond .ne 20, 3) := by decide +kernel
theorem d16_103 : decode prog_26_method_11_code 103 = .ok (.aload_n 0, 1) := by decide +kernel
theorem d16_104 : decode prog_26_method_11_code 104 = .ok (.iload 5, 2) := by decide +kernel
theorem d16_106 : decode prog_26_method_11_code 106 = .ok (.lload 6, 2) := by decide +kernel
theorem d16_108 : decode prog_26_method_11_code 108 = .ok (.l2i, 1) := by decide +kernel
theorem d16_109 : decode prog_26_method_11_code 109 = .ok (.aload_n 0, 1) := by decide +kernel
theorem d16_110 : decode prog_26_method_11_code 110 = .ok (.getfield 58, 3) := by decide +kernel
theorem d16_113 : decode prog_26_method_11_code 113 = .ok (.iload 4, 2) := by decide +kernel
theorem d16_115 : decode prog_26_method_11_code 115 = .ok (.iaload, 1) := by decide +kernel
theorem d16_116 : decode prog_26_method_11_code 116 = .ok (.invokevirtual 166, 3) := by decide +kernel
theorem d16_119 : decode prog_26_method_11_code 119 = .ok (.pop, 1) := by decide +kernel
theorem d16_120 : decode prog_26_method_11_code 120 = .ok (.iinc 4 1, 3) := by decide +kernel
theorem d16_123 : decode prog_26_method_11_code 123 = .ok (.goto (-85), 3) := by decide +kernel
theorem d16_126 : decode prog_26_method_11_code 126 = .ok (.iload_n 3, 1) := by decide +kernel
theorem d16_127 : decode prog_26_method_11_code 127 = .ok (.ireturn, 1) := by decide +kernel
theorem d16_128 : decode prog_26_method_11_code 128 = .ok (.iconst (-1), 1) := by decide +kernel
theorem d16_129 : decode prog_26_method_11_code 129 = .ok (.ireturn, 1) := by decide +kernel
theorem d17_0 : decode prog_26_method_26_code 0 = .ok (.aload_n 0, 1) := by decide +kernel
theorem d17_1 : decode prog_26_method_26_code 1 = .ok (.getfield 233, 3) := by decide +kernel
theorem d17_4 : decode prog_26_method_26_code 4 = .ok (.aload_n 0, 1) := by decide +kernel
theorem d17_5 : decode prog_26_method_26_code 5 = .ok (.getfield 236, 3) := by decide +kernel
theorem d17_8 : decode prog_26_method_26_code 8 = .ok (.if_icmp .ge 9, 3) := by decide +kernel
theorem d17_11 : decode prog_26_method_26_code 11 = .ok (.aload_n 0, 1) := by decide +kernel
theorem d17_12 : decode prog_26_method_26_code 12 = .ok (.getfield 179, 3) := by decide +kernel
theorem d17_15 : decode prog_26_method_26_code 15 = .ok (.i2l, 1) := by decide +kernel
theorem d17_16 : decode prog_26_method_26_code 16 = .ok (.lreturn, 1) := by decide +kernel
theorem d17_17 : decode prog_26_method_26_code 17 = .ok (.aload_n 0, 1) := by decide +kernel
theorem d17_18 : decode prog_26_method_26_code 18 = .ok (.getfield 230, 3) := by decide +kernel
theorem d17_21 : decode prog_26_method_26_code 21 = .ok (.ifCond .le 15, 3) := by decide +kernel
theorem d17_24 : decode prog_26_method_26_code 24 = .ok (.aload_n 0, 1) := by decide +kernel
theorem d17_25 : decode prog_26_method_26_code 25 = .ok (.getfield 9, 3) := by decide +kernel
theorem d17_28 : decode prog_26_method_26_code 28 = .ok (.iconst 0, 1) := by decide +kernel
theorem d17_29 : decode prog_26_method_26_code 29 = .ok (.laload, 1) := by decide +kernel
theorem d17_30 : decode prog_26_method_26_code 30 = .ok (.bipush 32, 2) := by decide +kernel
theorem d17_32 : decode prog_26_method_26_code 32 = .ok (.lushr, 1) := by decide +kernel
theorem d17_33 : decode prog_26_method_26_code 33 = .ok (.goto 6, 3) := by decide +kernel
theorem d17_36 : decode prog_26_method_26_code 36 = .ok (.ldc2_w 239, 3) := by decide +kernel
theorem d17_39 : decode prog_26_method_26_code 39 = .ok (.lreturn, 1) := by decide +kernel
theorem d18_0 : decode prog_26_method_15_code 0 = .ok (.aload_n 0, 1) := by decide +kernel
theorem d18_1 : decode prog_26_method_15_code 1 = .ok (.dup, 1) := by decide +kernel
theorem d18_2 : decode prog_26_method_15_code 2 = .ok (.getfield 145, 3) := by decide +kernel
theorem d18_5 : decode prog_26_method_15_code 5 = .ok (.lload_n 1, 1) := by decide +kernel
theorem d18_6 : decode prog_26_method_15_code 6 = .ok (.lsub, 1) := by decide +kernel
theorem d18_7 : decode prog_26_method_15_code 7 = .ok (.putfield 145, 3) := by decide +kernel
theorem d18_10 : decode prog_26_method_15_code 10 = .ok (.iconst 0, 1) := by decide +kernel
theorem d18_11 : decode prog_26_method_15_code 11 = .ok (.istore_n 3, 1) := by decide +kernel
theorem d18_12 : decode prog_26_method_15_code 12 = .ok (.iload_n 3, 1) := by decide +kernel
theorem d18_13 : decode prog_26_method_15_code 13 = .ok (.aload_n 0, 1) := by decide +kernel
theorem d18_14 : decode prog_26_method_15_code 14 = .ok (.getfield 176, 3) := by decide +kernel
theorem d18_17 : decode prog_26_method_15_code 17 = .ok (.if_icmp .ge 37, 3) := by decide +kernel
theorem d18_20 : decode prog_26_method_15_code 20 = .ok (.aload_n 0, 1) := by decide +kernel
theorem d18_21 : decode prog_26_method_15_code 21 = .ok (.getfield 110, 3) := by decide +kernel
theorem d18_24 : decode prog_26_method_15_code 24 = .ok (.iload_n 3, 1) := by decide +kernel
theorem d18_25 : decode prog_26_method_15_code 25 = .ok (.iaload, 1) := by decide +kernel
theorem d18_26 : decode prog_26_method_15_code 26 = .ok (.istore 4, 2) := by decide +kernel
theorem d18_28 : decode prog_26_method_15_code 28 = .ok (.aload_n 0, 1) := by decide +kernel
theorem d18_29 : decode prog_26_method_15_code 29 = .ok (.getfield 95, 3) := by decide +kernel
theorem d18_32 : decode prog_26_method_15_code 32 = .ok (.iload 4, 2) := by decide +kernel
theorem d18_34 : decode prog_26_method_15_code 34 = .ok (.dup2, 1) := by decide +kernel
theorem d18_35 : decode prog_26_method_15_code 35 = .ok (.laload, 1) := by decide +kernel
theorem d18_36 : decode prog_26_method_15_code 36 = .ok (.lload_n 1, 1) := by decide +kernel
theorem d18_37 : decode prog_26_method_15_code 37 = .ok (.aload_n 0, 1) := by decide +kernel
theorem d18_38 : decode prog_26_method_15_code 38 = .ok (.getfield 101, 3) := by decide +kernel
theorem d18_41 : decode prog_26_method_15_code 41 = .ok (.iload 4, 2) := by decide +kernel
theorem d18_43 : decode prog_26_method_15_code 43 = .ok (.iaload, 1) := by decide +kernel
theorem d18_44 : decode prog_26_method_15_code 44 = .ok (.i2l, 1) := by decide +kernel
theorem d18_45 : decode prog_26_method_15_code 45 = .ok (.lsub, 1) := by decide +kernel
theorem d18_46 : decode prog_26_method_15_code 46 = .ok (.ladd, 1) := by decide +kernel
theorem d18_47 : decode prog_26_method_15_code 47 = .ok (.lastore, 1) := by decide +kernel
theorem d18_48 : decode prog_26_method_15_code 48 = .ok (.iinc 3 1, 3) := by decide +kernel
theorem d18_51 : decode prog_26_method_15_code 51 = .ok (.goto (-39), 3) := by decide +kernel
theorem d18_54 : decode prog_26_method_15_code 54 = .ok (.return_, 1) := by decide +kernel
theorem d19_0 : decode prog_26_method_9_code 0 = .ok (.aload_n 0, 1) := by decide +kernel
theorem d19_1 : decode prog_26_method_9_code 1 = .ok (.getfield 95, 3) := by decide +kernel
theorem d19_4 : decode prog_26_method_9_code 4 = .ok (.iload_n 1, 1) := by decide +kernel
theorem d19_5 : decode prog_26_method_9_code 5 = .ok (.laload, 1) := by decide +kernel
theorem d19_6 : decode prog_26_method_9_code 6 = .ok (.aload_n 0, 1) := by decide +kernel
theorem d19_7 : decode prog_26_method_9_code 7 = .ok (.getfield 145, 3) := by decide +kernel
theorem d19_10 : decode prog_26_method_9_code 10 = .ok (.ladd, 1) := by decide +kernel
theorem d19_11 : decode prog_26_method_9_code 11 = .ok (.lreturn, 1) := by decide +kernel
theorem d20_0 : decode method_2_code 0 = .ok (.iload_n 0, 1) := by decide +kernel
theorem d20_1 : decode method_2_code 1 = .ok (.ifCond .eq 13, 3) := by decide +kernel
theorem d20_4 : decode method_2_code 4 = .ok (.lload_n 1, 1) := by decide +kernel
theorem d20_5 : decode method_2_code 5 = .ok (.lload_n 3, 1) := by decide +kernel
theorem d20_6 : decode method_2_code 6 = .ok (.lcmp, 1) := by decide +kernel
theorem d20_7 : decode method_2_code 7 = .ok (.ifCond .gt 7, 3) := by decide +kernel
theorem d20_10 : decode method_2_code 10 = .ok (.lconst 0, 1) := by decide +kernel
theorem d20_11 : decode method_2_code 11 = .ok (.lload_n 1, 1) := by decide +kernel
theorem d20_12 : decode method_2_code 12 = .ok (.lsub, 1) := by decide +kernel
theorem d20_13 : decode method_2_code 13 = .ok (.lreturn, 1) := by decide +kernel
theorem d20_14 : decode method_2_code 14 = .ok (.lconst 0, 1) := by decide +kernel
theorem d20_15 : decode method_2_code 15 = .ok (.lload_n 3, 1) := by decide +kernel
theorem d20_16 : decode method_2_code 16 = .ok (.lsub, 1) := by decide +kernel
theorem d20_17 : decode method_2_code 17 = .ok (.lreturn, 1) := by decide +kernel
theorem d21_0 : decode prog_26_method_29_code 0 = .ok (.aload_n 0, 1) := by decide +kernel
theorem d21_1 : decode prog_26_method_29_code 1 = .ok (.getfield 233, 3) := by decide +kernel
theorem d21_4 : decode prog_26_method_29_code 4 = .ok (.aload_n 0, 1) := by decide +kernel
theorem d21_5 : decode prog_26_method_29_code 5 = .ok (.getfield 236, 3) := by decide +kernel
theorem d21_8 : decode prog_26_method_29_code 8 = .ok (.if_icmp .ge 24, 3) := by decide +kernel
theorem d21_11 : decode prog_26_method_29_code 11 = .ok (.aload_n 0, 1) := by decide +kernel
theorem d21_12 : decode prog_26_method_29_code 12 = .ok (.aload_n 0, 1) := by decide +kernel
theorem d21_13 : decode prog_26_method_29_code 13 = .ok (.getfield 113, 3) := by decide +kernel
theorem d21_16 : decode prog_26_method_29_code 16 = .ok (.aload_n 0, 1) := by decide +kernel
theorem d21_17 : decode prog_26_method_29_code 17 = .ok (.dup, 1) := by decide +kernel
theorem d21_18 : decode prog_26_method_29_code 18 = .ok (.getfield 233, 3) := by decide +kernel
theorem d21_21 : decode prog_26_method_29_code 21 = .ok (.dup_x1, 1) := by decide +kernel
theorem d21_22 : decode prog_26_method_29_code 22 = .ok (.iconst 1, 1) := by decide +kernel
theorem d21_23 : decode prog_26_method_29_code 23 = .ok (.iadd, 1) := by decide +kernel
theorem d21_24 : decode prog_26_method_29_code 24 = .ok (.putfield 233, 3) := by decide +kernel
theorem d21_27 : decode prog_26_method_29_code 27 = .ok (.iaload, 1) := by decide +kernel
theorem d21_28 : decode prog_26_method_29_code 28 = .ok (.invokevirtual 248, 3) := by decide +kernel
theorem d21_31 : decode prog_26_method_29_code 31 = .ok (.ireturn, 1) := by decide +kernel
theorem d21_32 : decode prog_26_method_29_code 32 = .ok (.aload_n 0, 1) := by decide +kernel
theorem d21_33 : decode prog_26_method_29_code 33 = .ok (.getfield 9, 3) := by decide +kernel
theorem d21_36 : decode prog_26_method_29_code 36 = .ok (.iconst 0, 1) := by decide +kernel
theorem d21_37 : decode prog_26_method_29_code 37 = .ok (.laload, 1) := by decide +kernel
theorem d21_38 : decode prog_26_method_29_code 38 = .ok (.lstore_n 1, 1) := by decide +kernel
theorem d21_39 : decode prog_26_method_29_code 39 = .ok (.aload_n 0, 1) := by decide +kernel
theorem d21_40 : decode prog_26_method_29_code 40 = .ok (.getfield 9, 3) := by decide +kernel
theorem d21_43 : decode prog_26_method_29_code 43 = .ok (.aload_n 0, 1) := by decide +kernel
theorem d21_44 : decode prog_26_method_29_code 44 = .ok (.dup, 1) := by decide +kernel
theorem d21_45 : decode prog_26_method_29_code 45 = .ok (.getfield 230, 3) := by decide +kernel
theorem d21_48 : decode prog_26_method_29_code 48 = .ok (.iconst 1, 1) := by decide +kernel
theorem d21_49 : decode prog_26_method_29_code 49 = .ok (.isub, 1) := by decide +kernel
theorem d21_50 : decode prog_26_method_29_code 50 = .ok (.dup_x1, 1) := by decide +kernel
theorem d21_51 : decode prog_26_method_29_code 51 = .ok (.putfield 230, 3) := by decide +kernel
theorem d21_54 : decode prog_26_method_29_code 54 = .ok (.laload, 1) := by decide +kernel
theorem d21_55 : decode prog_26_method_29_code 55 = .ok (.lstore_n 3, 1) := by decide +kernel
theorem d21_56 : decode prog_26_method_29_code 56 = .ok (.iconst 0, 1) := by decide +kernel
theorem d21_57 : decode prog_26_method_29_code 57 = .ok (.istore 5, 2) := by decide +kernel
theorem d21_59 : decode prog_26_method_29_code 59 = .ok (.iconst 2, 1) := by decide +kernel
theorem d21_60 : decode prog_26_method_29_code 60 = .ok (.iload 5, 2) := by decide +kernel
theorem d21_62 : decode prog_26_method_29_code 62 = .ok (.imul, 1) := by decide +kernel
theorem d21_63 : decode prog_26_method_29_code 63 = .ok (.iconst 1, 1) := by decide +kernel
theorem d21_64 : decode prog_26_method_29_code 64 = .ok (.iadd, 1) := by decide +kernel
theorem d21_65 : decode prog_26_method_29_code 65 = .ok (.aload_n 0, 1) := by decide +kernel
theorem d21_66 : decode prog_26_method_29_code 66 = .ok (.getfield 230, 3) := by decide +kernel
theorem d21_69 : decode prog_26_method_29_code 69 = .ok (.if_icmp .ge 81, 3) := by decide +kernel
theorem d21_72 : decode prog_26_method_29_code 72 = .ok (.iconst 2, 1) := by decide +kernel
theorem d21_73 : decode prog_26_method_29_code 73 = .ok (.iload 5, 2) := by decide +kernel
theorem d21_75 : decode prog_26_method_29_code 75 = .ok (.imul, 1) := by decide +kernel
theorem d21_76 : decode prog_26_method_29_code 76 = .ok (.iconst 1, 1) := by decide +kernel
theorem d21_77 : decode prog_26_method_29_code 77 = .ok (.iadd, 1) := by decide +kernel
theorem d21_78 : decode prog_26_method_29_code 78 = .ok (.istore 6, 2) := by decide +kernel
theorem d21_80 : decode prog_26_method_29_code 80 = .ok (.iload 6, 2) := by decide +kernel
theorem d21_82 : decode prog_26_method_29_code 82 = .ok (.iconst 1, 1) := by decide +kernel
theorem d21_83 : decode prog_26_method_29_code 83 = .ok (.iadd, 1) := by decide +kernel
theorem d21_84 : decode prog_26_method_29_code 84 = .ok (.aload_n 0, 1) := by decide +kernel
theorem d21_85 : decode prog_26_method_29_code 85 = .ok (.getfield 230, 3) := by decide +kernel
theorem d21_88 : decode prog_26_method_29_code 88 = .ok (.if_icmp .ge 26, 3) := by decide +kernel
theorem d21_91 : decode prog_26_method_29_code 91 = .ok (.aload_n 0, 1) := by decide +kernel
theorem d21_92 : decode prog_26_method_29_code 92 = .ok (.getfield 9, 3) := by decide +kernel
theorem d21_95 : decode prog_26_method_29_code 95 = .ok (.iload 6, 2) := by decide +kernel
theorem d21_97 : decode prog_26_method_29_code 97 = .ok (.iconst 1, 1) := by decide +kernel
theorem d21_98 : decode prog_26_method_29_code 98 = .ok (.iadd, 1) := by decide +kernel
theorem d21_99 : decode prog_26_method_29_code 99 = .ok (.laload, 1) := by decide +kernel
theorem d21_100 : decode prog_26_method_29_code 100 = .ok (.aload_n 0, 1) := by decide +kernel
theorem d21_101 : decode prog_26_method_29_code 101 = .ok (.getfield 9, 3) := by decide +kernel
theorem d21_104 : decode prog_26_method_29_code 104 = .ok (.iload 6, 2) := by decide +kernel
theorem d21_106 : decode prog_26_method_29_code 106 = .ok (.laload, 1) := by decide +kernel
theorem d21_107 : decode prog_26_method_29_code 107 = .ok (.lcmp, 1) := by decide +kernel
theorem d21_108 : decode prog_26_method_29_code 108 = .ok (.ifCond .ge 6, 3) := by decide +kernel
theorem d21_111 : decode prog_26_method_29_code 111 = .ok (.iinc 6 1, 3) := by decide +kernel
theorem d21_114 : decode prog_26_method_29_code 114 = .ok (.aload_n 0, 1) := by decide +kernel
theorem d21_115 : decode prog_26_method_29_code 115 = .ok (.getfield 9, 3) := by decide +kernel
theorem d21_118 : decode prog_26_method_29_code 118 = .ok (.iload 6, 2) := by decide +kernel
theorem d21_120 : decode prog_26_method_29_code 120 = .ok (.laload, 1) := by decide +kernel
theorem d21_121 : decode prog_26_method_29_code 121 = .ok (.lload_n 3, 1) := by decide +kernel
theorem d21_122 : decode prog_26_method_29_code 122 = .ok (.lcmp, 1) := by decide +kernel
theorem d21_123 : decode prog_26_method_29_code 123 = .ok (.ifCond .lt 6, 3) := by decide +kernel
theorem d21_126 : decode prog_26_method_29_code 126 = .ok (.goto 24, 3) := by decide +kernel
theorem d21_129 : decode prog_26_method_29_code 129 = .ok (.aload_n 0, 1) := by decide +kernel
theorem d21_130 : decode prog_26_method_29_code 130 = .ok (.getfield 9, 3) := by decide +kernel
theorem d21_133 : decode prog_26_method_29_code 133 = .ok (.iload 5, 2) := by decide +kernel
theorem d21_135 : decode prog_26_method_29_code 135 = .ok (.aload_n 0, 1) := by decide +kernel
theorem d21_136 : decode prog_26_method_29_code 136 = .ok (.getfield 9, 3) := by decide +kernel
theorem d21_139 : decode prog_26_method_29_code 139 = .ok (.iload 6, 2) := by decide +kernel
theorem d21_141 : decode prog_26_method_29_code 141 = .ok (.laload, 1) := by decide +kernel
theorem d21_142 : decode prog_26_method_29_code 142 = .ok (.lastore, 1) := by decide +kernel
theorem d21_143 : decode prog_26_method_29_code 143 = .ok (.iload 6, 2) := by decide +kernel
theorem d21_145 : decode prog_26_method_29_code 145 = .ok (.istore 5, 2) := by decide +kernel
theorem d21_147 : decode prog_26_method_29_code 147 = .ok (.goto (-88), 3) := by decide +kernel
theorem d21_150 : decode prog_26_method_29_code 150 = .ok (.aload_n 0, 1) := by decide +kernel
theorem d21_151 : decode prog_26_method_29_code 151 = .ok (.getfield 230, 3) := by decide +kernel
theorem d21_154 : decode prog_26_method_29_code 154 = .ok (.ifCond .le 11, 3) := by decide +kernel
theorem d21_157 : decode prog_26_method_29_code 157 = .ok (.aload_n 0, 1) := by decide +kernel
theorem d21_158 : decode prog_26_method_29_code 158 = .ok (.getfield 9, 3) := by decide +kernel
theorem d21_161 : decode prog_26_method_29_code 161 = .ok (.iload 5, 2) := by decide +kernel
theorem d21_163 : decode prog_26_method_29_code 163 = .ok (.lload_n 3, 1) := by decide +kernel
theorem d21_164 : decode prog_26_method_29_code 164 = .ok (.lastore, 1) := by decide +kernel
theorem d21_165 : decode prog_26_method_29_code 165 = .ok (.aload_n 0, 1) := by decide +kernel
theorem d21_166 : decode prog_26_method_29_code 166 = .ok (.iconst 0, 1) := by decide +kernel
theorem d21_167 : decode prog_26_method_29_code 167 = .ok (.putfield 233, 3) := by decide +kernel
theorem d21_170 : decode prog_26_method_29_code 170 = .ok (.aload_n 0, 1) := by decide +kernel
theorem d21_171 : decode prog_26_method_29_code 171 = .ok (.iconst 0, 1) := by decide +kernel
theorem d21_172 : decode prog_26_method_29_code 172 = .ok (.putfield 236, 3) := by decide +kernel
theorem d21_175 : decode prog_26_method_29_code 175 = .ok (.aload_n 0, 1) := by decide +kernel
theorem d21_176 : decode prog_26_method_29_code 176 = .ok (.lload_n 1, 1) := by decide +kernel
theorem d21_177 : decode prog_26_method_29_code 177 = .ok (.bipush 32, 2) := by decide +kernel
theorem d21_179 : decode prog_26_method_29_code 179 = .ok (.lushr, 1) := by decide +kernel
theorem d21_180 : decode prog_26_method_29_code 180 = .ok (.l2i, 1) := by decide +kernel
theorem d21_181 : decode prog_26_method_29_code 181 = .ok (.putfield 179, 3) := by decide +kernel
theorem d21_184 : decode prog_26_method_29_code 184 = .ok (.aload_n 0, 1) := by decide +kernel
theorem d21_185 : decode prog_26_method_29_code 185 = .ok (.lload_n 1, 1) := by decide +kernel
theorem d21_186 : decode prog_26_method_29_code 186 = .ok (.l2i, 1) := by decide +kernel
theorem d21_187 : decode prog_26_method_29_code 187 = .ok (.invokevirtual 248, 3) := by decide +kernel
theorem d21_190 : decode prog_26_method_29_code 190 = .ok (.ireturn, 1) := by decide +kernel
theorem d22_0 : decode prog_26_method_30_code 0 = .ok (.aload_n 0, 1) := by decide +kernel
theorem d22_1 : decode prog_26_method_30_code 1 = .ok (.getfield 107, 3) := by decide +kernel
theorem d22_4 : decode prog_26_method_30_code 4 = .ok (.iload_n 1, 1) := by decide +kernel
theorem d22_5 : decode prog_26_method_30_code 5 = .ok (.baload, 1) := by decide +kernel
theorem d22_6 : decode prog_26_method_30_code 6 = .ok (.ifCond .eq 5, 3) := by decide +kernel
theorem d22_9 : decode prog_26_method_30_code 9 = .ok (.iconst (-1), 1) := by decide +kernel
theorem d22_10 : decode prog_26_method_30_code 10 = .ok (.ireturn, 1) := by decide +kernel
theorem d22_11 : decode prog_26_method_30_code 11 = .ok (.aload_n 0, 1) := by decide +kernel
theorem d22_12 : decode prog_26_method_30_code 12 = .ok (.getfield 107, 3) := by decide +kernel
theorem d22_15 : decode prog_26_method_30_code 15 = .ok (.iload_n 1, 1) := by decide +kernel
theorem d22_16 : decode prog_26_method_30_code 16 = .ok (.iconst 1, 1) := by decide +kernel
theorem d22_17 : decode prog_26_method_30_code 17 = .ok (.bastore, 1) := by decide +kernel
theorem d22_18 : decode prog_26_method_30_code 18 = .ok (.aload_n 0, 1) := by decide +kernel
theorem d22_19 : decode prog_26_method_30_code 19 = .ok (.getfield 110, 3) := by decide +kernel
theorem d22_22 : decode prog_26_method_30_code 22 = .ok (.aload_n 0, 1) := by decide +kernel
theorem d22_23 : decode prog_26_method_30_code 23 = .ok (.dup, 1) := by decide +kernel
theorem d22_24 : decode prog_26_method_30_code 24 = .ok (.getfield 176, 3) := by decide +kernel
theorem d22_27 : decode prog_26_method_30_code 27 = .ok (.dup_x1, 1) := by decide +kernel
theorem d22_28 : decode prog_26_method_30_code 28 = .ok (.iconst 1, 1) := by decide +kernel
theorem d22_29 : decode prog_26_method_30_code 29 = .ok (.iadd, 1) := by decide +kernel
theorem d22_30 : decode prog_26_method_30_code 30 = .ok (.putfield 176, 3) := by decide +kernel
theorem d22_33 : decode prog_26_method_30_code 33 = .ok (.iload_n 1, 1) := by decide +kernel
theorem d22_34 : decode prog_26_method_30_code 34 = .ok (.iastore, 1) := by decide +kernel
theorem d22_35 : decode prog_26_method_30_code 35 = .ok (.iload_n 1, 1) := by decide +kernel
theorem d22_36 : decode prog_26_method_30_code 36 = .ok (.ireturn, 1) := by decide +kernel
theorem d23_0 : decode prog_26_method_24_code 0 = .ok (.aload_n 0, 1) := by decide +kernel
theorem d23_1 : decode prog_26_method_24_code 1 = .ok (.getfield 52, 3) := by decide +kernel
theorem d23_4 : decode prog_26_method_24_code 4 = .ok (.iload_n 2, 1) := by decide +kernel
theorem d23_5 : decode prog_26_method_24_code 5 = .ok (.iaload, 1) := by decide +kernel
theorem d23_6 : decode prog_26_method_24_code 6 = .ok (.i2l, 1) := by decide +kernel
theorem d23_7 : decode prog_26_method_24_code 7 = .ok (.aload_n 0, 1) := by decide +kernel
theorem d23_8 : decode prog_26_method_24_code 8 = .ok (.getfield 95, 3) := by decide +kernel
theorem d23_11 : decode prog_26_method_24_code 11 = .ok (.iload_n 1, 1) := by decide +kernel
theorem d23_12 : decode prog_26_method_24_code 12 = .ok (.laload, 1) := by decide +kernel
theorem d23_13 : decode prog_26_method_24_code 13 = .ok (.ladd, 1) := by decide +kernel
theorem d23_14 : decode prog_26_method_24_code 14 = .ok (.aload_n 0, 1) := by decide +kernel
theorem d23_15 : decode prog_26_method_24_code 15 = .ok (.getfield 95, 3) := by decide +kernel
theorem d23_18 : decode prog_26_method_24_code 18 = .ok (.aload_n 0, 1) := by decide +kernel
theorem d23_19 : decode prog_26_method_24_code 19 = .ok (.getfield 49, 3) := by decide +kernel
theorem d23_22 : decode prog_26_method_24_code 22 = .ok (.iload_n 2, 1) := by decide +kernel
theorem d23_23 : decode prog_26_method_24_code 23 = .ok (.iaload, 1) := by decide +kernel
theorem d23_24 : decode prog_26_method_24_code 24 = .ok (.laload, 1) := by decide +kernel
theorem d23_25 : decode prog_26_method_24_code 25 = .ok (.lsub, 1) := by decide +kernel
theorem d23_26 : decode prog_26_method_24_code 26 = .ok (.l2i, 1) := by decide +kernel
theorem d23_27 : decode prog_26_method_24_code 27 = .ok (.ireturn, 1) := by decide +kernel
theorem d24_0 : decode prog_26_method_12_code 0 = .ok (.aload_n 0, 1) := by decide +kernel
theorem d24_1 : decode prog_26_method_12_code 1 = .ok (.getfield 98, 3) := by decide +kernel
theorem d24_4 : decode prog_26_method_12_code 4 = .ok (.iload_n 1, 1) := by decide +kernel
theorem d24_5 : decode prog_26_method_12_code 5 = .ok (.iaload, 1) := by decide +kernel
theorem d24_6 : decode prog_26_method_12_code 6 = .ok (.aload_n 0, 1) := by decide +kernel
theorem d24_7 : decode prog_26_method_12_code 7 = .ok (.getfield 170, 3) := by decide +kernel
theorem d24_10 : decode prog_26_method_12_code 10 = .ok (.if_icmp .ne 16, 3) := by decide +kernel
theorem d24_13 : decode prog_26_method_12_code 13 = .ok (.aload_n 0, 1) := by decide +kernel
theorem d24_14 : decode prog_26_method_12_code 14 = .ok (.getfield 107, 3) := by decide +kernel
theorem d24_17 : decode prog_26_method_12_code 17 = .ok (.iload_n 1, 1) := by decide +kernel
theorem d24_18 : decode prog_26_method_12_code 18 = .ok (.baload, 1) := by decide +kernel
theorem d24_19 : decode prog_26_method_12_code 19 = .ok (.ifCond .eq 7, 3) := by decide +kernel
theorem d24_22 : decode prog_26_method_12_code 22 = .ok (.iconst 1, 1) := by decide +kernel
theorem d24_23 : decode prog_26_method_12_code 23 = .ok (.goto 4, 3) := by decide +kernel
theorem d24_26 : decode prog_26_method_12_code 26 = .ok (.iconst 0, 1) := by decide +kernel
theorem d24_27 : decode prog_26_method_12_code 27 = .ok (.ireturn, 1) := by decide +kernel
theorem d25_0 : decode prog_26_method_28_code 0 = .ok (.aload_n 0, 1) := by decide +kernel
theorem d25_1 : decode prog_26_method_28_code 1 = .ok (.getfield 230, 3) := by decide +kernel
theorem d25_4 : decode prog_26_method_28_code 4 = .ok (.aload_n 0, 1) := by decide +kernel
theorem d25_5 : decode prog_26_method_28_code 5 = .ok (.getfield 9, 3) := by decide +kernel
theorem d25_8 : decode prog_26_method_28_code 8 = .ok (.arraylength, 1) := by decide +kernel
theorem d25_9 : decode prog_26_method_28_code 9 = .ok (.if_icmp .ne 20, 3) := by decide +kernel
theorem d25_12 : decode prog_26_method_28_code 12 = .ok (.aload_n 0, 1) := by decide +kernel
theorem d25_13 : decode prog_26_method_28_code 13 = .ok (.aload_n 0, 1) := by decide +kernel
theorem d25_14 : decode prog_26_method_28_code 14 = .ok (.getfield 9, 3) := by decide +kernel
theorem d25_17 : decode prog_26_method_28_code 17 = .ok (.iconst 2, 1) := by decide +kernel
theorem d25_18 : decode prog_26_method_28_code 18 = .ok (.aload_n 0, 1) := by decide +kernel
theorem d25_19 : decode prog_26_method_28_code 19 = .ok (.getfield 230, 3) := by decide +kernel
theorem d25_22 : decode prog_26_method_28_code 22 = .ok (.imul, 1) := by decide +kernel
theorem d25_23 : decode prog_26_method_28_code 23 = .ok (.invokestatic 245, 3) := by decide +kernel
theorem d25_26 : decode prog_26_method_28_code 26 = .ok (.putfield 9, 3) := by decide +kernel
theorem d25_29 : decode prog_26_method_28_code 29 = .ok (.aload_n 0, 1) := by decide +kernel
theorem d25_30 : decode prog_26_method_28_code 30 = .ok (.dup, 1) := by decide +kernel
theorem d25_31 : decode prog_26_method_28_code 31 = .ok (.getfield 230, 3) := by decide +kernel
theorem d25_34 : decode prog_26_method_28_code 34 = .ok (.dup_x1, 1) := by decide +kernel
theorem d25_35 : decode prog_26_method_28_code 35 = .ok (.iconst 1, 1) := by decide +kernel
theorem d25_36 : decode prog_26_method_28_code 36 = .ok (.iadd, 1) := by decide +kernel
theorem d25_37 : decode prog_26_method_28_code 37 = .ok (.putfield 230, 3) := by decide +kernel
theorem d25_40 : decode prog_26_method_28_code 40 = .ok (.istore_n 3, 1) := by decide +kernel
theorem d25_41 : decode prog_26_method_28_code 41 = .ok (.iload_n 3, 1) := by decide +kernel
theorem d25_42 : decode prog_26_method_28_code 42 = .ok (.ifCond .le 43, 3) := by decide +kernel
theorem d25_45 : decode prog_26_method_28_code 45 = .ok (.aload_n 0, 1) := by decide +kernel
theorem d25_46 : decode prog_26_method_28_code 46 = .ok (.getfield 9, 3) := by decide +kernel
theorem d25_49 : decode prog_26_method_28_code 49 = .ok (.iload_n 3, 1) := by decide +kernel
theorem d25_50 : decode prog_26_method_28_code 50 = .ok (.iconst 1, 1) := by decide +kernel
theorem d25_51 : decode prog_26_method_28_code 51 = .ok (.isub, 1) := by decide +kernel
theorem d25_52 : decode prog_26_method_28_code 52 = .ok (.iconst 2, 1) := by decide +kernel
theorem d25_53 : decode prog_26_method_28_code 53 = .ok (.idiv, 1) := by decide +kernel
theorem d25_54 : decode prog_26_method_28_code 54 = .ok (.laload, 1) := by decide +kernel
theorem d25_55 : decode prog_26_method_28_code 55 = .ok (.lload_n 1, 1) := by decide +kernel
theorem d25_56 : decode prog_26_method_28_code 56 = .ok (.lcmp, 1) := by decide +kernel
theorem d25_57 : decode prog_26_method_28_code 57 = .ok (.ifCond .le 28, 3) := by decide +kernel
theorem d25_60 : decode prog_26_method_28_code 60 = .ok (.aload_n 0, 1) := by decide +kernel
theorem d25_61 : decode prog_26_method_28_code 61 = .ok (.getfield 9, 3) := by decide +kernel
theorem d25_64 : decode prog_26_method_28_code 64 = .ok (.iload_n 3, 1) := by decide +kernel
theorem d25_65 : decode prog_26_method_28_code 65 = .ok (.aload_n 0, 1) := by decide +kernel
theorem d25_66 : decode prog_26_method_28_code 66 = .ok (.getfield 9, 3) := by decide +kernel
theorem d25_69 : decode prog_26_method_28_code 69 = .ok (.iload_n 3, 1) := by decide +kernel
theorem d25_70 : decode prog_26_method_28_code 70 = .ok (.iconst 1, 1) := by decide +kernel
theorem d25_71 : decode prog_26_method_28_code 71 = .ok (.isub, 1) := by decide +kernel
theorem d25_72 : decode prog_26_method_28_code 72 = .ok (.iconst 2, 1) := by decide +kernel
theorem d25_73 : decode prog_26_method_28_code 73 = .ok (.idiv, 1) := by decide +kernel
theorem d25_74 : decode prog_26_method_28_code 74 = .ok (.laload, 1) := by decide +kernel
theorem d25_75 : decode prog_26_method_28_code 75 = .ok (.lastore, 1) := by decide +kernel
theorem d25_76 : decode prog_26_method_28_code 76 = .ok (.iload_n 3, 1) := by decide +kernel
theorem d25_77 : decode prog_26_method_28_code 77 = .ok (.iconst 1, 1) := by decide +kernel
theorem d25_78 : decode prog_26_method_28_code 78 = .ok (.isub, 1) := by decide +kernel
theorem d25_79 : decode prog_26_method_28_code 79 = .ok (.iconst 2, 1) := by decide +kernel
theorem d25_80 : decode prog_26_method_28_code 80 = .ok (.idiv, 1) := by decide +kernel
theorem d25_81 : decode prog_26_method_28_code 81 = .ok (.istore_n 3, 1) := by decide +kernel
theorem d25_82 : decode prog_26_method_28_code 82 = .ok (.goto (-41), 3) := by decide +kernel
theorem d25_85 : decode prog_26_method_28_code 85 = .ok (.aload_n 0, 1) := by decide +kernel
theorem d25_86 : decode prog_26_method_28_code 86 = .ok (.getfield 9, 3) := by decide +kernel
theorem d25_89 : decode prog_26_method_28_code 89 = .ok (.iload_n 3, 1) := by decide +kernel
theorem d25_90 : decode prog_26_method_28_code 90 = .ok (.lload_n 1, 1) := by decide +kernel
theorem d25_91 : decode prog_26_method_28_code 91 = .ok (.lastore, 1) := by decide +kernel
theorem d25_92 : decode prog_26_method_28_code 92 = .ok (.return_, 1) := by decide +kernel
theorem pl_0 : plainFor (⟨"org/distinguo/graph/MinimumCostFlowLowerPotentialsPinLaw", "law", "(IIIJ)Z"⟩ : MethodName) = true := plainFor_of_name (by first | (simp [plainName, overriddenIn]; done) | decide +kernel)
theorem pd_0 : parseMethodDescriptor "(IIIJ)Z" = some ⟨[.int, .int, .int, .long], some .boolean⟩ := by decide +kernel
theorem pl_1 : plainFor (⟨"org/distinguo/graph/MinimumCostFlow$Network", "<init>", "(I)V"⟩ : MethodName) = true := plainFor_of_name (by first | (simp [plainName, overriddenIn]; done) | decide +kernel)
theorem pd_1 : parseMethodDescriptor "(I)V" = some ⟨[.int], none⟩ := by decide +kernel
theorem pl_3 : plainFor (⟨"org/distinguo/model/IntList", "<init>", "()V"⟩ : MethodName) = true := plainFor_of_name (by first | (simp [plainName, overriddenIn]; done) | decide +kernel)
theorem pd_3 : parseMethodDescriptor "()V" = some ⟨[], none⟩ := by decide +kernel
theorem pl_4 : plainFor (⟨"org/distinguo/graph/MinimumCostFlow$Network", "arc", "(IIII)I"⟩ : MethodName) = true := plainFor_of_name (by first | (simp [plainName, overriddenIn]; done) | decide +kernel)
theorem pd_4 : parseMethodDescriptor "(IIII)I" = some ⟨[.int, .int, .int, .int], some .int⟩ := by decide +kernel
theorem pl_5 : plainFor (⟨"org/distinguo/model/IntList", "add", "(I)V"⟩ : MethodName) = true := plainFor_of_name (by first | (simp [plainName, overriddenIn]; done) | decide +kernel)
theorem pd_5 : parseMethodDescriptor "(I)V" = some ⟨[.int], none⟩ := by decide +kernel
theorem pl_6 : plainFor (⟨"org/distinguo/model/IntList", "makeRoom", "(I)V"⟩ : MethodName) = true := plainFor_of_name (by first | (simp [plainName, overriddenIn]; done) | decide +kernel)
theorem pd_6 : parseMethodDescriptor "(I)V" = some ⟨[.int], none⟩ := by decide +kernel
theorem pl_7 : plainFor (⟨"org/distinguo/model/IntList", "size", "()I"⟩ : MethodName) = true := plainFor_of_name (by first | (simp [plainName, overriddenIn]; done) | decide +kernel)
theorem pd_7 : parseMethodDescriptor "()I" = some ⟨[], some .int⟩ := by decide +kernel
theorem pl_8 : plainFor (⟨"org/distinguo/graph/MinimumCostFlow", "<init>", "(Lorg/distinguo/graph/MinimumCostFlow$Network;)V"⟩ : MethodName) = true := plainFor_of_name (by first | (simp [plainName, overriddenIn]; done) | decide +kernel)
theorem pd_8 : parseMethodDescriptor "(Lorg/distinguo/graph/MinimumCostFlow$Network;)V" = some ⟨[(.object "org/distinguo/graph/MinimumCostFlow$Network")], none⟩ := by decide +kernel
theorem pl_9 : plainFor (⟨"org/distinguo/model/IntList", "get", "(I)I"⟩ : MethodName) = true := plainFor_of_name (by first | (simp [plainName, overriddenIn]; done) | decide +kernel)
theorem pd_9 : parseMethodDescriptor "(I)I" = some ⟨[.int], some .int⟩ := by decide +kernel
theorem pl_10 : plainFor (⟨"java/util/Arrays", "copyOf", "([II)[I"⟩ : MethodName) = true := plainFor_of_name (by first | (simp [plainName, overriddenIn]; done) | decide +kernel)
theorem pd_10 : parseMethodDescriptor "([II)[I" = some ⟨[(.array .int), .int], some (.array .int)⟩ := by decide +kernel
theorem pl_11 : plainFor (⟨"java/lang/Math", "min", "(II)I"⟩ : MethodName) = true := Jvm.Free.JP.mathPlain rfl (by decide +kernel)
theorem pd_11 : parseMethodDescriptor "(II)I" = some ⟨[.int, .int], some .int⟩ := by decide +kernel
theorem pl_12 : plainFor (⟨"org/distinguo/graph/MinimumCostFlow$Layers", "<init>", "(I)V"⟩ : MethodName) = true := plainFor_of_name (by first | (simp [plainName, overriddenIn]; done) | decide +kernel)
theorem pd_12 : parseMethodDescriptor "(I)V" = some ⟨[.int], none⟩ := by decide +kernel
theorem pl_13 : plainFor (⟨"org/distinguo/graph/MinimumCostFlow", "startBack", "(I)V"⟩ : MethodName) = true := plainFor_of_name (by first | (simp [plainName, overriddenIn]; done) | decide +kernel)
theorem pd_13 : parseMethodDescriptor "(I)V" = some ⟨[.int], none⟩ := by decide +kernel
theorem pl_14 : plainFor (⟨"org/distinguo/graph/MinimumCostFlow", "startSearch", "(I)V"⟩ : MethodName) = true := plainFor_of_name (by first | (simp [plainName, overriddenIn]; done) | decide +kernel)
theorem pd_14 : parseMethodDescriptor "(I)V" = some ⟨[.int], none⟩ := by decide +kernel
theorem pl_15 : plainFor (⟨"org/distinguo/graph/MinimumCostFlow", "labelAndQueue", "(III)Z"⟩ : MethodName) = true := plainFor_of_name (by first | (simp [plainName, overriddenIn]; done) | decide +kernel)
theorem pd_15 : parseMethodDescriptor "(III)Z" = some ⟨[.int, .int, .int], some .boolean⟩ := by decide +kernel
theorem pl_16 : plainFor (⟨"org/distinguo/graph/MinimumCostFlow", "nextBack", "(J)I"⟩ : MethodName) = true := plainFor_of_name (by first | (simp [plainName, overriddenIn]; done) | decide +kernel)
theorem pd_16 : parseMethodDescriptor "(J)I" = some ⟨[.long], some .int⟩ := by decide +kernel
theorem pl_17 : plainFor (⟨"org/distinguo/graph/MinimumCostFlow", "smallestQueued", "()J"⟩ : MethodName) = true := plainFor_of_name (by first | (simp [plainName, overriddenIn]; done) | decide +kernel)
theorem pd_17 : parseMethodDescriptor "()J" = some ⟨[], some .long⟩ := by decide +kernel
theorem pl_18 : plainFor (⟨"org/distinguo/graph/MinimumCostFlow", "lowerPotentials", "(J)V"⟩ : MethodName) = true := plainFor_of_name (by first | (simp [plainName, overriddenIn]; done) | decide +kernel)
theorem pd_18 : parseMethodDescriptor "(J)V" = some ⟨[.long], none⟩ := by decide +kernel
theorem pl_19 : plainFor (⟨"org/distinguo/graph/MinimumCostFlow", "potential", "(I)J"⟩ : MethodName) = true := plainFor_of_name (by first | (simp [plainName, overriddenIn]; done) | decide +kernel)
theorem pd_19 : parseMethodDescriptor "(I)J" = some ⟨[.int], some .long⟩ := by decide +kernel
theorem pl_20 : plainFor (⟨"org/distinguo/graph/MinimumCostFlowLowerPotentialsPinLaw", "expected", "(ZJJ)J"⟩ : MethodName) = true := plainFor_of_name (by first | (simp [plainName, overriddenIn]; done) | decide +kernel)
theorem pd_20 : parseMethodDescriptor "(ZJJ)J" = some ⟨[.boolean, .long, .long], some .long⟩ := by decide +kernel
theorem pl_21 : plainFor (⟨"org/distinguo/graph/MinimumCostFlow", "settleNext", "()I"⟩ : MethodName) = true := plainFor_of_name (by first | (simp [plainName, overriddenIn]; done) | decide +kernel)
theorem pd_21 : parseMethodDescriptor "()I" = some ⟨[], some .int⟩ := by decide +kernel
theorem pl_22 : plainFor (⟨"org/distinguo/graph/MinimumCostFlow", "settle", "(I)I"⟩ : MethodName) = true := plainFor_of_name (by first | (simp [plainName, overriddenIn]; done) | decide +kernel)
theorem pd_22 : parseMethodDescriptor "(I)I" = some ⟨[.int], some .int⟩ := by decide +kernel
theorem pl_23 : plainFor (⟨"org/distinguo/graph/MinimumCostFlow", "reducedCost", "(II)I"⟩ : MethodName) = true := plainFor_of_name (by first | (simp [plainName, overriddenIn]; done) | decide +kernel)
theorem pd_23 : parseMethodDescriptor "(II)I" = some ⟨[.int, .int], some .int⟩ := by decide +kernel
theorem pl_24 : plainFor (⟨"org/distinguo/graph/MinimumCostFlow", "isSettled", "(I)Z"⟩ : MethodName) = true := plainFor_of_name (by first | (simp [plainName, overriddenIn]; done) | decide +kernel)
theorem pd_24 : parseMethodDescriptor "(I)Z" = some ⟨[.int], some .boolean⟩ := by decide +kernel
theorem pl_25 : plainFor (⟨"org/distinguo/graph/MinimumCostFlow", "push", "(J)V"⟩ : MethodName) = true := plainFor_of_name (by first | (simp [plainName, overriddenIn]; done) | decide +kernel)
theorem pd_25 : parseMethodDescriptor "(J)V" = some ⟨[.long], none⟩ := by decide +kernel
def fs_0 : List Fi := [("org/distinguo/graph/MinimumCostFlow$Network", "tails", "Lorg/distinguo/model/IntList;", (.object "org/distinguo/model/IntList")), ("org/distinguo/graph/MinimumCostFlow$Network", "heads", "Lorg/distinguo/model/IntList;", (.object "org/distinguo/model/IntList")), ("org/distinguo/graph/MinimumCostFlow$Network", "costs", "Lorg/distinguo/model/IntList;", (.object "org/distinguo/model/IntList")), ("org/distinguo/graph/MinimumCostFlow$Network", "capacities", "Lorg/distinguo/model/IntList;", (.object "org/distinguo/model/IntList")), ("org/distinguo/graph/MinimumCostFlow$Network", "nodes", "I", .int)]
def ds_0 : List SV := [(2, .null), (2, .null), (2, .null), (2, .null), (0, .int 0)]
def fs_1 : List Fi := [("org/distinguo/model/IntList", "values", "[I", (.array .int)), ("org/distinguo/model/IntList", "size", "I", .int)]
def ds_1 : List SV := [(2, .null), (0, .int 0)]
def fs_2 : List Fi := [("org/distinguo/graph/MinimumCostFlow", "heap", "[J", (.array .long)), ("org/distinguo/graph/MinimumCostFlow", "sinks", "Lorg/distinguo/model/IntList;", (.object "org/distinguo/model/IntList")), ("org/distinguo/graph/MinimumCostFlow", "first", "[I", (.array .int)), ("org/distinguo/graph/MinimumCostFlow", "carryingStart", "[I", (.array .int)), ("org/distinguo/graph/MinimumCostFlow", "head", "[I", (.array .int)), ("org/distinguo/graph/MinimumCostFlow", "cost", "[I", (.array .int)), ("org/distinguo/graph/MinimumCostFlow", "residual", "[I", (.array .int)), ("org/distinguo/graph/MinimumCostFlow", "partner", "[I", (.array .int)), ("org/distinguo/graph/MinimumCostFlow", "partnerResidual", "[I", (.array .int)), ("org/distinguo/graph/MinimumCostFlow", "forward", "[Z", (.array .boolean)), ("org/distinguo/graph/MinimumCostFlow", "placed", "[I", (.array .int)), ("org/distinguo/graph/MinimumCostFlow", "carrying", "[I", (.array .int)), ("org/distinguo/graph/MinimumCostFlow", "carryingCount", "[I", (.array .int)), ("org/distinguo/graph/MinimumCostFlow", "carryingSlot", "[I", (.array .int)), ("org/distinguo/graph/MinimumCostFlow", "balance", "[I", (.array .int)), ("org/distinguo/graph/MinimumCostFlow", "potential", "[J", (.array .long)), ("org/distinguo/graph/MinimumCostFlow", "labelledIn", "[I", (.array .int)), ("org/distinguo/graph/MinimumCostFlow", "label", "[I", (.array .int)), ("org/distinguo/graph/MinimumCostFlow", "via", "[I", (.array .int)), ("org/distinguo/graph/MinimumCostFlow", "settled", "[Z", (.array .boolean)), ("org/distinguo/graph/MinimumCostFlow", "settledNodes", "[I", (.array .int)), ("org/distinguo/graph/MinimumCostFlow", "level", "[I", (.array .int)), ("org/distinguo/graph/MinimumCostFlow", "fromSource", "Lorg/distinguo/graph/MinimumCostFlow$Layers;", (.object "org/distinguo/graph/MinimumCostFlow$Layers")), ("org/distinguo/graph/MinimumCostFlow", "toSink", "Lorg/distinguo/graph/MinimumCostFlow$Layers;", (.object "org/distinguo/graph/MinimumCostFlow$Layers")), ("org/distinguo/graph/MinimumCostFlow", "round", "I", .int), ("org/distinguo/graph/MinimumCostFlow", "origin", "I", .int), ("org/distinguo/graph/MinimumCostFlow", "settledCount", "I", .int), ("org/distinguo/graph/MinimumCostFlow", "heapSize", "I", .int), ("org/distinguo/graph/MinimumCostFlow", "levelHead", "I", .int), ("org/distinguo/graph/MinimumCostFlow", "levelTail", "I", .int), ("org/distinguo/graph/MinimumCostFlow", "levelLabel", "I", .int), ("org/distinguo/graph/MinimumCostFlow", "offset", "J", .long)]
def ds_2 : List SV := [(2, .null), (2, .null), (2, .null), (2, .null), (2, .null), (2, .null), (2, .null), (2, .null), (2, .null), (2, .null), (2, .null), (2, .null), (2, .null), (2, .null), (2, .null), (2, .null), (2, .null), (2, .null), (2, .null), (2, .null), (2, .null), (2, .null), (2, .null), (2, .null), (0, .int 0), (0, .int 0), (0, .int 0), (0, .int 0), (0, .int 0), (0, .int 0), (0, .int 0), (1, .long 0)]
def fs_3 : List Fi := [("org/distinguo/graph/MinimumCostFlow$Layers", "metIn", "[I", (.array .int)), ("org/distinguo/graph/MinimumCostFlow$Layers", "depth", "[I", (.array .int)), ("org/distinguo/graph/MinimumCostFlow$Layers", "order", "[I", (.array .int))]
def ds_3 : List SV := [(2, .null), (2, .null), (2, .null)]
def shp : List Sh := [(none, "org/distinguo/graph/MinimumCostFlow$Network", 5, fs_0), (none, "org/distinguo/model/IntList", 2, fs_1), (none, "org/distinguo/graph/MinimumCostFlow", 33, fs_2), (none, "org/distinguo/graph/MinimumCostFlow$Layers", 6, fs_3), (some .int, "", 0, []), (some .long, "", 0, []), (some .boolean, "", 0, [])]
def cd_0 : List El := [(0, kS (sLoad 0 0 1)),
  (1, kS (sPush (0, .int 1073741823) 3)),
  (3, kS (sBin 0 0 0 (jI (Term.op2 .iand)) 4)),
  (4, kS (sStore 0 5 6)),
  (6, kS (sLoad 0 1 7)),
  (7, kS (sPush (0, .int 1073741823) 9)),
  (9, kS (sBin 0 0 0 (jI (Term.op2 .iand)) 10)),
  (10, kS (sStore 0 6 12)),
  (12, kS (sLoad 0 2 13)),
  (13, kS (sPush (0, .int 1) 14)),
  (14, kS (sBin 0 0 0 (jI (Term.op2 .iand)) 15)),
  (15, kS (sIf .eq 22 18)),
  (18, kS (sPush (0, .int 1) 19)),
  (19, kS (sGoto 23)),
  (22, kS (sPush (0, .int 0) 23)),
  (23, kS (sStore 0 7 25)),
  (25, kS (sLoad 0 2 26)),
  (26, kS (sPush (0, .int 2) 27)),
  (27, kS (sBin 0 0 0 (jI (Term.op2 .iand)) 28)),
  (28, kS (sIf .eq 35 31)),
  (31, kS (sPush (0, .int 1) 32)),
  (32, kS (sGoto 36)),
  (35, kS (sPush (0, .int 0) 36)),
  (36, kS (sStore 0 8 38)),
  (38, kS (sNew 0 5 ds_0 41)),
  (41, kS (sDup 42)),
  (42, kS (sPush (0, .int 3) 43)),
  (43, kC 1 2 46 (ckObj 0)),
  (46, kS (sStore 2 9 48)),
  (48, kS (sLoad 2 9 50)),
  (50, kS (sPush (0, .int 1) 51)),
  (51, kS (sPush (0, .int 0) 52)),
  (52, kS (sLoad 0 5 54)),
  (54, kS (sLoad 0 7 56)),
  (56, kS (sIf .eq 63 59)),
  (59, kS (sPush (0, .int 1) 60)),
  (60, kS (sGoto 64)),
  (63, kS (sPush (0, .int 0) 64)),
  (64, kC 4 5 67 (ckObj 0)),
  (67, kS (sPop 68)),
  (68, kS (sLoad 2 9 70)),
  (70, kS (sPush (0, .int 2) 71)),
  (71, kS (sPush (0, .int 1) 72)),
  (72, kS (sLoad 0 6 74)),
  (74, kS (sLoad 0 8 76)),
  (76, kS (sIf .eq 83 79)),
  (79, kS (sPush (0, .int 1) 80)),
  (80, kS (sGoto 84)),
  (83, kS (sPush (0, .int 0) 84)),
  (84, kC 4 5 87 (ckObj 0)),
  (87, kS (sPop 88)),
  (88, kS (sNew 2 33 ds_2 91)),
  (91, kS (sDup 92)),
  (92, kS (sLoad 2 9 94)),
  (94, kC 8 2 97 (ckObj 2)),
  (97, kS (sStore 2 10 99)),
  (99, kS (sLoad 2 10 101)),
  (101, kS (sPush (0, .int 0) 102)),
  (102, kC 13 2 105 (ckObj 2)),
  (105, kS (sLoad 2 10 107)),
  (107, kS (sLoad 1 3 108)),
  (108, kC 16 2 111 (ckObj 2)),
  (111, kS (sPop 112)),
  (112, kS (sLoad 2 10 114)),
  (114, kS (sLoad 1 3 115)),
  (115, kC 16 2 118 (ckObj 2)),
  (118, kS (sPop 119)),
  (119, kS (sLoad 2 10 121)),
  (121, kS (sLoad 1 3 122)),
  (122, kC 16 2 125 (ckObj 2)),
  (125, kS (sPop 126)),
  (126, kS (sLoad 2 10 128)),
  (128, kS (sLoad 1 3 129)),
  (129, kC 18 2 132 (ckObj 2)),
  (132, kS (sLoad 2 10 134)),
  (134, kS (sPush (0, .int 0) 135)),
  (135, kC 19 2 138 (ckObj 2)),
  (138, kS (sStore 1 11 140)),
  (140, kS (sLoad 2 10 142)),
  (142, kS (sPush (0, .int 1) 143)),
  (143, kC 19 2 146 (ckObj 2)),
  (146, kS (sStore 1 13 148)),
  (148, kS (sLoad 2 10 150)),
  (150, kS (sPush (0, .int 2) 151)),
  (151, kC 19 2 154 (ckObj 2)),
  (154, kS (sStore 1 15 156)),
  (156, kS (sLoad 0 5 158)),
  (158, kS (sUn 0 1 (uL (Term.op1 .i2l)) 159)),
  (159, kS (sStore 1 17 161)),
  (161, kS (sLoad 0 5 163)),
  (163, kS (sUn 0 1 (uL (Term.op1 .i2l)) 164)),
  (164, kS (sLoad 0 6 166)),
  (166, kS (sUn 0 1 (uL (Term.op1 .i2l)) 167)),
  (167, kS (sBin 1 1 1 xAddL 168)),
  (168, kS (sStore 1 19 170)),
  (170, kS (sLoad 1 11 172)),
  (172, kS (sPush (0, .int 1) 173)),
  (173, kS (sPush (1, .long 0) 174)),
  (174, kS (sLoad 1 3 175)),
  (175, kC 20 3 178 (ckAny)),
  (178, kS (sBin 1 1 0 (jI (Term.op2 .lcmp)) 179)),
  (179, kS (sIf .ne 227 182)),
  (182, kS (sLoad 1 13 184)),
  (184, kS (sLoad 0 7 186)),
  (186, kS (sLoad 1 17 188)),
  (188, kS (sLoad 1 3 189)),
  (189, kC 20 3 192 (ckAny)),
  (192, kS (sBin 1 1 0 (jI (Term.op2 .lcmp)) 193)),
  (193, kS (sIf .ne 227 196)),
  (196, kS (sLoad 1 15 198)),
  (198, kS (sLoad 0 7 200)),
  (200, kS (sIf .eq 212 203)),
  (203, kS (sLoad 0 8 205)),
  (205, kS (sIf .eq 212 208)),
  (208, kS (sPush (0, .int 1) 209)),
  (209, kS (sGoto 213)),
  (212, kS (sPush (0, .int 0) 213)),
  (213, kS (sLoad 1 19 215)),
  (215, kS (sLoad 1 3 216)),
  (216, kC 20 3 219 (ckAny)),
  (219, kS (sBin 1 1 0 (jI (Term.op2 .lcmp)) 220)),
  (220, kS (sIf .ne 227 223)),
  (223, kS (sPush (0, .int 1) 224)),
  (224, kS (sGoto 228)),
  (227, kS (sPush (0, .int 0) 228)),
  (228, kR (rVal .boolean))]
def cd_1 : List El := [(0, kS (sLoad 2 0 1)),
  (1, kN (sInitO 2 4)),
  (4, kS (sLoad 2 0 5)),
  (5, kS (sNew 1 2 ds_1 8)),
  (8, kS (sDup 9)),
  (9, kC 3 1 12 (ckObj 1)),
  (12, kS (sPutF 0 0 (.object "org/distinguo/model/IntList") 15)),
  (15, kS (sLoad 2 0 16)),
  (16, kS (sNew 1 2 ds_1 19)),
  (19, kS (sDup 20)),
  (20, kC 3 1 23 (ckObj 1)),
  (23, kS (sPutF 0 1 (.object "org/distinguo/model/IntList") 26)),
  (26, kS (sLoad 2 0 27)),
  (27, kS (sNew 1 2 ds_1 30)),
  (30, kS (sDup 31)),
  (31, kC 3 1 34 (ckObj 1)),
  (34, kS (sPutF 0 2 (.object "org/distinguo/model/IntList") 37)),
  (37, kS (sLoad 2 0 38)),
  (38, kS (sNew 1 2 ds_1 41)),
  (41, kS (sDup 42)),
  (42, kC 3 1 45 (ckObj 1)),
  (45, kS (sPutF 0 3 (.object "org/distinguo/model/IntList") 48)),
  (48, kS (sLoad 2 0 49)),
  (49, kS (sLoad 0 1 50)),
  (50, kS (sPutF 0 4 .int 53)),
  (53, kR (rVoid))]
def cd_3 : List El := [(0, kS (sLoad 2 0 1)),
  (1, kN (sInitO 1 4)),
  (4, kS (sLoad 2 0 5)),
  (5, kS (sPush (0, .int 16) 7)),
  (7, kS (sNewA 4 .int 9)),
  (9, kS (sPutF 1 0 (.array .int) 12)),
  (12, kR (rVoid))]
def cd_4 : List El := [(0, kS (sLoad 2 0 1)),
  (1, kS (sGetF 0 0 4)),
  (4, kS (sLoad 0 1 5)),
  (5, kC 5 2 8 (ckObj 1)),
  (8, kS (sLoad 2 0 9)),
  (9, kS (sGetF 0 1 12)),
  (12, kS (sLoad 0 2 13)),
  (13, kC 5 2 16 (ckObj 1)),
  (16, kS (sLoad 2 0 17)),
  (17, kS (sGetF 0 2 20)),
  (20, kS (sLoad 0 3 21)),
  (21, kC 5 2 24 (ckObj 1)),
  (24, kS (sLoad 2 0 25)),
  (25, kS (sGetF 0 3 28)),
  (28, kS (sLoad 0 4 30)),
  (30, kC 5 2 33 (ckObj 1)),
  (33, kS (sLoad 2 0 34)),
  (34, kS (sGetF 0 0 37)),
  (37, kC 7 1 40 (ckObj 1)),
  (40, kS (sPush (0, .int 1) 41)),
  (41, kS (sBin 0 0 0 xSub 42)),
  (42, kR (rVal .int))]
def cd_5 : List El := [(0, kS (sLoad 2 0 1)),
  (1, kS (sPush (0, .int 1) 2)),
  (2, kC 6 2 5 (ckObj 1)),
  (5, kS (sLoad 2 0 6)),
  (6, kS (sGetF 1 0 9)),
  (9, kS (sLoad 2 0 10)),
  (10, kS (sDup 11)),
  (11, kS (sGetF 1 1 14)),
  (14, kS (sDupX1 15)),
  (15, kS (sPush (0, .int 1) 16)),
  (16, kS (sBin 0 0 0 (jI Term.add) 17)),
  (17, kS (sPutF 1 1 .int 20)),
  (20, kS (sLoad 0 1 21)),
  (21, kS (sAst 4 .int 22)),
  (22, kR (rVoid))]
def cd_6 : List El := [(0, kS (sLoad 2 0 1)),
  (1, kS (sGetF 1 1 4)),
  (4, kS (sUn 0 1 (uL (Term.op1 .i2l)) 5)),
  (5, kS (sLoad 0 1 6)),
  (6, kS (sUn 0 1 (uL (Term.op1 .i2l)) 7)),
  (7, kS (sBin 1 1 1 xAddL 8)),
  (8, kS (sStore 1 2 9)),
  (9, kS (sLoad 1 2 10)),
  (10, kS (sLoad 2 0 11)),
  (11, kS (sGetF 1 0 14)),
  (14, kS (sLenA 4 15)),
  (15, kS (sUn 0 1 (uL (Term.op1 .i2l)) 16)),
  (16, kS (sBin 1 1 0 (jI (Term.op2 .lcmp)) 17)),
  (17, kS (sIf .le 74 20)),
  (20, kS (sLoad 1 2 21)),
  (21, kS (sPush (1, .long 2147483639) 24)),
  (24, kS (sBin 1 1 0 (jI (Term.op2 .lcmp)) 25)),
  (25, kS (sIf .le 38 28)),
  (28, kS (sStop)),
  (31, kS (sDup 32)),
  (32, kS (sStop)),
  (34, kS (sStop)),
  (37, kS (sStop)),
  (38, kS (sPush (1, .long 2) 41)),
  (41, kS (sLoad 2 0 42)),
  (42, kS (sGetF 1 0 45)),
  (45, kS (sLenA 4 46)),
  (46, kS (sUn 0 1 (uL (Term.op1 .i2l)) 47)),
  (47, kS (sBin 1 1 1 (jL (Term.op2 .lmul)) 48)),
  (48, kS (sLoad 1 2 49)),
  (49, kS (sStop)),
  (52, kS (sStore 1 4 54)),
  (54, kS (sLoad 2 0 55)),
  (55, kS (sLoad 2 0 56)),
  (56, kS (sGetF 1 0 59)),
  (59, kS (sLoad 1 4 61)),
  (61, kS (sPush (1, .long 2147483639) 64)),
  (64, kS (sStop)),
  (67, kS (sUn 1 0 xL2I 68)),
  (68, kC 10 2 71 (ckAny)),
  (71, kS (sPutF 1 0 (.array .int) 74)),
  (74, kR (rVoid))]
def cd_7 : List El := [(0, kS (sLoad 2 0 1)),
  (1, kS (sGetF 1 1 4)),
  (4, kR (rVal .int))]
def cd_8 : List El := [(0, kS (sLoad 2 0 1)),
  (1, kN (sInitO 12 4)),
  (4, kS (sLoad 2 0 5)),
  (5, kS (sPush (0, .int 64) 7)),
  (7, kS (sNewA 5 .long 9)),
  (9, kS (sPutF 2 0 (.array .long) 12)),
  (12, kS (sLoad 2 0 13)),
  (13, kS (sNew 1 2 ds_1 16)),
  (16, kS (sDup 17)),
  (17, kC 3 1 20 (ckObj 1)),
  (20, kS (sPutF 2 1 (.object "org/distinguo/model/IntList") 23)),
  (23, kS (sLoad 2 1 24)),
  (24, kS (sGetF 0 4 27)),
  (27, kS (sStore 0 2 28)),
  (28, kS (sLoad 2 1 29)),
  (29, kS (sGetF 0 0 32)),
  (32, kC 7 1 35 (ckObj 1)),
  (35, kS (sStore 0 3 36)),
  (36, kS (sLoad 0 2 37)),
  (37, kS (sNewA 4 .int 39)),
  (39, kS (sStore 2 4 41)),
  (41, kS (sLoad 0 2 42)),
  (42, kS (sNewA 4 .int 44)),
  (44, kS (sStore 2 5 46)),
  (46, kS (sPush (0, .int 0) 47)),
  (47, kS (sStore 0 6 49)),
  (49, kS (sLoad 0 6 51)),
  (51, kS (sLoad 0 3 52)),
  (52, kS (sIcmp .ge 109 55)),
  (55, kS (sLoad 2 4 57)),
  (57, kS (sLoad 2 1 58)),
  (58, kS (sGetF 0 0 61)),
  (61, kS (sLoad 0 6 63)),
  (63, kC 9 2 66 (ckObj 1)),
  (66, kS (sDup2 67)),
  (67, kS (sAld 4 68)),
  (68, kS (sPush (0, .int 1) 69)),
  (69, kS (sBin 0 0 0 (jI Term.add) 70)),
  (70, kS (sAst 4 .int 71)),
  (71, kS (sLoad 2 4 73)),
  (73, kS (sLoad 2 1 74)),
  (74, kS (sGetF 0 1 77)),
  (77, kS (sLoad 0 6 79)),
  (79, kC 9 2 82 (ckObj 1)),
  (82, kS (sDup2 83)),
  (83, kS (sAld 4 84)),
  (84, kS (sPush (0, .int 1) 85)),
  (85, kS (sBin 0 0 0 (jI Term.add) 86)),
  (86, kS (sAst 4 .int 87)),
  (87, kS (sLoad 2 5 89)),
  (89, kS (sLoad 2 1 90)),
  (90, kS (sGetF 0 0 93)),
  (93, kS (sLoad 0 6 95)),
  (95, kC 9 2 98 (ckObj 1)),
  (98, kS (sDup2 99)),
  (99, kS (sAld 4 100)),
  (100, kS (sPush (0, .int 1) 101)),
  (101, kS (sBin 0 0 0 (jI Term.add) 102)),
  (102, kS (sAst 4 .int 103)),
  (103, kS (sIinc 6 1 106)),
  (106, kS (sGoto 49)),
  (109, kS (sLoad 2 0 110)),
  (110, kS (sLoad 0 2 111)),
  (111, kS (sPush (0, .int 1) 112)),
  (112, kS (sBin 0 0 0 (jI Term.add) 113)),
  (113, kS (sNewA 4 .int 115)),
  (115, kS (sPutF 2 2 (.array .int) 118)),
  (118, kS (sLoad 2 0 119)),
  (119, kS (sLoad 0 2 120)),
  (120, kS (sPush (0, .int 1) 121)),
  (121, kS (sBin 0 0 0 (jI Term.add) 122)),
  (122, kS (sNewA 4 .int 124)),
  (124, kS (sPutF 2 3 (.array .int) 127)),
  (127, kS (sPush (0, .int 0) 128)),
  (128, kS (sStore 0 6 130)),
  (130, kS (sLoad 0 6 132)),
  (132, kS (sLoad 0 2 133)),
  (133, kS (sIcmp .ge 186 136)),
  (136, kS (sLoad 2 0 137)),
  (137, kS (sGetF 2 2 140)),
  (140, kS (sLoad 0 6 142)),
  (142, kS (sPush (0, .int 1) 143)),
  (143, kS (sBin 0 0 0 (jI Term.add) 144)),
  (144, kS (sLoad 2 0 145)),
  (145, kS (sGetF 2 2 148)),
  (148, kS (sLoad 0 6 150)),
  (150, kS (sAld 4 151)),
  (151, kS (sLoad 2 4 153)),
  (153, kS (sLoad 0 6 155)),
  (155, kS (sAld 4 156)),
  (156, kS (sBin 0 0 0 (jI Term.add) 157)),
  (157, kS (sAst 4 .int 158)),
  (158, kS (sLoad 2 0 159)),
  (159, kS (sGetF 2 3 162)),
  (162, kS (sLoad 0 6 164)),
  (164, kS (sPush (0, .int 1) 165)),
  (165, kS (sBin 0 0 0 (jI Term.add) 166)),
  (166, kS (sLoad 2 0 167)),
  (167, kS (sGetF 2 3 170)),
  (170, kS (sLoad 0 6 172)),
  (172, kS (sAld 4 173)),
  (173, kS (sLoad 2 5 175)),
  (175, kS (sLoad 0 6 177)),
  (177, kS (sAld 4 178)),
  (178, kS (sBin 0 0 0 (jI Term.add) 179)),
  (179, kS (sAst 4 .int 180)),
  (180, kS (sIinc 6 1 183)),
  (183, kS (sGoto 130)),
  (186, kS (sLoad 2 0 187)),
  (187, kS (sPush (0, .int 2) 188)),
  (188, kS (sLoad 0 3 189)),
  (189, kS (sBin 0 0 0 (jI Term.mul) 190)),
  (190, kS (sNewA 4 .int 192)),
  (192, kS (sPutF 2 4 (.array .int) 195)),
  (195, kS (sLoad 2 0 196)),
  (196, kS (sPush (0, .int 2) 197)),
  (197, kS (sLoad 0 3 198)),
  (198, kS (sBin 0 0 0 (jI Term.mul) 199)),
  (199, kS (sNewA 4 .int 201)),
  (201, kS (sPutF 2 5 (.array .int) 204)),
  (204, kS (sLoad 2 0 205)),
  (205, kS (sPush (0, .int 2) 206)),
  (206, kS (sLoad 0 3 207)),
  (207, kS (sBin 0 0 0 (jI Term.mul) 208)),
  (208, kS (sNewA 4 .int 210)),
  (210, kS (sPutF 2 6 (.array .int) 213)),
  (213, kS (sLoad 2 0 214)),
  (214, kS (sPush (0, .int 2) 215)),
  (215, kS (sLoad 0 3 216)),
  (216, kS (sBin 0 0 0 (jI Term.mul) 217)),
  (217, kS (sNewA 4 .int 219)),
  (219, kS (sPutF 2 7 (.array .int) 222)),
  (222, kS (sLoad 2 0 223)),
  (223, kS (sPush (0, .int 2) 224)),
  (224, kS (sLoad 0 3 225)),
  (225, kS (sBin 0 0 0 (jI Term.mul) 226)),
  (226, kS (sNewA 4 .int 228)),
  (228, kS (sPutF 2 8 (.array .int) 231)),
  (231, kS (sLoad 2 0 232)),
  (232, kS (sPush (0, .int 2) 233)),
  (233, kS (sLoad 0 3 234)),
  (234, kS (sBin 0 0 0 (jI Term.mul) 235)),
  (235, kS (sNewA 6 .boolean 237)),
  (237, kS (sPutF 2 9 (.array .boolean) 240)),
  (240, kS (sLoad 2 0 241)),
  (241, kS (sLoad 0 3 242)),
  (242, kS (sNewA 4 .int 244)),
  (244, kS (sPutF 2 10 (.array .int) 247)),
  (247, kS (sLoad 2 0 248)),
  (248, kS (sGetF 2 2 251)),
  (251, kS (sLoad 0 2 252)),
  (252, kC 10 2 255 (ckAny)),
  (255, kS (sStore 2 6 257)),
  (257, kS (sPush (0, .int 0) 258)),
  (258, kS (sStore 0 7 260)),
  (260, kS (sLoad 0 7 262)),
  (262, kS (sLoad 0 3 263)),
  (263, kS (sIcmp .ge 434 266)),
  (266, kS (sLoad 2 1 267)),
  (267, kS (sGetF 0 0 270)),
  (270, kS (sLoad 0 7 272)),
  (272, kC 9 2 275 (ckObj 1)),
  (275, kS (sStore 0 8 277)),
  (277, kS (sLoad 2 1 278)),
  (278, kS (sGetF 0 1 281)),
  (281, kS (sLoad 0 7 283)),
  (283, kC 9 2 286 (ckObj 1)),
  (286, kS (sStore 0 9 288)),
  (288, kS (sLoad 2 6 290)),
  (290, kS (sLoad 0 8 292)),
  (292, kS (sDup2 293)),
  (293, kS (sAld 4 294)),
  (294, kS (sDupX2 295)),
  (295, kS (sPush (0, .int 1) 296)),
  (296, kS (sBin 0 0 0 (jI Term.add) 297)),
  (297, kS (sAst 4 .int 298)),
  (298, kS (sStore 0 10 300)),
  (300, kS (sLoad 2 6 302)),
  (302, kS (sLoad 0 9 304)),
  (304, kS (sDup2 305)),
  (305, kS (sAld 4 306)),
  (306, kS (sDupX2 307)),
  (307, kS (sPush (0, .int 1) 308)),
  (308, kS (sBin 0 0 0 (jI Term.add) 309)),
  (309, kS (sAst 4 .int 310)),
  (310, kS (sStore 0 11 312)),
  (312, kS (sLoad 2 0 313)),
  (313, kS (sGetF 2 10 316)),
  (316, kS (sLoad 0 7 318)),
  (318, kS (sLoad 0 10 320)),
  (320, kS (sAst 4 .int 321)),
  (321, kS (sLoad 2 0 322)),
  (322, kS (sGetF 2 4 325)),
  (325, kS (sLoad 0 10 327)),
  (327, kS (sLoad 0 9 329)),
  (329, kS (sAst 4 .int 330)),
  (330, kS (sLoad 2 0 331)),
  (331, kS (sGetF 2 5 334)),
  (334, kS (sLoad 0 10 336)),
  (336, kS (sLoad 2 1 337)),
  (337, kS (sGetF 0 2 340)),
  (340, kS (sLoad 0 7 342)),
  (342, kC 9 2 345 (ckObj 1)),
  (345, kS (sAst 4 .int 346)),
  (346, kS (sLoad 2 0 347)),
  (347, kS (sGetF 2 6 350)),
  (350, kS (sLoad 0 10 352)),
  (352, kS (sLoad 2 1 353)),
  (353, kS (sGetF 0 3 356)),
  (356, kS (sLoad 0 7 358)),
  (358, kC 9 2 361 (ckObj 1)),
  (361, kS (sAst 4 .int 362)),
  (362, kS (sLoad 2 0 363)),
  (363, kS (sGetF 2 8 366)),
  (366, kS (sLoad 0 11 368)),
  (368, kS (sLoad 2 0 369)),
  (369, kS (sGetF 2 6 372)),
  (372, kS (sLoad 0 10 374)),
  (374, kS (sAld 4 375)),
  (375, kS (sAst 4 .int 376)),
  (376, kS (sLoad 2 0 377)),
  (377, kS (sGetF 2 7 380)),
  (380, kS (sLoad 0 10 382)),
  (382, kS (sLoad 0 11 384)),
  (384, kS (sAst 4 .int 385)),
  (385, kS (sLoad 2 0 386)),
  (386, kS (sGetF 2 9 389)),
  (389, kS (sLoad 0 10 391)),
  (391, kS (sPush (0, .int 1) 392)),
  (392, kS (sAst 6 .boolean 393)),
  (393, kS (sLoad 2 0 394)),
  (394, kS (sGetF 2 4 397)),
  (397, kS (sLoad 0 11 399)),
  (399, kS (sLoad 0 8 401)),
  (401, kS (sAst 4 .int 402)),
  (402, kS (sLoad 2 0 403)),
  (403, kS (sGetF 2 5 406)),
  (406, kS (sLoad 0 11 408)),
  (408, kS (sLoad 2 1 409)),
  (409, kS (sGetF 0 2 412)),
  (412, kS (sLoad 0 7 414)),
  (414, kC 9 2 417 (ckObj 1)),
  (417, kS (sUn 0 0 (uI (Term.op1 .ineg)) 418)),
  (418, kS (sAst 4 .int 419)),
  (419, kS (sLoad 2 0 420)),
  (420, kS (sGetF 2 7 423)),
  (423, kS (sLoad 0 11 425)),
  (425, kS (sLoad 0 10 427)),
  (427, kS (sAst 4 .int 428)),
  (428, kS (sIinc 7 1 431)),
  (431, kS (sGoto 260)),
  (434, kS (sLoad 2 0 435)),
  (435, kS (sLoad 2 0 436)),
  (436, kS (sGetF 2 3 439)),
  (439, kS (sLoad 0 2 440)),
  (440, kS (sAld 4 441)),
  (441, kS (sNewA 4 .int 443)),
  (443, kS (sPutF 2 11 (.array .int) 446)),
  (446, kS (sLoad 2 0 447)),
  (447, kS (sLoad 0 2 448)),
  (448, kS (sNewA 4 .int 450)),
  (450, kS (sPutF 2 12 (.array .int) 453)),
  (453, kS (sLoad 2 0 454)),
  (454, kS (sPush (0, .int 2) 455)),
  (455, kS (sLoad 0 3 456)),
  (456, kS (sBin 0 0 0 (jI Term.mul) 457)),
  (457, kS (sNewA 4 .int 459)),
  (459, kS (sPutF 2 13 (.array .int) 462)),
  (462, kS (sLoad 2 0 463)),
  (463, kS (sLoad 0 2 464)),
  (464, kS (sNewA 4 .int 466)),
  (466, kS (sPutF 2 14 (.array .int) 469)),
  (469, kS (sLoad 2 0 470)),
  (470, kS (sLoad 0 2 471)),
  (471, kS (sNewA 5 .long 473)),
  (473, kS (sPutF 2 15 (.array .long) 476)),
  (476, kS (sLoad 2 0 477)),
  (477, kS (sLoad 0 2 478)),
  (478, kS (sNewA 4 .int 480)),
  (480, kS (sPutF 2 16 (.array .int) 483)),
  (483, kS (sLoad 2 0 484)),
  (484, kS (sLoad 0 2 485)),
  (485, kS (sNewA 4 .int 487)),
  (487, kS (sPutF 2 17 (.array .int) 490)),
  (490, kS (sLoad 2 0 491)),
  (491, kS (sLoad 0 2 492)),
  (492, kS (sNewA 4 .int 494)),
  (494, kS (sPutF 2 18 (.array .int) 497)),
  (497, kS (sLoad 2 0 498)),
  (498, kS (sLoad 0 2 499)),
  (499, kS (sNewA 6 .boolean 501)),
  (501, kS (sPutF 2 19 (.array .boolean) 504)),
  (504, kS (sLoad 2 0 505)),
  (505, kS (sLoad 0 2 506)),
  (506, kS (sNewA 4 .int 508)),
  (508, kS (sPutF 2 20 (.array .int) 511)),
  (511, kS (sLoad 2 0 512)),
  (512, kS (sLoad 0 2 513)),
  (513, kS (sNewA 4 .int 515)),
  (515, kS (sPutF 2 21 (.array .int) 518)),
  (518, kS (sLoad 2 0 519)),
  (519, kS (sNew 3 6 ds_3 522)),
  (522, kS (sDup 523)),
  (523, kS (sLoad 0 2 524)),
  (524, kC 12 2 527 (ckObj 3)),
  (527, kS (sPutF 2 22 (.object "org/distinguo/graph/MinimumCostFlow$Layers") 530)),
  (530, kS (sLoad 2 0 531)),
  (531, kS (sNew 3 6 ds_3 534)),
  (534, kS (sDup 535)),
  (535, kS (sLoad 0 2 536)),
  (536, kC 12 2 539 (ckObj 3)),
  (539, kS (sPutF 2 23 (.object "org/distinguo/graph/MinimumCostFlow$Layers") 542)),
  (542, kR (rVoid))]
def cd_9 : List El := [(0, kS (sLoad 2 0 1)),
  (1, kS (sGetF 1 0 4)),
  (4, kS (sLoad 0 1 5)),
  (5, kS (sAld 4 6)),
  (6, kR (rVal .int))]
def cd_10 : List El := [(0, kS (sLoad 0 1 1)),
  (1, kS (sLoad 2 0 2)),
  (2, kS (sLenA 4 3)),
  (3, kS (sIcmp .ne 14 6)),
  (6, kS (sLoad 2 0 7)),
  (7, kS (sStop)),
  (10, kS (sStop)),
  (13, kR (rVal (.array .int))),
  (14, kS (sLoad 0 1 15)),
  (15, kS (sNewA 4 .int 17)),
  (17, kS (sStore 2 2 18)),
  (18, kS (sLoad 2 0 19)),
  (19, kS (sPush (0, .int 0) 20)),
  (20, kS (sLoad 2 2 21)),
  (21, kS (sPush (0, .int 0) 22)),
  (22, kS (sLoad 2 0 23)),
  (23, kS (sLenA 4 24)),
  (24, kS (sLoad 0 1 25)),
  (25, kC 11 2 28 (ckAny)),
  (28, kN (sCopy 4 3 31)),
  (31, kS (sLoad 2 2 32)),
  (32, kR (rVal (.array .int)))]
def cd_11 : List El := [(0, kS (sLoad 0 0 1)),
  (1, kS (sLoad 0 1 2)),
  (2, kS (sIcmp .gt 9 5)),
  (5, kS (sLoad 0 0 6)),
  (6, kS (sGoto 10)),
  (9, kS (sLoad 0 1 10)),
  (10, kR (rVal .int))]
def cd_12 : List El := [(0, kS (sLoad 2 0 1)),
  (1, kN (sInitO 2 4)),
  (4, kS (sLoad 2 0 5)),
  (5, kS (sLoad 0 1 6)),
  (6, kS (sNewA 4 .int 8)),
  (8, kS (sPutF 3 0 (.array .int) 11)),
  (11, kS (sLoad 2 0 12)),
  (12, kS (sLoad 0 1 13)),
  (13, kS (sNewA 4 .int 15)),
  (15, kS (sPutF 3 1 (.array .int) 18)),
  (18, kS (sLoad 2 0 19)),
  (19, kS (sLoad 0 1 20)),
  (20, kS (sNewA 4 .int 22)),
  (22, kS (sPutF 3 2 (.array .int) 25)),
  (25, kR (rVoid))]
def cd_13 : List El := [(0, kS (sLoad 2 0 1)),
  (1, kS (sLoad 0 1 2)),
  (2, kC 14 2 5 (ckObj 2)),
  (5, kR (rVoid))]
def cd_14 : List El := [(0, kS (sLoad 2 0 1)),
  (1, kS (sDup 2)),
  (2, kS (sGetF 2 24 5)),
  (5, kS (sPush (0, .int 1) 6)),
  (6, kS (sBin 0 0 0 (jI Term.add) 7)),
  (7, kS (sPutF 2 24 .int 10)),
  (10, kS (sLoad 2 0 11)),
  (11, kS (sLoad 0 1 12)),
  (12, kS (sPutF 2 25 .int 15)),
  (15, kS (sLoad 2 0 16)),
  (16, kS (sPush (0, .int 0) 17)),
  (17, kS (sPutF 2 26 .int 20)),
  (20, kS (sLoad 2 0 21)),
  (21, kS (sPush (0, .int 0) 22)),
  (22, kS (sPutF 2 27 .int 25)),
  (25, kS (sLoad 2 0 26)),
  (26, kS (sPush (0, .int 0) 27)),
  (27, kS (sPutF 2 28 .int 30)),
  (30, kS (sLoad 2 0 31)),
  (31, kS (sPush (0, .int 0) 32)),
  (32, kS (sPutF 2 29 .int 35)),
  (35, kS (sLoad 2 0 36)),
  (36, kS (sPush (0, .int 0) 37)),
  (37, kS (sPutF 2 30 .int 40)),
  (40, kS (sLoad 2 0 41)),
  (41, kS (sLoad 0 1 42)),
  (42, kS (sPush (0, .int 0) 43)),
  (43, kS (sPush (0, .int (-1)) 44)),
  (44, kC 15 4 47 (ckObj 2)),
  (47, kS (sPop 48)),
  (48, kR (rVoid))]
def cd_15 : List El := [(0, kS (sLoad 2 0 1)),
  (1, kS (sGetF 2 16 4)),
  (4, kS (sLoad 0 1 5)),
  (5, kS (sAld 4 6)),
  (6, kS (sLoad 2 0 7)),
  (7, kS (sGetF 2 24 10)),
  (10, kS (sIcmp .ne 25 13)),
  (13, kS (sLoad 2 0 14)),
  (14, kS (sGetF 2 17 17)),
  (17, kS (sLoad 0 1 18)),
  (18, kS (sAld 4 19)),
  (19, kS (sLoad 0 2 20)),
  (20, kS (sIcmp .gt 25 23)),
  (23, kS (sPush (0, .int 0) 24)),
  (24, kR (rVal .boolean)),
  (25, kS (sLoad 2 0 26)),
  (26, kS (sGetF 2 16 29)),
  (29, kS (sLoad 0 1 30)),
  (30, kS (sAld 4 31)),
  (31, kS (sLoad 2 0 32)),
  (32, kS (sGetF 2 24 35)),
  (35, kS (sIcmp .eq 55 38)),
  (38, kS (sLoad 2 0 39)),
  (39, kS (sGetF 2 16 42)),
  (42, kS (sLoad 0 1 43)),
  (43, kS (sLoad 2 0 44)),
  (44, kS (sGetF 2 24 47)),
  (47, kS (sAst 4 .int 48)),
  (48, kS (sLoad 2 0 49)),
  (49, kS (sGetF 2 19 52)),
  (52, kS (sLoad 0 1 53)),
  (53, kS (sPush (0, .int 0) 54)),
  (54, kS (sAst 6 .boolean 55)),
  (55, kS (sLoad 2 0 56)),
  (56, kS (sGetF 2 17 59)),
  (59, kS (sLoad 0 1 60)),
  (60, kS (sLoad 0 2 61)),
  (61, kS (sAst 4 .int 62)),
  (62, kS (sLoad 2 0 63)),
  (63, kS (sGetF 2 18 66)),
  (66, kS (sLoad 0 1 67)),
  (67, kS (sLoad 0 3 68)),
  (68, kS (sAst 4 .int 69)),
  (69, kS (sLoad 0 2 70)),
  (70, kS (sLoad 2 0 71)),
  (71, kS (sGetF 2 30 74)),
  (74, kS (sIcmp .ne 97 77)),
  (77, kS (sLoad 2 0 78)),
  (78, kS (sGetF 2 21 81)),
  (81, kS (sLoad 2 0 82)),
  (82, kS (sDup 83)),
  (83, kS (sGetF 2 29 86)),
  (86, kS (sDupX1 87)),
  (87, kS (sPush (0, .int 1) 88)),
  (88, kS (sBin 0 0 0 (jI Term.add) 89)),
  (89, kS (sPutF 2 29 .int 92)),
  (92, kS (sLoad 0 1 93)),
  (93, kS (sAst 4 .int 94)),
  (94, kS (sGoto 109)),
  (97, kS (sLoad 2 0 98)),
  (98, kS (sLoad 0 2 99)),
  (99, kS (sUn 0 1 (uL (Term.op1 .i2l)) 100)),
  (100, kS (sPush (0, .int 32) 102)),
  (102, kS (sBin 1 0 1 (jL (Term.op2 .lshl)) 103)),
  (103, kS (sLoad 0 1 104)),
  (104, kS (sUn 0 1 (uL (Term.op1 .i2l)) 105)),
  (105, kS (sBin 1 1 1 (jL (Term.op2 .lor)) 106)),
  (106, kC 25 2 109 (ckObj 2)),
  (109, kS (sPush (0, .int 1) 110)),
  (110, kR (rVal .boolean))]
def cd_16 : List El := [(0, kS (sLoad 2 0 1)),
  (1, kC 17 1 4 (ckObj 2)),
  (4, kS (sPush (1, .long 0) 5)),
  (5, kS (sBin 1 1 0 (jI (Term.op2 .lcmp)) 6)),
  (6, kS (sIf .lt 128 9)),
  (9, kS (sLoad 2 0 10)),
  (10, kC 17 1 13 (ckObj 2)),
  (13, kS (sLoad 1 1 14)),
  (14, kS (sBin 1 1 0 (jI (Term.op2 .lcmp)) 15)),
  (15, kS (sIf .gt 128 18)),
  (18, kS (sLoad 2 0 19)),
  (19, kC 21 1 22 (ckObj 2)),
  (22, kS (sStore 0 3 23)),
  (23, kS (sLoad 0 3 24)),
  (24, kS (sIf .ge 30 27)),
  (27, kS (sGoto 0)),
  (30, kS (sLoad 2 0 31)),
  (31, kS (sGetF 2 2 34)),
  (34, kS (sLoad 0 3 35)),
  (35, kS (sAld 4 36)),
  (36, kS (sStore 0 4 38)),
  (38, kS (sLoad 0 4 40)),
  (40, kS (sLoad 2 0 41)),
  (41, kS (sGetF 2 2 44)),
  (44, kS (sLoad 0 3 45)),
  (45, kS (sPush (0, .int 1) 46)),
  (46, kS (sBin 0 0 0 (jI Term.add) 47)),
  (47, kS (sAld 4 48)),
  (48, kS (sIcmp .ge 126 51)),
  (51, kS (sLoad 2 0 52)),
  (52, kS (sGetF 2 4 55)),
  (55, kS (sLoad 0 4 57)),
  (57, kS (sAld 4 58)),
  (58, kS (sStore 0 5 60)),
  (60, kS (sLoad 2 0 61)),
  (61, kS (sGetF 2 17 64)),
  (64, kS (sLoad 0 3 65)),
  (65, kS (sAld 4 66)),
  (66, kS (sLoad 2 0 67)),
  (67, kS (sLoad 0 3 68)),
  (68, kS (sLoad 0 4 70)),
  (70, kC 23 3 73 (ckObj 2)),
  (73, kS (sBin 0 0 0 xSub 74)),
  (74, kS (sUn 0 1 (uL (Term.op1 .i2l)) 75)),
  (75, kS (sStore 1 6 77)),
  (77, kS (sLoad 2 0 78)),
  (78, kS (sGetF 2 8 81)),
  (81, kS (sLoad 0 4 83)),
  (83, kS (sAld 4 84)),
  (84, kS (sIf .le 120 87)),
  (87, kS (sLoad 1 6 89)),
  (89, kS (sLoad 1 1 90)),
  (90, kS (sBin 1 1 0 (jI (Term.op2 .lcmp)) 91)),
  (91, kS (sIf .gt 120 94)),
  (94, kS (sLoad 2 0 95)),
  (95, kS (sLoad 0 5 97)),
  (97, kC 24 2 100 (ckObj 2)),
  (100, kS (sIf .ne 120 103)),
  (103, kS (sLoad 2 0 104)),
  (104, kS (sLoad 0 5 106)),
  (106, kS (sLoad 1 6 108)),
  (108, kS (sUn 1 0 xL2I 109)),
  (109, kS (sLoad 2 0 110)),
  (110, kS (sGetF 2 7 113)),
  (113, kS (sLoad 0 4 115)),
  (115, kS (sAld 4 116)),
  (116, kC 15 4 119 (ckObj 2)),
  (119, kS (sPop 120)),
  (120, kS (sIinc 4 1 123)),
  (123, kS (sGoto 38)),
  (126, kS (sLoad 0 3 127)),
  (127, kR (rVal .int)),
  (128, kS (sPush (0, .int (-1)) 129)),
  (129, kR (rVal .int))]
def cd_17 : List El := [(0, kS (sLoad 2 0 1)),
  (1, kS (sGetF 2 28 4)),
  (4, kS (sLoad 2 0 5)),
  (5, kS (sGetF 2 29 8)),
  (8, kS (sIcmp .ge 17 11)),
  (11, kS (sLoad 2 0 12)),
  (12, kS (sGetF 2 30 15)),
  (15, kS (sUn 0 1 (uL (Term.op1 .i2l)) 16)),
  (16, kR (rVal .long)),
  (17, kS (sLoad 2 0 18)),
  (18, kS (sGetF 2 27 21)),
  (21, kS (sIf .le 36 24)),
  (24, kS (sLoad 2 0 25)),
  (25, kS (sGetF 2 0 28)),
  (28, kS (sPush (0, .int 0) 29)),
  (29, kS (sAld 5 30)),
  (30, kS (sPush (0, .int 32) 32)),
  (32, kS (sBin 1 0 1 xLushr 33)),
  (33, kS (sGoto 39)),
  (36, kS (sPush (1, .long (-1)) 39)),
  (39, kR (rVal .long))]
def cd_18 : List El := [(0, kS (sLoad 2 0 1)),
  (1, kS (sDup 2)),
  (2, kS (sGetF 2 31 5)),
  (5, kS (sLoad 1 1 6)),
  (6, kS (sBin 1 1 1 xSubL 7)),
  (7, kS (sPutF 2 31 .long 10)),
  (10, kS (sPush (0, .int 0) 11)),
  (11, kS (sStore 0 3 12)),
  (12, kS (sLoad 0 3 13)),
  (13, kS (sLoad 2 0 14)),
  (14, kS (sGetF 2 26 17)),
  (17, kS (sIcmp .ge 54 20)),
  (20, kS (sLoad 2 0 21)),
  (21, kS (sGetF 2 20 24)),
  (24, kS (sLoad 0 3 25)),
  (25, kS (sAld 4 26)),
  (26, kS (sStore 0 4 28)),
  (28, kS (sLoad 2 0 29)),
  (29, kS (sGetF 2 15 32)),
  (32, kS (sLoad 0 4 34)),
  (34, kS (sDup2 35)),
  (35, kS (sAld 5 36)),
  (36, kS (sLoad 1 1 37)),
  (37, kS (sLoad 2 0 38)),
  (38, kS (sGetF 2 17 41)),
  (41, kS (sLoad 0 4 43)),
  (43, kS (sAld 4 44)),
  (44, kS (sUn 0 1 (uL (Term.op1 .i2l)) 45)),
  (45, kS (sBin 1 1 1 xSubL 46)),
  (46, kS (sBin 1 1 1 xAddL 47)),
  (47, kS (sAst 5 .long 48)),
  (48, kS (sIinc 3 1 51)),
  (51, kS (sGoto 12)),
  (54, kR (rVoid))]
def cd_19 : List El := [(0, kS (sLoad 2 0 1)),
  (1, kS (sGetF 2 15 4)),
  (4, kS (sLoad 0 1 5)),
  (5, kS (sAld 5 6)),
  (6, kS (sLoad 2 0 7)),
  (7, kS (sGetF 2 31 10)),
  (10, kS (sBin 1 1 1 xAddL 11)),
  (11, kR (rVal .long))]
def cd_20 : List El := [(0, kS (sLoad 0 0 1)),
  (1, kS (sIf .eq 14 4)),
  (4, kS (sLoad 1 1 5)),
  (5, kS (sLoad 1 3 6)),
  (6, kS (sBin 1 1 0 (jI (Term.op2 .lcmp)) 7)),
  (7, kS (sIf .gt 14 10)),
  (10, kS (sPush (1, .long 0) 11)),
  (11, kS (sLoad 1 1 12)),
  (12, kS (sBin 1 1 1 xSubL 13)),
  (13, kR (rVal .long)),
  (14, kS (sPush (1, .long 0) 15)),
  (15, kS (sLoad 1 3 16)),
  (16, kS (sBin 1 1 1 xSubL 17)),
  (17, kR (rVal .long))]
def cd_21 : List El := [(0, kS (sLoad 2 0 1)),
  (1, kS (sGetF 2 28 4)),
  (4, kS (sLoad 2 0 5)),
  (5, kS (sGetF 2 29 8)),
  (8, kS (sIcmp .ge 32 11)),
  (11, kS (sLoad 2 0 12)),
  (12, kS (sLoad 2 0 13)),
  (13, kS (sGetF 2 21 16)),
  (16, kS (sLoad 2 0 17)),
  (17, kS (sDup 18)),
  (18, kS (sGetF 2 28 21)),
  (21, kS (sDupX1 22)),
  (22, kS (sPush (0, .int 1) 23)),
  (23, kS (sBin 0 0 0 (jI Term.add) 24)),
  (24, kS (sPutF 2 28 .int 27)),
  (27, kS (sAld 4 28)),
  (28, kC 22 2 31 (ckObj 2)),
  (31, kR (rVal .int)),
  (32, kS (sLoad 2 0 33)),
  (33, kS (sGetF 2 0 36)),
  (36, kS (sPush (0, .int 0) 37)),
  (37, kS (sAld 5 38)),
  (38, kS (sStore 1 1 39)),
  (39, kS (sLoad 2 0 40)),
  (40, kS (sGetF 2 0 43)),
  (43, kS (sLoad 2 0 44)),
  (44, kS (sDup 45)),
  (45, kS (sGetF 2 27 48)),
  (48, kS (sPush (0, .int 1) 49)),
  (49, kS (sBin 0 0 0 xSub 50)),
  (50, kS (sDupX1 51)),
  (51, kS (sPutF 2 27 .int 54)),
  (54, kS (sAld 5 55)),
  (55, kS (sStore 1 3 56)),
  (56, kS (sPush (0, .int 0) 57)),
  (57, kS (sStore 0 5 59)),
  (59, kS (sPush (0, .int 2) 60)),
  (60, kS (sLoad 0 5 62)),
  (62, kS (sBin 0 0 0 (jI Term.mul) 63)),
  (63, kS (sPush (0, .int 1) 64)),
  (64, kS (sBin 0 0 0 (jI Term.add) 65)),
  (65, kS (sLoad 2 0 66)),
  (66, kS (sGetF 2 27 69)),
  (69, kS (sIcmp .ge 150 72)),
  (72, kS (sPush (0, .int 2) 73)),
  (73, kS (sLoad 0 5 75)),
  (75, kS (sBin 0 0 0 (jI Term.mul) 76)),
  (76, kS (sPush (0, .int 1) 77)),
  (77, kS (sBin 0 0 0 (jI Term.add) 78)),
  (78, kS (sStore 0 6 80)),
  (80, kS (sLoad 0 6 82)),
  (82, kS (sPush (0, .int 1) 83)),
  (83, kS (sBin 0 0 0 (jI Term.add) 84)),
  (84, kS (sLoad 2 0 85)),
  (85, kS (sGetF 2 27 88)),
  (88, kS (sIcmp .ge 114 91)),
  (91, kS (sLoad 2 0 92)),
  (92, kS (sGetF 2 0 95)),
  (95, kS (sLoad 0 6 97)),
  (97, kS (sPush (0, .int 1) 98)),
  (98, kS (sBin 0 0 0 (jI Term.add) 99)),
  (99, kS (sAld 5 100)),
  (100, kS (sLoad 2 0 101)),
  (101, kS (sGetF 2 0 104)),
  (104, kS (sLoad 0 6 106)),
  (106, kS (sAld 5 107)),
  (107, kS (sBin 1 1 0 (jI (Term.op2 .lcmp)) 108)),
  (108, kS (sIf .ge 114 111)),
  (111, kS (sIinc 6 1 114)),
  (114, kS (sLoad 2 0 115)),
  (115, kS (sGetF 2 0 118)),
  (118, kS (sLoad 0 6 120)),
  (120, kS (sAld 5 121)),
  (121, kS (sLoad 1 3 122)),
  (122, kS (sBin 1 1 0 (jI (Term.op2 .lcmp)) 123)),
  (123, kS (sIf .lt 129 126)),
  (126, kS (sGoto 150)),
  (129, kS (sLoad 2 0 130)),
  (130, kS (sGetF 2 0 133)),
  (133, kS (sLoad 0 5 135)),
  (135, kS (sLoad 2 0 136)),
  (136, kS (sGetF 2 0 139)),
  (139, kS (sLoad 0 6 141)),
  (141, kS (sAld 5 142)),
  (142, kS (sAst 5 .long 143)),
  (143, kS (sLoad 0 6 145)),
  (145, kS (sStore 0 5 147)),
  (147, kS (sGoto 59)),
  (150, kS (sLoad 2 0 151)),
  (151, kS (sGetF 2 27 154)),
  (154, kS (sIf .le 165 157)),
  (157, kS (sLoad 2 0 158)),
  (158, kS (sGetF 2 0 161)),
  (161, kS (sLoad 0 5 163)),
  (163, kS (sLoad 1 3 164)),
  (164, kS (sAst 5 .long 165)),
  (165, kS (sLoad 2 0 166)),
  (166, kS (sPush (0, .int 0) 167)),
  (167, kS (sPutF 2 28 .int 170)),
  (170, kS (sLoad 2 0 171)),
  (171, kS (sPush (0, .int 0) 172)),
  (172, kS (sPutF 2 29 .int 175)),
  (175, kS (sLoad 2 0 176)),
  (176, kS (sLoad 1 1 177)),
  (177, kS (sPush (0, .int 32) 179)),
  (179, kS (sBin 1 0 1 xLushr 180)),
  (180, kS (sUn 1 0 xL2I 181)),
  (181, kS (sPutF 2 30 .int 184)),
  (184, kS (sLoad 2 0 185)),
  (185, kS (sLoad 1 1 186)),
  (186, kS (sUn 1 0 xL2I 187)),
  (187, kC 22 2 190 (ckObj 2)),
  (190, kR (rVal .int))]
def cd_22 : List El := [(0, kS (sLoad 2 0 1)),
  (1, kS (sGetF 2 19 4)),
  (4, kS (sLoad 0 1 5)),
  (5, kS (sAld 6 6)),
  (6, kS (sIf .eq 11 9)),
  (9, kS (sPush (0, .int (-1)) 10)),
  (10, kR (rVal .int)),
  (11, kS (sLoad 2 0 12)),
  (12, kS (sGetF 2 19 15)),
  (15, kS (sLoad 0 1 16)),
  (16, kS (sPush (0, .int 1) 17)),
  (17, kS (sAst 6 .boolean 18)),
  (18, kS (sLoad 2 0 19)),
  (19, kS (sGetF 2 20 22)),
  (22, kS (sLoad 2 0 23)),
  (23, kS (sDup 24)),
  (24, kS (sGetF 2 26 27)),
  (27, kS (sDupX1 28)),
  (28, kS (sPush (0, .int 1) 29)),
  (29, kS (sBin 0 0 0 (jI Term.add) 30)),
  (30, kS (sPutF 2 26 .int 33)),
  (33, kS (sLoad 0 1 34)),
  (34, kS (sAst 4 .int 35)),
  (35, kS (sLoad 0 1 36)),
  (36, kR (rVal .int))]
def cd_23 : List El := [(0, kS (sLoad 2 0 1)),
  (1, kS (sGetF 2 5 4)),
  (4, kS (sLoad 0 2 5)),
  (5, kS (sAld 4 6)),
  (6, kS (sUn 0 1 (uL (Term.op1 .i2l)) 7)),
  (7, kS (sLoad 2 0 8)),
  (8, kS (sGetF 2 15 11)),
  (11, kS (sLoad 0 1 12)),
  (12, kS (sAld 5 13)),
  (13, kS (sBin 1 1 1 xAddL 14)),
  (14, kS (sLoad 2 0 15)),
  (15, kS (sGetF 2 15 18)),
  (18, kS (sLoad 2 0 19)),
  (19, kS (sGetF 2 4 22)),
  (22, kS (sLoad 0 2 23)),
  (23, kS (sAld 4 24)),
  (24, kS (sAld 5 25)),
  (25, kS (sBin 1 1 1 xSubL 26)),
  (26, kS (sUn 1 0 xL2I 27)),
  (27, kR (rVal .int))]
def cd_24 : List El := [(0, kS (sLoad 2 0 1)),
  (1, kS (sGetF 2 16 4)),
  (4, kS (sLoad 0 1 5)),
  (5, kS (sAld 4 6)),
  (6, kS (sLoad 2 0 7)),
  (7, kS (sGetF 2 24 10)),
  (10, kS (sIcmp .ne 26 13)),
  (13, kS (sLoad 2 0 14)),
  (14, kS (sGetF 2 19 17)),
  (17, kS (sLoad 0 1 18)),
  (18, kS (sAld 6 19)),
  (19, kS (sIf .eq 26 22)),
  (22, kS (sPush (0, .int 1) 23)),
  (23, kS (sGoto 27)),
  (26, kS (sPush (0, .int 0) 27)),
  (27, kR (rVal .boolean))]
def cd_25 : List El := [(0, kS (sLoad 2 0 1)),
  (1, kS (sGetF 2 27 4)),
  (4, kS (sLoad 2 0 5)),
  (5, kS (sGetF 2 0 8)),
  (8, kS (sLenA 5 9)),
  (9, kS (sIcmp .ne 29 12)),
  (12, kS (sLoad 2 0 13)),
  (13, kS (sLoad 2 0 14)),
  (14, kS (sGetF 2 0 17)),
  (17, kS (sPush (0, .int 2) 18)),
  (18, kS (sLoad 2 0 19)),
  (19, kS (sGetF 2 27 22)),
  (22, kS (sBin 0 0 0 (jI Term.mul) 23)),
  (23, kS (sStop)),
  (26, kS (sPutF 2 0 (.array .long) 29)),
  (29, kS (sLoad 2 0 30)),
  (30, kS (sDup 31)),
  (31, kS (sGetF 2 27 34)),
  (34, kS (sDupX1 35)),
  (35, kS (sPush (0, .int 1) 36)),
  (36, kS (sBin 0 0 0 (jI Term.add) 37)),
  (37, kS (sPutF 2 27 .int 40)),
  (40, kS (sStore 0 3 41)),
  (41, kS (sLoad 0 3 42)),
  (42, kS (sIf .le 85 45)),
  (45, kS (sLoad 2 0 46)),
  (46, kS (sGetF 2 0 49)),
  (49, kS (sLoad 0 3 50)),
  (50, kS (sPush (0, .int 1) 51)),
  (51, kS (sBin 0 0 0 xSub 52)),
  (52, kS (sPush (0, .int 2) 53)),
  (53, kS (s_idiv 54)),
  (54, kS (sAld 5 55)),
  (55, kS (sLoad 1 1 56)),
  (56, kS (sBin 1 1 0 (jI (Term.op2 .lcmp)) 57)),
  (57, kS (sIf .le 85 60)),
  (60, kS (sLoad 2 0 61)),
  (61, kS (sGetF 2 0 64)),
  (64, kS (sLoad 0 3 65)),
  (65, kS (sLoad 2 0 66)),
  (66, kS (sGetF 2 0 69)),
  (69, kS (sLoad 0 3 70)),
  (70, kS (sPush (0, .int 1) 71)),
  (71, kS (sBin 0 0 0 xSub 72)),
  (72, kS (sPush (0, .int 2) 73)),
  (73, kS (s_idiv 74)),
  (74, kS (sAld 5 75)),
  (75, kS (sAst 5 .long 76)),
  (76, kS (sLoad 0 3 77)),
  (77, kS (sPush (0, .int 1) 78)),
  (78, kS (sBin 0 0 0 xSub 79)),
  (79, kS (sPush (0, .int 2) 80)),
  (80, kS (s_idiv 81)),
  (81, kS (sStore 0 3 82)),
  (82, kS (sGoto 41)),
  (85, kS (sLoad 2 0 86)),
  (86, kS (sGetF 2 0 89)),
  (89, kS (sLoad 0 3 90)),
  (90, kS (sLoad 1 1 91)),
  (91, kS (sAst 5 .long 92)),
  (92, kR (rVoid))]
def mts : List Mt := [(21, cd_0), (2, cd_1), (0, []), (1, cd_3), (5, cd_4), (2, cd_5), (6, cd_6), (1, cd_7), (12, cd_8), (2, cd_9), (3, cd_10), (2, cd_11), (2, cd_12), (2, cd_13), (2, cd_14), (4, cd_15), (8, cd_16), (1, cd_17), (5, cd_18), (2, cd_19), (5, cd_20), (7, cd_21), (2, cd_22), (3, cd_23), (2, cd_24), (4, cd_25)]
def mis : Nat → MethodName × ByteArray × Option FieldType
  | 0 => (x, code, ret)
  | 1 => ((⟨"org/distinguo/graph/MinimumCostFlow$Network", "<init>", "(I)V"⟩ : MethodName), prog_28_method_1_code, none)
  | 3 => ((⟨"org/distinguo/model/IntList", "<init>", "()V"⟩ : MethodName), prog_99_method_1_code, none)
  | 4 => ((⟨"org/distinguo/graph/MinimumCostFlow$Network", "arc", "(IIII)I"⟩ : MethodName), prog_28_method_2_code, some .int)
  | 5 => ((⟨"org/distinguo/model/IntList", "add", "(I)V"⟩ : MethodName), prog_99_method_5_code, none)
  | 6 => ((⟨"org/distinguo/model/IntList", "makeRoom", "(I)V"⟩ : MethodName), prog_99_method_7_code, none)
  | 7 => ((⟨"org/distinguo/model/IntList", "size", "()I"⟩ : MethodName), prog_99_method_2_code, some .int)
  | 8 => ((⟨"org/distinguo/graph/MinimumCostFlow", "<init>", "(Lorg/distinguo/graph/MinimumCostFlow$Network;)V"⟩ : MethodName), prog_26_method_1_code, none)
  | 9 => ((⟨"org/distinguo/model/IntList", "get", "(I)I"⟩ : MethodName), prog_99_method_3_code, some .int)
  | 10 => ((⟨"java/util/Arrays", "copyOf", "([II)[I"⟩ : MethodName), jdk_65_method_123_code, some (.array .int))
  | 11 => ((⟨"java/lang/Math", "min", "(II)I"⟩ : MethodName), jdk_29_method_69_code, some .int)
  | 12 => ((⟨"org/distinguo/graph/MinimumCostFlow$Layers", "<init>", "(I)V"⟩ : MethodName), prog_27_method_1_code, none)
  | 13 => ((⟨"org/distinguo/graph/MinimumCostFlow", "startBack", "(I)V"⟩ : MethodName), prog_26_method_10_code, none)
  | 14 => ((⟨"org/distinguo/graph/MinimumCostFlow", "startSearch", "(I)V"⟩ : MethodName), prog_26_method_25_code, none)
  | 15 => ((⟨"org/distinguo/graph/MinimumCostFlow", "labelAndQueue", "(III)Z"⟩ : MethodName), prog_26_method_27_code, some .boolean)
  | 16 => ((⟨"org/distinguo/graph/MinimumCostFlow", "nextBack", "(J)I"⟩ : MethodName), prog_26_method_11_code, some .int)
  | 17 => ((⟨"org/distinguo/graph/MinimumCostFlow", "smallestQueued", "()J"⟩ : MethodName), prog_26_method_26_code, some .long)
  | 18 => ((⟨"org/distinguo/graph/MinimumCostFlow", "lowerPotentials", "(J)V"⟩ : MethodName), prog_26_method_15_code, none)
  | 19 => ((⟨"org/distinguo/graph/MinimumCostFlow", "potential", "(I)J"⟩ : MethodName), prog_26_method_9_code, some .long)
  | 20 => ((⟨"org/distinguo/graph/MinimumCostFlowLowerPotentialsPinLaw", "expected", "(ZJJ)J"⟩ : MethodName), method_2_code, some .long)
  | 21 => ((⟨"org/distinguo/graph/MinimumCostFlow", "settleNext", "()I"⟩ : MethodName), prog_26_method_29_code, some .int)
  | 22 => ((⟨"org/distinguo/graph/MinimumCostFlow", "settle", "(I)I"⟩ : MethodName), prog_26_method_30_code, some .int)
  | 23 => ((⟨"org/distinguo/graph/MinimumCostFlow", "reducedCost", "(II)I"⟩ : MethodName), prog_26_method_24_code, some .int)
  | 24 => ((⟨"org/distinguo/graph/MinimumCostFlow", "isSettled", "(I)Z"⟩ : MethodName), prog_26_method_12_code, some .boolean)
  | 25 => ((⟨"org/distinguo/graph/MinimumCostFlow", "push", "(J)V"⟩ : MethodName), prog_26_method_28_code, none)
  | _ => (x, code, ret)
theorem sok_0 {Z : State} {a0 : Array Value} (hw : ∀ d ∈ tables_1, d.before a0 Z = true) : ShOk Z a0 (none, "org/distinguo/graph/MinimumCostFlow$Network", 5, fs_0) := fun _ => ⟨(hw _ (List.mem_of_getElem? (i := 2) rfl)), by
  intro f hf
  simp only [fs_0, List.mem_cons, List.not_mem_nil, or_false] at hf
  rcases hf with rfl | rfl | rfl | rfl | rfl
  · exact ⟨Or.inr (hw _ (List.mem_of_getElem? (i := 21) rfl)), by decide⟩
  · exact ⟨Or.inr (hw _ (List.mem_of_getElem? (i := 23) rfl)), by decide⟩
  · exact ⟨Or.inr (hw _ (List.mem_of_getElem? (i := 25) rfl)), by decide⟩
  · exact ⟨Or.inr (hw _ (List.mem_of_getElem? (i := 27) rfl)), by decide⟩
  · exact ⟨Or.inr (hw _ (List.mem_of_getElem? (i := 29) rfl)), by decide⟩, by decide⟩
theorem sok_1 {Z : State} {a0 : Array Value} (hw : ∀ d ∈ tables_1, d.before a0 Z = true) : ShOk Z a0 (none, "org/distinguo/model/IntList", 2, fs_1) := fun _ => ⟨(hw _ (List.mem_of_getElem? (i := 11) rfl)), by
  intro f hf
  simp only [fs_1, List.mem_cons, List.not_mem_nil, or_false] at hf
  rcases hf with rfl | rfl
  · exact ⟨Or.inl (hw _ (List.mem_of_getElem? (i := 19) rfl)), by decide⟩
  · exact ⟨Or.inl (hw _ (List.mem_of_getElem? (i := 45) rfl)), by decide⟩, by decide⟩
theorem sok_2 {Z : State} {a0 : Array Value} (hw : ∀ d ∈ tables_1, d.before a0 Z = true) : ShOk Z a0 (none, "org/distinguo/graph/MinimumCostFlow", 33, fs_2) := fun _ => ⟨(hw _ (List.mem_of_getElem? (i := 52) rfl)), by
  intro f hf
  simp only [fs_2, List.mem_cons, List.not_mem_nil, or_false] at hf
  rcases hf with rfl | rfl | rfl | rfl | rfl | rfl | rfl | rfl | rfl | rfl | rfl | rfl | rfl | rfl | rfl | rfl | rfl | rfl | rfl | rfl | rfl | rfl | rfl | rfl | rfl | rfl | rfl | rfl | rfl | rfl | rfl | rfl
  · exact ⟨Or.inl (hw _ (List.mem_of_getElem? (i := 60) rfl)), by decide⟩
  · exact ⟨Or.inr (hw _ (List.mem_of_getElem? (i := 64) rfl)), by decide⟩
  · exact ⟨Or.inr (hw _ (List.mem_of_getElem? (i := 75) rfl)), by decide⟩
  · exact ⟨Or.inr (hw _ (List.mem_of_getElem? (i := 77) rfl)), by decide⟩
  · exact ⟨Or.inr (hw _ (List.mem_of_getElem? (i := 79) rfl)), by decide⟩
  · exact ⟨Or.inr (hw _ (List.mem_of_getElem? (i := 81) rfl)), by decide⟩
  · exact ⟨Or.inr (hw _ (List.mem_of_getElem? (i := 83) rfl)), by decide⟩
  · exact ⟨Or.inr (hw _ (List.mem_of_getElem? (i := 85) rfl)), by decide⟩
  · exact ⟨Or.inr (hw _ (List.mem_of_getElem? (i := 87) rfl)), by decide⟩
  · exact ⟨Or.inr (hw _ (List.mem_of_getElem? (i := 90) rfl)), by decide⟩
  · exact ⟨Or.inr (hw _ (List.mem_of_getElem? (i := 92) rfl)), by decide⟩
  · exact ⟨Or.inr (hw _ (List.mem_of_getElem? (i := 108) rfl)), by decide⟩
  · exact ⟨Or.inr (hw _ (List.mem_of_getElem? (i := 110) rfl)), by decide⟩
  · exact ⟨Or.inr (hw _ (List.mem_of_getElem? (i := 112) rfl)), by decide⟩
  · exact ⟨Or.inr (hw _ (List.mem_of_getElem? (i := 114) rfl)), by decide⟩
  · exact ⟨Or.inr (hw _ (List.mem_of_getElem? (i := 116) rfl)), by decide⟩
  · exact ⟨Or.inr (hw _ (List.mem_of_getElem? (i := 118) rfl)), by decide⟩
  · exact ⟨Or.inr (hw _ (List.mem_of_getElem? (i := 120) rfl)), by decide⟩
  · exact ⟨Or.inr (hw _ (List.mem_of_getElem? (i := 122) rfl)), by decide⟩
  · exact ⟨Or.inr (hw _ (List.mem_of_getElem? (i := 124) rfl)), by decide⟩
  · exact ⟨Or.inr (hw _ (List.mem_of_getElem? (i := 126) rfl)), by decide⟩
  · exact ⟨Or.inr (hw _ (List.mem_of_getElem? (i := 128) rfl)), by decide⟩
  · exact ⟨Or.inr (hw _ (List.mem_of_getElem? (i := 143) rfl)), by decide⟩
  · exact ⟨Or.inr (hw _ (List.mem_of_getElem? (i := 145) rfl)), by decide⟩
  · exact ⟨Or.inl (hw _ (List.mem_of_getElem? (i := 156) rfl)), by decide⟩
  · exact ⟨Or.inl (hw _ (List.mem_of_getElem? (i := 158) rfl)), by decide⟩
  · exact ⟨Or.inl (hw _ (List.mem_of_getElem? (i := 160) rfl)), by decide⟩
  · exact ⟨Or.inl (hw _ (List.mem_of_getElem? (i := 162) rfl)), by decide⟩
  · exact ⟨Or.inl (hw _ (List.mem_of_getElem? (i := 164) rfl)), by decide⟩
  · exact ⟨Or.inl (hw _ (List.mem_of_getElem? (i := 166) rfl)), by decide⟩
  · exact ⟨Or.inl (hw _ (List.mem_of_getElem? (i := 168) rfl)), by decide⟩
  · exact ⟨Or.inl (hw _ (List.mem_of_getElem? (i := 188) rfl)), by decide⟩, by decide⟩
theorem sok_3 {Z : State} {a0 : Array Value} (hw : ∀ d ∈ tables_1, d.before a0 Z = true) : ShOk Z a0 (none, "org/distinguo/graph/MinimumCostFlow$Layers", 6, fs_3) := fun _ => ⟨(hw _ (List.mem_of_getElem? (i := 130) rfl)), by
  intro f hf
  simp only [fs_3, List.mem_cons, List.not_mem_nil, or_false] at hf
  rcases hf with rfl | rfl | rfl
  · exact ⟨Or.inr (hw _ (List.mem_of_getElem? (i := 137) rfl)), by decide⟩
  · exact ⟨Or.inr (hw _ (List.mem_of_getElem? (i := 139) rfl)), by decide⟩
  · exact ⟨Or.inr (hw _ (List.mem_of_getElem? (i := 141) rfl)), by decide⟩, by decide⟩

section Valid
variable {l : Launch} {Z : State} {hz : Heap} {A : En} {O : Nat → Addr} {a0 : Array Value}
theorem okc_nil {M : List Mt} {MI : Nat → MethodName × ByteArray × Option FieldType} {j mx : Nat} : ∀ el ∈ ([] : List El), ElOk l Z hz shp A O 96 704 M MI j mx el := fun _ h => nomatch h
theorem okc_cons {M : List Mt} {MI : Nat → MethodName × ByteArray × Option FieldType} {j mx : Nat} {el : El} {es : List El} (h : ElOk l Z hz shp A O 96 704 M MI j mx el) (t : ∀ el ∈ es, ElOk l Z hz shp A O 96 704 M MI j mx el) : ∀ e ∈ el :: es, ElOk l Z hz shp A O 96 704 M MI j mx e := fun e he => (List.mem_cons.mp he).elim (fun q => q ▸ h) (t e)
set_option maxRecDepth 65536 in
set_option maxHeartbeats 40000000 in
theorem cok_0 (hw : ∀ d ∈ tables_1, d.before a0 Z = true) : ∀ el ∈ cd_0, ElOk l Z hz shp A O 96 704 mts mis 0 21 el := by
  unfold cd_0
  refine okc_cons (show Good l Z hz shp A O x code 21 ret 0 (sLoad 0 0 1) from g_iloadN at_0) ?_
  refine okc_cons (show Good l Z hz shp A O x code 21 ret 1 (sPush (0, .int 1073741823) 3) from g_ldc (v := 1073741823) at_1 (hw _ (List.mem_of_getElem? (i := 0) rfl))) ?_
  refine okc_cons (show Good l Z hz shp A O x code 21 ret 3 (sBin 0 0 0 (jI (Term.op2 .iand)) 4) from g_iand at_3) ?_
  refine okc_cons (show Good l Z hz shp A O x code 21 ret 4 (sStore 0 5 6) from g_istore at_4) ?_
  refine okc_cons (show Good l Z hz shp A O x code 21 ret 6 (sLoad 0 1 7) from g_iloadN at_6) ?_
  refine okc_cons (show Good l Z hz shp A O x code 21 ret 7 (sPush (0, .int 1073741823) 9) from g_ldc (v := 1073741823) at_7 (hw _ (List.mem_of_getElem? (i := 0) rfl))) ?_
  refine okc_cons (show Good l Z hz shp A O x code 21 ret 9 (sBin 0 0 0 (jI (Term.op2 .iand)) 10) from g_iand at_9) ?_
  refine okc_cons (show Good l Z hz shp A O x code 21 ret 10 (sStore 0 6 12) from g_istore at_10) ?_
  refine okc_cons (show Good l Z hz shp A O x code 21 ret 12 (sLoad 0 2 13) from g_iloadN at_12) ?_
  refine okc_cons (show Good l Z hz shp A O x code 21 ret 13 (sPush (0, .int 1) 14) from g_iconst at_13 rfl) ?_
  refine okc_cons (show Good l Z hz shp A O x code 21 ret 14 (sBin 0 0 0 (jI (Term.op2 .iand)) 15) from g_iand at_14) ?_
  refine okc_cons (show Good l Z hz shp A O x code 21 ret 15 (sIf .eq 22 18) from g_if at_15 (by decide) (by decide)) ?_
  refine okc_cons (show Good l Z hz shp A O x code 21 ret 18 (sPush (0, .int 1) 19) from g_iconst at_18 rfl) ?_
  refine okc_cons (show Good l Z hz shp A O x code 21 ret 19 (sGoto 23) from g_goto at_19 (by decide) (by decide)) ?_
  refine okc_cons (show Good l Z hz shp A O x code 21 ret 22 (sPush (0, .int 0) 23) from g_iconst at_22 rfl) ?_
  refine okc_cons (show Good l Z hz shp A O x code 21 ret 23 (sStore 0 7 25) from g_istore at_23) ?_
  refine okc_cons (show Good l Z hz shp A O x code 21 ret 25 (sLoad 0 2 26) from g_iloadN at_25) ?_
  refine okc_cons (show Good l Z hz shp A O x code 21 ret 26 (sPush (0, .int 2) 27) from g_iconst at_26 rfl) ?_
  refine okc_cons (show Good l Z hz shp A O x code 21 ret 27 (sBin 0 0 0 (jI (Term.op2 .iand)) 28) from g_iand at_27) ?_
  refine okc_cons (show Good l Z hz shp A O x code 21 ret 28 (sIf .eq 35 31) from g_if at_28 (by decide) (by decide)) ?_
  refine okc_cons (show Good l Z hz shp A O x code 21 ret 31 (sPush (0, .int 1) 32) from g_iconst at_31 rfl) ?_
  refine okc_cons (show Good l Z hz shp A O x code 21 ret 32 (sGoto 36) from g_goto at_32 (by decide) (by decide)) ?_
  refine okc_cons (show Good l Z hz shp A O x code 21 ret 35 (sPush (0, .int 0) 36) from g_iconst at_35 rfl) ?_
  refine okc_cons (show Good l Z hz shp A O x code 21 ret 36 (sStore 0 8 38) from g_istore at_36) ?_
  refine okc_cons (show Good l Z hz shp A O x code 21 ret 38 (sNew 0 5 ds_0 41) from g_new (sid := 0) at_38 rfl (sok_0 hw) (by decide) rfl (hw _ (List.mem_of_getElem? (i := 1) rfl)) (hw _ (List.mem_of_getElem? (i := 3) rfl))) ?_
  refine okc_cons (show Good l Z hz shp A O x code 21 ret 41 (sDup 42) from g_dup at_41) ?_
  refine okc_cons (show Good l Z hz shp A O x code 21 ret 42 (sPush (0, .int 3) 43) from g_iconst at_42 rfl) ?_
  refine okc_cons (fun m hm => by
    obtain rfl : m = (2, cd_1) := (Option.some.inj hm).symm
    exact (show CallGood l Z hz shp A O x code 21 ret (⟨"org/distinguo/graph/MinimumCostFlow$Network", "<init>", "(I)V"⟩ : MethodName) prog_28_method_1_code 2 none 43 2 46 (ckObj 0) from c_init (a0 := a0) (sid := 0) (hd := at_43) (hpl := pl_1) (hdesc := pd_1) (hna := rfl) (hy := by decide) (w1 := (hw _ (List.mem_of_getElem? (i := 4) rfl))) (w2 := (hw _ (List.mem_of_getElem? (i := 5) rfl))) (w3 := (hw _ (List.mem_of_getElem? (i := 3) rfl))) (w4 := (hw _ (List.mem_of_getElem? (i := 6) rfl))) (hn := rfl))) ?_
  refine okc_cons (show Good l Z hz shp A O x code 21 ret 46 (sStore 2 9 48) from g_astore at_46) ?_
  refine okc_cons (show Good l Z hz shp A O x code 21 ret 48 (sLoad 2 9 50) from g_aload at_48) ?_
  refine okc_cons (show Good l Z hz shp A O x code 21 ret 50 (sPush (0, .int 1) 51) from g_iconst at_50 rfl) ?_
  refine okc_cons (show Good l Z hz shp A O x code 21 ret 51 (sPush (0, .int 0) 52) from g_iconst at_51 rfl) ?_
  refine okc_cons (show Good l Z hz shp A O x code 21 ret 52 (sLoad 0 5 54) from g_iload at_52) ?_
  refine okc_cons (show Good l Z hz shp A O x code 21 ret 54 (sLoad 0 7 56) from g_iload at_54) ?_
  refine okc_cons (show Good l Z hz shp A O x code 21 ret 56 (sIf .eq 63 59) from g_if at_56 (by decide) (by decide)) ?_
  refine okc_cons (show Good l Z hz shp A O x code 21 ret 59 (sPush (0, .int 1) 60) from g_iconst at_59 rfl) ?_
  refine okc_cons (show Good l Z hz shp A O x code 21 ret 60 (sGoto 64) from g_goto at_60 (by decide) (by decide)) ?_
  refine okc_cons (show Good l Z hz shp A O x code 21 ret 63 (sPush (0, .int 0) 64) from g_iconst at_63 rfl) ?_
  refine okc_cons (fun m hm => by
    obtain rfl : m = (5, cd_4) := (Option.some.inj hm).symm
    exact (show CallGood l Z hz shp A O x code 21 ret (⟨"org/distinguo/graph/MinimumCostFlow$Network", "arc", "(IIII)I"⟩ : MethodName) prog_28_method_2_code 5 (some .int) 64 5 67 (ckObj 0) from c_virtual (a0 := a0) (sid := 0) (hd := at_64) (hpl := pl_4) (hdesc := pd_4) (hna := rfl) (hy := by decide) (w1 := (hw _ (List.mem_of_getElem? (i := 30) rfl))) (w2 := (hw _ (List.mem_of_getElem? (i := 32) rfl))) (w3 := (hw _ (List.mem_of_getElem? (i := 3) rfl))) (w4 := (hw _ (List.mem_of_getElem? (i := 34) rfl))) (hs := rfl) (w5 := (hw _ (List.mem_of_getElem? (i := 31) rfl))) (w6 := (hw _ (List.mem_of_getElem? (i := 33) rfl))))) ?_
  refine okc_cons (show Good l Z hz shp A O x code 21 ret 67 (sPop 68) from g_pop at_67) ?_
  refine okc_cons (show Good l Z hz shp A O x code 21 ret 68 (sLoad 2 9 70) from g_aload at_68) ?_
  refine okc_cons (show Good l Z hz shp A O x code 21 ret 70 (sPush (0, .int 2) 71) from g_iconst at_70 rfl) ?_
  refine okc_cons (show Good l Z hz shp A O x code 21 ret 71 (sPush (0, .int 1) 72) from g_iconst at_71 rfl) ?_
  refine okc_cons (show Good l Z hz shp A O x code 21 ret 72 (sLoad 0 6 74) from g_iload at_72) ?_
  refine okc_cons (show Good l Z hz shp A O x code 21 ret 74 (sLoad 0 8 76) from g_iload at_74) ?_
  refine okc_cons (show Good l Z hz shp A O x code 21 ret 76 (sIf .eq 83 79) from g_if at_76 (by decide) (by decide)) ?_
  refine okc_cons (show Good l Z hz shp A O x code 21 ret 79 (sPush (0, .int 1) 80) from g_iconst at_79 rfl) ?_
  refine okc_cons (show Good l Z hz shp A O x code 21 ret 80 (sGoto 84) from g_goto at_80 (by decide) (by decide)) ?_
  refine okc_cons (show Good l Z hz shp A O x code 21 ret 83 (sPush (0, .int 0) 84) from g_iconst at_83 rfl) ?_
  refine okc_cons (fun m hm => by
    obtain rfl : m = (5, cd_4) := (Option.some.inj hm).symm
    exact (show CallGood l Z hz shp A O x code 21 ret (⟨"org/distinguo/graph/MinimumCostFlow$Network", "arc", "(IIII)I"⟩ : MethodName) prog_28_method_2_code 5 (some .int) 84 5 87 (ckObj 0) from c_virtual (a0 := a0) (sid := 0) (hd := at_84) (hpl := pl_4) (hdesc := pd_4) (hna := rfl) (hy := by decide) (w1 := (hw _ (List.mem_of_getElem? (i := 30) rfl))) (w2 := (hw _ (List.mem_of_getElem? (i := 32) rfl))) (w3 := (hw _ (List.mem_of_getElem? (i := 3) rfl))) (w4 := (hw _ (List.mem_of_getElem? (i := 34) rfl))) (hs := rfl) (w5 := (hw _ (List.mem_of_getElem? (i := 31) rfl))) (w6 := (hw _ (List.mem_of_getElem? (i := 33) rfl))))) ?_
  refine okc_cons (show Good l Z hz shp A O x code 21 ret 87 (sPop 88) from g_pop at_87) ?_
  refine okc_cons (show Good l Z hz shp A O x code 21 ret 88 (sNew 2 33 ds_2 91) from g_new (sid := 2) at_88 rfl (sok_2 hw) (by decide) rfl (hw _ (List.mem_of_getElem? (i := 51) rfl)) (hw _ (List.mem_of_getElem? (i := 53) rfl))) ?_
  refine okc_cons (show Good l Z hz shp A O x code 21 ret 91 (sDup 92) from g_dup at_91) ?_
  refine okc_cons (show Good l Z hz shp A O x code 21 ret 92 (sLoad 2 9 94) from g_aload at_92) ?_
  refine okc_cons (fun m hm => by
    obtain rfl : m = (12, cd_8) := (Option.some.inj hm).symm
    exact (show CallGood l Z hz shp A O x code 21 ret (⟨"org/distinguo/graph/MinimumCostFlow", "<init>", "(Lorg/distinguo/graph/MinimumCostFlow$Network;)V"⟩ : MethodName) prog_26_method_1_code 12 none 94 2 97 (ckObj 2) from c_init (a0 := a0) (sid := 2) (hd := at_94) (hpl := pl_8) (hdesc := pd_8) (hna := rfl) (hy := by decide) (w1 := (hw _ (List.mem_of_getElem? (i := 54) rfl))) (w2 := (hw _ (List.mem_of_getElem? (i := 55) rfl))) (w3 := (hw _ (List.mem_of_getElem? (i := 53) rfl))) (w4 := (hw _ (List.mem_of_getElem? (i := 56) rfl))) (hn := rfl))) ?_
  refine okc_cons (show Good l Z hz shp A O x code 21 ret 97 (sStore 2 10 99) from g_astore at_97) ?_
  refine okc_cons (show Good l Z hz shp A O x code 21 ret 99 (sLoad 2 10 101) from g_aload at_99) ?_
  refine okc_cons (show Good l Z hz shp A O x code 21 ret 101 (sPush (0, .int 0) 102) from g_iconst at_101 rfl) ?_
  refine okc_cons (fun m hm => by
    obtain rfl : m = (2, cd_13) := (Option.some.inj hm).symm
    exact (show CallGood l Z hz shp A O x code 21 ret (⟨"org/distinguo/graph/MinimumCostFlow", "startBack", "(I)V"⟩ : MethodName) prog_26_method_10_code 2 none 102 2 105 (ckObj 2) from c_virtual (a0 := a0) (sid := 2) (hd := at_102) (hpl := pl_13) (hdesc := pd_13) (hna := rfl) (hy := by decide) (w1 := (hw _ (List.mem_of_getElem? (i := 146) rfl))) (w2 := (hw _ (List.mem_of_getElem? (i := 148) rfl))) (w3 := (hw _ (List.mem_of_getElem? (i := 53) rfl))) (w4 := (hw _ (List.mem_of_getElem? (i := 150) rfl))) (hs := rfl) (w5 := (hw _ (List.mem_of_getElem? (i := 147) rfl))) (w6 := (hw _ (List.mem_of_getElem? (i := 149) rfl))))) ?_
  refine okc_cons (show Good l Z hz shp A O x code 21 ret 105 (sLoad 2 10 107) from g_aload at_105) ?_
  refine okc_cons (show Good l Z hz shp A O x code 21 ret 107 (sLoad 1 3 108) from g_lloadN at_107) ?_
  refine okc_cons (fun m hm => by
    obtain rfl : m = (8, cd_16) := (Option.some.inj hm).symm
    exact (show CallGood l Z hz shp A O x code 21 ret (⟨"org/distinguo/graph/MinimumCostFlow", "nextBack", "(J)I"⟩ : MethodName) prog_26_method_11_code 8 (some .int) 108 2 111 (ckObj 2) from c_virtual (a0 := a0) (sid := 2) (hd := at_108) (hpl := pl_16) (hdesc := pd_16) (hna := rfl) (hy := by decide) (w1 := (hw _ (List.mem_of_getElem? (i := 173) rfl))) (w2 := (hw _ (List.mem_of_getElem? (i := 175) rfl))) (w3 := (hw _ (List.mem_of_getElem? (i := 53) rfl))) (w4 := (hw _ (List.mem_of_getElem? (i := 177) rfl))) (hs := rfl) (w5 := (hw _ (List.mem_of_getElem? (i := 174) rfl))) (w6 := (hw _ (List.mem_of_getElem? (i := 176) rfl))))) ?_
  refine okc_cons (show Good l Z hz shp A O x code 21 ret 111 (sPop 112) from g_pop at_111) ?_
  refine okc_cons (show Good l Z hz shp A O x code 21 ret 112 (sLoad 2 10 114) from g_aload at_112) ?_
  refine okc_cons (show Good l Z hz shp A O x code 21 ret 114 (sLoad 1 3 115) from g_lloadN at_114) ?_
  refine okc_cons (fun m hm => by
    obtain rfl : m = (8, cd_16) := (Option.some.inj hm).symm
    exact (show CallGood l Z hz shp A O x code 21 ret (⟨"org/distinguo/graph/MinimumCostFlow", "nextBack", "(J)I"⟩ : MethodName) prog_26_method_11_code 8 (some .int) 115 2 118 (ckObj 2) from c_virtual (a0 := a0) (sid := 2) (hd := at_115) (hpl := pl_16) (hdesc := pd_16) (hna := rfl) (hy := by decide) (w1 := (hw _ (List.mem_of_getElem? (i := 173) rfl))) (w2 := (hw _ (List.mem_of_getElem? (i := 175) rfl))) (w3 := (hw _ (List.mem_of_getElem? (i := 53) rfl))) (w4 := (hw _ (List.mem_of_getElem? (i := 177) rfl))) (hs := rfl) (w5 := (hw _ (List.mem_of_getElem? (i := 174) rfl))) (w6 := (hw _ (List.mem_of_getElem? (i := 176) rfl))))) ?_
  refine okc_cons (show Good l Z hz shp A O x code 21 ret 118 (sPop 119) from g_pop at_118) ?_
  refine okc_cons (show Good l Z hz shp A O x code 21 ret 119 (sLoad 2 10 121) from g_aload at_119) ?_
  refine okc_cons (show Good l Z hz shp A O x code 21 ret 121 (sLoad 1 3 122) from g_lloadN at_121) ?_
  refine okc_cons (fun m hm => by
    obtain rfl : m = (8, cd_16) := (Option.some.inj hm).symm
    exact (show CallGood l Z hz shp A O x code 21 ret (⟨"org/distinguo/graph/MinimumCostFlow", "nextBack", "(J)I"⟩ : MethodName) prog_26_method_11_code 8 (some .int) 122 2 125 (ckObj 2) from c_virtual (a0 := a0) (sid := 2) (hd := at_122) (hpl := pl_16) (hdesc := pd_16) (hna := rfl) (hy := by decide) (w1 := (hw _ (List.mem_of_getElem? (i := 173) rfl))) (w2 := (hw _ (List.mem_of_getElem? (i := 175) rfl))) (w3 := (hw _ (List.mem_of_getElem? (i := 53) rfl))) (w4 := (hw _ (List.mem_of_getElem? (i := 177) rfl))) (hs := rfl) (w5 := (hw _ (List.mem_of_getElem? (i := 174) rfl))) (w6 := (hw _ (List.mem_of_getElem? (i := 176) rfl))))) ?_
  refine okc_cons (show Good l Z hz shp A O x code 21 ret 125 (sPop 126) from g_pop at_125) ?_
  refine okc_cons (show Good l Z hz shp A O x code 21 ret 126 (sLoad 2 10 128) from g_aload at_126) ?_
  refine okc_cons (show Good l Z hz shp A O x code 21 ret 128 (sLoad 1 3 129) from g_lloadN at_128) ?_
  refine okc_cons (fun m hm => by
    obtain rfl : m = (5, cd_18) := (Option.some.inj hm).symm
    exact (show CallGood l Z hz shp A O x code 21 ret (⟨"org/distinguo/graph/MinimumCostFlow", "lowerPotentials", "(J)V"⟩ : MethodName) prog_26_method_15_code 5 none 129 2 132 (ckObj 2) from c_virtual (a0 := a0) (sid := 2) (hd := at_129) (hpl := pl_18) (hdesc := pd_18) (hna := rfl) (hy := by decide) (w1 := (hw _ (List.mem_of_getElem? (i := 182) rfl))) (w2 := (hw _ (List.mem_of_getElem? (i := 184) rfl))) (w3 := (hw _ (List.mem_of_getElem? (i := 53) rfl))) (w4 := (hw _ (List.mem_of_getElem? (i := 186) rfl))) (hs := rfl) (w5 := (hw _ (List.mem_of_getElem? (i := 183) rfl))) (w6 := (hw _ (List.mem_of_getElem? (i := 185) rfl))))) ?_
  refine okc_cons (show Good l Z hz shp A O x code 21 ret 132 (sLoad 2 10 134) from g_aload at_132) ?_
  refine okc_cons (show Good l Z hz shp A O x code 21 ret 134 (sPush (0, .int 0) 135) from g_iconst at_134 rfl) ?_
  refine okc_cons (fun m hm => by
    obtain rfl : m = (2, cd_19) := (Option.some.inj hm).symm
    exact (show CallGood l Z hz shp A O x code 21 ret (⟨"org/distinguo/graph/MinimumCostFlow", "potential", "(I)J"⟩ : MethodName) prog_26_method_9_code 2 (some .long) 135 2 138 (ckObj 2) from c_virtual (a0 := a0) (sid := 2) (hd := at_135) (hpl := pl_19) (hdesc := pd_19) (hna := rfl) (hy := by decide) (w1 := (hw _ (List.mem_of_getElem? (i := 189) rfl))) (w2 := (hw _ (List.mem_of_getElem? (i := 191) rfl))) (w3 := (hw _ (List.mem_of_getElem? (i := 53) rfl))) (w4 := (hw _ (List.mem_of_getElem? (i := 193) rfl))) (hs := rfl) (w5 := (hw _ (List.mem_of_getElem? (i := 190) rfl))) (w6 := (hw _ (List.mem_of_getElem? (i := 192) rfl))))) ?_
  refine okc_cons (show Good l Z hz shp A O x code 21 ret 138 (sStore 1 11 140) from g_lstore at_138) ?_
  refine okc_cons (show Good l Z hz shp A O x code 21 ret 140 (sLoad 2 10 142) from g_aload at_140) ?_
  refine okc_cons (show Good l Z hz shp A O x code 21 ret 142 (sPush (0, .int 1) 143) from g_iconst at_142 rfl) ?_
  refine okc_cons (fun m hm => by
    obtain rfl : m = (2, cd_19) := (Option.some.inj hm).symm
    exact (show CallGood l Z hz shp A O x code 21 ret (⟨"org/distinguo/graph/MinimumCostFlow", "potential", "(I)J"⟩ : MethodName) prog_26_method_9_code 2 (some .long) 143 2 146 (ckObj 2) from c_virtual (a0 := a0) (sid := 2) (hd := at_143) (hpl := pl_19) (hdesc := pd_19) (hna := rfl) (hy := by decide) (w1 := (hw _ (List.mem_of_getElem? (i := 189) rfl))) (w2 := (hw _ (List.mem_of_getElem? (i := 191) rfl))) (w3 := (hw _ (List.mem_of_getElem? (i := 53) rfl))) (w4 := (hw _ (List.mem_of_getElem? (i := 193) rfl))) (hs := rfl) (w5 := (hw _ (List.mem_of_getElem? (i := 190) rfl))) (w6 := (hw _ (List.mem_of_getElem? (i := 192) rfl))))) ?_
  refine okc_cons (show Good l Z hz shp A O x code 21 ret 146 (sStore 1 13 148) from g_lstore at_146) ?_
  refine okc_cons (show Good l Z hz shp A O x code 21 ret 148 (sLoad 2 10 150) from g_aload at_148) ?_
  refine okc_cons (show Good l Z hz shp A O x code 21 ret 150 (sPush (0, .int 2) 151) from g_iconst at_150 rfl) ?_
  refine okc_cons (fun m hm => by
    obtain rfl : m = (2, cd_19) := (Option.some.inj hm).symm
    exact (show CallGood l Z hz shp A O x code 21 ret (⟨"org/distinguo/graph/MinimumCostFlow", "potential", "(I)J"⟩ : MethodName) prog_26_method_9_code 2 (some .long) 151 2 154 (ckObj 2) from c_virtual (a0 := a0) (sid := 2) (hd := at_151) (hpl := pl_19) (hdesc := pd_19) (hna := rfl) (hy := by decide) (w1 := (hw _ (List.mem_of_getElem? (i := 189) rfl))) (w2 := (hw _ (List.mem_of_getElem? (i := 191) rfl))) (w3 := (hw _ (List.mem_of_getElem? (i := 53) rfl))) (w4 := (hw _ (List.mem_of_getElem? (i := 193) rfl))) (hs := rfl) (w5 := (hw _ (List.mem_of_getElem? (i := 190) rfl))) (w6 := (hw _ (List.mem_of_getElem? (i := 192) rfl))))) ?_
  refine okc_cons (show Good l Z hz shp A O x code 21 ret 154 (sStore 1 15 156) from g_lstore at_154) ?_
  refine okc_cons (show Good l Z hz shp A O x code 21 ret 156 (sLoad 0 5 158) from g_iload at_156) ?_
  refine okc_cons (show Good l Z hz shp A O x code 21 ret 158 (sUn 0 1 (uL (Term.op1 .i2l)) 159) from g_i2l at_158) ?_
  refine okc_cons (show Good l Z hz shp A O x code 21 ret 159 (sStore 1 17 161) from g_lstore at_159) ?_
  refine okc_cons (show Good l Z hz shp A O x code 21 ret 161 (sLoad 0 5 163) from g_iload at_161) ?_
  refine okc_cons (show Good l Z hz shp A O x code 21 ret 163 (sUn 0 1 (uL (Term.op1 .i2l)) 164) from g_i2l at_163) ?_
  refine okc_cons (show Good l Z hz shp A O x code 21 ret 164 (sLoad 0 6 166) from g_iload at_164) ?_
  refine okc_cons (show Good l Z hz shp A O x code 21 ret 166 (sUn 0 1 (uL (Term.op1 .i2l)) 167) from g_i2l at_166) ?_
  refine okc_cons (show Good l Z hz shp A O x code 21 ret 167 (sBin 1 1 1 xAddL 168) from gx_ladd xAddL_ok at_167) ?_
  refine okc_cons (show Good l Z hz shp A O x code 21 ret 168 (sStore 1 19 170) from g_lstore at_168) ?_
  refine okc_cons (show Good l Z hz shp A O x code 21 ret 170 (sLoad 1 11 172) from g_lload at_170) ?_
  refine okc_cons (show Good l Z hz shp A O x code 21 ret 172 (sPush (0, .int 1) 173) from g_iconst at_172 rfl) ?_
  refine okc_cons (show Good l Z hz shp A O x code 21 ret 173 (sPush (1, .long 0) 174) from g_lconst at_173 rfl) ?_
  refine okc_cons (show Good l Z hz shp A O x code 21 ret 174 (sLoad 1 3 175) from g_lloadN at_174) ?_
  refine okc_cons (fun m hm => by
    obtain rfl : m = (5, cd_20) := (Option.some.inj hm).symm
    exact (show CallGood l Z hz shp A O x code 21 ret (⟨"org/distinguo/graph/MinimumCostFlowLowerPotentialsPinLaw", "expected", "(ZJJ)J"⟩ : MethodName) method_2_code 5 (some .long) 175 3 178 (ckAny) from c_static (a0 := a0) (hd := at_175) (hpl := pl_20) (hdesc := pd_20) (hna := rfl) (hy := by decide) (w1 := (hw _ (List.mem_of_getElem? (i := 194) rfl))) (w2 := (hw _ (List.mem_of_getElem? (i := 195) rfl))) (w3 := (hw _ (List.mem_of_getElem? (i := 196) rfl))) (w4 := (hw _ (List.mem_of_getElem? (i := 197) rfl))))) ?_
  refine okc_cons (show Good l Z hz shp A O x code 21 ret 178 (sBin 1 1 0 (jI (Term.op2 .lcmp)) 179) from g_lcmp at_178) ?_
  refine okc_cons (show Good l Z hz shp A O x code 21 ret 179 (sIf .ne 227 182) from g_if at_179 (by decide) (by decide)) ?_
  refine okc_cons (show Good l Z hz shp A O x code 21 ret 182 (sLoad 1 13 184) from g_lload at_182) ?_
  refine okc_cons (show Good l Z hz shp A O x code 21 ret 184 (sLoad 0 7 186) from g_iload at_184) ?_
  refine okc_cons (show Good l Z hz shp A O x code 21 ret 186 (sLoad 1 17 188) from g_lload at_186) ?_
  refine okc_cons (show Good l Z hz shp A O x code 21 ret 188 (sLoad 1 3 189) from g_lloadN at_188) ?_
  refine okc_cons (fun m hm => by
    obtain rfl : m = (5, cd_20) := (Option.some.inj hm).symm
    exact (show CallGood l Z hz shp A O x code 21 ret (⟨"org/distinguo/graph/MinimumCostFlowLowerPotentialsPinLaw", "expected", "(ZJJ)J"⟩ : MethodName) method_2_code 5 (some .long) 189 3 192 (ckAny) from c_static (a0 := a0) (hd := at_189) (hpl := pl_20) (hdesc := pd_20) (hna := rfl) (hy := by decide) (w1 := (hw _ (List.mem_of_getElem? (i := 194) rfl))) (w2 := (hw _ (List.mem_of_getElem? (i := 195) rfl))) (w3 := (hw _ (List.mem_of_getElem? (i := 196) rfl))) (w4 := (hw _ (List.mem_of_getElem? (i := 197) rfl))))) ?_
  refine okc_cons (show Good l Z hz shp A O x code 21 ret 192 (sBin 1 1 0 (jI (Term.op2 .lcmp)) 193) from g_lcmp at_192) ?_
  refine okc_cons (show Good l Z hz shp A O x code 21 ret 193 (sIf .ne 227 196) from g_if at_193 (by decide) (by decide)) ?_
  refine okc_cons (show Good l Z hz shp A O x code 21 ret 196 (sLoad 1 15 198) from g_lload at_196) ?_
  refine okc_cons (show Good l Z hz shp A O x code 21 ret 198 (sLoad 0 7 200) from g_iload at_198) ?_
  refine okc_cons (show Good l Z hz shp A O x code 21 ret 200 (sIf .eq 212 203) from g_if at_200 (by decide) (by decide)) ?_
  refine okc_cons (show Good l Z hz shp A O x code 21 ret 203 (sLoad 0 8 205) from g_iload at_203) ?_
  refine okc_cons (show Good l Z hz shp A O x code 21 ret 205 (sIf .eq 212 208) from g_if at_205 (by decide) (by decide)) ?_
  refine okc_cons (show Good l Z hz shp A O x code 21 ret 208 (sPush (0, .int 1) 209) from g_iconst at_208 rfl) ?_
  refine okc_cons (show Good l Z hz shp A O x code 21 ret 209 (sGoto 213) from g_goto at_209 (by decide) (by decide)) ?_
  refine okc_cons (show Good l Z hz shp A O x code 21 ret 212 (sPush (0, .int 0) 213) from g_iconst at_212 rfl) ?_
  refine okc_cons (show Good l Z hz shp A O x code 21 ret 213 (sLoad 1 19 215) from g_lload at_213) ?_
  refine okc_cons (show Good l Z hz shp A O x code 21 ret 215 (sLoad 1 3 216) from g_lloadN at_215) ?_
  refine okc_cons (fun m hm => by
    obtain rfl : m = (5, cd_20) := (Option.some.inj hm).symm
    exact (show CallGood l Z hz shp A O x code 21 ret (⟨"org/distinguo/graph/MinimumCostFlowLowerPotentialsPinLaw", "expected", "(ZJJ)J"⟩ : MethodName) method_2_code 5 (some .long) 216 3 219 (ckAny) from c_static (a0 := a0) (hd := at_216) (hpl := pl_20) (hdesc := pd_20) (hna := rfl) (hy := by decide) (w1 := (hw _ (List.mem_of_getElem? (i := 194) rfl))) (w2 := (hw _ (List.mem_of_getElem? (i := 195) rfl))) (w3 := (hw _ (List.mem_of_getElem? (i := 196) rfl))) (w4 := (hw _ (List.mem_of_getElem? (i := 197) rfl))))) ?_
  refine okc_cons (show Good l Z hz shp A O x code 21 ret 219 (sBin 1 1 0 (jI (Term.op2 .lcmp)) 220) from g_lcmp at_219) ?_
  refine okc_cons (show Good l Z hz shp A O x code 21 ret 220 (sIf .ne 227 223) from g_if at_220 (by decide) (by decide)) ?_
  refine okc_cons (show Good l Z hz shp A O x code 21 ret 223 (sPush (0, .int 1) 224) from g_iconst at_223 rfl) ?_
  refine okc_cons (show Good l Z hz shp A O x code 21 ret 224 (sGoto 228) from g_goto at_224 (by decide) (by decide)) ?_
  refine okc_cons (show Good l Z hz shp A O x code 21 ret 227 (sPush (0, .int 0) 228) from g_iconst at_227 rfl) ?_
  refine okc_cons (show RetGood l Z hz shp A O x code 21 ret 228 (rVal .boolean) from g_ret at_228 (by decide) (by simp)) ?_
  exact okc_nil
set_option maxRecDepth 65536 in
set_option maxHeartbeats 40000000 in
theorem cok_1 (hw : ∀ d ∈ tables_1, d.before a0 Z = true) : ∀ el ∈ cd_1, ElOk l Z hz shp A O 96 704 mts mis 1 2 el := by
  unfold cd_1
  refine okc_cons (show Good l Z hz shp A O (⟨"org/distinguo/graph/MinimumCostFlow$Network", "<init>", "(I)V"⟩ : MethodName) prog_28_method_1_code 2 none 0 (sLoad 2 0 1) from g_aloadN d1_0) ?_
  refine okc_cons (show GoodN l Z hz shp A O (⟨"org/distinguo/graph/MinimumCostFlow$Network", "<init>", "(I)V"⟩ : MethodName) prog_28_method_1_code 2 none 1 (sInitO 2 4) from g_initO d1_1 (hw _ (List.mem_of_getElem? (i := 7) rfl)) (hw _ (List.mem_of_getElem? (i := 8) rfl)) (hw _ (List.mem_of_getElem? (i := 9) rfl))) ?_
  refine okc_cons (show Good l Z hz shp A O (⟨"org/distinguo/graph/MinimumCostFlow$Network", "<init>", "(I)V"⟩ : MethodName) prog_28_method_1_code 2 none 4 (sLoad 2 0 5) from g_aloadN d1_4) ?_
  refine okc_cons (show Good l Z hz shp A O (⟨"org/distinguo/graph/MinimumCostFlow$Network", "<init>", "(I)V"⟩ : MethodName) prog_28_method_1_code 2 none 5 (sNew 1 2 ds_1 8) from g_new (sid := 1) d1_5 rfl (sok_1 hw) (by decide) rfl (hw _ (List.mem_of_getElem? (i := 10) rfl)) (hw _ (List.mem_of_getElem? (i := 12) rfl))) ?_
  refine okc_cons (show Good l Z hz shp A O (⟨"org/distinguo/graph/MinimumCostFlow$Network", "<init>", "(I)V"⟩ : MethodName) prog_28_method_1_code 2 none 8 (sDup 9) from g_dup d1_8) ?_
  refine okc_cons (fun m hm => by
    obtain rfl : m = (1, cd_3) := (Option.some.inj hm).symm
    exact (show CallGood l Z hz shp A O (⟨"org/distinguo/graph/MinimumCostFlow$Network", "<init>", "(I)V"⟩ : MethodName) prog_28_method_1_code 2 none (⟨"org/distinguo/model/IntList", "<init>", "()V"⟩ : MethodName) prog_99_method_1_code 1 none 9 1 12 (ckObj 1) from c_init (a0 := a0) (sid := 1) (hd := d1_9) (hpl := pl_3) (hdesc := pd_3) (hna := rfl) (hy := by decide) (w1 := (hw _ (List.mem_of_getElem? (i := 13) rfl))) (w2 := (hw _ (List.mem_of_getElem? (i := 14) rfl))) (w3 := (hw _ (List.mem_of_getElem? (i := 12) rfl))) (w4 := (hw _ (List.mem_of_getElem? (i := 15) rfl))) (hn := rfl))) ?_
  refine okc_cons (show Good l Z hz shp A O (⟨"org/distinguo/graph/MinimumCostFlow$Network", "<init>", "(I)V"⟩ : MethodName) prog_28_method_1_code 2 none 12 (sPutF 0 0 (.object "org/distinguo/model/IntList") 15) from g_putfield (sid := 0) (i := 0) (R0 := "org/distinguo/graph/MinimumCostFlow$Network") d1_12 rfl (sok_0 hw) rfl (by decide) (hw _ (List.mem_of_getElem? (i := 20) rfl)) Via.refl (Or.inr ⟨(hw _ (List.mem_of_getElem? (i := 21) rfl)), rfl, rfl⟩)) ?_
  refine okc_cons (show Good l Z hz shp A O (⟨"org/distinguo/graph/MinimumCostFlow$Network", "<init>", "(I)V"⟩ : MethodName) prog_28_method_1_code 2 none 15 (sLoad 2 0 16) from g_aloadN d1_15) ?_
  refine okc_cons (show Good l Z hz shp A O (⟨"org/distinguo/graph/MinimumCostFlow$Network", "<init>", "(I)V"⟩ : MethodName) prog_28_method_1_code 2 none 16 (sNew 1 2 ds_1 19) from g_new (sid := 1) d1_16 rfl (sok_1 hw) (by decide) rfl (hw _ (List.mem_of_getElem? (i := 10) rfl)) (hw _ (List.mem_of_getElem? (i := 12) rfl))) ?_
  refine okc_cons (show Good l Z hz shp A O (⟨"org/distinguo/graph/MinimumCostFlow$Network", "<init>", "(I)V"⟩ : MethodName) prog_28_method_1_code 2 none 19 (sDup 20) from g_dup d1_19) ?_
  refine okc_cons (fun m hm => by
    obtain rfl : m = (1, cd_3) := (Option.some.inj hm).symm
    exact (show CallGood l Z hz shp A O (⟨"org/distinguo/graph/MinimumCostFlow$Network", "<init>", "(I)V"⟩ : MethodName) prog_28_method_1_code 2 none (⟨"org/distinguo/model/IntList", "<init>", "()V"⟩ : MethodName) prog_99_method_1_code 1 none 20 1 23 (ckObj 1) from c_init (a0 := a0) (sid := 1) (hd := d1_20) (hpl := pl_3) (hdesc := pd_3) (hna := rfl) (hy := by decide) (w1 := (hw _ (List.mem_of_getElem? (i := 13) rfl))) (w2 := (hw _ (List.mem_of_getElem? (i := 14) rfl))) (w3 := (hw _ (List.mem_of_getElem? (i := 12) rfl))) (w4 := (hw _ (List.mem_of_getElem? (i := 15) rfl))) (hn := rfl))) ?_
  refine okc_cons (show Good l Z hz shp A O (⟨"org/distinguo/graph/MinimumCostFlow$Network", "<init>", "(I)V"⟩ : MethodName) prog_28_method_1_code 2 none 23 (sPutF 0 1 (.object "org/distinguo/model/IntList") 26) from g_putfield (sid := 0) (i := 1) (R0 := "org/distinguo/graph/MinimumCostFlow$Network") d1_23 rfl (sok_0 hw) rfl (by decide) (hw _ (List.mem_of_getElem? (i := 22) rfl)) Via.refl (Or.inr ⟨(hw _ (List.mem_of_getElem? (i := 23) rfl)), rfl, rfl⟩)) ?_
  refine okc_cons (show Good l Z hz shp A O (⟨"org/distinguo/graph/MinimumCostFlow$Network", "<init>", "(I)V"⟩ : MethodName) prog_28_method_1_code 2 none 26 (sLoad 2 0 27) from g_aloadN d1_26) ?_
  refine okc_cons (show Good l Z hz shp A O (⟨"org/distinguo/graph/MinimumCostFlow$Network", "<init>", "(I)V"⟩ : MethodName) prog_28_method_1_code 2 none 27 (sNew 1 2 ds_1 30) from g_new (sid := 1) d1_27 rfl (sok_1 hw) (by decide) rfl (hw _ (List.mem_of_getElem? (i := 10) rfl)) (hw _ (List.mem_of_getElem? (i := 12) rfl))) ?_
  refine okc_cons (show Good l Z hz shp A O (⟨"org/distinguo/graph/MinimumCostFlow$Network", "<init>", "(I)V"⟩ : MethodName) prog_28_method_1_code 2 none 30 (sDup 31) from g_dup d1_30) ?_
  refine okc_cons (fun m hm => by
    obtain rfl : m = (1, cd_3) := (Option.some.inj hm).symm
    exact (show CallGood l Z hz shp A O (⟨"org/distinguo/graph/MinimumCostFlow$Network", "<init>", "(I)V"⟩ : MethodName) prog_28_method_1_code 2 none (⟨"org/distinguo/model/IntList", "<init>", "()V"⟩ : MethodName) prog_99_method_1_code 1 none 31 1 34 (ckObj 1) from c_init (a0 := a0) (sid := 1) (hd := d1_31) (hpl := pl_3) (hdesc := pd_3) (hna := rfl) (hy := by decide) (w1 := (hw _ (List.mem_of_getElem? (i := 13) rfl))) (w2 := (hw _ (List.mem_of_getElem? (i := 14) rfl))) (w3 := (hw _ (List.mem_of_getElem? (i := 12) rfl))) (w4 := (hw _ (List.mem_of_getElem? (i := 15) rfl))) (hn := rfl))) ?_
  refine okc_cons (show Good l Z hz shp A O (⟨"org/distinguo/graph/MinimumCostFlow$Network", "<init>", "(I)V"⟩ : MethodName) prog_28_method_1_code 2 none 34 (sPutF 0 2 (.object "org/distinguo/model/IntList") 37) from g_putfield (sid := 0) (i := 2) (R0 := "org/distinguo/graph/MinimumCostFlow$Network") d1_34 rfl (sok_0 hw) rfl (by decide) (hw _ (List.mem_of_getElem? (i := 24) rfl)) Via.refl (Or.inr ⟨(hw _ (List.mem_of_getElem? (i := 25) rfl)), rfl, rfl⟩)) ?_
  refine okc_cons (show Good l Z hz shp A O (⟨"org/distinguo/graph/MinimumCostFlow$Network", "<init>", "(I)V"⟩ : MethodName) prog_28_method_1_code 2 none 37 (sLoad 2 0 38) from g_aloadN d1_37) ?_
  refine okc_cons (show Good l Z hz shp A O (⟨"org/distinguo/graph/MinimumCostFlow$Network", "<init>", "(I)V"⟩ : MethodName) prog_28_method_1_code 2 none 38 (sNew 1 2 ds_1 41) from g_new (sid := 1) d1_38 rfl (sok_1 hw) (by decide) rfl (hw _ (List.mem_of_getElem? (i := 10) rfl)) (hw _ (List.mem_of_getElem? (i := 12) rfl))) ?_
  refine okc_cons (show Good l Z hz shp A O (⟨"org/distinguo/graph/MinimumCostFlow$Network", "<init>", "(I)V"⟩ : MethodName) prog_28_method_1_code 2 none 41 (sDup 42) from g_dup d1_41) ?_
  refine okc_cons (fun m hm => by
    obtain rfl : m = (1, cd_3) := (Option.some.inj hm).symm
    exact (show CallGood l Z hz shp A O (⟨"org/distinguo/graph/MinimumCostFlow$Network", "<init>", "(I)V"⟩ : MethodName) prog_28_method_1_code 2 none (⟨"org/distinguo/model/IntList", "<init>", "()V"⟩ : MethodName) prog_99_method_1_code 1 none 42 1 45 (ckObj 1) from c_init (a0 := a0) (sid := 1) (hd := d1_42) (hpl := pl_3) (hdesc := pd_3) (hna := rfl) (hy := by decide) (w1 := (hw _ (List.mem_of_getElem? (i := 13) rfl))) (w2 := (hw _ (List.mem_of_getElem? (i := 14) rfl))) (w3 := (hw _ (List.mem_of_getElem? (i := 12) rfl))) (w4 := (hw _ (List.mem_of_getElem? (i := 15) rfl))) (hn := rfl))) ?_
  refine okc_cons (show Good l Z hz shp A O (⟨"org/distinguo/graph/MinimumCostFlow$Network", "<init>", "(I)V"⟩ : MethodName) prog_28_method_1_code 2 none 45 (sPutF 0 3 (.object "org/distinguo/model/IntList") 48) from g_putfield (sid := 0) (i := 3) (R0 := "org/distinguo/graph/MinimumCostFlow$Network") d1_45 rfl (sok_0 hw) rfl (by decide) (hw _ (List.mem_of_getElem? (i := 26) rfl)) Via.refl (Or.inr ⟨(hw _ (List.mem_of_getElem? (i := 27) rfl)), rfl, rfl⟩)) ?_
  refine okc_cons (show Good l Z hz shp A O (⟨"org/distinguo/graph/MinimumCostFlow$Network", "<init>", "(I)V"⟩ : MethodName) prog_28_method_1_code 2 none 48 (sLoad 2 0 49) from g_aloadN d1_48) ?_
  refine okc_cons (show Good l Z hz shp A O (⟨"org/distinguo/graph/MinimumCostFlow$Network", "<init>", "(I)V"⟩ : MethodName) prog_28_method_1_code 2 none 49 (sLoad 0 1 50) from g_iloadN d1_49) ?_
  refine okc_cons (show Good l Z hz shp A O (⟨"org/distinguo/graph/MinimumCostFlow$Network", "<init>", "(I)V"⟩ : MethodName) prog_28_method_1_code 2 none 50 (sPutF 0 4 .int 53) from g_putfield (sid := 0) (i := 4) (R0 := "org/distinguo/graph/MinimumCostFlow$Network") d1_50 rfl (sok_0 hw) rfl (by decide) (hw _ (List.mem_of_getElem? (i := 28) rfl)) Via.refl (Or.inr ⟨(hw _ (List.mem_of_getElem? (i := 29) rfl)), rfl, rfl⟩)) ?_
  refine okc_cons (show RetGood l Z hz shp A O (⟨"org/distinguo/graph/MinimumCostFlow$Network", "<init>", "(I)V"⟩ : MethodName) prog_28_method_1_code 2 none 53 (rVoid) from g_return d1_53) ?_
  exact okc_nil
set_option maxRecDepth 65536 in
set_option maxHeartbeats 40000000 in
theorem cok_3 (hw : ∀ d ∈ tables_1, d.before a0 Z = true) : ∀ el ∈ cd_3, ElOk l Z hz shp A O 96 704 mts mis 3 1 el := by
  unfold cd_3
  refine okc_cons (show Good l Z hz shp A O (⟨"org/distinguo/model/IntList", "<init>", "()V"⟩ : MethodName) prog_99_method_1_code 1 none 0 (sLoad 2 0 1) from g_aloadN d3_0) ?_
  refine okc_cons (show GoodN l Z hz shp A O (⟨"org/distinguo/model/IntList", "<init>", "()V"⟩ : MethodName) prog_99_method_1_code 1 none 1 (sInitO 1 4) from g_initO d3_1 (hw _ (List.mem_of_getElem? (i := 16) rfl)) (hw _ (List.mem_of_getElem? (i := 8) rfl)) (hw _ (List.mem_of_getElem? (i := 9) rfl))) ?_
  refine okc_cons (show Good l Z hz shp A O (⟨"org/distinguo/model/IntList", "<init>", "()V"⟩ : MethodName) prog_99_method_1_code 1 none 4 (sLoad 2 0 5) from g_aloadN d3_4) ?_
  refine okc_cons (show Good l Z hz shp A O (⟨"org/distinguo/model/IntList", "<init>", "()V"⟩ : MethodName) prog_99_method_1_code 1 none 5 (sPush (0, .int 16) 7) from g_bipush d3_5 rfl) ?_
  refine okc_cons (show Good l Z hz shp A O (⟨"org/distinguo/model/IntList", "<init>", "()V"⟩ : MethodName) prog_99_method_1_code 1 none 7 (sNewA 4 .int 9) from g_newarray (sid := 4) d3_7 rfl (by decide) (hw _ (List.mem_of_getElem? (i := 17) rfl))) ?_
  refine okc_cons (show Good l Z hz shp A O (⟨"org/distinguo/model/IntList", "<init>", "()V"⟩ : MethodName) prog_99_method_1_code 1 none 9 (sPutF 1 0 (.array .int) 12) from g_putfield (sid := 1) (i := 0) (R0 := "org/distinguo/model/IntList") d3_9 rfl (sok_1 hw) rfl (by decide) (hw _ (List.mem_of_getElem? (i := 18) rfl)) Via.refl (Or.inl (hw _ (List.mem_of_getElem? (i := 19) rfl)))) ?_
  refine okc_cons (show RetGood l Z hz shp A O (⟨"org/distinguo/model/IntList", "<init>", "()V"⟩ : MethodName) prog_99_method_1_code 1 none 12 (rVoid) from g_return d3_12) ?_
  exact okc_nil
set_option maxRecDepth 65536 in
set_option maxHeartbeats 40000000 in
theorem cok_4 (hw : ∀ d ∈ tables_1, d.before a0 Z = true) : ∀ el ∈ cd_4, ElOk l Z hz shp A O 96 704 mts mis 4 5 el := by
  unfold cd_4
  refine okc_cons (show Good l Z hz shp A O (⟨"org/distinguo/graph/MinimumCostFlow$Network", "arc", "(IIII)I"⟩ : MethodName) prog_28_method_2_code 5 (some .int) 0 (sLoad 2 0 1) from g_aloadN d4_0) ?_
  refine okc_cons (show Good l Z hz shp A O (⟨"org/distinguo/graph/MinimumCostFlow$Network", "arc", "(IIII)I"⟩ : MethodName) prog_28_method_2_code 5 (some .int) 1 (sGetF 0 0 4) from g_getfield (sid := 0) (i := 0) (R0 := "org/distinguo/graph/MinimumCostFlow$Network") (host := "") d4_1 rfl rfl (Or.inl (hw _ (List.mem_of_getElem? (i := 20) rfl))) Via.refl) ?_
  refine okc_cons (show Good l Z hz shp A O (⟨"org/distinguo/graph/MinimumCostFlow$Network", "arc", "(IIII)I"⟩ : MethodName) prog_28_method_2_code 5 (some .int) 4 (sLoad 0 1 5) from g_iloadN d4_4) ?_
  refine okc_cons (fun m hm => by
    obtain rfl : m = (2, cd_5) := (Option.some.inj hm).symm
    exact (show CallGood l Z hz shp A O (⟨"org/distinguo/graph/MinimumCostFlow$Network", "arc", "(IIII)I"⟩ : MethodName) prog_28_method_2_code 5 (some .int) (⟨"org/distinguo/model/IntList", "add", "(I)V"⟩ : MethodName) prog_99_method_5_code 2 none 5 2 8 (ckObj 1) from c_virtual (a0 := a0) (sid := 1) (hd := d4_5) (hpl := pl_5) (hdesc := pd_5) (hna := rfl) (hy := by decide) (w1 := (hw _ (List.mem_of_getElem? (i := 35) rfl))) (w2 := (hw _ (List.mem_of_getElem? (i := 37) rfl))) (w3 := (hw _ (List.mem_of_getElem? (i := 12) rfl))) (w4 := (hw _ (List.mem_of_getElem? (i := 39) rfl))) (hs := rfl) (w5 := (hw _ (List.mem_of_getElem? (i := 36) rfl))) (w6 := (hw _ (List.mem_of_getElem? (i := 38) rfl))))) ?_
  refine okc_cons (show Good l Z hz shp A O (⟨"org/distinguo/graph/MinimumCostFlow$Network", "arc", "(IIII)I"⟩ : MethodName) prog_28_method_2_code 5 (some .int) 8 (sLoad 2 0 9) from g_aloadN d4_8) ?_
  refine okc_cons (show Good l Z hz shp A O (⟨"org/distinguo/graph/MinimumCostFlow$Network", "arc", "(IIII)I"⟩ : MethodName) prog_28_method_2_code 5 (some .int) 9 (sGetF 0 1 12) from g_getfield (sid := 0) (i := 1) (R0 := "org/distinguo/graph/MinimumCostFlow$Network") (host := "") d4_9 rfl rfl (Or.inl (hw _ (List.mem_of_getElem? (i := 22) rfl))) Via.refl) ?_
  refine okc_cons (show Good l Z hz shp A O (⟨"org/distinguo/graph/MinimumCostFlow$Network", "arc", "(IIII)I"⟩ : MethodName) prog_28_method_2_code 5 (some .int) 12 (sLoad 0 2 13) from g_iloadN d4_12) ?_
  refine okc_cons (fun m hm => by
    obtain rfl : m = (2, cd_5) := (Option.some.inj hm).symm
    exact (show CallGood l Z hz shp A O (⟨"org/distinguo/graph/MinimumCostFlow$Network", "arc", "(IIII)I"⟩ : MethodName) prog_28_method_2_code 5 (some .int) (⟨"org/distinguo/model/IntList", "add", "(I)V"⟩ : MethodName) prog_99_method_5_code 2 none 13 2 16 (ckObj 1) from c_virtual (a0 := a0) (sid := 1) (hd := d4_13) (hpl := pl_5) (hdesc := pd_5) (hna := rfl) (hy := by decide) (w1 := (hw _ (List.mem_of_getElem? (i := 35) rfl))) (w2 := (hw _ (List.mem_of_getElem? (i := 37) rfl))) (w3 := (hw _ (List.mem_of_getElem? (i := 12) rfl))) (w4 := (hw _ (List.mem_of_getElem? (i := 39) rfl))) (hs := rfl) (w5 := (hw _ (List.mem_of_getElem? (i := 36) rfl))) (w6 := (hw _ (List.mem_of_getElem? (i := 38) rfl))))) ?_
  refine okc_cons (show Good l Z hz shp A O (⟨"org/distinguo/graph/MinimumCostFlow$Network", "arc", "(IIII)I"⟩ : MethodName) prog_28_method_2_code 5 (some .int) 16 (sLoad 2 0 17) from g_aloadN d4_16) ?_
  refine okc_cons (show Good l Z hz shp A O (⟨"org/distinguo/graph/MinimumCostFlow$Network", "arc", "(IIII)I"⟩ : MethodName) prog_28_method_2_code 5 (some .int) 17 (sGetF 0 2 20) from g_getfield (sid := 0) (i := 2) (R0 := "org/distinguo/graph/MinimumCostFlow$Network") (host := "") d4_17 rfl rfl (Or.inl (hw _ (List.mem_of_getElem? (i := 24) rfl))) Via.refl) ?_
  refine okc_cons (show Good l Z hz shp A O (⟨"org/distinguo/graph/MinimumCostFlow$Network", "arc", "(IIII)I"⟩ : MethodName) prog_28_method_2_code 5 (some .int) 20 (sLoad 0 3 21) from g_iloadN d4_20) ?_
  refine okc_cons (fun m hm => by
    obtain rfl : m = (2, cd_5) := (Option.some.inj hm).symm
    exact (show CallGood l Z hz shp A O (⟨"org/distinguo/graph/MinimumCostFlow$Network", "arc", "(IIII)I"⟩ : MethodName) prog_28_method_2_code 5 (some .int) (⟨"org/distinguo/model/IntList", "add", "(I)V"⟩ : MethodName) prog_99_method_5_code 2 none 21 2 24 (ckObj 1) from c_virtual (a0 := a0) (sid := 1) (hd := d4_21) (hpl := pl_5) (hdesc := pd_5) (hna := rfl) (hy := by decide) (w1 := (hw _ (List.mem_of_getElem? (i := 35) rfl))) (w2 := (hw _ (List.mem_of_getElem? (i := 37) rfl))) (w3 := (hw _ (List.mem_of_getElem? (i := 12) rfl))) (w4 := (hw _ (List.mem_of_getElem? (i := 39) rfl))) (hs := rfl) (w5 := (hw _ (List.mem_of_getElem? (i := 36) rfl))) (w6 := (hw _ (List.mem_of_getElem? (i := 38) rfl))))) ?_
  refine okc_cons (show Good l Z hz shp A O (⟨"org/distinguo/graph/MinimumCostFlow$Network", "arc", "(IIII)I"⟩ : MethodName) prog_28_method_2_code 5 (some .int) 24 (sLoad 2 0 25) from g_aloadN d4_24) ?_
  refine okc_cons (show Good l Z hz shp A O (⟨"org/distinguo/graph/MinimumCostFlow$Network", "arc", "(IIII)I"⟩ : MethodName) prog_28_method_2_code 5 (some .int) 25 (sGetF 0 3 28) from g_getfield (sid := 0) (i := 3) (R0 := "org/distinguo/graph/MinimumCostFlow$Network") (host := "") d4_25 rfl rfl (Or.inl (hw _ (List.mem_of_getElem? (i := 26) rfl))) Via.refl) ?_
  refine okc_cons (show Good l Z hz shp A O (⟨"org/distinguo/graph/MinimumCostFlow$Network", "arc", "(IIII)I"⟩ : MethodName) prog_28_method_2_code 5 (some .int) 28 (sLoad 0 4 30) from g_iload d4_28) ?_
  refine okc_cons (fun m hm => by
    obtain rfl : m = (2, cd_5) := (Option.some.inj hm).symm
    exact (show CallGood l Z hz shp A O (⟨"org/distinguo/graph/MinimumCostFlow$Network", "arc", "(IIII)I"⟩ : MethodName) prog_28_method_2_code 5 (some .int) (⟨"org/distinguo/model/IntList", "add", "(I)V"⟩ : MethodName) prog_99_method_5_code 2 none 30 2 33 (ckObj 1) from c_virtual (a0 := a0) (sid := 1) (hd := d4_30) (hpl := pl_5) (hdesc := pd_5) (hna := rfl) (hy := by decide) (w1 := (hw _ (List.mem_of_getElem? (i := 35) rfl))) (w2 := (hw _ (List.mem_of_getElem? (i := 37) rfl))) (w3 := (hw _ (List.mem_of_getElem? (i := 12) rfl))) (w4 := (hw _ (List.mem_of_getElem? (i := 39) rfl))) (hs := rfl) (w5 := (hw _ (List.mem_of_getElem? (i := 36) rfl))) (w6 := (hw _ (List.mem_of_getElem? (i := 38) rfl))))) ?_
  refine okc_cons (show Good l Z hz shp A O (⟨"org/distinguo/graph/MinimumCostFlow$Network", "arc", "(IIII)I"⟩ : MethodName) prog_28_method_2_code 5 (some .int) 33 (sLoad 2 0 34) from g_aloadN d4_33) ?_
  refine okc_cons (show Good l Z hz shp A O (⟨"org/distinguo/graph/MinimumCostFlow$Network", "arc", "(IIII)I"⟩ : MethodName) prog_28_method_2_code 5 (some .int) 34 (sGetF 0 0 37) from g_getfield (sid := 0) (i := 0) (R0 := "org/distinguo/graph/MinimumCostFlow$Network") (host := "") d4_34 rfl rfl (Or.inl (hw _ (List.mem_of_getElem? (i := 20) rfl))) Via.refl) ?_
  refine okc_cons (fun m hm => by
    obtain rfl : m = (1, cd_7) := (Option.some.inj hm).symm
    exact (show CallGood l Z hz shp A O (⟨"org/distinguo/graph/MinimumCostFlow$Network", "arc", "(IIII)I"⟩ : MethodName) prog_28_method_2_code 5 (some .int) (⟨"org/distinguo/model/IntList", "size", "()I"⟩ : MethodName) prog_99_method_2_code 1 (some .int) 37 1 40 (ckObj 1) from c_virtual (a0 := a0) (sid := 1) (hd := d4_37) (hpl := pl_7) (hdesc := pd_7) (hna := rfl) (hy := by decide) (w1 := (hw _ (List.mem_of_getElem? (i := 46) rfl))) (w2 := (hw _ (List.mem_of_getElem? (i := 48) rfl))) (w3 := (hw _ (List.mem_of_getElem? (i := 12) rfl))) (w4 := (hw _ (List.mem_of_getElem? (i := 50) rfl))) (hs := rfl) (w5 := (hw _ (List.mem_of_getElem? (i := 47) rfl))) (w6 := (hw _ (List.mem_of_getElem? (i := 49) rfl))))) ?_
  refine okc_cons (show Good l Z hz shp A O (⟨"org/distinguo/graph/MinimumCostFlow$Network", "arc", "(IIII)I"⟩ : MethodName) prog_28_method_2_code 5 (some .int) 40 (sPush (0, .int 1) 41) from g_iconst d4_40 rfl) ?_
  refine okc_cons (show Good l Z hz shp A O (⟨"org/distinguo/graph/MinimumCostFlow$Network", "arc", "(IIII)I"⟩ : MethodName) prog_28_method_2_code 5 (some .int) 41 (sBin 0 0 0 xSub 42) from gx_isub xSub_ok d4_41) ?_
  refine okc_cons (show RetGood l Z hz shp A O (⟨"org/distinguo/graph/MinimumCostFlow$Network", "arc", "(IIII)I"⟩ : MethodName) prog_28_method_2_code 5 (some .int) 42 (rVal .int) from g_ret d4_42 (by decide) (by simp)) ?_
  exact okc_nil
set_option maxRecDepth 65536 in
set_option maxHeartbeats 40000000 in
theorem cok_5 (hw : ∀ d ∈ tables_1, d.before a0 Z = true) : ∀ el ∈ cd_5, ElOk l Z hz shp A O 96 704 mts mis 5 2 el := by
  unfold cd_5
  refine okc_cons (show Good l Z hz shp A O (⟨"org/distinguo/model/IntList", "add", "(I)V"⟩ : MethodName) prog_99_method_5_code 2 none 0 (sLoad 2 0 1) from g_aloadN d5_0) ?_
  refine okc_cons (show Good l Z hz shp A O (⟨"org/distinguo/model/IntList", "add", "(I)V"⟩ : MethodName) prog_99_method_5_code 2 none 1 (sPush (0, .int 1) 2) from g_iconst d5_1 rfl) ?_
  refine okc_cons (fun m hm => by
    obtain rfl : m = (6, cd_6) := (Option.some.inj hm).symm
    exact (show CallGood l Z hz shp A O (⟨"org/distinguo/model/IntList", "add", "(I)V"⟩ : MethodName) prog_99_method_5_code 2 none (⟨"org/distinguo/model/IntList", "makeRoom", "(I)V"⟩ : MethodName) prog_99_method_7_code 6 none 2 2 5 (ckObj 1) from c_private (a0 := a0) (sid := 1) (hd := d5_2) (hpl := pl_6) (hdesc := pd_6) (hna := rfl) (hy := by decide) (w1 := (hw _ (List.mem_of_getElem? (i := 40) rfl))) (w2 := (hw _ (List.mem_of_getElem? (i := 41) rfl))) (w3 := (hw _ (List.mem_of_getElem? (i := 12) rfl))) (w4 := (hw _ (List.mem_of_getElem? (i := 43) rfl))) (hs := rfl) (w5 := (hw _ (List.mem_of_getElem? (i := 42) rfl))) (w6 := (hw _ (List.mem_of_getElem? (i := 11) rfl))))) ?_
  refine okc_cons (show Good l Z hz shp A O (⟨"org/distinguo/model/IntList", "add", "(I)V"⟩ : MethodName) prog_99_method_5_code 2 none 5 (sLoad 2 0 6) from g_aloadN d5_5) ?_
  refine okc_cons (show Good l Z hz shp A O (⟨"org/distinguo/model/IntList", "add", "(I)V"⟩ : MethodName) prog_99_method_5_code 2 none 6 (sGetF 1 0 9) from g_getfield (sid := 1) (i := 0) (R0 := "org/distinguo/model/IntList") (host := "") d5_6 rfl rfl (Or.inl (hw _ (List.mem_of_getElem? (i := 18) rfl))) Via.refl) ?_
  refine okc_cons (show Good l Z hz shp A O (⟨"org/distinguo/model/IntList", "add", "(I)V"⟩ : MethodName) prog_99_method_5_code 2 none 9 (sLoad 2 0 10) from g_aloadN d5_9) ?_
  refine okc_cons (show Good l Z hz shp A O (⟨"org/distinguo/model/IntList", "add", "(I)V"⟩ : MethodName) prog_99_method_5_code 2 none 10 (sDup 11) from g_dup d5_10) ?_
  refine okc_cons (show Good l Z hz shp A O (⟨"org/distinguo/model/IntList", "add", "(I)V"⟩ : MethodName) prog_99_method_5_code 2 none 11 (sGetF 1 1 14) from g_getfield (sid := 1) (i := 1) (R0 := "org/distinguo/model/IntList") (host := "") d5_11 rfl rfl (Or.inl (hw _ (List.mem_of_getElem? (i := 44) rfl))) Via.refl) ?_
  refine okc_cons (show Good l Z hz shp A O (⟨"org/distinguo/model/IntList", "add", "(I)V"⟩ : MethodName) prog_99_method_5_code 2 none 14 (sDupX1 15) from g_dupX1 d5_14) ?_
  refine okc_cons (show Good l Z hz shp A O (⟨"org/distinguo/model/IntList", "add", "(I)V"⟩ : MethodName) prog_99_method_5_code 2 none 15 (sPush (0, .int 1) 16) from g_iconst d5_15 rfl) ?_
  refine okc_cons (show Good l Z hz shp A O (⟨"org/distinguo/model/IntList", "add", "(I)V"⟩ : MethodName) prog_99_method_5_code 2 none 16 (sBin 0 0 0 (jI Term.add) 17) from g_iadd d5_16) ?_
  refine okc_cons (show Good l Z hz shp A O (⟨"org/distinguo/model/IntList", "add", "(I)V"⟩ : MethodName) prog_99_method_5_code 2 none 17 (sPutF 1 1 .int 20) from g_putfield (sid := 1) (i := 1) (R0 := "org/distinguo/model/IntList") d5_17 rfl (sok_1 hw) rfl (by decide) (hw _ (List.mem_of_getElem? (i := 44) rfl)) Via.refl (Or.inl (hw _ (List.mem_of_getElem? (i := 45) rfl)))) ?_
  refine okc_cons (show Good l Z hz shp A O (⟨"org/distinguo/model/IntList", "add", "(I)V"⟩ : MethodName) prog_99_method_5_code 2 none 20 (sLoad 0 1 21) from g_iloadN d5_20) ?_
  refine okc_cons (show Good l Z hz shp A O (⟨"org/distinguo/model/IntList", "add", "(I)V"⟩ : MethodName) prog_99_method_5_code 2 none 21 (sAst 4 .int 22) from g_iastore (sid := 4) d5_21 rfl) ?_
  refine okc_cons (show RetGood l Z hz shp A O (⟨"org/distinguo/model/IntList", "add", "(I)V"⟩ : MethodName) prog_99_method_5_code 2 none 22 (rVoid) from g_return d5_22) ?_
  exact okc_nil
set_option maxRecDepth 65536 in
set_option maxHeartbeats 40000000 in
theorem cok_6 (hw : ∀ d ∈ tables_1, d.before a0 Z = true) : ∀ el ∈ cd_6, ElOk l Z hz shp A O 96 704 mts mis 6 6 el := by
  unfold cd_6
  refine okc_cons (show Good l Z hz shp A O (⟨"org/distinguo/model/IntList", "makeRoom", "(I)V"⟩ : MethodName) prog_99_method_7_code 6 none 0 (sLoad 2 0 1) from g_aloadN d6_0) ?_
  refine okc_cons (show Good l Z hz shp A O (⟨"org/distinguo/model/IntList", "makeRoom", "(I)V"⟩ : MethodName) prog_99_method_7_code 6 none 1 (sGetF 1 1 4) from g_getfield (sid := 1) (i := 1) (R0 := "org/distinguo/model/IntList") (host := "") d6_1 rfl rfl (Or.inl (hw _ (List.mem_of_getElem? (i := 44) rfl))) Via.refl) ?_
  refine okc_cons (show Good l Z hz shp A O (⟨"org/distinguo/model/IntList", "makeRoom", "(I)V"⟩ : MethodName) prog_99_method_7_code 6 none 4 (sUn 0 1 (uL (Term.op1 .i2l)) 5) from g_i2l d6_4) ?_
  refine okc_cons (show Good l Z hz shp A O (⟨"org/distinguo/model/IntList", "makeRoom", "(I)V"⟩ : MethodName) prog_99_method_7_code 6 none 5 (sLoad 0 1 6) from g_iloadN d6_5) ?_
  refine okc_cons (show Good l Z hz shp A O (⟨"org/distinguo/model/IntList", "makeRoom", "(I)V"⟩ : MethodName) prog_99_method_7_code 6 none 6 (sUn 0 1 (uL (Term.op1 .i2l)) 7) from g_i2l d6_6) ?_
  refine okc_cons (show Good l Z hz shp A O (⟨"org/distinguo/model/IntList", "makeRoom", "(I)V"⟩ : MethodName) prog_99_method_7_code 6 none 7 (sBin 1 1 1 xAddL 8) from gx_ladd xAddL_ok d6_7) ?_
  refine okc_cons (show Good l Z hz shp A O (⟨"org/distinguo/model/IntList", "makeRoom", "(I)V"⟩ : MethodName) prog_99_method_7_code 6 none 8 (sStore 1 2 9) from g_lstoreN d6_8) ?_
  refine okc_cons (show Good l Z hz shp A O (⟨"org/distinguo/model/IntList", "makeRoom", "(I)V"⟩ : MethodName) prog_99_method_7_code 6 none 9 (sLoad 1 2 10) from g_lloadN d6_9) ?_
  refine okc_cons (show Good l Z hz shp A O (⟨"org/distinguo/model/IntList", "makeRoom", "(I)V"⟩ : MethodName) prog_99_method_7_code 6 none 10 (sLoad 2 0 11) from g_aloadN d6_10) ?_
  refine okc_cons (show Good l Z hz shp A O (⟨"org/distinguo/model/IntList", "makeRoom", "(I)V"⟩ : MethodName) prog_99_method_7_code 6 none 11 (sGetF 1 0 14) from g_getfield (sid := 1) (i := 0) (R0 := "org/distinguo/model/IntList") (host := "") d6_11 rfl rfl (Or.inl (hw _ (List.mem_of_getElem? (i := 18) rfl))) Via.refl) ?_
  refine okc_cons (show Good l Z hz shp A O (⟨"org/distinguo/model/IntList", "makeRoom", "(I)V"⟩ : MethodName) prog_99_method_7_code 6 none 14 (sLenA 4 15) from g_len (sid := 4) d6_14 rfl) ?_
  refine okc_cons (show Good l Z hz shp A O (⟨"org/distinguo/model/IntList", "makeRoom", "(I)V"⟩ : MethodName) prog_99_method_7_code 6 none 15 (sUn 0 1 (uL (Term.op1 .i2l)) 16) from g_i2l d6_15) ?_
  refine okc_cons (show Good l Z hz shp A O (⟨"org/distinguo/model/IntList", "makeRoom", "(I)V"⟩ : MethodName) prog_99_method_7_code 6 none 16 (sBin 1 1 0 (jI (Term.op2 .lcmp)) 17) from g_lcmp d6_16) ?_
  refine okc_cons (show Good l Z hz shp A O (⟨"org/distinguo/model/IntList", "makeRoom", "(I)V"⟩ : MethodName) prog_99_method_7_code 6 none 17 (sIf .le 74 20) from g_if d6_17 (by decide) (by decide)) ?_
  refine okc_cons (show Good l Z hz shp A O (⟨"org/distinguo/model/IntList", "makeRoom", "(I)V"⟩ : MethodName) prog_99_method_7_code 6 none 20 (sLoad 1 2 21) from g_lloadN d6_20) ?_
  refine okc_cons (show Good l Z hz shp A O (⟨"org/distinguo/model/IntList", "makeRoom", "(I)V"⟩ : MethodName) prog_99_method_7_code 6 none 21 (sPush (1, .long 2147483639) 24) from g_ldc2 (v := 2147483639) d6_21 (hw _ (List.mem_of_getElem? (i := 220) rfl))) ?_
  refine okc_cons (show Good l Z hz shp A O (⟨"org/distinguo/model/IntList", "makeRoom", "(I)V"⟩ : MethodName) prog_99_method_7_code 6 none 24 (sBin 1 1 0 (jI (Term.op2 .lcmp)) 25) from g_lcmp d6_24) ?_
  refine okc_cons (show Good l Z hz shp A O (⟨"org/distinguo/model/IntList", "makeRoom", "(I)V"⟩ : MethodName) prog_99_method_7_code 6 none 25 (sIf .le 38 28) from g_if d6_25 (by decide) (by decide)) ?_
  refine okc_cons (show Good l Z hz shp A O (⟨"org/distinguo/model/IntList", "makeRoom", "(I)V"⟩ : MethodName) prog_99_method_7_code 6 none 28 (sStop) from g_stop) ?_
  refine okc_cons (show Good l Z hz shp A O (⟨"org/distinguo/model/IntList", "makeRoom", "(I)V"⟩ : MethodName) prog_99_method_7_code 6 none 31 (sDup 32) from g_dup d6_31) ?_
  refine okc_cons (show Good l Z hz shp A O (⟨"org/distinguo/model/IntList", "makeRoom", "(I)V"⟩ : MethodName) prog_99_method_7_code 6 none 32 (sStop) from g_stop) ?_
  refine okc_cons (show Good l Z hz shp A O (⟨"org/distinguo/model/IntList", "makeRoom", "(I)V"⟩ : MethodName) prog_99_method_7_code 6 none 34 (sStop) from g_stop) ?_
  refine okc_cons (show Good l Z hz shp A O (⟨"org/distinguo/model/IntList", "makeRoom", "(I)V"⟩ : MethodName) prog_99_method_7_code 6 none 37 (sStop) from g_stop) ?_
  refine okc_cons (show Good l Z hz shp A O (⟨"org/distinguo/model/IntList", "makeRoom", "(I)V"⟩ : MethodName) prog_99_method_7_code 6 none 38 (sPush (1, .long 2) 41) from g_ldc2 (v := 2) d6_38 (hw _ (List.mem_of_getElem? (i := 221) rfl))) ?_
  refine okc_cons (show Good l Z hz shp A O (⟨"org/distinguo/model/IntList", "makeRoom", "(I)V"⟩ : MethodName) prog_99_method_7_code 6 none 41 (sLoad 2 0 42) from g_aloadN d6_41) ?_
  refine okc_cons (show Good l Z hz shp A O (⟨"org/distinguo/model/IntList", "makeRoom", "(I)V"⟩ : MethodName) prog_99_method_7_code 6 none 42 (sGetF 1 0 45) from g_getfield (sid := 1) (i := 0) (R0 := "org/distinguo/model/IntList") (host := "") d6_42 rfl rfl (Or.inl (hw _ (List.mem_of_getElem? (i := 18) rfl))) Via.refl) ?_
  refine okc_cons (show Good l Z hz shp A O (⟨"org/distinguo/model/IntList", "makeRoom", "(I)V"⟩ : MethodName) prog_99_method_7_code 6 none 45 (sLenA 4 46) from g_len (sid := 4) d6_45 rfl) ?_
  refine okc_cons (show Good l Z hz shp A O (⟨"org/distinguo/model/IntList", "makeRoom", "(I)V"⟩ : MethodName) prog_99_method_7_code 6 none 46 (sUn 0 1 (uL (Term.op1 .i2l)) 47) from g_i2l d6_46) ?_
  refine okc_cons (show Good l Z hz shp A O (⟨"org/distinguo/model/IntList", "makeRoom", "(I)V"⟩ : MethodName) prog_99_method_7_code 6 none 47 (sBin 1 1 1 (jL (Term.op2 .lmul)) 48) from g_lmul d6_47) ?_
  refine okc_cons (show Good l Z hz shp A O (⟨"org/distinguo/model/IntList", "makeRoom", "(I)V"⟩ : MethodName) prog_99_method_7_code 6 none 48 (sLoad 1 2 49) from g_lloadN d6_48) ?_
  refine okc_cons (show Good l Z hz shp A O (⟨"org/distinguo/model/IntList", "makeRoom", "(I)V"⟩ : MethodName) prog_99_method_7_code 6 none 49 (sStop) from g_stop) ?_
  refine okc_cons (show Good l Z hz shp A O (⟨"org/distinguo/model/IntList", "makeRoom", "(I)V"⟩ : MethodName) prog_99_method_7_code 6 none 52 (sStore 1 4 54) from g_lstore d6_52) ?_
  refine okc_cons (show Good l Z hz shp A O (⟨"org/distinguo/model/IntList", "makeRoom", "(I)V"⟩ : MethodName) prog_99_method_7_code 6 none 54 (sLoad 2 0 55) from g_aloadN d6_54) ?_
  refine okc_cons (show Good l Z hz shp A O (⟨"org/distinguo/model/IntList", "makeRoom", "(I)V"⟩ : MethodName) prog_99_method_7_code 6 none 55 (sLoad 2 0 56) from g_aloadN d6_55) ?_
  refine okc_cons (show Good l Z hz shp A O (⟨"org/distinguo/model/IntList", "makeRoom", "(I)V"⟩ : MethodName) prog_99_method_7_code 6 none 56 (sGetF 1 0 59) from g_getfield (sid := 1) (i := 0) (R0 := "org/distinguo/model/IntList") (host := "") d6_56 rfl rfl (Or.inl (hw _ (List.mem_of_getElem? (i := 18) rfl))) Via.refl) ?_
  refine okc_cons (show Good l Z hz shp A O (⟨"org/distinguo/model/IntList", "makeRoom", "(I)V"⟩ : MethodName) prog_99_method_7_code 6 none 59 (sLoad 1 4 61) from g_lload d6_59) ?_
  refine okc_cons (show Good l Z hz shp A O (⟨"org/distinguo/model/IntList", "makeRoom", "(I)V"⟩ : MethodName) prog_99_method_7_code 6 none 61 (sPush (1, .long 2147483639) 64) from g_ldc2 (v := 2147483639) d6_61 (hw _ (List.mem_of_getElem? (i := 220) rfl))) ?_
  refine okc_cons (show Good l Z hz shp A O (⟨"org/distinguo/model/IntList", "makeRoom", "(I)V"⟩ : MethodName) prog_99_method_7_code 6 none 64 (sStop) from g_stop) ?_
  refine okc_cons (show Good l Z hz shp A O (⟨"org/distinguo/model/IntList", "makeRoom", "(I)V"⟩ : MethodName) prog_99_method_7_code 6 none 67 (sUn 1 0 xL2I 68) from gx_l2i xL2I_ok d6_67) ?_
  refine okc_cons (fun m hm => by
    obtain rfl : m = (3, cd_10) := (Option.some.inj hm).symm
    exact (show CallGood l Z hz shp A O (⟨"org/distinguo/model/IntList", "makeRoom", "(I)V"⟩ : MethodName) prog_99_method_7_code 6 none (⟨"java/util/Arrays", "copyOf", "([II)[I"⟩ : MethodName) jdk_65_method_123_code 3 (some (.array .int)) 68 2 71 (ckAny) from c_static (a0 := a0) (hd := d6_68) (hpl := pl_10) (hdesc := pd_10) (hna := rfl) (hy := by decide) (w1 := (hw _ (List.mem_of_getElem? (i := 222) rfl))) (w2 := (hw _ (List.mem_of_getElem? (i := 94) rfl))) (w3 := (hw _ (List.mem_of_getElem? (i := 95) rfl))) (w4 := (hw _ (List.mem_of_getElem? (i := 96) rfl))))) ?_
  refine okc_cons (show Good l Z hz shp A O (⟨"org/distinguo/model/IntList", "makeRoom", "(I)V"⟩ : MethodName) prog_99_method_7_code 6 none 71 (sPutF 1 0 (.array .int) 74) from g_putfield (sid := 1) (i := 0) (R0 := "org/distinguo/model/IntList") d6_71 rfl (sok_1 hw) rfl (by decide) (hw _ (List.mem_of_getElem? (i := 18) rfl)) Via.refl (Or.inl (hw _ (List.mem_of_getElem? (i := 19) rfl)))) ?_
  refine okc_cons (show RetGood l Z hz shp A O (⟨"org/distinguo/model/IntList", "makeRoom", "(I)V"⟩ : MethodName) prog_99_method_7_code 6 none 74 (rVoid) from g_return d6_74) ?_
  exact okc_nil
set_option maxRecDepth 65536 in
set_option maxHeartbeats 40000000 in
theorem cok_7 (hw : ∀ d ∈ tables_1, d.before a0 Z = true) : ∀ el ∈ cd_7, ElOk l Z hz shp A O 96 704 mts mis 7 1 el := by
  unfold cd_7
  refine okc_cons (show Good l Z hz shp A O (⟨"org/distinguo/model/IntList", "size", "()I"⟩ : MethodName) prog_99_method_2_code 1 (some .int) 0 (sLoad 2 0 1) from g_aloadN d7_0) ?_
  refine okc_cons (show Good l Z hz shp A O (⟨"org/distinguo/model/IntList", "size", "()I"⟩ : MethodName) prog_99_method_2_code 1 (some .int) 1 (sGetF 1 1 4) from g_getfield (sid := 1) (i := 1) (R0 := "org/distinguo/model/IntList") (host := "") d7_1 rfl rfl (Or.inl (hw _ (List.mem_of_getElem? (i := 44) rfl))) Via.refl) ?_
  refine okc_cons (show RetGood l Z hz shp A O (⟨"org/distinguo/model/IntList", "size", "()I"⟩ : MethodName) prog_99_method_2_code 1 (some .int) 4 (rVal .int) from g_ret d7_4 (by decide) (by simp)) ?_
  exact okc_nil
set_option maxRecDepth 65536 in
set_option maxHeartbeats 40000000 in
theorem cok_8 (hw : ∀ d ∈ tables_1, d.before a0 Z = true) : ∀ el ∈ cd_8, ElOk l Z hz shp A O 96 704 mts mis 8 12 el := by
  unfold cd_8
  refine okc_cons (show Good l Z hz shp A O (⟨"org/distinguo/graph/MinimumCostFlow", "<init>", "(Lorg/distinguo/graph/MinimumCostFlow$Network;)V"⟩ : MethodName) prog_26_method_1_code 12 none 0 (sLoad 2 0 1) from g_aloadN d8_0) ?_
  refine okc_cons (show GoodN l Z hz shp A O (⟨"org/distinguo/graph/MinimumCostFlow", "<init>", "(Lorg/distinguo/graph/MinimumCostFlow$Network;)V"⟩ : MethodName) prog_26_method_1_code 12 none 1 (sInitO 12 4) from g_initO d8_1 (hw _ (List.mem_of_getElem? (i := 57) rfl)) (hw _ (List.mem_of_getElem? (i := 8) rfl)) (hw _ (List.mem_of_getElem? (i := 9) rfl))) ?_
  refine okc_cons (show Good l Z hz shp A O (⟨"org/distinguo/graph/MinimumCostFlow", "<init>", "(Lorg/distinguo/graph/MinimumCostFlow$Network;)V"⟩ : MethodName) prog_26_method_1_code 12 none 4 (sLoad 2 0 5) from g_aloadN d8_4) ?_
  refine okc_cons (show Good l Z hz shp A O (⟨"org/distinguo/graph/MinimumCostFlow", "<init>", "(Lorg/distinguo/graph/MinimumCostFlow$Network;)V"⟩ : MethodName) prog_26_method_1_code 12 none 5 (sPush (0, .int 64) 7) from g_bipush d8_5 rfl) ?_
  refine okc_cons (show Good l Z hz shp A O (⟨"org/distinguo/graph/MinimumCostFlow", "<init>", "(Lorg/distinguo/graph/MinimumCostFlow$Network;)V"⟩ : MethodName) prog_26_method_1_code 12 none 7 (sNewA 5 .long 9) from g_newarray (sid := 5) d8_7 rfl (by decide) (hw _ (List.mem_of_getElem? (i := 58) rfl))) ?_
  refine okc_cons (show Good l Z hz shp A O (⟨"org/distinguo/graph/MinimumCostFlow", "<init>", "(Lorg/distinguo/graph/MinimumCostFlow$Network;)V"⟩ : MethodName) prog_26_method_1_code 12 none 9 (sPutF 2 0 (.array .long) 12) from g_putfield (sid := 2) (i := 0) (R0 := "org/distinguo/graph/MinimumCostFlow") d8_9 rfl (sok_2 hw) rfl (by decide) (hw _ (List.mem_of_getElem? (i := 59) rfl)) Via.refl (Or.inl (hw _ (List.mem_of_getElem? (i := 60) rfl)))) ?_
  refine okc_cons (show Good l Z hz shp A O (⟨"org/distinguo/graph/MinimumCostFlow", "<init>", "(Lorg/distinguo/graph/MinimumCostFlow$Network;)V"⟩ : MethodName) prog_26_method_1_code 12 none 12 (sLoad 2 0 13) from g_aloadN d8_12) ?_
  refine okc_cons (show Good l Z hz shp A O (⟨"org/distinguo/graph/MinimumCostFlow", "<init>", "(Lorg/distinguo/graph/MinimumCostFlow$Network;)V"⟩ : MethodName) prog_26_method_1_code 12 none 13 (sNew 1 2 ds_1 16) from g_new (sid := 1) d8_13 rfl (sok_1 hw) (by decide) rfl (hw _ (List.mem_of_getElem? (i := 61) rfl)) (hw _ (List.mem_of_getElem? (i := 12) rfl))) ?_
  refine okc_cons (show Good l Z hz shp A O (⟨"org/distinguo/graph/MinimumCostFlow", "<init>", "(Lorg/distinguo/graph/MinimumCostFlow$Network;)V"⟩ : MethodName) prog_26_method_1_code 12 none 16 (sDup 17) from g_dup d8_16) ?_
  refine okc_cons (fun m hm => by
    obtain rfl : m = (1, cd_3) := (Option.some.inj hm).symm
    exact (show CallGood l Z hz shp A O (⟨"org/distinguo/graph/MinimumCostFlow", "<init>", "(Lorg/distinguo/graph/MinimumCostFlow$Network;)V"⟩ : MethodName) prog_26_method_1_code 12 none (⟨"org/distinguo/model/IntList", "<init>", "()V"⟩ : MethodName) prog_99_method_1_code 1 none 17 1 20 (ckObj 1) from c_init (a0 := a0) (sid := 1) (hd := d8_17) (hpl := pl_3) (hdesc := pd_3) (hna := rfl) (hy := by decide) (w1 := (hw _ (List.mem_of_getElem? (i := 62) rfl))) (w2 := (hw _ (List.mem_of_getElem? (i := 14) rfl))) (w3 := (hw _ (List.mem_of_getElem? (i := 12) rfl))) (w4 := (hw _ (List.mem_of_getElem? (i := 15) rfl))) (hn := rfl))) ?_
  refine okc_cons (show Good l Z hz shp A O (⟨"org/distinguo/graph/MinimumCostFlow", "<init>", "(Lorg/distinguo/graph/MinimumCostFlow$Network;)V"⟩ : MethodName) prog_26_method_1_code 12 none 20 (sPutF 2 1 (.object "org/distinguo/model/IntList") 23) from g_putfield (sid := 2) (i := 1) (R0 := "org/distinguo/graph/MinimumCostFlow") d8_20 rfl (sok_2 hw) rfl (by decide) (hw _ (List.mem_of_getElem? (i := 63) rfl)) Via.refl (Or.inr ⟨(hw _ (List.mem_of_getElem? (i := 64) rfl)), rfl, rfl⟩)) ?_
  refine okc_cons (show Good l Z hz shp A O (⟨"org/distinguo/graph/MinimumCostFlow", "<init>", "(Lorg/distinguo/graph/MinimumCostFlow$Network;)V"⟩ : MethodName) prog_26_method_1_code 12 none 23 (sLoad 2 1 24) from g_aloadN d8_23) ?_
  refine okc_cons (show Good l Z hz shp A O (⟨"org/distinguo/graph/MinimumCostFlow", "<init>", "(Lorg/distinguo/graph/MinimumCostFlow$Network;)V"⟩ : MethodName) prog_26_method_1_code 12 none 24 (sGetF 0 4 27) from g_getfieldRef (sid := 0) (i := 4) d8_24 rfl rfl (hw _ (List.mem_of_getElem? (i := 65) rfl))) ?_
  refine okc_cons (show Good l Z hz shp A O (⟨"org/distinguo/graph/MinimumCostFlow", "<init>", "(Lorg/distinguo/graph/MinimumCostFlow$Network;)V"⟩ : MethodName) prog_26_method_1_code 12 none 27 (sStore 0 2 28) from g_istoreN d8_27) ?_
  refine okc_cons (show Good l Z hz shp A O (⟨"org/distinguo/graph/MinimumCostFlow", "<init>", "(Lorg/distinguo/graph/MinimumCostFlow$Network;)V"⟩ : MethodName) prog_26_method_1_code 12 none 28 (sLoad 2 1 29) from g_aloadN d8_28) ?_
  refine okc_cons (show Good l Z hz shp A O (⟨"org/distinguo/graph/MinimumCostFlow", "<init>", "(Lorg/distinguo/graph/MinimumCostFlow$Network;)V"⟩ : MethodName) prog_26_method_1_code 12 none 29 (sGetF 0 0 32) from g_getfieldRef (sid := 0) (i := 0) d8_29 rfl rfl (hw _ (List.mem_of_getElem? (i := 66) rfl))) ?_
  refine okc_cons (fun m hm => by
    obtain rfl : m = (1, cd_7) := (Option.some.inj hm).symm
    exact (show CallGood l Z hz shp A O (⟨"org/distinguo/graph/MinimumCostFlow", "<init>", "(Lorg/distinguo/graph/MinimumCostFlow$Network;)V"⟩ : MethodName) prog_26_method_1_code 12 none (⟨"org/distinguo/model/IntList", "size", "()I"⟩ : MethodName) prog_99_method_2_code 1 (some .int) 32 1 35 (ckObj 1) from c_virtual (a0 := a0) (sid := 1) (hd := d8_32) (hpl := pl_7) (hdesc := pd_7) (hna := rfl) (hy := by decide) (w1 := (hw _ (List.mem_of_getElem? (i := 67) rfl))) (w2 := (hw _ (List.mem_of_getElem? (i := 48) rfl))) (w3 := (hw _ (List.mem_of_getElem? (i := 12) rfl))) (w4 := (hw _ (List.mem_of_getElem? (i := 50) rfl))) (hs := rfl) (w5 := (hw _ (List.mem_of_getElem? (i := 47) rfl))) (w6 := (hw _ (List.mem_of_getElem? (i := 49) rfl))))) ?_
  refine okc_cons (show Good l Z hz shp A O (⟨"org/distinguo/graph/MinimumCostFlow", "<init>", "(Lorg/distinguo/graph/MinimumCostFlow$Network;)V"⟩ : MethodName) prog_26_method_1_code 12 none 35 (sStore 0 3 36) from g_istoreN d8_35) ?_
  refine okc_cons (show Good l Z hz shp A O (⟨"org/distinguo/graph/MinimumCostFlow", "<init>", "(Lorg/distinguo/graph/MinimumCostFlow$Network;)V"⟩ : MethodName) prog_26_method_1_code 12 none 36 (sLoad 0 2 37) from g_iloadN d8_36) ?_
  refine okc_cons (show Good l Z hz shp A O (⟨"org/distinguo/graph/MinimumCostFlow", "<init>", "(Lorg/distinguo/graph/MinimumCostFlow$Network;)V"⟩ : MethodName) prog_26_method_1_code 12 none 37 (sNewA 4 .int 39) from g_newarray (sid := 4) d8_37 rfl (by decide) (hw _ (List.mem_of_getElem? (i := 17) rfl))) ?_
  refine okc_cons (show Good l Z hz shp A O (⟨"org/distinguo/graph/MinimumCostFlow", "<init>", "(Lorg/distinguo/graph/MinimumCostFlow$Network;)V"⟩ : MethodName) prog_26_method_1_code 12 none 39 (sStore 2 4 41) from g_astore d8_39) ?_
  refine okc_cons (show Good l Z hz shp A O (⟨"org/distinguo/graph/MinimumCostFlow", "<init>", "(Lorg/distinguo/graph/MinimumCostFlow$Network;)V"⟩ : MethodName) prog_26_method_1_code 12 none 41 (sLoad 0 2 42) from g_iloadN d8_41) ?_
  refine okc_cons (show Good l Z hz shp A O (⟨"org/distinguo/graph/MinimumCostFlow", "<init>", "(Lorg/distinguo/graph/MinimumCostFlow$Network;)V"⟩ : MethodName) prog_26_method_1_code 12 none 42 (sNewA 4 .int 44) from g_newarray (sid := 4) d8_42 rfl (by decide) (hw _ (List.mem_of_getElem? (i := 17) rfl))) ?_
  refine okc_cons (show Good l Z hz shp A O (⟨"org/distinguo/graph/MinimumCostFlow", "<init>", "(Lorg/distinguo/graph/MinimumCostFlow$Network;)V"⟩ : MethodName) prog_26_method_1_code 12 none 44 (sStore 2 5 46) from g_astore d8_44) ?_
  refine okc_cons (show Good l Z hz shp A O (⟨"org/distinguo/graph/MinimumCostFlow", "<init>", "(Lorg/distinguo/graph/MinimumCostFlow$Network;)V"⟩ : MethodName) prog_26_method_1_code 12 none 46 (sPush (0, .int 0) 47) from g_iconst d8_46 rfl) ?_
  refine okc_cons (show Good l Z hz shp A O (⟨"org/distinguo/graph/MinimumCostFlow", "<init>", "(Lorg/distinguo/graph/MinimumCostFlow$Network;)V"⟩ : MethodName) prog_26_method_1_code 12 none 47 (sStore 0 6 49) from g_istore d8_47) ?_
  refine okc_cons (show Good l Z hz shp A O (⟨"org/distinguo/graph/MinimumCostFlow", "<init>", "(Lorg/distinguo/graph/MinimumCostFlow$Network;)V"⟩ : MethodName) prog_26_method_1_code 12 none 49 (sLoad 0 6 51) from g_iload d8_49) ?_
  refine okc_cons (show Good l Z hz shp A O (⟨"org/distinguo/graph/MinimumCostFlow", "<init>", "(Lorg/distinguo/graph/MinimumCostFlow$Network;)V"⟩ : MethodName) prog_26_method_1_code 12 none 51 (sLoad 0 3 52) from g_iloadN d8_51) ?_
  refine okc_cons (show Good l Z hz shp A O (⟨"org/distinguo/graph/MinimumCostFlow", "<init>", "(Lorg/distinguo/graph/MinimumCostFlow$Network;)V"⟩ : MethodName) prog_26_method_1_code 12 none 52 (sIcmp .ge 109 55) from g_icmp d8_52 (by decide) (by decide)) ?_
  refine okc_cons (show Good l Z hz shp A O (⟨"org/distinguo/graph/MinimumCostFlow", "<init>", "(Lorg/distinguo/graph/MinimumCostFlow$Network;)V"⟩ : MethodName) prog_26_method_1_code 12 none 55 (sLoad 2 4 57) from g_aload d8_55) ?_
  refine okc_cons (show Good l Z hz shp A O (⟨"org/distinguo/graph/MinimumCostFlow", "<init>", "(Lorg/distinguo/graph/MinimumCostFlow$Network;)V"⟩ : MethodName) prog_26_method_1_code 12 none 57 (sLoad 2 1 58) from g_aloadN d8_57) ?_
  refine okc_cons (show Good l Z hz shp A O (⟨"org/distinguo/graph/MinimumCostFlow", "<init>", "(Lorg/distinguo/graph/MinimumCostFlow$Network;)V"⟩ : MethodName) prog_26_method_1_code 12 none 58 (sGetF 0 0 61) from g_getfieldRef (sid := 0) (i := 0) d8_58 rfl rfl (hw _ (List.mem_of_getElem? (i := 66) rfl))) ?_
  refine okc_cons (show Good l Z hz shp A O (⟨"org/distinguo/graph/MinimumCostFlow", "<init>", "(Lorg/distinguo/graph/MinimumCostFlow$Network;)V"⟩ : MethodName) prog_26_method_1_code 12 none 61 (sLoad 0 6 63) from g_iload d8_61) ?_
  refine okc_cons (fun m hm => by
    obtain rfl : m = (2, cd_9) := (Option.some.inj hm).symm
    exact (show CallGood l Z hz shp A O (⟨"org/distinguo/graph/MinimumCostFlow", "<init>", "(Lorg/distinguo/graph/MinimumCostFlow$Network;)V"⟩ : MethodName) prog_26_method_1_code 12 none (⟨"org/distinguo/model/IntList", "get", "(I)I"⟩ : MethodName) prog_99_method_3_code 2 (some .int) 63 2 66 (ckObj 1) from c_virtual (a0 := a0) (sid := 1) (hd := d8_63) (hpl := pl_9) (hdesc := pd_9) (hna := rfl) (hy := by decide) (w1 := (hw _ (List.mem_of_getElem? (i := 68) rfl))) (w2 := (hw _ (List.mem_of_getElem? (i := 70) rfl))) (w3 := (hw _ (List.mem_of_getElem? (i := 12) rfl))) (w4 := (hw _ (List.mem_of_getElem? (i := 72) rfl))) (hs := rfl) (w5 := (hw _ (List.mem_of_getElem? (i := 69) rfl))) (w6 := (hw _ (List.mem_of_getElem? (i := 71) rfl))))) ?_
  refine okc_cons (show Good l Z hz shp A O (⟨"org/distinguo/graph/MinimumCostFlow", "<init>", "(Lorg/distinguo/graph/MinimumCostFlow$Network;)V"⟩ : MethodName) prog_26_method_1_code 12 none 66 (sDup2 67) from g_dup2 d8_66) ?_
  refine okc_cons (show Good l Z hz shp A O (⟨"org/distinguo/graph/MinimumCostFlow", "<init>", "(Lorg/distinguo/graph/MinimumCostFlow$Network;)V"⟩ : MethodName) prog_26_method_1_code 12 none 67 (sAld 4 68) from g_iaload (sid := 4) d8_67 rfl) ?_
  refine okc_cons (show Good l Z hz shp A O (⟨"org/distinguo/graph/MinimumCostFlow", "<init>", "(Lorg/distinguo/graph/MinimumCostFlow$Network;)V"⟩ : MethodName) prog_26_method_1_code 12 none 68 (sPush (0, .int 1) 69) from g_iconst d8_68 rfl) ?_
  refine okc_cons (show Good l Z hz shp A O (⟨"org/distinguo/graph/MinimumCostFlow", "<init>", "(Lorg/distinguo/graph/MinimumCostFlow$Network;)V"⟩ : MethodName) prog_26_method_1_code 12 none 69 (sBin 0 0 0 (jI Term.add) 70) from g_iadd d8_69) ?_
  refine okc_cons (show Good l Z hz shp A O (⟨"org/distinguo/graph/MinimumCostFlow", "<init>", "(Lorg/distinguo/graph/MinimumCostFlow$Network;)V"⟩ : MethodName) prog_26_method_1_code 12 none 70 (sAst 4 .int 71) from g_iastore (sid := 4) d8_70 rfl) ?_
  refine okc_cons (show Good l Z hz shp A O (⟨"org/distinguo/graph/MinimumCostFlow", "<init>", "(Lorg/distinguo/graph/MinimumCostFlow$Network;)V"⟩ : MethodName) prog_26_method_1_code 12 none 71 (sLoad 2 4 73) from g_aload d8_71) ?_
  refine okc_cons (show Good l Z hz shp A O (⟨"org/distinguo/graph/MinimumCostFlow", "<init>", "(Lorg/distinguo/graph/MinimumCostFlow$Network;)V"⟩ : MethodName) prog_26_method_1_code 12 none 73 (sLoad 2 1 74) from g_aloadN d8_73) ?_
  refine okc_cons (show Good l Z hz shp A O (⟨"org/distinguo/graph/MinimumCostFlow", "<init>", "(Lorg/distinguo/graph/MinimumCostFlow$Network;)V"⟩ : MethodName) prog_26_method_1_code 12 none 74 (sGetF 0 1 77) from g_getfieldRef (sid := 0) (i := 1) d8_74 rfl rfl (hw _ (List.mem_of_getElem? (i := 73) rfl))) ?_
  refine okc_cons (show Good l Z hz shp A O (⟨"org/distinguo/graph/MinimumCostFlow", "<init>", "(Lorg/distinguo/graph/MinimumCostFlow$Network;)V"⟩ : MethodName) prog_26_method_1_code 12 none 77 (sLoad 0 6 79) from g_iload d8_77) ?_
  refine okc_cons (fun m hm => by
    obtain rfl : m = (2, cd_9) := (Option.some.inj hm).symm
    exact (show CallGood l Z hz shp A O (⟨"org/distinguo/graph/MinimumCostFlow", "<init>", "(Lorg/distinguo/graph/MinimumCostFlow$Network;)V"⟩ : MethodName) prog_26_method_1_code 12 none (⟨"org/distinguo/model/IntList", "get", "(I)I"⟩ : MethodName) prog_99_method_3_code 2 (some .int) 79 2 82 (ckObj 1) from c_virtual (a0 := a0) (sid := 1) (hd := d8_79) (hpl := pl_9) (hdesc := pd_9) (hna := rfl) (hy := by decide) (w1 := (hw _ (List.mem_of_getElem? (i := 68) rfl))) (w2 := (hw _ (List.mem_of_getElem? (i := 70) rfl))) (w3 := (hw _ (List.mem_of_getElem? (i := 12) rfl))) (w4 := (hw _ (List.mem_of_getElem? (i := 72) rfl))) (hs := rfl) (w5 := (hw _ (List.mem_of_getElem? (i := 69) rfl))) (w6 := (hw _ (List.mem_of_getElem? (i := 71) rfl))))) ?_
  refine okc_cons (show Good l Z hz shp A O (⟨"org/distinguo/graph/MinimumCostFlow", "<init>", "(Lorg/distinguo/graph/MinimumCostFlow$Network;)V"⟩ : MethodName) prog_26_method_1_code 12 none 82 (sDup2 83) from g_dup2 d8_82) ?_
  refine okc_cons (show Good l Z hz shp A O (⟨"org/distinguo/graph/MinimumCostFlow", "<init>", "(Lorg/distinguo/graph/MinimumCostFlow$Network;)V"⟩ : MethodName) prog_26_method_1_code 12 none 83 (sAld 4 84) from g_iaload (sid := 4) d8_83 rfl) ?_
  refine okc_cons (show Good l Z hz shp A O (⟨"org/distinguo/graph/MinimumCostFlow", "<init>", "(Lorg/distinguo/graph/MinimumCostFlow$Network;)V"⟩ : MethodName) prog_26_method_1_code 12 none 84 (sPush (0, .int 1) 85) from g_iconst d8_84 rfl) ?_
  refine okc_cons (show Good l Z hz shp A O (⟨"org/distinguo/graph/MinimumCostFlow", "<init>", "(Lorg/distinguo/graph/MinimumCostFlow$Network;)V"⟩ : MethodName) prog_26_method_1_code 12 none 85 (sBin 0 0 0 (jI Term.add) 86) from g_iadd d8_85) ?_
  refine okc_cons (show Good l Z hz shp A O (⟨"org/distinguo/graph/MinimumCostFlow", "<init>", "(Lorg/distinguo/graph/MinimumCostFlow$Network;)V"⟩ : MethodName) prog_26_method_1_code 12 none 86 (sAst 4 .int 87) from g_iastore (sid := 4) d8_86 rfl) ?_
  refine okc_cons (show Good l Z hz shp A O (⟨"org/distinguo/graph/MinimumCostFlow", "<init>", "(Lorg/distinguo/graph/MinimumCostFlow$Network;)V"⟩ : MethodName) prog_26_method_1_code 12 none 87 (sLoad 2 5 89) from g_aload d8_87) ?_
  refine okc_cons (show Good l Z hz shp A O (⟨"org/distinguo/graph/MinimumCostFlow", "<init>", "(Lorg/distinguo/graph/MinimumCostFlow$Network;)V"⟩ : MethodName) prog_26_method_1_code 12 none 89 (sLoad 2 1 90) from g_aloadN d8_89) ?_
  refine okc_cons (show Good l Z hz shp A O (⟨"org/distinguo/graph/MinimumCostFlow", "<init>", "(Lorg/distinguo/graph/MinimumCostFlow$Network;)V"⟩ : MethodName) prog_26_method_1_code 12 none 90 (sGetF 0 0 93) from g_getfieldRef (sid := 0) (i := 0) d8_90 rfl rfl (hw _ (List.mem_of_getElem? (i := 66) rfl))) ?_
  refine okc_cons (show Good l Z hz shp A O (⟨"org/distinguo/graph/MinimumCostFlow", "<init>", "(Lorg/distinguo/graph/MinimumCostFlow$Network;)V"⟩ : MethodName) prog_26_method_1_code 12 none 93 (sLoad 0 6 95) from g_iload d8_93) ?_
  refine okc_cons (fun m hm => by
    obtain rfl : m = (2, cd_9) := (Option.some.inj hm).symm
    exact (show CallGood l Z hz shp A O (⟨"org/distinguo/graph/MinimumCostFlow", "<init>", "(Lorg/distinguo/graph/MinimumCostFlow$Network;)V"⟩ : MethodName) prog_26_method_1_code 12 none (⟨"org/distinguo/model/IntList", "get", "(I)I"⟩ : MethodName) prog_99_method_3_code 2 (some .int) 95 2 98 (ckObj 1) from c_virtual (a0 := a0) (sid := 1) (hd := d8_95) (hpl := pl_9) (hdesc := pd_9) (hna := rfl) (hy := by decide) (w1 := (hw _ (List.mem_of_getElem? (i := 68) rfl))) (w2 := (hw _ (List.mem_of_getElem? (i := 70) rfl))) (w3 := (hw _ (List.mem_of_getElem? (i := 12) rfl))) (w4 := (hw _ (List.mem_of_getElem? (i := 72) rfl))) (hs := rfl) (w5 := (hw _ (List.mem_of_getElem? (i := 69) rfl))) (w6 := (hw _ (List.mem_of_getElem? (i := 71) rfl))))) ?_
  refine okc_cons (show Good l Z hz shp A O (⟨"org/distinguo/graph/MinimumCostFlow", "<init>", "(Lorg/distinguo/graph/MinimumCostFlow$Network;)V"⟩ : MethodName) prog_26_method_1_code 12 none 98 (sDup2 99) from g_dup2 d8_98) ?_
  refine okc_cons (show Good l Z hz shp A O (⟨"org/distinguo/graph/MinimumCostFlow", "<init>", "(Lorg/distinguo/graph/MinimumCostFlow$Network;)V"⟩ : MethodName) prog_26_method_1_code 12 none 99 (sAld 4 100) from g_iaload (sid := 4) d8_99 rfl) ?_
  refine okc_cons (show Good l Z hz shp A O (⟨"org/distinguo/graph/MinimumCostFlow", "<init>", "(Lorg/distinguo/graph/MinimumCostFlow$Network;)V"⟩ : MethodName) prog_26_method_1_code 12 none 100 (sPush (0, .int 1) 101) from g_iconst d8_100 rfl) ?_
  refine okc_cons (show Good l Z hz shp A O (⟨"org/distinguo/graph/MinimumCostFlow", "<init>", "(Lorg/distinguo/graph/MinimumCostFlow$Network;)V"⟩ : MethodName) prog_26_method_1_code 12 none 101 (sBin 0 0 0 (jI Term.add) 102) from g_iadd d8_101) ?_
  refine okc_cons (show Good l Z hz shp A O (⟨"org/distinguo/graph/MinimumCostFlow", "<init>", "(Lorg/distinguo/graph/MinimumCostFlow$Network;)V"⟩ : MethodName) prog_26_method_1_code 12 none 102 (sAst 4 .int 103) from g_iastore (sid := 4) d8_102 rfl) ?_
  refine okc_cons (show Good l Z hz shp A O (⟨"org/distinguo/graph/MinimumCostFlow", "<init>", "(Lorg/distinguo/graph/MinimumCostFlow$Network;)V"⟩ : MethodName) prog_26_method_1_code 12 none 103 (sIinc 6 1 106) from g_iinc d8_103 rfl) ?_
  refine okc_cons (show Good l Z hz shp A O (⟨"org/distinguo/graph/MinimumCostFlow", "<init>", "(Lorg/distinguo/graph/MinimumCostFlow$Network;)V"⟩ : MethodName) prog_26_method_1_code 12 none 106 (sGoto 49) from g_goto d8_106 (by decide) (by decide)) ?_
  refine okc_cons (show Good l Z hz shp A O (⟨"org/distinguo/graph/MinimumCostFlow", "<init>", "(Lorg/distinguo/graph/MinimumCostFlow$Network;)V"⟩ : MethodName) prog_26_method_1_code 12 none 109 (sLoad 2 0 110) from g_aloadN d8_109) ?_
  refine okc_cons (show Good l Z hz shp A O (⟨"org/distinguo/graph/MinimumCostFlow", "<init>", "(Lorg/distinguo/graph/MinimumCostFlow$Network;)V"⟩ : MethodName) prog_26_method_1_code 12 none 110 (sLoad 0 2 111) from g_iloadN d8_110) ?_
  refine okc_cons (show Good l Z hz shp A O (⟨"org/distinguo/graph/MinimumCostFlow", "<init>", "(Lorg/distinguo/graph/MinimumCostFlow$Network;)V"⟩ : MethodName) prog_26_method_1_code 12 none 111 (sPush (0, .int 1) 112) from g_iconst d8_111 rfl) ?_
  refine okc_cons (show Good l Z hz shp A O (⟨"org/distinguo/graph/MinimumCostFlow", "<init>", "(Lorg/distinguo/graph/MinimumCostFlow$Network;)V"⟩ : MethodName) prog_26_method_1_code 12 none 112 (sBin 0 0 0 (jI Term.add) 113) from g_iadd d8_112) ?_
  refine okc_cons (show Good l Z hz shp A O (⟨"org/distinguo/graph/MinimumCostFlow", "<init>", "(Lorg/distinguo/graph/MinimumCostFlow$Network;)V"⟩ : MethodName) prog_26_method_1_code 12 none 113 (sNewA 4 .int 115) from g_newarray (sid := 4) d8_113 rfl (by decide) (hw _ (List.mem_of_getElem? (i := 17) rfl))) ?_
  refine okc_cons (show Good l Z hz shp A O (⟨"org/distinguo/graph/MinimumCostFlow", "<init>", "(Lorg/distinguo/graph/MinimumCostFlow$Network;)V"⟩ : MethodName) prog_26_method_1_code 12 none 115 (sPutF 2 2 (.array .int) 118) from g_putfield (sid := 2) (i := 2) (R0 := "org/distinguo/graph/MinimumCostFlow") d8_115 rfl (sok_2 hw) rfl (by decide) (hw _ (List.mem_of_getElem? (i := 74) rfl)) Via.refl (Or.inr ⟨(hw _ (List.mem_of_getElem? (i := 75) rfl)), rfl, rfl⟩)) ?_
  refine okc_cons (show Good l Z hz shp A O (⟨"org/distinguo/graph/MinimumCostFlow", "<init>", "(Lorg/distinguo/graph/MinimumCostFlow$Network;)V"⟩ : MethodName) prog_26_method_1_code 12 none 118 (sLoad 2 0 119) from g_aloadN d8_118) ?_
  refine okc_cons (show Good l Z hz shp A O (⟨"org/distinguo/graph/MinimumCostFlow", "<init>", "(Lorg/distinguo/graph/MinimumCostFlow$Network;)V"⟩ : MethodName) prog_26_method_1_code 12 none 119 (sLoad 0 2 120) from g_iloadN d8_119) ?_
  refine okc_cons (show Good l Z hz shp A O (⟨"org/distinguo/graph/MinimumCostFlow", "<init>", "(Lorg/distinguo/graph/MinimumCostFlow$Network;)V"⟩ : MethodName) prog_26_method_1_code 12 none 120 (sPush (0, .int 1) 121) from g_iconst d8_120 rfl) ?_
  refine okc_cons (show Good l Z hz shp A O (⟨"org/distinguo/graph/MinimumCostFlow", "<init>", "(Lorg/distinguo/graph/MinimumCostFlow$Network;)V"⟩ : MethodName) prog_26_method_1_code 12 none 121 (sBin 0 0 0 (jI Term.add) 122) from g_iadd d8_121) ?_
  refine okc_cons (show Good l Z hz shp A O (⟨"org/distinguo/graph/MinimumCostFlow", "<init>", "(Lorg/distinguo/graph/MinimumCostFlow$Network;)V"⟩ : MethodName) prog_26_method_1_code 12 none 122 (sNewA 4 .int 124) from g_newarray (sid := 4) d8_122 rfl (by decide) (hw _ (List.mem_of_getElem? (i := 17) rfl))) ?_
  refine okc_cons (show Good l Z hz shp A O (⟨"org/distinguo/graph/MinimumCostFlow", "<init>", "(Lorg/distinguo/graph/MinimumCostFlow$Network;)V"⟩ : MethodName) prog_26_method_1_code 12 none 124 (sPutF 2 3 (.array .int) 127) from g_putfield (sid := 2) (i := 3) (R0 := "org/distinguo/graph/MinimumCostFlow") d8_124 rfl (sok_2 hw) rfl (by decide) (hw _ (List.mem_of_getElem? (i := 76) rfl)) Via.refl (Or.inr ⟨(hw _ (List.mem_of_getElem? (i := 77) rfl)), rfl, rfl⟩)) ?_
  refine okc_cons (show Good l Z hz shp A O (⟨"org/distinguo/graph/MinimumCostFlow", "<init>", "(Lorg/distinguo/graph/MinimumCostFlow$Network;)V"⟩ : MethodName) prog_26_method_1_code 12 none 127 (sPush (0, .int 0) 128) from g_iconst d8_127 rfl) ?_
  refine okc_cons (show Good l Z hz shp A O (⟨"org/distinguo/graph/MinimumCostFlow", "<init>", "(Lorg/distinguo/graph/MinimumCostFlow$Network;)V"⟩ : MethodName) prog_26_method_1_code 12 none 128 (sStore 0 6 130) from g_istore d8_128) ?_
  refine okc_cons (show Good l Z hz shp A O (⟨"org/distinguo/graph/MinimumCostFlow", "<init>", "(Lorg/distinguo/graph/MinimumCostFlow$Network;)V"⟩ : MethodName) prog_26_method_1_code 12 none 130 (sLoad 0 6 132) from g_iload d8_130) ?_
  refine okc_cons (show Good l Z hz shp A O (⟨"org/distinguo/graph/MinimumCostFlow", "<init>", "(Lorg/distinguo/graph/MinimumCostFlow$Network;)V"⟩ : MethodName) prog_26_method_1_code 12 none 132 (sLoad 0 2 133) from g_iloadN d8_132) ?_
  refine okc_cons (show Good l Z hz shp A O (⟨"org/distinguo/graph/MinimumCostFlow", "<init>", "(Lorg/distinguo/graph/MinimumCostFlow$Network;)V"⟩ : MethodName) prog_26_method_1_code 12 none 133 (sIcmp .ge 186 136) from g_icmp d8_133 (by decide) (by decide)) ?_
  refine okc_cons (show Good l Z hz shp A O (⟨"org/distinguo/graph/MinimumCostFlow", "<init>", "(Lorg/distinguo/graph/MinimumCostFlow$Network;)V"⟩ : MethodName) prog_26_method_1_code 12 none 136 (sLoad 2 0 137) from g_aloadN d8_136) ?_
  refine okc_cons (show Good l Z hz shp A O (⟨"org/distinguo/graph/MinimumCostFlow", "<init>", "(Lorg/distinguo/graph/MinimumCostFlow$Network;)V"⟩ : MethodName) prog_26_method_1_code 12 none 137 (sGetF 2 2 140) from g_getfield (sid := 2) (i := 2) (R0 := "org/distinguo/graph/MinimumCostFlow") (host := "") d8_137 rfl rfl (Or.inl (hw _ (List.mem_of_getElem? (i := 74) rfl))) Via.refl) ?_
  refine okc_cons (show Good l Z hz shp A O (⟨"org/distinguo/graph/MinimumCostFlow", "<init>", "(Lorg/distinguo/graph/MinimumCostFlow$Network;)V"⟩ : MethodName) prog_26_method_1_code 12 none 140 (sLoad 0 6 142) from g_iload d8_140) ?_
  refine okc_cons (show Good l Z hz shp A O (⟨"org/distinguo/graph/MinimumCostFlow", "<init>", "(Lorg/distinguo/graph/MinimumCostFlow$Network;)V"⟩ : MethodName) prog_26_method_1_code 12 none 142 (sPush (0, .int 1) 143) from g_iconst d8_142 rfl) ?_
  refine okc_cons (show Good l Z hz shp A O (⟨"org/distinguo/graph/MinimumCostFlow", "<init>", "(Lorg/distinguo/graph/MinimumCostFlow$Network;)V"⟩ : MethodName) prog_26_method_1_code 12 none 143 (sBin 0 0 0 (jI Term.add) 144) from g_iadd d8_143) ?_
  refine okc_cons (show Good l Z hz shp A O (⟨"org/distinguo/graph/MinimumCostFlow", "<init>", "(Lorg/distinguo/graph/MinimumCostFlow$Network;)V"⟩ : MethodName) prog_26_method_1_code 12 none 144 (sLoad 2 0 145) from g_aloadN d8_144) ?_
  refine okc_cons (show Good l Z hz shp A O (⟨"org/distinguo/graph/MinimumCostFlow", "<init>", "(Lorg/distinguo/graph/MinimumCostFlow$Network;)V"⟩ : MethodName) prog_26_method_1_code 12 none 145 (sGetF 2 2 148) from g_getfield (sid := 2) (i := 2) (R0 := "org/distinguo/graph/MinimumCostFlow") (host := "") d8_145 rfl rfl (Or.inl (hw _ (List.mem_of_getElem? (i := 74) rfl))) Via.refl) ?_
  refine okc_cons (show Good l Z hz shp A O (⟨"org/distinguo/graph/MinimumCostFlow", "<init>", "(Lorg/distinguo/graph/MinimumCostFlow$Network;)V"⟩ : MethodName) prog_26_method_1_code 12 none 148 (sLoad 0 6 150) from g_iload d8_148) ?_
  refine okc_cons (show Good l Z hz shp A O (⟨"org/distinguo/graph/MinimumCostFlow", "<init>", "(Lorg/distinguo/graph/MinimumCostFlow$Network;)V"⟩ : MethodName) prog_26_method_1_code 12 none 150 (sAld 4 151) from g_iaload (sid := 4) d8_150 rfl) ?_
  refine okc_cons (show Good l Z hz shp A O (⟨"org/distinguo/graph/MinimumCostFlow", "<init>", "(Lorg/distinguo/graph/MinimumCostFlow$Network;)V"⟩ : MethodName) prog_26_method_1_code 12 none 151 (sLoad 2 4 153) from g_aload d8_151) ?_
  refine okc_cons (show Good l Z hz shp A O (⟨"org/distinguo/graph/MinimumCostFlow", "<init>", "(Lorg/distinguo/graph/MinimumCostFlow$Network;)V"⟩ : MethodName) prog_26_method_1_code 12 none 153 (sLoad 0 6 155) from g_iload d8_153) ?_
  refine okc_cons (show Good l Z hz shp A O (⟨"org/distinguo/graph/MinimumCostFlow", "<init>", "(Lorg/distinguo/graph/MinimumCostFlow$Network;)V"⟩ : MethodName) prog_26_method_1_code 12 none 155 (sAld 4 156) from g_iaload (sid := 4) d8_155 rfl) ?_
  refine okc_cons (show Good l Z hz shp A O (⟨"org/distinguo/graph/MinimumCostFlow", "<init>", "(Lorg/distinguo/graph/MinimumCostFlow$Network;)V"⟩ : MethodName) prog_26_method_1_code 12 none 156 (sBin 0 0 0 (jI Term.add) 157) from g_iadd d8_156) ?_
  refine okc_cons (show Good l Z hz shp A O (⟨"org/distinguo/graph/MinimumCostFlow", "<init>", "(Lorg/distinguo/graph/MinimumCostFlow$Network;)V"⟩ : MethodName) prog_26_method_1_code 12 none 157 (sAst 4 .int 158) from g_iastore (sid := 4) d8_157 rfl) ?_
  refine okc_cons (show Good l Z hz shp A O (⟨"org/distinguo/graph/MinimumCostFlow", "<init>", "(Lorg/distinguo/graph/MinimumCostFlow$Network;)V"⟩ : MethodName) prog_26_method_1_code 12 none 158 (sLoad 2 0 159) from g_aloadN d8_158) ?_
  refine okc_cons (show Good l Z hz shp A O (⟨"org/distinguo/graph/MinimumCostFlow", "<init>", "(Lorg/distinguo/graph/MinimumCostFlow$Network;)V"⟩ : MethodName) prog_26_method_1_code 12 none 159 (sGetF 2 3 162) from g_getfield (sid := 2) (i := 3) (R0 := "org/distinguo/graph/MinimumCostFlow") (host := "") d8_159 rfl rfl (Or.inl (hw _ (List.mem_of_getElem? (i := 76) rfl))) Via.refl) ?_
  refine okc_cons (show Good l Z hz shp A O (⟨"org/distinguo/graph/MinimumCostFlow", "<init>", "(Lorg/distinguo/graph/MinimumCostFlow$Network;)V"⟩ : MethodName) prog_26_method_1_code 12 none 162 (sLoad 0 6 164) from g_iload d8_162) ?_
  refine okc_cons (show Good l Z hz shp A O (⟨"org/distinguo/graph/MinimumCostFlow", "<init>", "(Lorg/distinguo/graph/MinimumCostFlow$Network;)V"⟩ : MethodName) prog_26_method_1_code 12 none 164 (sPush (0, .int 1) 165) from g_iconst d8_164 rfl) ?_
  refine okc_cons (show Good l Z hz shp A O (⟨"org/distinguo/graph/MinimumCostFlow", "<init>", "(Lorg/distinguo/graph/MinimumCostFlow$Network;)V"⟩ : MethodName) prog_26_method_1_code 12 none 165 (sBin 0 0 0 (jI Term.add) 166) from g_iadd d8_165) ?_
  refine okc_cons (show Good l Z hz shp A O (⟨"org/distinguo/graph/MinimumCostFlow", "<init>", "(Lorg/distinguo/graph/MinimumCostFlow$Network;)V"⟩ : MethodName) prog_26_method_1_code 12 none 166 (sLoad 2 0 167) from g_aloadN d8_166) ?_
  refine okc_cons (show Good l Z hz shp A O (⟨"org/distinguo/graph/MinimumCostFlow", "<init>", "(Lorg/distinguo/graph/MinimumCostFlow$Network;)V"⟩ : MethodName) prog_26_method_1_code 12 none 167 (sGetF 2 3 170) from g_getfield (sid := 2) (i := 3) (R0 := "org/distinguo/graph/MinimumCostFlow") (host := "") d8_167 rfl rfl (Or.inl (hw _ (List.mem_of_getElem? (i := 76) rfl))) Via.refl) ?_
  refine okc_cons (show Good l Z hz shp A O (⟨"org/distinguo/graph/MinimumCostFlow", "<init>", "(Lorg/distinguo/graph/MinimumCostFlow$Network;)V"⟩ : MethodName) prog_26_method_1_code 12 none 170 (sLoad 0 6 172) from g_iload d8_170) ?_
  refine okc_cons (show Good l Z hz shp A O (⟨"org/distinguo/graph/MinimumCostFlow", "<init>", "(Lorg/distinguo/graph/MinimumCostFlow$Network;)V"⟩ : MethodName) prog_26_method_1_code 12 none 172 (sAld 4 173) from g_iaload (sid := 4) d8_172 rfl) ?_
  refine okc_cons (show Good l Z hz shp A O (⟨"org/distinguo/graph/MinimumCostFlow", "<init>", "(Lorg/distinguo/graph/MinimumCostFlow$Network;)V"⟩ : MethodName) prog_26_method_1_code 12 none 173 (sLoad 2 5 175) from g_aload d8_173) ?_
  refine okc_cons (show Good l Z hz shp A O (⟨"org/distinguo/graph/MinimumCostFlow", "<init>", "(Lorg/distinguo/graph/MinimumCostFlow$Network;)V"⟩ : MethodName) prog_26_method_1_code 12 none 175 (sLoad 0 6 177) from g_iload d8_175) ?_
  refine okc_cons (show Good l Z hz shp A O (⟨"org/distinguo/graph/MinimumCostFlow", "<init>", "(Lorg/distinguo/graph/MinimumCostFlow$Network;)V"⟩ : MethodName) prog_26_method_1_code 12 none 177 (sAld 4 178) from g_iaload (sid := 4) d8_177 rfl) ?_
  refine okc_cons (show Good l Z hz shp A O (⟨"org/distinguo/graph/MinimumCostFlow", "<init>", "(Lorg/distinguo/graph/MinimumCostFlow$Network;)V"⟩ : MethodName) prog_26_method_1_code 12 none 178 (sBin 0 0 0 (jI Term.add) 179) from g_iadd d8_178) ?_
  refine okc_cons (show Good l Z hz shp A O (⟨"org/distinguo/graph/MinimumCostFlow", "<init>", "(Lorg/distinguo/graph/MinimumCostFlow$Network;)V"⟩ : MethodName) prog_26_method_1_code 12 none 179 (sAst 4 .int 180) from g_iastore (sid := 4) d8_179 rfl) ?_
  refine okc_cons (show Good l Z hz shp A O (⟨"org/distinguo/graph/MinimumCostFlow", "<init>", "(Lorg/distinguo/graph/MinimumCostFlow$Network;)V"⟩ : MethodName) prog_26_method_1_code 12 none 180 (sIinc 6 1 183) from g_iinc d8_180 rfl) ?_
  refine okc_cons (show Good l Z hz shp A O (⟨"org/distinguo/graph/MinimumCostFlow", "<init>", "(Lorg/distinguo/graph/MinimumCostFlow$Network;)V"⟩ : MethodName) prog_26_method_1_code 12 none 183 (sGoto 130) from g_goto d8_183 (by decide) (by decide)) ?_
  refine okc_cons (show Good l Z hz shp A O (⟨"org/distinguo/graph/MinimumCostFlow", "<init>", "(Lorg/distinguo/graph/MinimumCostFlow$Network;)V"⟩ : MethodName) prog_26_method_1_code 12 none 186 (sLoad 2 0 187) from g_aloadN d8_186) ?_
  refine okc_cons (show Good l Z hz shp A O (⟨"org/distinguo/graph/MinimumCostFlow", "<init>", "(Lorg/distinguo/graph/MinimumCostFlow$Network;)V"⟩ : MethodName) prog_26_method_1_code 12 none 187 (sPush (0, .int 2) 188) from g_iconst d8_187 rfl) ?_
  refine okc_cons (show Good l Z hz shp A O (⟨"org/distinguo/graph/MinimumCostFlow", "<init>", "(Lorg/distinguo/graph/MinimumCostFlow$Network;)V"⟩ : MethodName) prog_26_method_1_code 12 none 188 (sLoad 0 3 189) from g_iloadN d8_188) ?_
  refine okc_cons (show Good l Z hz shp A O (⟨"org/distinguo/graph/MinimumCostFlow", "<init>", "(Lorg/distinguo/graph/MinimumCostFlow$Network;)V"⟩ : MethodName) prog_26_method_1_code 12 none 189 (sBin 0 0 0 (jI Term.mul) 190) from g_imul d8_189) ?_
  refine okc_cons (show Good l Z hz shp A O (⟨"org/distinguo/graph/MinimumCostFlow", "<init>", "(Lorg/distinguo/graph/MinimumCostFlow$Network;)V"⟩ : MethodName) prog_26_method_1_code 12 none 190 (sNewA 4 .int 192) from g_newarray (sid := 4) d8_190 rfl (by decide) (hw _ (List.mem_of_getElem? (i := 17) rfl))) ?_
  refine okc_cons (show Good l Z hz shp A O (⟨"org/distinguo/graph/MinimumCostFlow", "<init>", "(Lorg/distinguo/graph/MinimumCostFlow$Network;)V"⟩ : MethodName) prog_26_method_1_code 12 none 192 (sPutF 2 4 (.array .int) 195) from g_putfield (sid := 2) (i := 4) (R0 := "org/distinguo/graph/MinimumCostFlow") d8_192 rfl (sok_2 hw) rfl (by decide) (hw _ (List.mem_of_getElem? (i := 78) rfl)) Via.refl (Or.inr ⟨(hw _ (List.mem_of_getElem? (i := 79) rfl)), rfl, rfl⟩)) ?_
  refine okc_cons (show Good l Z hz shp A O (⟨"org/distinguo/graph/MinimumCostFlow", "<init>", "(Lorg/distinguo/graph/MinimumCostFlow$Network;)V"⟩ : MethodName) prog_26_method_1_code 12 none 195 (sLoad 2 0 196) from g_aloadN d8_195) ?_
  refine okc_cons (show Good l Z hz shp A O (⟨"org/distinguo/graph/MinimumCostFlow", "<init>", "(Lorg/distinguo/graph/MinimumCostFlow$Network;)V"⟩ : MethodName) prog_26_method_1_code 12 none 196 (sPush (0, .int 2) 197) from g_iconst d8_196 rfl) ?_
  refine okc_cons (show Good l Z hz shp A O (⟨"org/distinguo/graph/MinimumCostFlow", "<init>", "(Lorg/distinguo/graph/MinimumCostFlow$Network;)V"⟩ : MethodName) prog_26_method_1_code 12 none 197 (sLoad 0 3 198) from g_iloadN d8_197) ?_
  refine okc_cons (show Good l Z hz shp A O (⟨"org/distinguo/graph/MinimumCostFlow", "<init>", "(Lorg/distinguo/graph/MinimumCostFlow$Network;)V"⟩ : MethodName) prog_26_method_1_code 12 none 198 (sBin 0 0 0 (jI Term.mul) 199) from g_imul d8_198) ?_
  refine okc_cons (show Good l Z hz shp A O (⟨"org/distinguo/graph/MinimumCostFlow", "<init>", "(Lorg/distinguo/graph/MinimumCostFlow$Network;)V"⟩ : MethodName) prog_26_method_1_code 12 none 199 (sNewA 4 .int 201) from g_newarray (sid := 4) d8_199 rfl (by decide) (hw _ (List.mem_of_getElem? (i := 17) rfl))) ?_
  refine okc_cons (show Good l Z hz shp A O (⟨"org/distinguo/graph/MinimumCostFlow", "<init>", "(Lorg/distinguo/graph/MinimumCostFlow$Network;)V"⟩ : MethodName) prog_26_method_1_code 12 none 201 (sPutF 2 5 (.array .int) 204) from g_putfield (sid := 2) (i := 5) (R0 := "org/distinguo/graph/MinimumCostFlow") d8_201 rfl (sok_2 hw) rfl (by decide) (hw _ (List.mem_of_getElem? (i := 80) rfl)) Via.refl (Or.inr ⟨(hw _ (List.mem_of_getElem? (i := 81) rfl)), rfl, rfl⟩)) ?_
  refine okc_cons (show Good l Z hz shp A O (⟨"org/distinguo/graph/MinimumCostFlow", "<init>", "(Lorg/distinguo/graph/MinimumCostFlow$Network;)V"⟩ : MethodName) prog_26_method_1_code 12 none 204 (sLoad 2 0 205) from g_aloadN d8_204) ?_
  refine okc_cons (show Good l Z hz shp A O (⟨"org/distinguo/graph/MinimumCostFlow", "<init>", "(Lorg/distinguo/graph/MinimumCostFlow$Network;)V"⟩ : MethodName) prog_26_method_1_code 12 none 205 (sPush (0, .int 2) 206) from g_iconst d8_205 rfl) ?_
  refine okc_cons (show Good l Z hz shp A O (⟨"org/distinguo/graph/MinimumCostFlow", "<init>", "(Lorg/distinguo/graph/MinimumCostFlow$Network;)V"⟩ : MethodName) prog_26_method_1_code 12 none 206 (sLoad 0 3 207) from g_iloadN d8_206) ?_
  refine okc_cons (show Good l Z hz shp A O (⟨"org/distinguo/graph/MinimumCostFlow", "<init>", "(Lorg/distinguo/graph/MinimumCostFlow$Network;)V"⟩ : MethodName) prog_26_method_1_code 12 none 207 (sBin 0 0 0 (jI Term.mul) 208) from g_imul d8_207) ?_
  refine okc_cons (show Good l Z hz shp A O (⟨"org/distinguo/graph/MinimumCostFlow", "<init>", "(Lorg/distinguo/graph/MinimumCostFlow$Network;)V"⟩ : MethodName) prog_26_method_1_code 12 none 208 (sNewA 4 .int 210) from g_newarray (sid := 4) d8_208 rfl (by decide) (hw _ (List.mem_of_getElem? (i := 17) rfl))) ?_
  refine okc_cons (show Good l Z hz shp A O (⟨"org/distinguo/graph/MinimumCostFlow", "<init>", "(Lorg/distinguo/graph/MinimumCostFlow$Network;)V"⟩ : MethodName) prog_26_method_1_code 12 none 210 (sPutF 2 6 (.array .int) 213) from g_putfield (sid := 2) (i := 6) (R0 := "org/distinguo/graph/MinimumCostFlow") d8_210 rfl (sok_2 hw) rfl (by decide) (hw _ (List.mem_of_getElem? (i := 82) rfl)) Via.refl (Or.inr ⟨(hw _ (List.mem_of_getElem? (i := 83) rfl)), rfl, rfl⟩)) ?_
  refine okc_cons (show Good l Z hz shp A O (⟨"org/distinguo/graph/MinimumCostFlow", "<init>", "(Lorg/distinguo/graph/MinimumCostFlow$Network;)V"⟩ : MethodName) prog_26_method_1_code 12 none 213 (sLoad 2 0 214) from g_aloadN d8_213) ?_
  refine okc_cons (show Good l Z hz shp A O (⟨"org/distinguo/graph/MinimumCostFlow", "<init>", "(Lorg/distinguo/graph/MinimumCostFlow$Network;)V"⟩ : MethodName) prog_26_method_1_code 12 none 214 (sPush (0, .int 2) 215) from g_iconst d8_214 rfl) ?_
  refine okc_cons (show Good l Z hz shp A O (⟨"org/distinguo/graph/MinimumCostFlow", "<init>", "(Lorg/distinguo/graph/MinimumCostFlow$Network;)V"⟩ : MethodName) prog_26_method_1_code 12 none 215 (sLoad 0 3 216) from g_iloadN d8_215) ?_
  refine okc_cons (show Good l Z hz shp A O (⟨"org/distinguo/graph/MinimumCostFlow", "<init>", "(Lorg/distinguo/graph/MinimumCostFlow$Network;)V"⟩ : MethodName) prog_26_method_1_code 12 none 216 (sBin 0 0 0 (jI Term.mul) 217) from g_imul d8_216) ?_
  refine okc_cons (show Good l Z hz shp A O (⟨"org/distinguo/graph/MinimumCostFlow", "<init>", "(Lorg/distinguo/graph/MinimumCostFlow$Network;)V"⟩ : MethodName) prog_26_method_1_code 12 none 217 (sNewA 4 .int 219) from g_newarray (sid := 4) d8_217 rfl (by decide) (hw _ (List.mem_of_getElem? (i := 17) rfl))) ?_
  refine okc_cons (show Good l Z hz shp A O (⟨"org/distinguo/graph/MinimumCostFlow", "<init>", "(Lorg/distinguo/graph/MinimumCostFlow$Network;)V"⟩ : MethodName) prog_26_method_1_code 12 none 219 (sPutF 2 7 (.array .int) 222) from g_putfield (sid := 2) (i := 7) (R0 := "org/distinguo/graph/MinimumCostFlow") d8_219 rfl (sok_2 hw) rfl (by decide) (hw _ (List.mem_of_getElem? (i := 84) rfl)) Via.refl (Or.inr ⟨(hw _ (List.mem_of_getElem? (i := 85) rfl)), rfl, rfl⟩)) ?_
  refine okc_cons (show Good l Z hz shp A O (⟨"org/distinguo/graph/MinimumCostFlow", "<init>", "(Lorg/distinguo/graph/MinimumCostFlow$Network;)V"⟩ : MethodName) prog_26_method_1_code 12 none 222 (sLoad 2 0 223) from g_aloadN d8_222) ?_
  refine okc_cons (show Good l Z hz shp A O (⟨"org/distinguo/graph/MinimumCostFlow", "<init>", "(Lorg/distinguo/graph/MinimumCostFlow$Network;)V"⟩ : MethodName) prog_26_method_1_code 12 none 223 (sPush (0, .int 2) 224) from g_iconst d8_223 rfl) ?_
  refine okc_cons (show Good l Z hz shp A O (⟨"org/distinguo/graph/MinimumCostFlow", "<init>", "(Lorg/distinguo/graph/MinimumCostFlow$Network;)V"⟩ : MethodName) prog_26_method_1_code 12 none 224 (sLoad 0 3 225) from g_iloadN d8_224) ?_
  refine okc_cons (show Good l Z hz shp A O (⟨"org/distinguo/graph/MinimumCostFlow", "<init>", "(Lorg/distinguo/graph/MinimumCostFlow$Network;)V"⟩ : MethodName) prog_26_method_1_code 12 none 225 (sBin 0 0 0 (jI Term.mul) 226) from g_imul d8_225) ?_
  refine okc_cons (show Good l Z hz shp A O (⟨"org/distinguo/graph/MinimumCostFlow", "<init>", "(Lorg/distinguo/graph/MinimumCostFlow$Network;)V"⟩ : MethodName) prog_26_method_1_code 12 none 226 (sNewA 4 .int 228) from g_newarray (sid := 4) d8_226 rfl (by decide) (hw _ (List.mem_of_getElem? (i := 17) rfl))) ?_
  refine okc_cons (show Good l Z hz shp A O (⟨"org/distinguo/graph/MinimumCostFlow", "<init>", "(Lorg/distinguo/graph/MinimumCostFlow$Network;)V"⟩ : MethodName) prog_26_method_1_code 12 none 228 (sPutF 2 8 (.array .int) 231) from g_putfield (sid := 2) (i := 8) (R0 := "org/distinguo/graph/MinimumCostFlow") d8_228 rfl (sok_2 hw) rfl (by decide) (hw _ (List.mem_of_getElem? (i := 86) rfl)) Via.refl (Or.inr ⟨(hw _ (List.mem_of_getElem? (i := 87) rfl)), rfl, rfl⟩)) ?_
  refine okc_cons (show Good l Z hz shp A O (⟨"org/distinguo/graph/MinimumCostFlow", "<init>", "(Lorg/distinguo/graph/MinimumCostFlow$Network;)V"⟩ : MethodName) prog_26_method_1_code 12 none 231 (sLoad 2 0 232) from g_aloadN d8_231) ?_
  refine okc_cons (show Good l Z hz shp A O (⟨"org/distinguo/graph/MinimumCostFlow", "<init>", "(Lorg/distinguo/graph/MinimumCostFlow$Network;)V"⟩ : MethodName) prog_26_method_1_code 12 none 232 (sPush (0, .int 2) 233) from g_iconst d8_232 rfl) ?_
  refine okc_cons (show Good l Z hz shp A O (⟨"org/distinguo/graph/MinimumCostFlow", "<init>", "(Lorg/distinguo/graph/MinimumCostFlow$Network;)V"⟩ : MethodName) prog_26_method_1_code 12 none 233 (sLoad 0 3 234) from g_iloadN d8_233) ?_
  refine okc_cons (show Good l Z hz shp A O (⟨"org/distinguo/graph/MinimumCostFlow", "<init>", "(Lorg/distinguo/graph/MinimumCostFlow$Network;)V"⟩ : MethodName) prog_26_method_1_code 12 none 234 (sBin 0 0 0 (jI Term.mul) 235) from g_imul d8_234) ?_
  refine okc_cons (show Good l Z hz shp A O (⟨"org/distinguo/graph/MinimumCostFlow", "<init>", "(Lorg/distinguo/graph/MinimumCostFlow$Network;)V"⟩ : MethodName) prog_26_method_1_code 12 none 235 (sNewA 6 .boolean 237) from g_newarray (sid := 6) d8_235 rfl (by decide) (hw _ (List.mem_of_getElem? (i := 88) rfl))) ?_
  refine okc_cons (show Good l Z hz shp A O (⟨"org/distinguo/graph/MinimumCostFlow", "<init>", "(Lorg/distinguo/graph/MinimumCostFlow$Network;)V"⟩ : MethodName) prog_26_method_1_code 12 none 237 (sPutF 2 9 (.array .boolean) 240) from g_putfield (sid := 2) (i := 9) (R0 := "org/distinguo/graph/MinimumCostFlow") d8_237 rfl (sok_2 hw) rfl (by decide) (hw _ (List.mem_of_getElem? (i := 89) rfl)) Via.refl (Or.inr ⟨(hw _ (List.mem_of_getElem? (i := 90) rfl)), rfl, rfl⟩)) ?_
  refine okc_cons (show Good l Z hz shp A O (⟨"org/distinguo/graph/MinimumCostFlow", "<init>", "(Lorg/distinguo/graph/MinimumCostFlow$Network;)V"⟩ : MethodName) prog_26_method_1_code 12 none 240 (sLoad 2 0 241) from g_aloadN d8_240) ?_
  refine okc_cons (show Good l Z hz shp A O (⟨"org/distinguo/graph/MinimumCostFlow", "<init>", "(Lorg/distinguo/graph/MinimumCostFlow$Network;)V"⟩ : MethodName) prog_26_method_1_code 12 none 241 (sLoad 0 3 242) from g_iloadN d8_241) ?_
  refine okc_cons (show Good l Z hz shp A O (⟨"org/distinguo/graph/MinimumCostFlow", "<init>", "(Lorg/distinguo/graph/MinimumCostFlow$Network;)V"⟩ : MethodName) prog_26_method_1_code 12 none 242 (sNewA 4 .int 244) from g_newarray (sid := 4) d8_242 rfl (by decide) (hw _ (List.mem_of_getElem? (i := 17) rfl))) ?_
  refine okc_cons (show Good l Z hz shp A O (⟨"org/distinguo/graph/MinimumCostFlow", "<init>", "(Lorg/distinguo/graph/MinimumCostFlow$Network;)V"⟩ : MethodName) prog_26_method_1_code 12 none 244 (sPutF 2 10 (.array .int) 247) from g_putfield (sid := 2) (i := 10) (R0 := "org/distinguo/graph/MinimumCostFlow") d8_244 rfl (sok_2 hw) rfl (by decide) (hw _ (List.mem_of_getElem? (i := 91) rfl)) Via.refl (Or.inr ⟨(hw _ (List.mem_of_getElem? (i := 92) rfl)), rfl, rfl⟩)) ?_
  refine okc_cons (show Good l Z hz shp A O (⟨"org/distinguo/graph/MinimumCostFlow", "<init>", "(Lorg/distinguo/graph/MinimumCostFlow$Network;)V"⟩ : MethodName) prog_26_method_1_code 12 none 247 (sLoad 2 0 248) from g_aloadN d8_247) ?_
  refine okc_cons (show Good l Z hz shp A O (⟨"org/distinguo/graph/MinimumCostFlow", "<init>", "(Lorg/distinguo/graph/MinimumCostFlow$Network;)V"⟩ : MethodName) prog_26_method_1_code 12 none 248 (sGetF 2 2 251) from g_getfield (sid := 2) (i := 2) (R0 := "org/distinguo/graph/MinimumCostFlow") (host := "") d8_248 rfl rfl (Or.inl (hw _ (List.mem_of_getElem? (i := 74) rfl))) Via.refl) ?_
  refine okc_cons (show Good l Z hz shp A O (⟨"org/distinguo/graph/MinimumCostFlow", "<init>", "(Lorg/distinguo/graph/MinimumCostFlow$Network;)V"⟩ : MethodName) prog_26_method_1_code 12 none 251 (sLoad 0 2 252) from g_iloadN d8_251) ?_
  refine okc_cons (fun m hm => by
    obtain rfl : m = (3, cd_10) := (Option.some.inj hm).symm
    exact (show CallGood l Z hz shp A O (⟨"org/distinguo/graph/MinimumCostFlow", "<init>", "(Lorg/distinguo/graph/MinimumCostFlow$Network;)V"⟩ : MethodName) prog_26_method_1_code 12 none (⟨"java/util/Arrays", "copyOf", "([II)[I"⟩ : MethodName) jdk_65_method_123_code 3 (some (.array .int)) 252 2 255 (ckAny) from c_static (a0 := a0) (hd := d8_252) (hpl := pl_10) (hdesc := pd_10) (hna := rfl) (hy := by decide) (w1 := (hw _ (List.mem_of_getElem? (i := 93) rfl))) (w2 := (hw _ (List.mem_of_getElem? (i := 94) rfl))) (w3 := (hw _ (List.mem_of_getElem? (i := 95) rfl))) (w4 := (hw _ (List.mem_of_getElem? (i := 96) rfl))))) ?_
  refine okc_cons (show Good l Z hz shp A O (⟨"org/distinguo/graph/MinimumCostFlow", "<init>", "(Lorg/distinguo/graph/MinimumCostFlow$Network;)V"⟩ : MethodName) prog_26_method_1_code 12 none 255 (sStore 2 6 257) from g_astore d8_255) ?_
  refine okc_cons (show Good l Z hz shp A O (⟨"org/distinguo/graph/MinimumCostFlow", "<init>", "(Lorg/distinguo/graph/MinimumCostFlow$Network;)V"⟩ : MethodName) prog_26_method_1_code 12 none 257 (sPush (0, .int 0) 258) from g_iconst d8_257 rfl) ?_
  refine okc_cons (show Good l Z hz shp A O (⟨"org/distinguo/graph/MinimumCostFlow", "<init>", "(Lorg/distinguo/graph/MinimumCostFlow$Network;)V"⟩ : MethodName) prog_26_method_1_code 12 none 258 (sStore 0 7 260) from g_istore d8_258) ?_
  refine okc_cons (show Good l Z hz shp A O (⟨"org/distinguo/graph/MinimumCostFlow", "<init>", "(Lorg/distinguo/graph/MinimumCostFlow$Network;)V"⟩ : MethodName) prog_26_method_1_code 12 none 260 (sLoad 0 7 262) from g_iload d8_260) ?_
  refine okc_cons (show Good l Z hz shp A O (⟨"org/distinguo/graph/MinimumCostFlow", "<init>", "(Lorg/distinguo/graph/MinimumCostFlow$Network;)V"⟩ : MethodName) prog_26_method_1_code 12 none 262 (sLoad 0 3 263) from g_iloadN d8_262) ?_
  refine okc_cons (show Good l Z hz shp A O (⟨"org/distinguo/graph/MinimumCostFlow", "<init>", "(Lorg/distinguo/graph/MinimumCostFlow$Network;)V"⟩ : MethodName) prog_26_method_1_code 12 none 263 (sIcmp .ge 434 266) from g_icmp d8_263 (by decide) (by decide)) ?_
  refine okc_cons (show Good l Z hz shp A O (⟨"org/distinguo/graph/MinimumCostFlow", "<init>", "(Lorg/distinguo/graph/MinimumCostFlow$Network;)V"⟩ : MethodName) prog_26_method_1_code 12 none 266 (sLoad 2 1 267) from g_aloadN d8_266) ?_
  refine okc_cons (show Good l Z hz shp A O (⟨"org/distinguo/graph/MinimumCostFlow", "<init>", "(Lorg/distinguo/graph/MinimumCostFlow$Network;)V"⟩ : MethodName) prog_26_method_1_code 12 none 267 (sGetF 0 0 270) from g_getfieldRef (sid := 0) (i := 0) d8_267 rfl rfl (hw _ (List.mem_of_getElem? (i := 66) rfl))) ?_
  refine okc_cons (show Good l Z hz shp A O (⟨"org/distinguo/graph/MinimumCostFlow", "<init>", "(Lorg/distinguo/graph/MinimumCostFlow$Network;)V"⟩ : MethodName) prog_26_method_1_code 12 none 270 (sLoad 0 7 272) from g_iload d8_270) ?_
  refine okc_cons (fun m hm => by
    obtain rfl : m = (2, cd_9) := (Option.some.inj hm).symm
    exact (show CallGood l Z hz shp A O (⟨"org/distinguo/graph/MinimumCostFlow", "<init>", "(Lorg/distinguo/graph/MinimumCostFlow$Network;)V"⟩ : MethodName) prog_26_method_1_code 12 none (⟨"org/distinguo/model/IntList", "get", "(I)I"⟩ : MethodName) prog_99_method_3_code 2 (some .int) 272 2 275 (ckObj 1) from c_virtual (a0 := a0) (sid := 1) (hd := d8_272) (hpl := pl_9) (hdesc := pd_9) (hna := rfl) (hy := by decide) (w1 := (hw _ (List.mem_of_getElem? (i := 68) rfl))) (w2 := (hw _ (List.mem_of_getElem? (i := 70) rfl))) (w3 := (hw _ (List.mem_of_getElem? (i := 12) rfl))) (w4 := (hw _ (List.mem_of_getElem? (i := 72) rfl))) (hs := rfl) (w5 := (hw _ (List.mem_of_getElem? (i := 69) rfl))) (w6 := (hw _ (List.mem_of_getElem? (i := 71) rfl))))) ?_
  refine okc_cons (show Good l Z hz shp A O (⟨"org/distinguo/graph/MinimumCostFlow", "<init>", "(Lorg/distinguo/graph/MinimumCostFlow$Network;)V"⟩ : MethodName) prog_26_method_1_code 12 none 275 (sStore 0 8 277) from g_istore d8_275) ?_
  refine okc_cons (show Good l Z hz shp A O (⟨"org/distinguo/graph/MinimumCostFlow", "<init>", "(Lorg/distinguo/graph/MinimumCostFlow$Network;)V"⟩ : MethodName) prog_26_method_1_code 12 none 277 (sLoad 2 1 278) from g_aloadN d8_277) ?_
  refine okc_cons (show Good l Z hz shp A O (⟨"org/distinguo/graph/MinimumCostFlow", "<init>", "(Lorg/distinguo/graph/MinimumCostFlow$Network;)V"⟩ : MethodName) prog_26_method_1_code 12 none 278 (sGetF 0 1 281) from g_getfieldRef (sid := 0) (i := 1) d8_278 rfl rfl (hw _ (List.mem_of_getElem? (i := 73) rfl))) ?_
  refine okc_cons (show Good l Z hz shp A O (⟨"org/distinguo/graph/MinimumCostFlow", "<init>", "(Lorg/distinguo/graph/MinimumCostFlow$Network;)V"⟩ : MethodName) prog_26_method_1_code 12 none 281 (sLoad 0 7 283) from g_iload d8_281) ?_
  refine okc_cons (fun m hm => by
    obtain rfl : m = (2, cd_9) := (Option.some.inj hm).symm
    exact (show CallGood l Z hz shp A O (⟨"org/distinguo/graph/MinimumCostFlow", "<init>", "(Lorg/distinguo/graph/MinimumCostFlow$Network;)V"⟩ : MethodName) prog_26_method_1_code 12 none (⟨"org/distinguo/model/IntList", "get", "(I)I"⟩ : MethodName) prog_99_method_3_code 2 (some .int) 283 2 286 (ckObj 1) from c_virtual (a0 := a0) (sid := 1) (hd := d8_283) (hpl := pl_9) (hdesc := pd_9) (hna := rfl) (hy := by decide) (w1 := (hw _ (List.mem_of_getElem? (i := 68) rfl))) (w2 := (hw _ (List.mem_of_getElem? (i := 70) rfl))) (w3 := (hw _ (List.mem_of_getElem? (i := 12) rfl))) (w4 := (hw _ (List.mem_of_getElem? (i := 72) rfl))) (hs := rfl) (w5 := (hw _ (List.mem_of_getElem? (i := 69) rfl))) (w6 := (hw _ (List.mem_of_getElem? (i := 71) rfl))))) ?_
  refine okc_cons (show Good l Z hz shp A O (⟨"org/distinguo/graph/MinimumCostFlow", "<init>", "(Lorg/distinguo/graph/MinimumCostFlow$Network;)V"⟩ : MethodName) prog_26_method_1_code 12 none 286 (sStore 0 9 288) from g_istore d8_286) ?_
  refine okc_cons (show Good l Z hz shp A O (⟨"org/distinguo/graph/MinimumCostFlow", "<init>", "(Lorg/distinguo/graph/MinimumCostFlow$Network;)V"⟩ : MethodName) prog_26_method_1_code 12 none 288 (sLoad 2 6 290) from g_aload d8_288) ?_
  refine okc_cons (show Good l Z hz shp A O (⟨"org/distinguo/graph/MinimumCostFlow", "<init>", "(Lorg/distinguo/graph/MinimumCostFlow$Network;)V"⟩ : MethodName) prog_26_method_1_code 12 none 290 (sLoad 0 8 292) from g_iload d8_290) ?_
  refine okc_cons (show Good l Z hz shp A O (⟨"org/distinguo/graph/MinimumCostFlow", "<init>", "(Lorg/distinguo/graph/MinimumCostFlow$Network;)V"⟩ : MethodName) prog_26_method_1_code 12 none 292 (sDup2 293) from g_dup2 d8_292) ?_
  refine okc_cons (show Good l Z hz shp A O (⟨"org/distinguo/graph/MinimumCostFlow", "<init>", "(Lorg/distinguo/graph/MinimumCostFlow$Network;)V"⟩ : MethodName) prog_26_method_1_code 12 none 293 (sAld 4 294) from g_iaload (sid := 4) d8_293 rfl) ?_
  refine okc_cons (show Good l Z hz shp A O (⟨"org/distinguo/graph/MinimumCostFlow", "<init>", "(Lorg/distinguo/graph/MinimumCostFlow$Network;)V"⟩ : MethodName) prog_26_method_1_code 12 none 294 (sDupX2 295) from g_dupX2 d8_294) ?_
  refine okc_cons (show Good l Z hz shp A O (⟨"org/distinguo/graph/MinimumCostFlow", "<init>", "(Lorg/distinguo/graph/MinimumCostFlow$Network;)V"⟩ : MethodName) prog_26_method_1_code 12 none 295 (sPush (0, .int 1) 296) from g_iconst d8_295 rfl) ?_
  refine okc_cons (show Good l Z hz shp A O (⟨"org/distinguo/graph/MinimumCostFlow", "<init>", "(Lorg/distinguo/graph/MinimumCostFlow$Network;)V"⟩ : MethodName) prog_26_method_1_code 12 none 296 (sBin 0 0 0 (jI Term.add) 297) from g_iadd d8_296) ?_
  refine okc_cons (show Good l Z hz shp A O (⟨"org/distinguo/graph/MinimumCostFlow", "<init>", "(Lorg/distinguo/graph/MinimumCostFlow$Network;)V"⟩ : MethodName) prog_26_method_1_code 12 none 297 (sAst 4 .int 298) from g_iastore (sid := 4) d8_297 rfl) ?_
  refine okc_cons (show Good l Z hz shp A O (⟨"org/distinguo/graph/MinimumCostFlow", "<init>", "(Lorg/distinguo/graph/MinimumCostFlow$Network;)V"⟩ : MethodName) prog_26_method_1_code 12 none 298 (sStore 0 10 300) from g_istore d8_298) ?_
  refine okc_cons (show Good l Z hz shp A O (⟨"org/distinguo/graph/MinimumCostFlow", "<init>", "(Lorg/distinguo/graph/MinimumCostFlow$Network;)V"⟩ : MethodName) prog_26_method_1_code 12 none 300 (sLoad 2 6 302) from g_aload d8_300) ?_
  refine okc_cons (show Good l Z hz shp A O (⟨"org/distinguo/graph/MinimumCostFlow", "<init>", "(Lorg/distinguo/graph/MinimumCostFlow$Network;)V"⟩ : MethodName) prog_26_method_1_code 12 none 302 (sLoad 0 9 304) from g_iload d8_302) ?_
  refine okc_cons (show Good l Z hz shp A O (⟨"org/distinguo/graph/MinimumCostFlow", "<init>", "(Lorg/distinguo/graph/MinimumCostFlow$Network;)V"⟩ : MethodName) prog_26_method_1_code 12 none 304 (sDup2 305) from g_dup2 d8_304) ?_
  refine okc_cons (show Good l Z hz shp A O (⟨"org/distinguo/graph/MinimumCostFlow", "<init>", "(Lorg/distinguo/graph/MinimumCostFlow$Network;)V"⟩ : MethodName) prog_26_method_1_code 12 none 305 (sAld 4 306) from g_iaload (sid := 4) d8_305 rfl) ?_
  refine okc_cons (show Good l Z hz shp A O (⟨"org/distinguo/graph/MinimumCostFlow", "<init>", "(Lorg/distinguo/graph/MinimumCostFlow$Network;)V"⟩ : MethodName) prog_26_method_1_code 12 none 306 (sDupX2 307) from g_dupX2 d8_306) ?_
  refine okc_cons (show Good l Z hz shp A O (⟨"org/distinguo/graph/MinimumCostFlow", "<init>", "(Lorg/distinguo/graph/MinimumCostFlow$Network;)V"⟩ : MethodName) prog_26_method_1_code 12 none 307 (sPush (0, .int 1) 308) from g_iconst d8_307 rfl) ?_
  refine okc_cons (show Good l Z hz shp A O (⟨"org/distinguo/graph/MinimumCostFlow", "<init>", "(Lorg/distinguo/graph/MinimumCostFlow$Network;)V"⟩ : MethodName) prog_26_method_1_code 12 none 308 (sBin 0 0 0 (jI Term.add) 309) from g_iadd d8_308) ?_
  refine okc_cons (show Good l Z hz shp A O (⟨"org/distinguo/graph/MinimumCostFlow", "<init>", "(Lorg/distinguo/graph/MinimumCostFlow$Network;)V"⟩ : MethodName) prog_26_method_1_code 12 none 309 (sAst 4 .int 310) from g_iastore (sid := 4) d8_309 rfl) ?_
  refine okc_cons (show Good l Z hz shp A O (⟨"org/distinguo/graph/MinimumCostFlow", "<init>", "(Lorg/distinguo/graph/MinimumCostFlow$Network;)V"⟩ : MethodName) prog_26_method_1_code 12 none 310 (sStore 0 11 312) from g_istore d8_310) ?_
  refine okc_cons (show Good l Z hz shp A O (⟨"org/distinguo/graph/MinimumCostFlow", "<init>", "(Lorg/distinguo/graph/MinimumCostFlow$Network;)V"⟩ : MethodName) prog_26_method_1_code 12 none 312 (sLoad 2 0 313) from g_aloadN d8_312) ?_
  refine okc_cons (show Good l Z hz shp A O (⟨"org/distinguo/graph/MinimumCostFlow", "<init>", "(Lorg/distinguo/graph/MinimumCostFlow$Network;)V"⟩ : MethodName) prog_26_method_1_code 12 none 313 (sGetF 2 10 316) from g_getfield (sid := 2) (i := 10) (R0 := "org/distinguo/graph/MinimumCostFlow") (host := "") d8_313 rfl rfl (Or.inl (hw _ (List.mem_of_getElem? (i := 91) rfl))) Via.refl) ?_
  refine okc_cons (show Good l Z hz shp A O (⟨"org/distinguo/graph/MinimumCostFlow", "<init>", "(Lorg/distinguo/graph/MinimumCostFlow$Network;)V"⟩ : MethodName) prog_26_method_1_code 12 none 316 (sLoad 0 7 318) from g_iload d8_316) ?_
  refine okc_cons (show Good l Z hz shp A O (⟨"org/distinguo/graph/MinimumCostFlow", "<init>", "(Lorg/distinguo/graph/MinimumCostFlow$Network;)V"⟩ : MethodName) prog_26_method_1_code 12 none 318 (sLoad 0 10 320) from g_iload d8_318) ?_
  refine okc_cons (show Good l Z hz shp A O (⟨"org/distinguo/graph/MinimumCostFlow", "<init>", "(Lorg/distinguo/graph/MinimumCostFlow$Network;)V"⟩ : MethodName) prog_26_method_1_code 12 none 320 (sAst 4 .int 321) from g_iastore (sid := 4) d8_320 rfl) ?_
  refine okc_cons (show Good l Z hz shp A O (⟨"org/distinguo/graph/MinimumCostFlow", "<init>", "(Lorg/distinguo/graph/MinimumCostFlow$Network;)V"⟩ : MethodName) prog_26_method_1_code 12 none 321 (sLoad 2 0 322) from g_aloadN d8_321) ?_
  refine okc_cons (show Good l Z hz shp A O (⟨"org/distinguo/graph/MinimumCostFlow", "<init>", "(Lorg/distinguo/graph/MinimumCostFlow$Network;)V"⟩ : MethodName) prog_26_method_1_code 12 none 322 (sGetF 2 4 325) from g_getfield (sid := 2) (i := 4) (R0 := "org/distinguo/graph/MinimumCostFlow") (host := "") d8_322 rfl rfl (Or.inl (hw _ (List.mem_of_getElem? (i := 78) rfl))) Via.refl) ?_
  refine okc_cons (show Good l Z hz shp A O (⟨"org/distinguo/graph/MinimumCostFlow", "<init>", "(Lorg/distinguo/graph/MinimumCostFlow$Network;)V"⟩ : MethodName) prog_26_method_1_code 12 none 325 (sLoad 0 10 327) from g_iload d8_325) ?_
  refine okc_cons (show Good l Z hz shp A O (⟨"org/distinguo/graph/MinimumCostFlow", "<init>", "(Lorg/distinguo/graph/MinimumCostFlow$Network;)V"⟩ : MethodName) prog_26_method_1_code 12 none 327 (sLoad 0 9 329) from g_iload d8_327) ?_
  refine okc_cons (show Good l Z hz shp A O (⟨"org/distinguo/graph/MinimumCostFlow", "<init>", "(Lorg/distinguo/graph/MinimumCostFlow$Network;)V"⟩ : MethodName) prog_26_method_1_code 12 none 329 (sAst 4 .int 330) from g_iastore (sid := 4) d8_329 rfl) ?_
  refine okc_cons (show Good l Z hz shp A O (⟨"org/distinguo/graph/MinimumCostFlow", "<init>", "(Lorg/distinguo/graph/MinimumCostFlow$Network;)V"⟩ : MethodName) prog_26_method_1_code 12 none 330 (sLoad 2 0 331) from g_aloadN d8_330) ?_
  refine okc_cons (show Good l Z hz shp A O (⟨"org/distinguo/graph/MinimumCostFlow", "<init>", "(Lorg/distinguo/graph/MinimumCostFlow$Network;)V"⟩ : MethodName) prog_26_method_1_code 12 none 331 (sGetF 2 5 334) from g_getfield (sid := 2) (i := 5) (R0 := "org/distinguo/graph/MinimumCostFlow") (host := "") d8_331 rfl rfl (Or.inl (hw _ (List.mem_of_getElem? (i := 80) rfl))) Via.refl) ?_
  refine okc_cons (show Good l Z hz shp A O (⟨"org/distinguo/graph/MinimumCostFlow", "<init>", "(Lorg/distinguo/graph/MinimumCostFlow$Network;)V"⟩ : MethodName) prog_26_method_1_code 12 none 334 (sLoad 0 10 336) from g_iload d8_334) ?_
  refine okc_cons (show Good l Z hz shp A O (⟨"org/distinguo/graph/MinimumCostFlow", "<init>", "(Lorg/distinguo/graph/MinimumCostFlow$Network;)V"⟩ : MethodName) prog_26_method_1_code 12 none 336 (sLoad 2 1 337) from g_aloadN d8_336) ?_
  refine okc_cons (show Good l Z hz shp A O (⟨"org/distinguo/graph/MinimumCostFlow", "<init>", "(Lorg/distinguo/graph/MinimumCostFlow$Network;)V"⟩ : MethodName) prog_26_method_1_code 12 none 337 (sGetF 0 2 340) from g_getfieldRef (sid := 0) (i := 2) d8_337 rfl rfl (hw _ (List.mem_of_getElem? (i := 105) rfl))) ?_
  refine okc_cons (show Good l Z hz shp A O (⟨"org/distinguo/graph/MinimumCostFlow", "<init>", "(Lorg/distinguo/graph/MinimumCostFlow$Network;)V"⟩ : MethodName) prog_26_method_1_code 12 none 340 (sLoad 0 7 342) from g_iload d8_340) ?_
  refine okc_cons (fun m hm => by
    obtain rfl : m = (2, cd_9) := (Option.some.inj hm).symm
    exact (show CallGood l Z hz shp A O (⟨"org/distinguo/graph/MinimumCostFlow", "<init>", "(Lorg/distinguo/graph/MinimumCostFlow$Network;)V"⟩ : MethodName) prog_26_method_1_code 12 none (⟨"org/distinguo/model/IntList", "get", "(I)I"⟩ : MethodName) prog_99_method_3_code 2 (some .int) 342 2 345 (ckObj 1) from c_virtual (a0 := a0) (sid := 1) (hd := d8_342) (hpl := pl_9) (hdesc := pd_9) (hna := rfl) (hy := by decide) (w1 := (hw _ (List.mem_of_getElem? (i := 68) rfl))) (w2 := (hw _ (List.mem_of_getElem? (i := 70) rfl))) (w3 := (hw _ (List.mem_of_getElem? (i := 12) rfl))) (w4 := (hw _ (List.mem_of_getElem? (i := 72) rfl))) (hs := rfl) (w5 := (hw _ (List.mem_of_getElem? (i := 69) rfl))) (w6 := (hw _ (List.mem_of_getElem? (i := 71) rfl))))) ?_
  refine okc_cons (show Good l Z hz shp A O (⟨"org/distinguo/graph/MinimumCostFlow", "<init>", "(Lorg/distinguo/graph/MinimumCostFlow$Network;)V"⟩ : MethodName) prog_26_method_1_code 12 none 345 (sAst 4 .int 346) from g_iastore (sid := 4) d8_345 rfl) ?_
  refine okc_cons (show Good l Z hz shp A O (⟨"org/distinguo/graph/MinimumCostFlow", "<init>", "(Lorg/distinguo/graph/MinimumCostFlow$Network;)V"⟩ : MethodName) prog_26_method_1_code 12 none 346 (sLoad 2 0 347) from g_aloadN d8_346) ?_
  refine okc_cons (show Good l Z hz shp A O (⟨"org/distinguo/graph/MinimumCostFlow", "<init>", "(Lorg/distinguo/graph/MinimumCostFlow$Network;)V"⟩ : MethodName) prog_26_method_1_code 12 none 347 (sGetF 2 6 350) from g_getfield (sid := 2) (i := 6) (R0 := "org/distinguo/graph/MinimumCostFlow") (host := "") d8_347 rfl rfl (Or.inl (hw _ (List.mem_of_getElem? (i := 82) rfl))) Via.refl) ?_
  refine okc_cons (show Good l Z hz shp A O (⟨"org/distinguo/graph/MinimumCostFlow", "<init>", "(Lorg/distinguo/graph/MinimumCostFlow$Network;)V"⟩ : MethodName) prog_26_method_1_code 12 none 350 (sLoad 0 10 352) from g_iload d8_350) ?_
  refine okc_cons (show Good l Z hz shp A O (⟨"org/distinguo/graph/MinimumCostFlow", "<init>", "(Lorg/distinguo/graph/MinimumCostFlow$Network;)V"⟩ : MethodName) prog_26_method_1_code 12 none 352 (sLoad 2 1 353) from g_aloadN d8_352) ?_
  refine okc_cons (show Good l Z hz shp A O (⟨"org/distinguo/graph/MinimumCostFlow", "<init>", "(Lorg/distinguo/graph/MinimumCostFlow$Network;)V"⟩ : MethodName) prog_26_method_1_code 12 none 353 (sGetF 0 3 356) from g_getfieldRef (sid := 0) (i := 3) d8_353 rfl rfl (hw _ (List.mem_of_getElem? (i := 106) rfl))) ?_
  refine okc_cons (show Good l Z hz shp A O (⟨"org/distinguo/graph/MinimumCostFlow", "<init>", "(Lorg/distinguo/graph/MinimumCostFlow$Network;)V"⟩ : MethodName) prog_26_method_1_code 12 none 356 (sLoad 0 7 358) from g_iload d8_356) ?_
  refine okc_cons (fun m hm => by
    obtain rfl : m = (2, cd_9) := (Option.some.inj hm).symm
    exact (show CallGood l Z hz shp A O (⟨"org/distinguo/graph/MinimumCostFlow", "<init>", "(Lorg/distinguo/graph/MinimumCostFlow$Network;)V"⟩ : MethodName) prog_26_method_1_code 12 none (⟨"org/distinguo/model/IntList", "get", "(I)I"⟩ : MethodName) prog_99_method_3_code 2 (some .int) 358 2 361 (ckObj 1) from c_virtual (a0 := a0) (sid := 1) (hd := d8_358) (hpl := pl_9) (hdesc := pd_9) (hna := rfl) (hy := by decide) (w1 := (hw _ (List.mem_of_getElem? (i := 68) rfl))) (w2 := (hw _ (List.mem_of_getElem? (i := 70) rfl))) (w3 := (hw _ (List.mem_of_getElem? (i := 12) rfl))) (w4 := (hw _ (List.mem_of_getElem? (i := 72) rfl))) (hs := rfl) (w5 := (hw _ (List.mem_of_getElem? (i := 69) rfl))) (w6 := (hw _ (List.mem_of_getElem? (i := 71) rfl))))) ?_
  refine okc_cons (show Good l Z hz shp A O (⟨"org/distinguo/graph/MinimumCostFlow", "<init>", "(Lorg/distinguo/graph/MinimumCostFlow$Network;)V"⟩ : MethodName) prog_26_method_1_code 12 none 361 (sAst 4 .int 362) from g_iastore (sid := 4) d8_361 rfl) ?_
  refine okc_cons (show Good l Z hz shp A O (⟨"org/distinguo/graph/MinimumCostFlow", "<init>", "(Lorg/distinguo/graph/MinimumCostFlow$Network;)V"⟩ : MethodName) prog_26_method_1_code 12 none 362 (sLoad 2 0 363) from g_aloadN d8_362) ?_
  refine okc_cons (show Good l Z hz shp A O (⟨"org/distinguo/graph/MinimumCostFlow", "<init>", "(Lorg/distinguo/graph/MinimumCostFlow$Network;)V"⟩ : MethodName) prog_26_method_1_code 12 none 363 (sGetF 2 8 366) from g_getfield (sid := 2) (i := 8) (R0 := "org/distinguo/graph/MinimumCostFlow") (host := "") d8_363 rfl rfl (Or.inl (hw _ (List.mem_of_getElem? (i := 86) rfl))) Via.refl) ?_
  refine okc_cons (show Good l Z hz shp A O (⟨"org/distinguo/graph/MinimumCostFlow", "<init>", "(Lorg/distinguo/graph/MinimumCostFlow$Network;)V"⟩ : MethodName) prog_26_method_1_code 12 none 366 (sLoad 0 11 368) from g_iload d8_366) ?_
  refine okc_cons (show Good l Z hz shp A O (⟨"org/distinguo/graph/MinimumCostFlow", "<init>", "(Lorg/distinguo/graph/MinimumCostFlow$Network;)V"⟩ : MethodName) prog_26_method_1_code 12 none 368 (sLoad 2 0 369) from g_aloadN d8_368) ?_
  refine okc_cons (show Good l Z hz shp A O (⟨"org/distinguo/graph/MinimumCostFlow", "<init>", "(Lorg/distinguo/graph/MinimumCostFlow$Network;)V"⟩ : MethodName) prog_26_method_1_code 12 none 369 (sGetF 2 6 372) from g_getfield (sid := 2) (i := 6) (R0 := "org/distinguo/graph/MinimumCostFlow") (host := "") d8_369 rfl rfl (Or.inl (hw _ (List.mem_of_getElem? (i := 82) rfl))) Via.refl) ?_
  refine okc_cons (show Good l Z hz shp A O (⟨"org/distinguo/graph/MinimumCostFlow", "<init>", "(Lorg/distinguo/graph/MinimumCostFlow$Network;)V"⟩ : MethodName) prog_26_method_1_code 12 none 372 (sLoad 0 10 374) from g_iload d8_372) ?_
  refine okc_cons (show Good l Z hz shp A O (⟨"org/distinguo/graph/MinimumCostFlow", "<init>", "(Lorg/distinguo/graph/MinimumCostFlow$Network;)V"⟩ : MethodName) prog_26_method_1_code 12 none 374 (sAld 4 375) from g_iaload (sid := 4) d8_374 rfl) ?_
  refine okc_cons (show Good l Z hz shp A O (⟨"org/distinguo/graph/MinimumCostFlow", "<init>", "(Lorg/distinguo/graph/MinimumCostFlow$Network;)V"⟩ : MethodName) prog_26_method_1_code 12 none 375 (sAst 4 .int 376) from g_iastore (sid := 4) d8_375 rfl) ?_
  refine okc_cons (show Good l Z hz shp A O (⟨"org/distinguo/graph/MinimumCostFlow", "<init>", "(Lorg/distinguo/graph/MinimumCostFlow$Network;)V"⟩ : MethodName) prog_26_method_1_code 12 none 376 (sLoad 2 0 377) from g_aloadN d8_376) ?_
  refine okc_cons (show Good l Z hz shp A O (⟨"org/distinguo/graph/MinimumCostFlow", "<init>", "(Lorg/distinguo/graph/MinimumCostFlow$Network;)V"⟩ : MethodName) prog_26_method_1_code 12 none 377 (sGetF 2 7 380) from g_getfield (sid := 2) (i := 7) (R0 := "org/distinguo/graph/MinimumCostFlow") (host := "") d8_377 rfl rfl (Or.inl (hw _ (List.mem_of_getElem? (i := 84) rfl))) Via.refl) ?_
  refine okc_cons (show Good l Z hz shp A O (⟨"org/distinguo/graph/MinimumCostFlow", "<init>", "(Lorg/distinguo/graph/MinimumCostFlow$Network;)V"⟩ : MethodName) prog_26_method_1_code 12 none 380 (sLoad 0 10 382) from g_iload d8_380) ?_
  refine okc_cons (show Good l Z hz shp A O (⟨"org/distinguo/graph/MinimumCostFlow", "<init>", "(Lorg/distinguo/graph/MinimumCostFlow$Network;)V"⟩ : MethodName) prog_26_method_1_code 12 none 382 (sLoad 0 11 384) from g_iload d8_382) ?_
  refine okc_cons (show Good l Z hz shp A O (⟨"org/distinguo/graph/MinimumCostFlow", "<init>", "(Lorg/distinguo/graph/MinimumCostFlow$Network;)V"⟩ : MethodName) prog_26_method_1_code 12 none 384 (sAst 4 .int 385) from g_iastore (sid := 4) d8_384 rfl) ?_
  refine okc_cons (show Good l Z hz shp A O (⟨"org/distinguo/graph/MinimumCostFlow", "<init>", "(Lorg/distinguo/graph/MinimumCostFlow$Network;)V"⟩ : MethodName) prog_26_method_1_code 12 none 385 (sLoad 2 0 386) from g_aloadN d8_385) ?_
  refine okc_cons (show Good l Z hz shp A O (⟨"org/distinguo/graph/MinimumCostFlow", "<init>", "(Lorg/distinguo/graph/MinimumCostFlow$Network;)V"⟩ : MethodName) prog_26_method_1_code 12 none 386 (sGetF 2 9 389) from g_getfield (sid := 2) (i := 9) (R0 := "org/distinguo/graph/MinimumCostFlow") (host := "") d8_386 rfl rfl (Or.inl (hw _ (List.mem_of_getElem? (i := 89) rfl))) Via.refl) ?_
  refine okc_cons (show Good l Z hz shp A O (⟨"org/distinguo/graph/MinimumCostFlow", "<init>", "(Lorg/distinguo/graph/MinimumCostFlow$Network;)V"⟩ : MethodName) prog_26_method_1_code 12 none 389 (sLoad 0 10 391) from g_iload d8_389) ?_
  refine okc_cons (show Good l Z hz shp A O (⟨"org/distinguo/graph/MinimumCostFlow", "<init>", "(Lorg/distinguo/graph/MinimumCostFlow$Network;)V"⟩ : MethodName) prog_26_method_1_code 12 none 391 (sPush (0, .int 1) 392) from g_iconst d8_391 rfl) ?_
  refine okc_cons (show Good l Z hz shp A O (⟨"org/distinguo/graph/MinimumCostFlow", "<init>", "(Lorg/distinguo/graph/MinimumCostFlow$Network;)V"⟩ : MethodName) prog_26_method_1_code 12 none 392 (sAst 6 .boolean 393) from g_bastoreZ (sid := 6) d8_392 rfl) ?_
  refine okc_cons (show Good l Z hz shp A O (⟨"org/distinguo/graph/MinimumCostFlow", "<init>", "(Lorg/distinguo/graph/MinimumCostFlow$Network;)V"⟩ : MethodName) prog_26_method_1_code 12 none 393 (sLoad 2 0 394) from g_aloadN d8_393) ?_
  refine okc_cons (show Good l Z hz shp A O (⟨"org/distinguo/graph/MinimumCostFlow", "<init>", "(Lorg/distinguo/graph/MinimumCostFlow$Network;)V"⟩ : MethodName) prog_26_method_1_code 12 none 394 (sGetF 2 4 397) from g_getfield (sid := 2) (i := 4) (R0 := "org/distinguo/graph/MinimumCostFlow") (host := "") d8_394 rfl rfl (Or.inl (hw _ (List.mem_of_getElem? (i := 78) rfl))) Via.refl) ?_
  refine okc_cons (show Good l Z hz shp A O (⟨"org/distinguo/graph/MinimumCostFlow", "<init>", "(Lorg/distinguo/graph/MinimumCostFlow$Network;)V"⟩ : MethodName) prog_26_method_1_code 12 none 397 (sLoad 0 11 399) from g_iload d8_397) ?_
  refine okc_cons (show Good l Z hz shp A O (⟨"org/distinguo/graph/MinimumCostFlow", "<init>", "(Lorg/distinguo/graph/MinimumCostFlow$Network;)V"⟩ : MethodName) prog_26_method_1_code 12 none 399 (sLoad 0 8 401) from g_iload d8_399) ?_
  refine okc_cons (show Good l Z hz shp A O (⟨"org/distinguo/graph/MinimumCostFlow", "<init>", "(Lorg/distinguo/graph/MinimumCostFlow$Network;)V"⟩ : MethodName) prog_26_method_1_code 12 none 401 (sAst 4 .int 402) from g_iastore (sid := 4) d8_401 rfl) ?_
  refine okc_cons (show Good l Z hz shp A O (⟨"org/distinguo/graph/MinimumCostFlow", "<init>", "(Lorg/distinguo/graph/MinimumCostFlow$Network;)V"⟩ : MethodName) prog_26_method_1_code 12 none 402 (sLoad 2 0 403) from g_aloadN d8_402) ?_
  refine okc_cons (show Good l Z hz shp A O (⟨"org/distinguo/graph/MinimumCostFlow", "<init>", "(Lorg/distinguo/graph/MinimumCostFlow$Network;)V"⟩ : MethodName) prog_26_method_1_code 12 none 403 (sGetF 2 5 406) from g_getfield (sid := 2) (i := 5) (R0 := "org/distinguo/graph/MinimumCostFlow") (host := "") d8_403 rfl rfl (Or.inl (hw _ (List.mem_of_getElem? (i := 80) rfl))) Via.refl) ?_
  refine okc_cons (show Good l Z hz shp A O (⟨"org/distinguo/graph/MinimumCostFlow", "<init>", "(Lorg/distinguo/graph/MinimumCostFlow$Network;)V"⟩ : MethodName) prog_26_method_1_code 12 none 406 (sLoad 0 11 408) from g_iload d8_406) ?_
  refine okc_cons (show Good l Z hz shp A O (⟨"org/distinguo/graph/MinimumCostFlow", "<init>", "(Lorg/distinguo/graph/MinimumCostFlow$Network;)V"⟩ : MethodName) prog_26_method_1_code 12 none 408 (sLoad 2 1 409) from g_aloadN d8_408) ?_
  refine okc_cons (show Good l Z hz shp A O (⟨"org/distinguo/graph/MinimumCostFlow", "<init>", "(Lorg/distinguo/graph/MinimumCostFlow$Network;)V"⟩ : MethodName) prog_26_method_1_code 12 none 409 (sGetF 0 2 412) from g_getfieldRef (sid := 0) (i := 2) d8_409 rfl rfl (hw _ (List.mem_of_getElem? (i := 105) rfl))) ?_
  refine okc_cons (show Good l Z hz shp A O (⟨"org/distinguo/graph/MinimumCostFlow", "<init>", "(Lorg/distinguo/graph/MinimumCostFlow$Network;)V"⟩ : MethodName) prog_26_method_1_code 12 none 412 (sLoad 0 7 414) from g_iload d8_412) ?_
  refine okc_cons (fun m hm => by
    obtain rfl : m = (2, cd_9) := (Option.some.inj hm).symm
    exact (show CallGood l Z hz shp A O (⟨"org/distinguo/graph/MinimumCostFlow", "<init>", "(Lorg/distinguo/graph/MinimumCostFlow$Network;)V"⟩ : MethodName) prog_26_method_1_code 12 none (⟨"org/distinguo/model/IntList", "get", "(I)I"⟩ : MethodName) prog_99_method_3_code 2 (some .int) 414 2 417 (ckObj 1) from c_virtual (a0 := a0) (sid := 1) (hd := d8_414) (hpl := pl_9) (hdesc := pd_9) (hna := rfl) (hy := by decide) (w1 := (hw _ (List.mem_of_getElem? (i := 68) rfl))) (w2 := (hw _ (List.mem_of_getElem? (i := 70) rfl))) (w3 := (hw _ (List.mem_of_getElem? (i := 12) rfl))) (w4 := (hw _ (List.mem_of_getElem? (i := 72) rfl))) (hs := rfl) (w5 := (hw _ (List.mem_of_getElem? (i := 69) rfl))) (w6 := (hw _ (List.mem_of_getElem? (i := 71) rfl))))) ?_
  refine okc_cons (show Good l Z hz shp A O (⟨"org/distinguo/graph/MinimumCostFlow", "<init>", "(Lorg/distinguo/graph/MinimumCostFlow$Network;)V"⟩ : MethodName) prog_26_method_1_code 12 none 417 (sUn 0 0 (uI (Term.op1 .ineg)) 418) from g_ineg d8_417) ?_
  refine okc_cons (show Good l Z hz shp A O (⟨"org/distinguo/graph/MinimumCostFlow", "<init>", "(Lorg/distinguo/graph/MinimumCostFlow$Network;)V"⟩ : MethodName) prog_26_method_1_code 12 none 418 (sAst 4 .int 419) from g_iastore (sid := 4) d8_418 rfl) ?_
  refine okc_cons (show Good l Z hz shp A O (⟨"org/distinguo/graph/MinimumCostFlow", "<init>", "(Lorg/distinguo/graph/MinimumCostFlow$Network;)V"⟩ : MethodName) prog_26_method_1_code 12 none 419 (sLoad 2 0 420) from g_aloadN d8_419) ?_
  refine okc_cons (show Good l Z hz shp A O (⟨"org/distinguo/graph/MinimumCostFlow", "<init>", "(Lorg/distinguo/graph/MinimumCostFlow$Network;)V"⟩ : MethodName) prog_26_method_1_code 12 none 420 (sGetF 2 7 423) from g_getfield (sid := 2) (i := 7) (R0 := "org/distinguo/graph/MinimumCostFlow") (host := "") d8_420 rfl rfl (Or.inl (hw _ (List.mem_of_getElem? (i := 84) rfl))) Via.refl) ?_
  refine okc_cons (show Good l Z hz shp A O (⟨"org/distinguo/graph/MinimumCostFlow", "<init>", "(Lorg/distinguo/graph/MinimumCostFlow$Network;)V"⟩ : MethodName) prog_26_method_1_code 12 none 423 (sLoad 0 11 425) from g_iload d8_423) ?_
  refine okc_cons (show Good l Z hz shp A O (⟨"org/distinguo/graph/MinimumCostFlow", "<init>", "(Lorg/distinguo/graph/MinimumCostFlow$Network;)V"⟩ : MethodName) prog_26_method_1_code 12 none 425 (sLoad 0 10 427) from g_iload d8_425) ?_
  refine okc_cons (show Good l Z hz shp A O (⟨"org/distinguo/graph/MinimumCostFlow", "<init>", "(Lorg/distinguo/graph/MinimumCostFlow$Network;)V"⟩ : MethodName) prog_26_method_1_code 12 none 427 (sAst 4 .int 428) from g_iastore (sid := 4) d8_427 rfl) ?_
  refine okc_cons (show Good l Z hz shp A O (⟨"org/distinguo/graph/MinimumCostFlow", "<init>", "(Lorg/distinguo/graph/MinimumCostFlow$Network;)V"⟩ : MethodName) prog_26_method_1_code 12 none 428 (sIinc 7 1 431) from g_iinc d8_428 rfl) ?_
  refine okc_cons (show Good l Z hz shp A O (⟨"org/distinguo/graph/MinimumCostFlow", "<init>", "(Lorg/distinguo/graph/MinimumCostFlow$Network;)V"⟩ : MethodName) prog_26_method_1_code 12 none 431 (sGoto 260) from g_goto d8_431 (by decide) (by decide)) ?_
  refine okc_cons (show Good l Z hz shp A O (⟨"org/distinguo/graph/MinimumCostFlow", "<init>", "(Lorg/distinguo/graph/MinimumCostFlow$Network;)V"⟩ : MethodName) prog_26_method_1_code 12 none 434 (sLoad 2 0 435) from g_aloadN d8_434) ?_
  refine okc_cons (show Good l Z hz shp A O (⟨"org/distinguo/graph/MinimumCostFlow", "<init>", "(Lorg/distinguo/graph/MinimumCostFlow$Network;)V"⟩ : MethodName) prog_26_method_1_code 12 none 435 (sLoad 2 0 436) from g_aloadN d8_435) ?_
  refine okc_cons (show Good l Z hz shp A O (⟨"org/distinguo/graph/MinimumCostFlow", "<init>", "(Lorg/distinguo/graph/MinimumCostFlow$Network;)V"⟩ : MethodName) prog_26_method_1_code 12 none 436 (sGetF 2 3 439) from g_getfield (sid := 2) (i := 3) (R0 := "org/distinguo/graph/MinimumCostFlow") (host := "") d8_436 rfl rfl (Or.inl (hw _ (List.mem_of_getElem? (i := 76) rfl))) Via.refl) ?_
  refine okc_cons (show Good l Z hz shp A O (⟨"org/distinguo/graph/MinimumCostFlow", "<init>", "(Lorg/distinguo/graph/MinimumCostFlow$Network;)V"⟩ : MethodName) prog_26_method_1_code 12 none 439 (sLoad 0 2 440) from g_iloadN d8_439) ?_
  refine okc_cons (show Good l Z hz shp A O (⟨"org/distinguo/graph/MinimumCostFlow", "<init>", "(Lorg/distinguo/graph/MinimumCostFlow$Network;)V"⟩ : MethodName) prog_26_method_1_code 12 none 440 (sAld 4 441) from g_iaload (sid := 4) d8_440 rfl) ?_
  refine okc_cons (show Good l Z hz shp A O (⟨"org/distinguo/graph/MinimumCostFlow", "<init>", "(Lorg/distinguo/graph/MinimumCostFlow$Network;)V"⟩ : MethodName) prog_26_method_1_code 12 none 441 (sNewA 4 .int 443) from g_newarray (sid := 4) d8_441 rfl (by decide) (hw _ (List.mem_of_getElem? (i := 17) rfl))) ?_
  refine okc_cons (show Good l Z hz shp A O (⟨"org/distinguo/graph/MinimumCostFlow", "<init>", "(Lorg/distinguo/graph/MinimumCostFlow$Network;)V"⟩ : MethodName) prog_26_method_1_code 12 none 443 (sPutF 2 11 (.array .int) 446) from g_putfield (sid := 2) (i := 11) (R0 := "org/distinguo/graph/MinimumCostFlow") d8_443 rfl (sok_2 hw) rfl (by decide) (hw _ (List.mem_of_getElem? (i := 107) rfl)) Via.refl (Or.inr ⟨(hw _ (List.mem_of_getElem? (i := 108) rfl)), rfl, rfl⟩)) ?_
  refine okc_cons (show Good l Z hz shp A O (⟨"org/distinguo/graph/MinimumCostFlow", "<init>", "(Lorg/distinguo/graph/MinimumCostFlow$Network;)V"⟩ : MethodName) prog_26_method_1_code 12 none 446 (sLoad 2 0 447) from g_aloadN d8_446) ?_
  refine okc_cons (show Good l Z hz shp A O (⟨"org/distinguo/graph/MinimumCostFlow", "<init>", "(Lorg/distinguo/graph/MinimumCostFlow$Network;)V"⟩ : MethodName) prog_26_method_1_code 12 none 447 (sLoad 0 2 448) from g_iloadN d8_447) ?_
  refine okc_cons (show Good l Z hz shp A O (⟨"org/distinguo/graph/MinimumCostFlow", "<init>", "(Lorg/distinguo/graph/MinimumCostFlow$Network;)V"⟩ : MethodName) prog_26_method_1_code 12 none 448 (sNewA 4 .int 450) from g_newarray (sid := 4) d8_448 rfl (by decide) (hw _ (List.mem_of_getElem? (i := 17) rfl))) ?_
  refine okc_cons (show Good l Z hz shp A O (⟨"org/distinguo/graph/MinimumCostFlow", "<init>", "(Lorg/distinguo/graph/MinimumCostFlow$Network;)V"⟩ : MethodName) prog_26_method_1_code 12 none 450 (sPutF 2 12 (.array .int) 453) from g_putfield (sid := 2) (i := 12) (R0 := "org/distinguo/graph/MinimumCostFlow") d8_450 rfl (sok_2 hw) rfl (by decide) (hw _ (List.mem_of_getElem? (i := 109) rfl)) Via.refl (Or.inr ⟨(hw _ (List.mem_of_getElem? (i := 110) rfl)), rfl, rfl⟩)) ?_
  refine okc_cons (show Good l Z hz shp A O (⟨"org/distinguo/graph/MinimumCostFlow", "<init>", "(Lorg/distinguo/graph/MinimumCostFlow$Network;)V"⟩ : MethodName) prog_26_method_1_code 12 none 453 (sLoad 2 0 454) from g_aloadN d8_453) ?_
  refine okc_cons (show Good l Z hz shp A O (⟨"org/distinguo/graph/MinimumCostFlow", "<init>", "(Lorg/distinguo/graph/MinimumCostFlow$Network;)V"⟩ : MethodName) prog_26_method_1_code 12 none 454 (sPush (0, .int 2) 455) from g_iconst d8_454 rfl) ?_
  refine okc_cons (show Good l Z hz shp A O (⟨"org/distinguo/graph/MinimumCostFlow", "<init>", "(Lorg/distinguo/graph/MinimumCostFlow$Network;)V"⟩ : MethodName) prog_26_method_1_code 12 none 455 (sLoad 0 3 456) from g_iloadN d8_455) ?_
  refine okc_cons (show Good l Z hz shp A O (⟨"org/distinguo/graph/MinimumCostFlow", "<init>", "(Lorg/distinguo/graph/MinimumCostFlow$Network;)V"⟩ : MethodName) prog_26_method_1_code 12 none 456 (sBin 0 0 0 (jI Term.mul) 457) from g_imul d8_456) ?_
  refine okc_cons (show Good l Z hz shp A O (⟨"org/distinguo/graph/MinimumCostFlow", "<init>", "(Lorg/distinguo/graph/MinimumCostFlow$Network;)V"⟩ : MethodName) prog_26_method_1_code 12 none 457 (sNewA 4 .int 459) from g_newarray (sid := 4) d8_457 rfl (by decide) (hw _ (List.mem_of_getElem? (i := 17) rfl))) ?_
  refine okc_cons (show Good l Z hz shp A O (⟨"org/distinguo/graph/MinimumCostFlow", "<init>", "(Lorg/distinguo/graph/MinimumCostFlow$Network;)V"⟩ : MethodName) prog_26_method_1_code 12 none 459 (sPutF 2 13 (.array .int) 462) from g_putfield (sid := 2) (i := 13) (R0 := "org/distinguo/graph/MinimumCostFlow") d8_459 rfl (sok_2 hw) rfl (by decide) (hw _ (List.mem_of_getElem? (i := 111) rfl)) Via.refl (Or.inr ⟨(hw _ (List.mem_of_getElem? (i := 112) rfl)), rfl, rfl⟩)) ?_
  refine okc_cons (show Good l Z hz shp A O (⟨"org/distinguo/graph/MinimumCostFlow", "<init>", "(Lorg/distinguo/graph/MinimumCostFlow$Network;)V"⟩ : MethodName) prog_26_method_1_code 12 none 462 (sLoad 2 0 463) from g_aloadN d8_462) ?_
  refine okc_cons (show Good l Z hz shp A O (⟨"org/distinguo/graph/MinimumCostFlow", "<init>", "(Lorg/distinguo/graph/MinimumCostFlow$Network;)V"⟩ : MethodName) prog_26_method_1_code 12 none 463 (sLoad 0 2 464) from g_iloadN d8_463) ?_
  refine okc_cons (show Good l Z hz shp A O (⟨"org/distinguo/graph/MinimumCostFlow", "<init>", "(Lorg/distinguo/graph/MinimumCostFlow$Network;)V"⟩ : MethodName) prog_26_method_1_code 12 none 464 (sNewA 4 .int 466) from g_newarray (sid := 4) d8_464 rfl (by decide) (hw _ (List.mem_of_getElem? (i := 17) rfl))) ?_
  refine okc_cons (show Good l Z hz shp A O (⟨"org/distinguo/graph/MinimumCostFlow", "<init>", "(Lorg/distinguo/graph/MinimumCostFlow$Network;)V"⟩ : MethodName) prog_26_method_1_code 12 none 466 (sPutF 2 14 (.array .int) 469) from g_putfield (sid := 2) (i := 14) (R0 := "org/distinguo/graph/MinimumCostFlow") d8_466 rfl (sok_2 hw) rfl (by decide) (hw _ (List.mem_of_getElem? (i := 113) rfl)) Via.refl (Or.inr ⟨(hw _ (List.mem_of_getElem? (i := 114) rfl)), rfl, rfl⟩)) ?_
  refine okc_cons (show Good l Z hz shp A O (⟨"org/distinguo/graph/MinimumCostFlow", "<init>", "(Lorg/distinguo/graph/MinimumCostFlow$Network;)V"⟩ : MethodName) prog_26_method_1_code 12 none 469 (sLoad 2 0 470) from g_aloadN d8_469) ?_
  refine okc_cons (show Good l Z hz shp A O (⟨"org/distinguo/graph/MinimumCostFlow", "<init>", "(Lorg/distinguo/graph/MinimumCostFlow$Network;)V"⟩ : MethodName) prog_26_method_1_code 12 none 470 (sLoad 0 2 471) from g_iloadN d8_470) ?_
  refine okc_cons (show Good l Z hz shp A O (⟨"org/distinguo/graph/MinimumCostFlow", "<init>", "(Lorg/distinguo/graph/MinimumCostFlow$Network;)V"⟩ : MethodName) prog_26_method_1_code 12 none 471 (sNewA 5 .long 473) from g_newarray (sid := 5) d8_471 rfl (by decide) (hw _ (List.mem_of_getElem? (i := 58) rfl))) ?_
  refine okc_cons (show Good l Z hz shp A O (⟨"org/distinguo/graph/MinimumCostFlow", "<init>", "(Lorg/distinguo/graph/MinimumCostFlow$Network;)V"⟩ : MethodName) prog_26_method_1_code 12 none 473 (sPutF 2 15 (.array .long) 476) from g_putfield (sid := 2) (i := 15) (R0 := "org/distinguo/graph/MinimumCostFlow") d8_473 rfl (sok_2 hw) rfl (by decide) (hw _ (List.mem_of_getElem? (i := 115) rfl)) Via.refl (Or.inr ⟨(hw _ (List.mem_of_getElem? (i := 116) rfl)), rfl, rfl⟩)) ?_
  refine okc_cons (show Good l Z hz shp A O (⟨"org/distinguo/graph/MinimumCostFlow", "<init>", "(Lorg/distinguo/graph/MinimumCostFlow$Network;)V"⟩ : MethodName) prog_26_method_1_code 12 none 476 (sLoad 2 0 477) from g_aloadN d8_476) ?_
  refine okc_cons (show Good l Z hz shp A O (⟨"org/distinguo/graph/MinimumCostFlow", "<init>", "(Lorg/distinguo/graph/MinimumCostFlow$Network;)V"⟩ : MethodName) prog_26_method_1_code 12 none 477 (sLoad 0 2 478) from g_iloadN d8_477) ?_
  refine okc_cons (show Good l Z hz shp A O (⟨"org/distinguo/graph/MinimumCostFlow", "<init>", "(Lorg/distinguo/graph/MinimumCostFlow$Network;)V"⟩ : MethodName) prog_26_method_1_code 12 none 478 (sNewA 4 .int 480) from g_newarray (sid := 4) d8_478 rfl (by decide) (hw _ (List.mem_of_getElem? (i := 17) rfl))) ?_
  refine okc_cons (show Good l Z hz shp A O (⟨"org/distinguo/graph/MinimumCostFlow", "<init>", "(Lorg/distinguo/graph/MinimumCostFlow$Network;)V"⟩ : MethodName) prog_26_method_1_code 12 none 480 (sPutF 2 16 (.array .int) 483) from g_putfield (sid := 2) (i := 16) (R0 := "org/distinguo/graph/MinimumCostFlow") d8_480 rfl (sok_2 hw) rfl (by decide) (hw _ (List.mem_of_getElem? (i := 117) rfl)) Via.refl (Or.inr ⟨(hw _ (List.mem_of_getElem? (i := 118) rfl)), rfl, rfl⟩)) ?_
  refine okc_cons (show Good l Z hz shp A O (⟨"org/distinguo/graph/MinimumCostFlow", "<init>", "(Lorg/distinguo/graph/MinimumCostFlow$Network;)V"⟩ : MethodName) prog_26_method_1_code 12 none 483 (sLoad 2 0 484) from g_aloadN d8_483) ?_
  refine okc_cons (show Good l Z hz shp A O (⟨"org/distinguo/graph/MinimumCostFlow", "<init>", "(Lorg/distinguo/graph/MinimumCostFlow$Network;)V"⟩ : MethodName) prog_26_method_1_code 12 none 484 (sLoad 0 2 485) from g_iloadN d8_484) ?_
  refine okc_cons (show Good l Z hz shp A O (⟨"org/distinguo/graph/MinimumCostFlow", "<init>", "(Lorg/distinguo/graph/MinimumCostFlow$Network;)V"⟩ : MethodName) prog_26_method_1_code 12 none 485 (sNewA 4 .int 487) from g_newarray (sid := 4) d8_485 rfl (by decide) (hw _ (List.mem_of_getElem? (i := 17) rfl))) ?_
  refine okc_cons (show Good l Z hz shp A O (⟨"org/distinguo/graph/MinimumCostFlow", "<init>", "(Lorg/distinguo/graph/MinimumCostFlow$Network;)V"⟩ : MethodName) prog_26_method_1_code 12 none 487 (sPutF 2 17 (.array .int) 490) from g_putfield (sid := 2) (i := 17) (R0 := "org/distinguo/graph/MinimumCostFlow") d8_487 rfl (sok_2 hw) rfl (by decide) (hw _ (List.mem_of_getElem? (i := 119) rfl)) Via.refl (Or.inr ⟨(hw _ (List.mem_of_getElem? (i := 120) rfl)), rfl, rfl⟩)) ?_
  refine okc_cons (show Good l Z hz shp A O (⟨"org/distinguo/graph/MinimumCostFlow", "<init>", "(Lorg/distinguo/graph/MinimumCostFlow$Network;)V"⟩ : MethodName) prog_26_method_1_code 12 none 490 (sLoad 2 0 491) from g_aloadN d8_490) ?_
  refine okc_cons (show Good l Z hz shp A O (⟨"org/distinguo/graph/MinimumCostFlow", "<init>", "(Lorg/distinguo/graph/MinimumCostFlow$Network;)V"⟩ : MethodName) prog_26_method_1_code 12 none 491 (sLoad 0 2 492) from g_iloadN d8_491) ?_
  refine okc_cons (show Good l Z hz shp A O (⟨"org/distinguo/graph/MinimumCostFlow", "<init>", "(Lorg/distinguo/graph/MinimumCostFlow$Network;)V"⟩ : MethodName) prog_26_method_1_code 12 none 492 (sNewA 4 .int 494) from g_newarray (sid := 4) d8_492 rfl (by decide) (hw _ (List.mem_of_getElem? (i := 17) rfl))) ?_
  refine okc_cons (show Good l Z hz shp A O (⟨"org/distinguo/graph/MinimumCostFlow", "<init>", "(Lorg/distinguo/graph/MinimumCostFlow$Network;)V"⟩ : MethodName) prog_26_method_1_code 12 none 494 (sPutF 2 18 (.array .int) 497) from g_putfield (sid := 2) (i := 18) (R0 := "org/distinguo/graph/MinimumCostFlow") d8_494 rfl (sok_2 hw) rfl (by decide) (hw _ (List.mem_of_getElem? (i := 121) rfl)) Via.refl (Or.inr ⟨(hw _ (List.mem_of_getElem? (i := 122) rfl)), rfl, rfl⟩)) ?_
  refine okc_cons (show Good l Z hz shp A O (⟨"org/distinguo/graph/MinimumCostFlow", "<init>", "(Lorg/distinguo/graph/MinimumCostFlow$Network;)V"⟩ : MethodName) prog_26_method_1_code 12 none 497 (sLoad 2 0 498) from g_aloadN d8_497) ?_
  refine okc_cons (show Good l Z hz shp A O (⟨"org/distinguo/graph/MinimumCostFlow", "<init>", "(Lorg/distinguo/graph/MinimumCostFlow$Network;)V"⟩ : MethodName) prog_26_method_1_code 12 none 498 (sLoad 0 2 499) from g_iloadN d8_498) ?_
  refine okc_cons (show Good l Z hz shp A O (⟨"org/distinguo/graph/MinimumCostFlow", "<init>", "(Lorg/distinguo/graph/MinimumCostFlow$Network;)V"⟩ : MethodName) prog_26_method_1_code 12 none 499 (sNewA 6 .boolean 501) from g_newarray (sid := 6) d8_499 rfl (by decide) (hw _ (List.mem_of_getElem? (i := 88) rfl))) ?_
  refine okc_cons (show Good l Z hz shp A O (⟨"org/distinguo/graph/MinimumCostFlow", "<init>", "(Lorg/distinguo/graph/MinimumCostFlow$Network;)V"⟩ : MethodName) prog_26_method_1_code 12 none 501 (sPutF 2 19 (.array .boolean) 504) from g_putfield (sid := 2) (i := 19) (R0 := "org/distinguo/graph/MinimumCostFlow") d8_501 rfl (sok_2 hw) rfl (by decide) (hw _ (List.mem_of_getElem? (i := 123) rfl)) Via.refl (Or.inr ⟨(hw _ (List.mem_of_getElem? (i := 124) rfl)), rfl, rfl⟩)) ?_
  refine okc_cons (show Good l Z hz shp A O (⟨"org/distinguo/graph/MinimumCostFlow", "<init>", "(Lorg/distinguo/graph/MinimumCostFlow$Network;)V"⟩ : MethodName) prog_26_method_1_code 12 none 504 (sLoad 2 0 505) from g_aloadN d8_504) ?_
  refine okc_cons (show Good l Z hz shp A O (⟨"org/distinguo/graph/MinimumCostFlow", "<init>", "(Lorg/distinguo/graph/MinimumCostFlow$Network;)V"⟩ : MethodName) prog_26_method_1_code 12 none 505 (sLoad 0 2 506) from g_iloadN d8_505) ?_
  refine okc_cons (show Good l Z hz shp A O (⟨"org/distinguo/graph/MinimumCostFlow", "<init>", "(Lorg/distinguo/graph/MinimumCostFlow$Network;)V"⟩ : MethodName) prog_26_method_1_code 12 none 506 (sNewA 4 .int 508) from g_newarray (sid := 4) d8_506 rfl (by decide) (hw _ (List.mem_of_getElem? (i := 17) rfl))) ?_
  refine okc_cons (show Good l Z hz shp A O (⟨"org/distinguo/graph/MinimumCostFlow", "<init>", "(Lorg/distinguo/graph/MinimumCostFlow$Network;)V"⟩ : MethodName) prog_26_method_1_code 12 none 508 (sPutF 2 20 (.array .int) 511) from g_putfield (sid := 2) (i := 20) (R0 := "org/distinguo/graph/MinimumCostFlow") d8_508 rfl (sok_2 hw) rfl (by decide) (hw _ (List.mem_of_getElem? (i := 125) rfl)) Via.refl (Or.inr ⟨(hw _ (List.mem_of_getElem? (i := 126) rfl)), rfl, rfl⟩)) ?_
  refine okc_cons (show Good l Z hz shp A O (⟨"org/distinguo/graph/MinimumCostFlow", "<init>", "(Lorg/distinguo/graph/MinimumCostFlow$Network;)V"⟩ : MethodName) prog_26_method_1_code 12 none 511 (sLoad 2 0 512) from g_aloadN d8_511) ?_
  refine okc_cons (show Good l Z hz shp A O (⟨"org/distinguo/graph/MinimumCostFlow", "<init>", "(Lorg/distinguo/graph/MinimumCostFlow$Network;)V"⟩ : MethodName) prog_26_method_1_code 12 none 512 (sLoad 0 2 513) from g_iloadN d8_512) ?_
  refine okc_cons (show Good l Z hz shp A O (⟨"org/distinguo/graph/MinimumCostFlow", "<init>", "(Lorg/distinguo/graph/MinimumCostFlow$Network;)V"⟩ : MethodName) prog_26_method_1_code 12 none 513 (sNewA 4 .int 515) from g_newarray (sid := 4) d8_513 rfl (by decide) (hw _ (List.mem_of_getElem? (i := 17) rfl))) ?_
  refine okc_cons (show Good l Z hz shp A O (⟨"org/distinguo/graph/MinimumCostFlow", "<init>", "(Lorg/distinguo/graph/MinimumCostFlow$Network;)V"⟩ : MethodName) prog_26_method_1_code 12 none 515 (sPutF 2 21 (.array .int) 518) from g_putfield (sid := 2) (i := 21) (R0 := "org/distinguo/graph/MinimumCostFlow") d8_515 rfl (sok_2 hw) rfl (by decide) (hw _ (List.mem_of_getElem? (i := 127) rfl)) Via.refl (Or.inr ⟨(hw _ (List.mem_of_getElem? (i := 128) rfl)), rfl, rfl⟩)) ?_
  refine okc_cons (show Good l Z hz shp A O (⟨"org/distinguo/graph/MinimumCostFlow", "<init>", "(Lorg/distinguo/graph/MinimumCostFlow$Network;)V"⟩ : MethodName) prog_26_method_1_code 12 none 518 (sLoad 2 0 519) from g_aloadN d8_518) ?_
  refine okc_cons (show Good l Z hz shp A O (⟨"org/distinguo/graph/MinimumCostFlow", "<init>", "(Lorg/distinguo/graph/MinimumCostFlow$Network;)V"⟩ : MethodName) prog_26_method_1_code 12 none 519 (sNew 3 6 ds_3 522) from g_new (sid := 3) d8_519 rfl (sok_3 hw) (by decide) rfl (hw _ (List.mem_of_getElem? (i := 129) rfl)) (hw _ (List.mem_of_getElem? (i := 131) rfl))) ?_
  refine okc_cons (show Good l Z hz shp A O (⟨"org/distinguo/graph/MinimumCostFlow", "<init>", "(Lorg/distinguo/graph/MinimumCostFlow$Network;)V"⟩ : MethodName) prog_26_method_1_code 12 none 522 (sDup 523) from g_dup d8_522) ?_
  refine okc_cons (show Good l Z hz shp A O (⟨"org/distinguo/graph/MinimumCostFlow", "<init>", "(Lorg/distinguo/graph/MinimumCostFlow$Network;)V"⟩ : MethodName) prog_26_method_1_code 12 none 523 (sLoad 0 2 524) from g_iloadN d8_523) ?_
  refine okc_cons (fun m hm => by
    obtain rfl : m = (2, cd_12) := (Option.some.inj hm).symm
    exact (show CallGood l Z hz shp A O (⟨"org/distinguo/graph/MinimumCostFlow", "<init>", "(Lorg/distinguo/graph/MinimumCostFlow$Network;)V"⟩ : MethodName) prog_26_method_1_code 12 none (⟨"org/distinguo/graph/MinimumCostFlow$Layers", "<init>", "(I)V"⟩ : MethodName) prog_27_method_1_code 2 none 524 2 527 (ckObj 3) from c_init (a0 := a0) (sid := 3) (hd := d8_524) (hpl := pl_12) (hdesc := pd_12) (hna := rfl) (hy := by decide) (w1 := (hw _ (List.mem_of_getElem? (i := 132) rfl))) (w2 := (hw _ (List.mem_of_getElem? (i := 133) rfl))) (w3 := (hw _ (List.mem_of_getElem? (i := 131) rfl))) (w4 := (hw _ (List.mem_of_getElem? (i := 134) rfl))) (hn := rfl))) ?_
  refine okc_cons (show Good l Z hz shp A O (⟨"org/distinguo/graph/MinimumCostFlow", "<init>", "(Lorg/distinguo/graph/MinimumCostFlow$Network;)V"⟩ : MethodName) prog_26_method_1_code 12 none 527 (sPutF 2 22 (.object "org/distinguo/graph/MinimumCostFlow$Layers") 530) from g_putfield (sid := 2) (i := 22) (R0 := "org/distinguo/graph/MinimumCostFlow") d8_527 rfl (sok_2 hw) rfl (by decide) (hw _ (List.mem_of_getElem? (i := 142) rfl)) Via.refl (Or.inr ⟨(hw _ (List.mem_of_getElem? (i := 143) rfl)), rfl, rfl⟩)) ?_
  refine okc_cons (show Good l Z hz shp A O (⟨"org/distinguo/graph/MinimumCostFlow", "<init>", "(Lorg/distinguo/graph/MinimumCostFlow$Network;)V"⟩ : MethodName) prog_26_method_1_code 12 none 530 (sLoad 2 0 531) from g_aloadN d8_530) ?_
  refine okc_cons (show Good l Z hz shp A O (⟨"org/distinguo/graph/MinimumCostFlow", "<init>", "(Lorg/distinguo/graph/MinimumCostFlow$Network;)V"⟩ : MethodName) prog_26_method_1_code 12 none 531 (sNew 3 6 ds_3 534) from g_new (sid := 3) d8_531 rfl (sok_3 hw) (by decide) rfl (hw _ (List.mem_of_getElem? (i := 129) rfl)) (hw _ (List.mem_of_getElem? (i := 131) rfl))) ?_
  refine okc_cons (show Good l Z hz shp A O (⟨"org/distinguo/graph/MinimumCostFlow", "<init>", "(Lorg/distinguo/graph/MinimumCostFlow$Network;)V"⟩ : MethodName) prog_26_method_1_code 12 none 534 (sDup 535) from g_dup d8_534) ?_
  refine okc_cons (show Good l Z hz shp A O (⟨"org/distinguo/graph/MinimumCostFlow", "<init>", "(Lorg/distinguo/graph/MinimumCostFlow$Network;)V"⟩ : MethodName) prog_26_method_1_code 12 none 535 (sLoad 0 2 536) from g_iloadN d8_535) ?_
  refine okc_cons (fun m hm => by
    obtain rfl : m = (2, cd_12) := (Option.some.inj hm).symm
    exact (show CallGood l Z hz shp A O (⟨"org/distinguo/graph/MinimumCostFlow", "<init>", "(Lorg/distinguo/graph/MinimumCostFlow$Network;)V"⟩ : MethodName) prog_26_method_1_code 12 none (⟨"org/distinguo/graph/MinimumCostFlow$Layers", "<init>", "(I)V"⟩ : MethodName) prog_27_method_1_code 2 none 536 2 539 (ckObj 3) from c_init (a0 := a0) (sid := 3) (hd := d8_536) (hpl := pl_12) (hdesc := pd_12) (hna := rfl) (hy := by decide) (w1 := (hw _ (List.mem_of_getElem? (i := 132) rfl))) (w2 := (hw _ (List.mem_of_getElem? (i := 133) rfl))) (w3 := (hw _ (List.mem_of_getElem? (i := 131) rfl))) (w4 := (hw _ (List.mem_of_getElem? (i := 134) rfl))) (hn := rfl))) ?_
  refine okc_cons (show Good l Z hz shp A O (⟨"org/distinguo/graph/MinimumCostFlow", "<init>", "(Lorg/distinguo/graph/MinimumCostFlow$Network;)V"⟩ : MethodName) prog_26_method_1_code 12 none 539 (sPutF 2 23 (.object "org/distinguo/graph/MinimumCostFlow$Layers") 542) from g_putfield (sid := 2) (i := 23) (R0 := "org/distinguo/graph/MinimumCostFlow") d8_539 rfl (sok_2 hw) rfl (by decide) (hw _ (List.mem_of_getElem? (i := 144) rfl)) Via.refl (Or.inr ⟨(hw _ (List.mem_of_getElem? (i := 145) rfl)), rfl, rfl⟩)) ?_
  refine okc_cons (show RetGood l Z hz shp A O (⟨"org/distinguo/graph/MinimumCostFlow", "<init>", "(Lorg/distinguo/graph/MinimumCostFlow$Network;)V"⟩ : MethodName) prog_26_method_1_code 12 none 542 (rVoid) from g_return d8_542) ?_
  exact okc_nil
set_option maxRecDepth 65536 in
set_option maxHeartbeats 40000000 in
theorem cok_9 (hw : ∀ d ∈ tables_1, d.before a0 Z = true) : ∀ el ∈ cd_9, ElOk l Z hz shp A O 96 704 mts mis 9 2 el := by
  unfold cd_9
  refine okc_cons (show Good l Z hz shp A O (⟨"org/distinguo/model/IntList", "get", "(I)I"⟩ : MethodName) prog_99_method_3_code 2 (some .int) 0 (sLoad 2 0 1) from g_aloadN d9_0) ?_
  refine okc_cons (show Good l Z hz shp A O (⟨"org/distinguo/model/IntList", "get", "(I)I"⟩ : MethodName) prog_99_method_3_code 2 (some .int) 1 (sGetF 1 0 4) from g_getfield (sid := 1) (i := 0) (R0 := "org/distinguo/model/IntList") (host := "") d9_1 rfl rfl (Or.inl (hw _ (List.mem_of_getElem? (i := 18) rfl))) Via.refl) ?_
  refine okc_cons (show Good l Z hz shp A O (⟨"org/distinguo/model/IntList", "get", "(I)I"⟩ : MethodName) prog_99_method_3_code 2 (some .int) 4 (sLoad 0 1 5) from g_iloadN d9_4) ?_
  refine okc_cons (show Good l Z hz shp A O (⟨"org/distinguo/model/IntList", "get", "(I)I"⟩ : MethodName) prog_99_method_3_code 2 (some .int) 5 (sAld 4 6) from g_iaload (sid := 4) d9_5 rfl) ?_
  refine okc_cons (show RetGood l Z hz shp A O (⟨"org/distinguo/model/IntList", "get", "(I)I"⟩ : MethodName) prog_99_method_3_code 2 (some .int) 6 (rVal .int) from g_ret d9_6 (by decide) (by simp)) ?_
  exact okc_nil
set_option maxRecDepth 65536 in
set_option maxHeartbeats 40000000 in
theorem cok_10 (hw : ∀ d ∈ tables_1, d.before a0 Z = true) : ∀ el ∈ cd_10, ElOk l Z hz shp A O 96 704 mts mis 10 3 el := by
  unfold cd_10
  refine okc_cons (show Good l Z hz shp A O (⟨"java/util/Arrays", "copyOf", "([II)[I"⟩ : MethodName) jdk_65_method_123_code 3 (some (.array .int)) 0 (sLoad 0 1 1) from g_iloadN d10_0) ?_
  refine okc_cons (show Good l Z hz shp A O (⟨"java/util/Arrays", "copyOf", "([II)[I"⟩ : MethodName) jdk_65_method_123_code 3 (some (.array .int)) 1 (sLoad 2 0 2) from g_aloadN d10_1) ?_
  refine okc_cons (show Good l Z hz shp A O (⟨"java/util/Arrays", "copyOf", "([II)[I"⟩ : MethodName) jdk_65_method_123_code 3 (some (.array .int)) 2 (sLenA 4 3) from g_len (sid := 4) d10_2 rfl) ?_
  refine okc_cons (show Good l Z hz shp A O (⟨"java/util/Arrays", "copyOf", "([II)[I"⟩ : MethodName) jdk_65_method_123_code 3 (some (.array .int)) 3 (sIcmp .ne 14 6) from g_icmp d10_3 (by decide) (by decide)) ?_
  refine okc_cons (show Good l Z hz shp A O (⟨"java/util/Arrays", "copyOf", "([II)[I"⟩ : MethodName) jdk_65_method_123_code 3 (some (.array .int)) 6 (sLoad 2 0 7) from g_aloadN d10_6) ?_
  refine okc_cons (show Good l Z hz shp A O (⟨"java/util/Arrays", "copyOf", "([II)[I"⟩ : MethodName) jdk_65_method_123_code 3 (some (.array .int)) 7 (sStop) from g_stop) ?_
  refine okc_cons (show Good l Z hz shp A O (⟨"java/util/Arrays", "copyOf", "([II)[I"⟩ : MethodName) jdk_65_method_123_code 3 (some (.array .int)) 10 (sStop) from g_stop) ?_
  refine okc_cons (show RetGood l Z hz shp A O (⟨"java/util/Arrays", "copyOf", "([II)[I"⟩ : MethodName) jdk_65_method_123_code 3 (some (.array .int)) 13 (rVal (.array .int)) from g_ret d10_13 (by decide) (by simp [FieldType.isReference])) ?_
  refine okc_cons (show Good l Z hz shp A O (⟨"java/util/Arrays", "copyOf", "([II)[I"⟩ : MethodName) jdk_65_method_123_code 3 (some (.array .int)) 14 (sLoad 0 1 15) from g_iloadN d10_14) ?_
  refine okc_cons (show Good l Z hz shp A O (⟨"java/util/Arrays", "copyOf", "([II)[I"⟩ : MethodName) jdk_65_method_123_code 3 (some (.array .int)) 15 (sNewA 4 .int 17) from g_newarray (sid := 4) d10_15 rfl (by decide) (hw _ (List.mem_of_getElem? (i := 17) rfl))) ?_
  refine okc_cons (show Good l Z hz shp A O (⟨"java/util/Arrays", "copyOf", "([II)[I"⟩ : MethodName) jdk_65_method_123_code 3 (some (.array .int)) 17 (sStore 2 2 18) from g_astoreN d10_17) ?_
  refine okc_cons (show Good l Z hz shp A O (⟨"java/util/Arrays", "copyOf", "([II)[I"⟩ : MethodName) jdk_65_method_123_code 3 (some (.array .int)) 18 (sLoad 2 0 19) from g_aloadN d10_18) ?_
  refine okc_cons (show Good l Z hz shp A O (⟨"java/util/Arrays", "copyOf", "([II)[I"⟩ : MethodName) jdk_65_method_123_code 3 (some (.array .int)) 19 (sPush (0, .int 0) 20) from g_iconst d10_19 rfl) ?_
  refine okc_cons (show Good l Z hz shp A O (⟨"java/util/Arrays", "copyOf", "([II)[I"⟩ : MethodName) jdk_65_method_123_code 3 (some (.array .int)) 20 (sLoad 2 2 21) from g_aloadN d10_20) ?_
  refine okc_cons (show Good l Z hz shp A O (⟨"java/util/Arrays", "copyOf", "([II)[I"⟩ : MethodName) jdk_65_method_123_code 3 (some (.array .int)) 21 (sPush (0, .int 0) 22) from g_iconst d10_21 rfl) ?_
  refine okc_cons (show Good l Z hz shp A O (⟨"java/util/Arrays", "copyOf", "([II)[I"⟩ : MethodName) jdk_65_method_123_code 3 (some (.array .int)) 22 (sLoad 2 0 23) from g_aloadN d10_22) ?_
  refine okc_cons (show Good l Z hz shp A O (⟨"java/util/Arrays", "copyOf", "([II)[I"⟩ : MethodName) jdk_65_method_123_code 3 (some (.array .int)) 23 (sLenA 4 24) from g_len (sid := 4) d10_23 rfl) ?_
  refine okc_cons (show Good l Z hz shp A O (⟨"java/util/Arrays", "copyOf", "([II)[I"⟩ : MethodName) jdk_65_method_123_code 3 (some (.array .int)) 24 (sLoad 0 1 25) from g_iloadN d10_24) ?_
  refine okc_cons (fun m hm => by
    obtain rfl : m = (2, cd_11) := (Option.some.inj hm).symm
    exact (show CallGood l Z hz shp A O (⟨"java/util/Arrays", "copyOf", "([II)[I"⟩ : MethodName) jdk_65_method_123_code 3 (some (.array .int)) (⟨"java/lang/Math", "min", "(II)I"⟩ : MethodName) jdk_29_method_69_code 2 (some .int) 25 2 28 (ckAny) from c_static (a0 := a0) (hd := d10_25) (hpl := pl_11) (hdesc := pd_11) (hna := rfl) (hy := by decide) (w1 := (hw _ (List.mem_of_getElem? (i := 97) rfl))) (w2 := (hw _ (List.mem_of_getElem? (i := 98) rfl))) (w3 := (hw _ (List.mem_of_getElem? (i := 99) rfl))) (w4 := (hw _ (List.mem_of_getElem? (i := 100) rfl))))) ?_
  refine okc_cons (show GoodN l Z hz shp A O (⟨"java/util/Arrays", "copyOf", "([II)[I"⟩ : MethodName) jdk_65_method_123_code 3 (some (.array .int)) 28 (sCopy 4 3 31) from g_copy (sid := 4) d10_28 rfl (hw _ (List.mem_of_getElem? (i := 101) rfl)) (hw _ (List.mem_of_getElem? (i := 104) rfl)) (hw _ (List.mem_of_getElem? (i := 102) rfl)) (hw _ (List.mem_of_getElem? (i := 103) rfl))) ?_
  refine okc_cons (show Good l Z hz shp A O (⟨"java/util/Arrays", "copyOf", "([II)[I"⟩ : MethodName) jdk_65_method_123_code 3 (some (.array .int)) 31 (sLoad 2 2 32) from g_aloadN d10_31) ?_
  refine okc_cons (show RetGood l Z hz shp A O (⟨"java/util/Arrays", "copyOf", "([II)[I"⟩ : MethodName) jdk_65_method_123_code 3 (some (.array .int)) 32 (rVal (.array .int)) from g_ret d10_32 (by decide) (by simp [FieldType.isReference])) ?_
  exact okc_nil
set_option maxRecDepth 65536 in
set_option maxHeartbeats 40000000 in
theorem cok_11 (hw : ∀ d ∈ tables_1, d.before a0 Z = true) : ∀ el ∈ cd_11, ElOk l Z hz shp A O 96 704 mts mis 11 2 el := by
  unfold cd_11
  refine okc_cons (show Good l Z hz shp A O (⟨"java/lang/Math", "min", "(II)I"⟩ : MethodName) jdk_29_method_69_code 2 (some .int) 0 (sLoad 0 0 1) from g_iloadN d11_0) ?_
  refine okc_cons (show Good l Z hz shp A O (⟨"java/lang/Math", "min", "(II)I"⟩ : MethodName) jdk_29_method_69_code 2 (some .int) 1 (sLoad 0 1 2) from g_iloadN d11_1) ?_
  refine okc_cons (show Good l Z hz shp A O (⟨"java/lang/Math", "min", "(II)I"⟩ : MethodName) jdk_29_method_69_code 2 (some .int) 2 (sIcmp .gt 9 5) from g_icmp d11_2 (by decide) (by decide)) ?_
  refine okc_cons (show Good l Z hz shp A O (⟨"java/lang/Math", "min", "(II)I"⟩ : MethodName) jdk_29_method_69_code 2 (some .int) 5 (sLoad 0 0 6) from g_iloadN d11_5) ?_
  refine okc_cons (show Good l Z hz shp A O (⟨"java/lang/Math", "min", "(II)I"⟩ : MethodName) jdk_29_method_69_code 2 (some .int) 6 (sGoto 10) from g_goto d11_6 (by decide) (by decide)) ?_
  refine okc_cons (show Good l Z hz shp A O (⟨"java/lang/Math", "min", "(II)I"⟩ : MethodName) jdk_29_method_69_code 2 (some .int) 9 (sLoad 0 1 10) from g_iloadN d11_9) ?_
  refine okc_cons (show RetGood l Z hz shp A O (⟨"java/lang/Math", "min", "(II)I"⟩ : MethodName) jdk_29_method_69_code 2 (some .int) 10 (rVal .int) from g_ret d11_10 (by decide) (by simp)) ?_
  exact okc_nil
set_option maxRecDepth 65536 in
set_option maxHeartbeats 40000000 in
theorem cok_12 (hw : ∀ d ∈ tables_1, d.before a0 Z = true) : ∀ el ∈ cd_12, ElOk l Z hz shp A O 96 704 mts mis 12 2 el := by
  unfold cd_12
  refine okc_cons (show Good l Z hz shp A O (⟨"org/distinguo/graph/MinimumCostFlow$Layers", "<init>", "(I)V"⟩ : MethodName) prog_27_method_1_code 2 none 0 (sLoad 2 0 1) from g_aloadN d12_0) ?_
  refine okc_cons (show GoodN l Z hz shp A O (⟨"org/distinguo/graph/MinimumCostFlow$Layers", "<init>", "(I)V"⟩ : MethodName) prog_27_method_1_code 2 none 1 (sInitO 2 4) from g_initO d12_1 (hw _ (List.mem_of_getElem? (i := 135) rfl)) (hw _ (List.mem_of_getElem? (i := 8) rfl)) (hw _ (List.mem_of_getElem? (i := 9) rfl))) ?_
  refine okc_cons (show Good l Z hz shp A O (⟨"org/distinguo/graph/MinimumCostFlow$Layers", "<init>", "(I)V"⟩ : MethodName) prog_27_method_1_code 2 none 4 (sLoad 2 0 5) from g_aloadN d12_4) ?_
  refine okc_cons (show Good l Z hz shp A O (⟨"org/distinguo/graph/MinimumCostFlow$Layers", "<init>", "(I)V"⟩ : MethodName) prog_27_method_1_code 2 none 5 (sLoad 0 1 6) from g_iloadN d12_5) ?_
  refine okc_cons (show Good l Z hz shp A O (⟨"org/distinguo/graph/MinimumCostFlow$Layers", "<init>", "(I)V"⟩ : MethodName) prog_27_method_1_code 2 none 6 (sNewA 4 .int 8) from g_newarray (sid := 4) d12_6 rfl (by decide) (hw _ (List.mem_of_getElem? (i := 17) rfl))) ?_
  refine okc_cons (show Good l Z hz shp A O (⟨"org/distinguo/graph/MinimumCostFlow$Layers", "<init>", "(I)V"⟩ : MethodName) prog_27_method_1_code 2 none 8 (sPutF 3 0 (.array .int) 11) from g_putfield (sid := 3) (i := 0) (R0 := "org/distinguo/graph/MinimumCostFlow$Layers") d12_8 rfl (sok_3 hw) rfl (by decide) (hw _ (List.mem_of_getElem? (i := 136) rfl)) Via.refl (Or.inr ⟨(hw _ (List.mem_of_getElem? (i := 137) rfl)), rfl, rfl⟩)) ?_
  refine okc_cons (show Good l Z hz shp A O (⟨"org/distinguo/graph/MinimumCostFlow$Layers", "<init>", "(I)V"⟩ : MethodName) prog_27_method_1_code 2 none 11 (sLoad 2 0 12) from g_aloadN d12_11) ?_
  refine okc_cons (show Good l Z hz shp A O (⟨"org/distinguo/graph/MinimumCostFlow$Layers", "<init>", "(I)V"⟩ : MethodName) prog_27_method_1_code 2 none 12 (sLoad 0 1 13) from g_iloadN d12_12) ?_
  refine okc_cons (show Good l Z hz shp A O (⟨"org/distinguo/graph/MinimumCostFlow$Layers", "<init>", "(I)V"⟩ : MethodName) prog_27_method_1_code 2 none 13 (sNewA 4 .int 15) from g_newarray (sid := 4) d12_13 rfl (by decide) (hw _ (List.mem_of_getElem? (i := 17) rfl))) ?_
  refine okc_cons (show Good l Z hz shp A O (⟨"org/distinguo/graph/MinimumCostFlow$Layers", "<init>", "(I)V"⟩ : MethodName) prog_27_method_1_code 2 none 15 (sPutF 3 1 (.array .int) 18) from g_putfield (sid := 3) (i := 1) (R0 := "org/distinguo/graph/MinimumCostFlow$Layers") d12_15 rfl (sok_3 hw) rfl (by decide) (hw _ (List.mem_of_getElem? (i := 138) rfl)) Via.refl (Or.inr ⟨(hw _ (List.mem_of_getElem? (i := 139) rfl)), rfl, rfl⟩)) ?_
  refine okc_cons (show Good l Z hz shp A O (⟨"org/distinguo/graph/MinimumCostFlow$Layers", "<init>", "(I)V"⟩ : MethodName) prog_27_method_1_code 2 none 18 (sLoad 2 0 19) from g_aloadN d12_18) ?_
  refine okc_cons (show Good l Z hz shp A O (⟨"org/distinguo/graph/MinimumCostFlow$Layers", "<init>", "(I)V"⟩ : MethodName) prog_27_method_1_code 2 none 19 (sLoad 0 1 20) from g_iloadN d12_19) ?_
  refine okc_cons (show Good l Z hz shp A O (⟨"org/distinguo/graph/MinimumCostFlow$Layers", "<init>", "(I)V"⟩ : MethodName) prog_27_method_1_code 2 none 20 (sNewA 4 .int 22) from g_newarray (sid := 4) d12_20 rfl (by decide) (hw _ (List.mem_of_getElem? (i := 17) rfl))) ?_
  refine okc_cons (show Good l Z hz shp A O (⟨"org/distinguo/graph/MinimumCostFlow$Layers", "<init>", "(I)V"⟩ : MethodName) prog_27_method_1_code 2 none 22 (sPutF 3 2 (.array .int) 25) from g_putfield (sid := 3) (i := 2) (R0 := "org/distinguo/graph/MinimumCostFlow$Layers") d12_22 rfl (sok_3 hw) rfl (by decide) (hw _ (List.mem_of_getElem? (i := 140) rfl)) Via.refl (Or.inr ⟨(hw _ (List.mem_of_getElem? (i := 141) rfl)), rfl, rfl⟩)) ?_
  refine okc_cons (show RetGood l Z hz shp A O (⟨"org/distinguo/graph/MinimumCostFlow$Layers", "<init>", "(I)V"⟩ : MethodName) prog_27_method_1_code 2 none 25 (rVoid) from g_return d12_25) ?_
  exact okc_nil
set_option maxRecDepth 65536 in
set_option maxHeartbeats 40000000 in
theorem cok_13 (hw : ∀ d ∈ tables_1, d.before a0 Z = true) : ∀ el ∈ cd_13, ElOk l Z hz shp A O 96 704 mts mis 13 2 el := by
  unfold cd_13
  refine okc_cons (show Good l Z hz shp A O (⟨"org/distinguo/graph/MinimumCostFlow", "startBack", "(I)V"⟩ : MethodName) prog_26_method_10_code 2 none 0 (sLoad 2 0 1) from g_aloadN d13_0) ?_
  refine okc_cons (show Good l Z hz shp A O (⟨"org/distinguo/graph/MinimumCostFlow", "startBack", "(I)V"⟩ : MethodName) prog_26_method_10_code 2 none 1 (sLoad 0 1 2) from g_iloadN d13_1) ?_
  refine okc_cons (fun m hm => by
    obtain rfl : m = (2, cd_14) := (Option.some.inj hm).symm
    exact (show CallGood l Z hz shp A O (⟨"org/distinguo/graph/MinimumCostFlow", "startBack", "(I)V"⟩ : MethodName) prog_26_method_10_code 2 none (⟨"org/distinguo/graph/MinimumCostFlow", "startSearch", "(I)V"⟩ : MethodName) prog_26_method_25_code 2 none 2 2 5 (ckObj 2) from c_private (a0 := a0) (sid := 2) (hd := d13_2) (hpl := pl_14) (hdesc := pd_14) (hna := rfl) (hy := by decide) (w1 := (hw _ (List.mem_of_getElem? (i := 151) rfl))) (w2 := (hw _ (List.mem_of_getElem? (i := 152) rfl))) (w3 := (hw _ (List.mem_of_getElem? (i := 53) rfl))) (w4 := (hw _ (List.mem_of_getElem? (i := 154) rfl))) (hs := rfl) (w5 := (hw _ (List.mem_of_getElem? (i := 153) rfl))) (w6 := (hw _ (List.mem_of_getElem? (i := 52) rfl))))) ?_
  refine okc_cons (show RetGood l Z hz shp A O (⟨"org/distinguo/graph/MinimumCostFlow", "startBack", "(I)V"⟩ : MethodName) prog_26_method_10_code 2 none 5 (rVoid) from g_return d13_5) ?_
  exact okc_nil
set_option maxRecDepth 65536 in
set_option maxHeartbeats 40000000 in
theorem cok_14 (hw : ∀ d ∈ tables_1, d.before a0 Z = true) : ∀ el ∈ cd_14, ElOk l Z hz shp A O 96 704 mts mis 14 2 el := by
  unfold cd_14
  refine okc_cons (show Good l Z hz shp A O (⟨"org/distinguo/graph/MinimumCostFlow", "startSearch", "(I)V"⟩ : MethodName) prog_26_method_25_code 2 none 0 (sLoad 2 0 1) from g_aloadN d14_0) ?_
  refine okc_cons (show Good l Z hz shp A O (⟨"org/distinguo/graph/MinimumCostFlow", "startSearch", "(I)V"⟩ : MethodName) prog_26_method_25_code 2 none 1 (sDup 2) from g_dup d14_1) ?_
  refine okc_cons (show Good l Z hz shp A O (⟨"org/distinguo/graph/MinimumCostFlow", "startSearch", "(I)V"⟩ : MethodName) prog_26_method_25_code 2 none 2 (sGetF 2 24 5) from g_getfield (sid := 2) (i := 24) (R0 := "org/distinguo/graph/MinimumCostFlow") (host := "") d14_2 rfl rfl (Or.inl (hw _ (List.mem_of_getElem? (i := 155) rfl))) Via.refl) ?_
  refine okc_cons (show Good l Z hz shp A O (⟨"org/distinguo/graph/MinimumCostFlow", "startSearch", "(I)V"⟩ : MethodName) prog_26_method_25_code 2 none 5 (sPush (0, .int 1) 6) from g_iconst d14_5 rfl) ?_
  refine okc_cons (show Good l Z hz shp A O (⟨"org/distinguo/graph/MinimumCostFlow", "startSearch", "(I)V"⟩ : MethodName) prog_26_method_25_code 2 none 6 (sBin 0 0 0 (jI Term.add) 7) from g_iadd d14_6) ?_
  refine okc_cons (show Good l Z hz shp A O (⟨"org/distinguo/graph/MinimumCostFlow", "startSearch", "(I)V"⟩ : MethodName) prog_26_method_25_code 2 none 7 (sPutF 2 24 .int 10) from g_putfield (sid := 2) (i := 24) (R0 := "org/distinguo/graph/MinimumCostFlow") d14_7 rfl (sok_2 hw) rfl (by decide) (hw _ (List.mem_of_getElem? (i := 155) rfl)) Via.refl (Or.inl (hw _ (List.mem_of_getElem? (i := 156) rfl)))) ?_
  refine okc_cons (show Good l Z hz shp A O (⟨"org/distinguo/graph/MinimumCostFlow", "startSearch", "(I)V"⟩ : MethodName) prog_26_method_25_code 2 none 10 (sLoad 2 0 11) from g_aloadN d14_10) ?_
  refine okc_cons (show Good l Z hz shp A O (⟨"org/distinguo/graph/MinimumCostFlow", "startSearch", "(I)V"⟩ : MethodName) prog_26_method_25_code 2 none 11 (sLoad 0 1 12) from g_iloadN d14_11) ?_
  refine okc_cons (show Good l Z hz shp A O (⟨"org/distinguo/graph/MinimumCostFlow", "startSearch", "(I)V"⟩ : MethodName) prog_26_method_25_code 2 none 12 (sPutF 2 25 .int 15) from g_putfield (sid := 2) (i := 25) (R0 := "org/distinguo/graph/MinimumCostFlow") d14_12 rfl (sok_2 hw) rfl (by decide) (hw _ (List.mem_of_getElem? (i := 157) rfl)) Via.refl (Or.inl (hw _ (List.mem_of_getElem? (i := 158) rfl)))) ?_
  refine okc_cons (show Good l Z hz shp A O (⟨"org/distinguo/graph/MinimumCostFlow", "startSearch", "(I)V"⟩ : MethodName) prog_26_method_25_code 2 none 15 (sLoad 2 0 16) from g_aloadN d14_15) ?_
  refine okc_cons (show Good l Z hz shp A O (⟨"org/distinguo/graph/MinimumCostFlow", "startSearch", "(I)V"⟩ : MethodName) prog_26_method_25_code 2 none 16 (sPush (0, .int 0) 17) from g_iconst d14_16 rfl) ?_
  refine okc_cons (show Good l Z hz shp A O (⟨"org/distinguo/graph/MinimumCostFlow", "startSearch", "(I)V"⟩ : MethodName) prog_26_method_25_code 2 none 17 (sPutF 2 26 .int 20) from g_putfield (sid := 2) (i := 26) (R0 := "org/distinguo/graph/MinimumCostFlow") d14_17 rfl (sok_2 hw) rfl (by decide) (hw _ (List.mem_of_getElem? (i := 159) rfl)) Via.refl (Or.inl (hw _ (List.mem_of_getElem? (i := 160) rfl)))) ?_
  refine okc_cons (show Good l Z hz shp A O (⟨"org/distinguo/graph/MinimumCostFlow", "startSearch", "(I)V"⟩ : MethodName) prog_26_method_25_code 2 none 20 (sLoad 2 0 21) from g_aloadN d14_20) ?_
  refine okc_cons (show Good l Z hz shp A O (⟨"org/distinguo/graph/MinimumCostFlow", "startSearch", "(I)V"⟩ : MethodName) prog_26_method_25_code 2 none 21 (sPush (0, .int 0) 22) from g_iconst d14_21 rfl) ?_
  refine okc_cons (show Good l Z hz shp A O (⟨"org/distinguo/graph/MinimumCostFlow", "startSearch", "(I)V"⟩ : MethodName) prog_26_method_25_code 2 none 22 (sPutF 2 27 .int 25) from g_putfield (sid := 2) (i := 27) (R0 := "org/distinguo/graph/MinimumCostFlow") d14_22 rfl (sok_2 hw) rfl (by decide) (hw _ (List.mem_of_getElem? (i := 161) rfl)) Via.refl (Or.inl (hw _ (List.mem_of_getElem? (i := 162) rfl)))) ?_
  refine okc_cons (show Good l Z hz shp A O (⟨"org/distinguo/graph/MinimumCostFlow", "startSearch", "(I)V"⟩ : MethodName) prog_26_method_25_code 2 none 25 (sLoad 2 0 26) from g_aloadN d14_25) ?_
  refine okc_cons (show Good l Z hz shp A O (⟨"org/distinguo/graph/MinimumCostFlow", "startSearch", "(I)V"⟩ : MethodName) prog_26_method_25_code 2 none 26 (sPush (0, .int 0) 27) from g_iconst d14_26 rfl) ?_
  refine okc_cons (show Good l Z hz shp A O (⟨"org/distinguo/graph/MinimumCostFlow", "startSearch", "(I)V"⟩ : MethodName) prog_26_method_25_code 2 none 27 (sPutF 2 28 .int 30) from g_putfield (sid := 2) (i := 28) (R0 := "org/distinguo/graph/MinimumCostFlow") d14_27 rfl (sok_2 hw) rfl (by decide) (hw _ (List.mem_of_getElem? (i := 163) rfl)) Via.refl (Or.inl (hw _ (List.mem_of_getElem? (i := 164) rfl)))) ?_
  refine okc_cons (show Good l Z hz shp A O (⟨"org/distinguo/graph/MinimumCostFlow", "startSearch", "(I)V"⟩ : MethodName) prog_26_method_25_code 2 none 30 (sLoad 2 0 31) from g_aloadN d14_30) ?_
  refine okc_cons (show Good l Z hz shp A O (⟨"org/distinguo/graph/MinimumCostFlow", "startSearch", "(I)V"⟩ : MethodName) prog_26_method_25_code 2 none 31 (sPush (0, .int 0) 32) from g_iconst d14_31 rfl) ?_
  refine okc_cons (show Good l Z hz shp A O (⟨"org/distinguo/graph/MinimumCostFlow", "startSearch", "(I)V"⟩ : MethodName) prog_26_method_25_code 2 none 32 (sPutF 2 29 .int 35) from g_putfield (sid := 2) (i := 29) (R0 := "org/distinguo/graph/MinimumCostFlow") d14_32 rfl (sok_2 hw) rfl (by decide) (hw _ (List.mem_of_getElem? (i := 165) rfl)) Via.refl (Or.inl (hw _ (List.mem_of_getElem? (i := 166) rfl)))) ?_
  refine okc_cons (show Good l Z hz shp A O (⟨"org/distinguo/graph/MinimumCostFlow", "startSearch", "(I)V"⟩ : MethodName) prog_26_method_25_code 2 none 35 (sLoad 2 0 36) from g_aloadN d14_35) ?_
  refine okc_cons (show Good l Z hz shp A O (⟨"org/distinguo/graph/MinimumCostFlow", "startSearch", "(I)V"⟩ : MethodName) prog_26_method_25_code 2 none 36 (sPush (0, .int 0) 37) from g_iconst d14_36 rfl) ?_
  refine okc_cons (show Good l Z hz shp A O (⟨"org/distinguo/graph/MinimumCostFlow", "startSearch", "(I)V"⟩ : MethodName) prog_26_method_25_code 2 none 37 (sPutF 2 30 .int 40) from g_putfield (sid := 2) (i := 30) (R0 := "org/distinguo/graph/MinimumCostFlow") d14_37 rfl (sok_2 hw) rfl (by decide) (hw _ (List.mem_of_getElem? (i := 167) rfl)) Via.refl (Or.inl (hw _ (List.mem_of_getElem? (i := 168) rfl)))) ?_
  refine okc_cons (show Good l Z hz shp A O (⟨"org/distinguo/graph/MinimumCostFlow", "startSearch", "(I)V"⟩ : MethodName) prog_26_method_25_code 2 none 40 (sLoad 2 0 41) from g_aloadN d14_40) ?_
  refine okc_cons (show Good l Z hz shp A O (⟨"org/distinguo/graph/MinimumCostFlow", "startSearch", "(I)V"⟩ : MethodName) prog_26_method_25_code 2 none 41 (sLoad 0 1 42) from g_iloadN d14_41) ?_
  refine okc_cons (show Good l Z hz shp A O (⟨"org/distinguo/graph/MinimumCostFlow", "startSearch", "(I)V"⟩ : MethodName) prog_26_method_25_code 2 none 42 (sPush (0, .int 0) 43) from g_iconst d14_42 rfl) ?_
  refine okc_cons (show Good l Z hz shp A O (⟨"org/distinguo/graph/MinimumCostFlow", "startSearch", "(I)V"⟩ : MethodName) prog_26_method_25_code 2 none 43 (sPush (0, .int (-1)) 44) from g_iconst d14_43 rfl) ?_
  refine okc_cons (fun m hm => by
    obtain rfl : m = (4, cd_15) := (Option.some.inj hm).symm
    exact (show CallGood l Z hz shp A O (⟨"org/distinguo/graph/MinimumCostFlow", "startSearch", "(I)V"⟩ : MethodName) prog_26_method_25_code 2 none (⟨"org/distinguo/graph/MinimumCostFlow", "labelAndQueue", "(III)Z"⟩ : MethodName) prog_26_method_27_code 4 (some .boolean) 44 4 47 (ckObj 2) from c_private (a0 := a0) (sid := 2) (hd := d14_44) (hpl := pl_15) (hdesc := pd_15) (hna := rfl) (hy := by decide) (w1 := (hw _ (List.mem_of_getElem? (i := 169) rfl))) (w2 := (hw _ (List.mem_of_getElem? (i := 170) rfl))) (w3 := (hw _ (List.mem_of_getElem? (i := 53) rfl))) (w4 := (hw _ (List.mem_of_getElem? (i := 172) rfl))) (hs := rfl) (w5 := (hw _ (List.mem_of_getElem? (i := 171) rfl))) (w6 := (hw _ (List.mem_of_getElem? (i := 52) rfl))))) ?_
  refine okc_cons (show Good l Z hz shp A O (⟨"org/distinguo/graph/MinimumCostFlow", "startSearch", "(I)V"⟩ : MethodName) prog_26_method_25_code 2 none 47 (sPop 48) from g_pop d14_47) ?_
  refine okc_cons (show RetGood l Z hz shp A O (⟨"org/distinguo/graph/MinimumCostFlow", "startSearch", "(I)V"⟩ : MethodName) prog_26_method_25_code 2 none 48 (rVoid) from g_return d14_48) ?_
  exact okc_nil
set_option maxRecDepth 65536 in
set_option maxHeartbeats 40000000 in
theorem cok_15 (hw : ∀ d ∈ tables_1, d.before a0 Z = true) : ∀ el ∈ cd_15, ElOk l Z hz shp A O 96 704 mts mis 15 4 el := by
  unfold cd_15
  refine okc_cons (show Good l Z hz shp A O (⟨"org/distinguo/graph/MinimumCostFlow", "labelAndQueue", "(III)Z"⟩ : MethodName) prog_26_method_27_code 4 (some .boolean) 0 (sLoad 2 0 1) from g_aloadN d15_0) ?_
  refine okc_cons (show Good l Z hz shp A O (⟨"org/distinguo/graph/MinimumCostFlow", "labelAndQueue", "(III)Z"⟩ : MethodName) prog_26_method_27_code 4 (some .boolean) 1 (sGetF 2 16 4) from g_getfield (sid := 2) (i := 16) (R0 := "org/distinguo/graph/MinimumCostFlow") (host := "") d15_1 rfl rfl (Or.inl (hw _ (List.mem_of_getElem? (i := 117) rfl))) Via.refl) ?_
  refine okc_cons (show Good l Z hz shp A O (⟨"org/distinguo/graph/MinimumCostFlow", "labelAndQueue", "(III)Z"⟩ : MethodName) prog_26_method_27_code 4 (some .boolean) 4 (sLoad 0 1 5) from g_iloadN d15_4) ?_
  refine okc_cons (show Good l Z hz shp A O (⟨"org/distinguo/graph/MinimumCostFlow", "labelAndQueue", "(III)Z"⟩ : MethodName) prog_26_method_27_code 4 (some .boolean) 5 (sAld 4 6) from g_iaload (sid := 4) d15_5 rfl) ?_
  refine okc_cons (show Good l Z hz shp A O (⟨"org/distinguo/graph/MinimumCostFlow", "labelAndQueue", "(III)Z"⟩ : MethodName) prog_26_method_27_code 4 (some .boolean) 6 (sLoad 2 0 7) from g_aloadN d15_6) ?_
  refine okc_cons (show Good l Z hz shp A O (⟨"org/distinguo/graph/MinimumCostFlow", "labelAndQueue", "(III)Z"⟩ : MethodName) prog_26_method_27_code 4 (some .boolean) 7 (sGetF 2 24 10) from g_getfield (sid := 2) (i := 24) (R0 := "org/distinguo/graph/MinimumCostFlow") (host := "") d15_7 rfl rfl (Or.inl (hw _ (List.mem_of_getElem? (i := 155) rfl))) Via.refl) ?_
  refine okc_cons (show Good l Z hz shp A O (⟨"org/distinguo/graph/MinimumCostFlow", "labelAndQueue", "(III)Z"⟩ : MethodName) prog_26_method_27_code 4 (some .boolean) 10 (sIcmp .ne 25 13) from g_icmp d15_10 (by decide) (by decide)) ?_
  refine okc_cons (show Good l Z hz shp A O (⟨"org/distinguo/graph/MinimumCostFlow", "labelAndQueue", "(III)Z"⟩ : MethodName) prog_26_method_27_code 4 (some .boolean) 13 (sLoad 2 0 14) from g_aloadN d15_13) ?_
  refine okc_cons (show Good l Z hz shp A O (⟨"org/distinguo/graph/MinimumCostFlow", "labelAndQueue", "(III)Z"⟩ : MethodName) prog_26_method_27_code 4 (some .boolean) 14 (sGetF 2 17 17) from g_getfield (sid := 2) (i := 17) (R0 := "org/distinguo/graph/MinimumCostFlow") (host := "") d15_14 rfl rfl (Or.inl (hw _ (List.mem_of_getElem? (i := 119) rfl))) Via.refl) ?_
  refine okc_cons (show Good l Z hz shp A O (⟨"org/distinguo/graph/MinimumCostFlow", "labelAndQueue", "(III)Z"⟩ : MethodName) prog_26_method_27_code 4 (some .boolean) 17 (sLoad 0 1 18) from g_iloadN d15_17) ?_
  refine okc_cons (show Good l Z hz shp A O (⟨"org/distinguo/graph/MinimumCostFlow", "labelAndQueue", "(III)Z"⟩ : MethodName) prog_26_method_27_code 4 (some .boolean) 18 (sAld 4 19) from g_iaload (sid := 4) d15_18 rfl) ?_
  refine okc_cons (show Good l Z hz shp A O (⟨"org/distinguo/graph/MinimumCostFlow", "labelAndQueue", "(III)Z"⟩ : MethodName) prog_26_method_27_code 4 (some .boolean) 19 (sLoad 0 2 20) from g_iloadN d15_19) ?_
  refine okc_cons (show Good l Z hz shp A O (⟨"org/distinguo/graph/MinimumCostFlow", "labelAndQueue", "(III)Z"⟩ : MethodName) prog_26_method_27_code 4 (some .boolean) 20 (sIcmp .gt 25 23) from g_icmp d15_20 (by decide) (by decide)) ?_
  refine okc_cons (show Good l Z hz shp A O (⟨"org/distinguo/graph/MinimumCostFlow", "labelAndQueue", "(III)Z"⟩ : MethodName) prog_26_method_27_code 4 (some .boolean) 23 (sPush (0, .int 0) 24) from g_iconst d15_23 rfl) ?_
  refine okc_cons (show RetGood l Z hz shp A O (⟨"org/distinguo/graph/MinimumCostFlow", "labelAndQueue", "(III)Z"⟩ : MethodName) prog_26_method_27_code 4 (some .boolean) 24 (rVal .boolean) from g_ret d15_24 (by decide) (by simp)) ?_
  refine okc_cons (show Good l Z hz shp A O (⟨"org/distinguo/graph/MinimumCostFlow", "labelAndQueue", "(III)Z"⟩ : MethodName) prog_26_method_27_code 4 (some .boolean) 25 (sLoad 2 0 26) from g_aloadN d15_25) ?_
  refine okc_cons (show Good l Z hz shp A O (⟨"org/distinguo/graph/MinimumCostFlow", "labelAndQueue", "(III)Z"⟩ : MethodName) prog_26_method_27_code 4 (some .boolean) 26 (sGetF 2 16 29) from g_getfield (sid := 2) (i := 16) (R0 := "org/distinguo/graph/MinimumCostFlow") (host := "") d15_26 rfl rfl (Or.inl (hw _ (List.mem_of_getElem? (i := 117) rfl))) Via.refl) ?_
  refine okc_cons (show Good l Z hz shp A O (⟨"org/distinguo/graph/MinimumCostFlow", "labelAndQueue", "(III)Z"⟩ : MethodName) prog_26_method_27_code 4 (some .boolean) 29 (sLoad 0 1 30) from g_iloadN d15_29) ?_
  refine okc_cons (show Good l Z hz shp A O (⟨"org/distinguo/graph/MinimumCostFlow", "labelAndQueue", "(III)Z"⟩ : MethodName) prog_26_method_27_code 4 (some .boolean) 30 (sAld 4 31) from g_iaload (sid := 4) d15_30 rfl) ?_
  refine okc_cons (show Good l Z hz shp A O (⟨"org/distinguo/graph/MinimumCostFlow", "labelAndQueue", "(III)Z"⟩ : MethodName) prog_26_method_27_code 4 (some .boolean) 31 (sLoad 2 0 32) from g_aloadN d15_31) ?_
  refine okc_cons (show Good l Z hz shp A O (⟨"org/distinguo/graph/MinimumCostFlow", "labelAndQueue", "(III)Z"⟩ : MethodName) prog_26_method_27_code 4 (some .boolean) 32 (sGetF 2 24 35) from g_getfield (sid := 2) (i := 24) (R0 := "org/distinguo/graph/MinimumCostFlow") (host := "") d15_32 rfl rfl (Or.inl (hw _ (List.mem_of_getElem? (i := 155) rfl))) Via.refl) ?_
  refine okc_cons (show Good l Z hz shp A O (⟨"org/distinguo/graph/MinimumCostFlow", "labelAndQueue", "(III)Z"⟩ : MethodName) prog_26_method_27_code 4 (some .boolean) 35 (sIcmp .eq 55 38) from g_icmp d15_35 (by decide) (by decide)) ?_
  refine okc_cons (show Good l Z hz shp A O (⟨"org/distinguo/graph/MinimumCostFlow", "labelAndQueue", "(III)Z"⟩ : MethodName) prog_26_method_27_code 4 (some .boolean) 38 (sLoad 2 0 39) from g_aloadN d15_38) ?_
  refine okc_cons (show Good l Z hz shp A O (⟨"org/distinguo/graph/MinimumCostFlow", "labelAndQueue", "(III)Z"⟩ : MethodName) prog_26_method_27_code 4 (some .boolean) 39 (sGetF 2 16 42) from g_getfield (sid := 2) (i := 16) (R0 := "org/distinguo/graph/MinimumCostFlow") (host := "") d15_39 rfl rfl (Or.inl (hw _ (List.mem_of_getElem? (i := 117) rfl))) Via.refl) ?_
  refine okc_cons (show Good l Z hz shp A O (⟨"org/distinguo/graph/MinimumCostFlow", "labelAndQueue", "(III)Z"⟩ : MethodName) prog_26_method_27_code 4 (some .boolean) 42 (sLoad 0 1 43) from g_iloadN d15_42) ?_
  refine okc_cons (show Good l Z hz shp A O (⟨"org/distinguo/graph/MinimumCostFlow", "labelAndQueue", "(III)Z"⟩ : MethodName) prog_26_method_27_code 4 (some .boolean) 43 (sLoad 2 0 44) from g_aloadN d15_43) ?_
  refine okc_cons (show Good l Z hz shp A O (⟨"org/distinguo/graph/MinimumCostFlow", "labelAndQueue", "(III)Z"⟩ : MethodName) prog_26_method_27_code 4 (some .boolean) 44 (sGetF 2 24 47) from g_getfield (sid := 2) (i := 24) (R0 := "org/distinguo/graph/MinimumCostFlow") (host := "") d15_44 rfl rfl (Or.inl (hw _ (List.mem_of_getElem? (i := 155) rfl))) Via.refl) ?_
  refine okc_cons (show Good l Z hz shp A O (⟨"org/distinguo/graph/MinimumCostFlow", "labelAndQueue", "(III)Z"⟩ : MethodName) prog_26_method_27_code 4 (some .boolean) 47 (sAst 4 .int 48) from g_iastore (sid := 4) d15_47 rfl) ?_
  refine okc_cons (show Good l Z hz shp A O (⟨"org/distinguo/graph/MinimumCostFlow", "labelAndQueue", "(III)Z"⟩ : MethodName) prog_26_method_27_code 4 (some .boolean) 48 (sLoad 2 0 49) from g_aloadN d15_48) ?_
  refine okc_cons (show Good l Z hz shp A O (⟨"org/distinguo/graph/MinimumCostFlow", "labelAndQueue", "(III)Z"⟩ : MethodName) prog_26_method_27_code 4 (some .boolean) 49 (sGetF 2 19 52) from g_getfield (sid := 2) (i := 19) (R0 := "org/distinguo/graph/MinimumCostFlow") (host := "") d15_49 rfl rfl (Or.inl (hw _ (List.mem_of_getElem? (i := 123) rfl))) Via.refl) ?_
  refine okc_cons (show Good l Z hz shp A O (⟨"org/distinguo/graph/MinimumCostFlow", "labelAndQueue", "(III)Z"⟩ : MethodName) prog_26_method_27_code 4 (some .boolean) 52 (sLoad 0 1 53) from g_iloadN d15_52) ?_
  refine okc_cons (show Good l Z hz shp A O (⟨"org/distinguo/graph/MinimumCostFlow", "labelAndQueue", "(III)Z"⟩ : MethodName) prog_26_method_27_code 4 (some .boolean) 53 (sPush (0, .int 0) 54) from g_iconst d15_53 rfl) ?_
  refine okc_cons (show Good l Z hz shp A O (⟨"org/distinguo/graph/MinimumCostFlow", "labelAndQueue", "(III)Z"⟩ : MethodName) prog_26_method_27_code 4 (some .boolean) 54 (sAst 6 .boolean 55) from g_bastoreZ (sid := 6) d15_54 rfl) ?_
  refine okc_cons (show Good l Z hz shp A O (⟨"org/distinguo/graph/MinimumCostFlow", "labelAndQueue", "(III)Z"⟩ : MethodName) prog_26_method_27_code 4 (some .boolean) 55 (sLoad 2 0 56) from g_aloadN d15_55) ?_
  refine okc_cons (show Good l Z hz shp A O (⟨"org/distinguo/graph/MinimumCostFlow", "labelAndQueue", "(III)Z"⟩ : MethodName) prog_26_method_27_code 4 (some .boolean) 56 (sGetF 2 17 59) from g_getfield (sid := 2) (i := 17) (R0 := "org/distinguo/graph/MinimumCostFlow") (host := "") d15_56 rfl rfl (Or.inl (hw _ (List.mem_of_getElem? (i := 119) rfl))) Via.refl) ?_
  refine okc_cons (show Good l Z hz shp A O (⟨"org/distinguo/graph/MinimumCostFlow", "labelAndQueue", "(III)Z"⟩ : MethodName) prog_26_method_27_code 4 (some .boolean) 59 (sLoad 0 1 60) from g_iloadN d15_59) ?_
  refine okc_cons (show Good l Z hz shp A O (⟨"org/distinguo/graph/MinimumCostFlow", "labelAndQueue", "(III)Z"⟩ : MethodName) prog_26_method_27_code 4 (some .boolean) 60 (sLoad 0 2 61) from g_iloadN d15_60) ?_
  refine okc_cons (show Good l Z hz shp A O (⟨"org/distinguo/graph/MinimumCostFlow", "labelAndQueue", "(III)Z"⟩ : MethodName) prog_26_method_27_code 4 (some .boolean) 61 (sAst 4 .int 62) from g_iastore (sid := 4) d15_61 rfl) ?_
  refine okc_cons (show Good l Z hz shp A O (⟨"org/distinguo/graph/MinimumCostFlow", "labelAndQueue", "(III)Z"⟩ : MethodName) prog_26_method_27_code 4 (some .boolean) 62 (sLoad 2 0 63) from g_aloadN d15_62) ?_
  refine okc_cons (show Good l Z hz shp A O (⟨"org/distinguo/graph/MinimumCostFlow", "labelAndQueue", "(III)Z"⟩ : MethodName) prog_26_method_27_code 4 (some .boolean) 63 (sGetF 2 18 66) from g_getfield (sid := 2) (i := 18) (R0 := "org/distinguo/graph/MinimumCostFlow") (host := "") d15_63 rfl rfl (Or.inl (hw _ (List.mem_of_getElem? (i := 121) rfl))) Via.refl) ?_
  refine okc_cons (show Good l Z hz shp A O (⟨"org/distinguo/graph/MinimumCostFlow", "labelAndQueue", "(III)Z"⟩ : MethodName) prog_26_method_27_code 4 (some .boolean) 66 (sLoad 0 1 67) from g_iloadN d15_66) ?_
  refine okc_cons (show Good l Z hz shp A O (⟨"org/distinguo/graph/MinimumCostFlow", "labelAndQueue", "(III)Z"⟩ : MethodName) prog_26_method_27_code 4 (some .boolean) 67 (sLoad 0 3 68) from g_iloadN d15_67) ?_
  refine okc_cons (show Good l Z hz shp A O (⟨"org/distinguo/graph/MinimumCostFlow", "labelAndQueue", "(III)Z"⟩ : MethodName) prog_26_method_27_code 4 (some .boolean) 68 (sAst 4 .int 69) from g_iastore (sid := 4) d15_68 rfl) ?_
  refine okc_cons (show Good l Z hz shp A O (⟨"org/distinguo/graph/MinimumCostFlow", "labelAndQueue", "(III)Z"⟩ : MethodName) prog_26_method_27_code 4 (some .boolean) 69 (sLoad 0 2 70) from g_iloadN d15_69) ?_
  refine okc_cons (show Good l Z hz shp A O (⟨"org/distinguo/graph/MinimumCostFlow", "labelAndQueue", "(III)Z"⟩ : MethodName) prog_26_method_27_code 4 (some .boolean) 70 (sLoad 2 0 71) from g_aloadN d15_70) ?_
  refine okc_cons (show Good l Z hz shp A O (⟨"org/distinguo/graph/MinimumCostFlow", "labelAndQueue", "(III)Z"⟩ : MethodName) prog_26_method_27_code 4 (some .boolean) 71 (sGetF 2 30 74) from g_getfield (sid := 2) (i := 30) (R0 := "org/distinguo/graph/MinimumCostFlow") (host := "") d15_71 rfl rfl (Or.inl (hw _ (List.mem_of_getElem? (i := 167) rfl))) Via.refl) ?_
  refine okc_cons (show Good l Z hz shp A O (⟨"org/distinguo/graph/MinimumCostFlow", "labelAndQueue", "(III)Z"⟩ : MethodName) prog_26_method_27_code 4 (some .boolean) 74 (sIcmp .ne 97 77) from g_icmp d15_74 (by decide) (by decide)) ?_
  refine okc_cons (show Good l Z hz shp A O (⟨"org/distinguo/graph/MinimumCostFlow", "labelAndQueue", "(III)Z"⟩ : MethodName) prog_26_method_27_code 4 (some .boolean) 77 (sLoad 2 0 78) from g_aloadN d15_77) ?_
  refine okc_cons (show Good l Z hz shp A O (⟨"org/distinguo/graph/MinimumCostFlow", "labelAndQueue", "(III)Z"⟩ : MethodName) prog_26_method_27_code 4 (some .boolean) 78 (sGetF 2 21 81) from g_getfield (sid := 2) (i := 21) (R0 := "org/distinguo/graph/MinimumCostFlow") (host := "") d15_78 rfl rfl (Or.inl (hw _ (List.mem_of_getElem? (i := 127) rfl))) Via.refl) ?_
  refine okc_cons (show Good l Z hz shp A O (⟨"org/distinguo/graph/MinimumCostFlow", "labelAndQueue", "(III)Z"⟩ : MethodName) prog_26_method_27_code 4 (some .boolean) 81 (sLoad 2 0 82) from g_aloadN d15_81) ?_
  refine okc_cons (show Good l Z hz shp A O (⟨"org/distinguo/graph/MinimumCostFlow", "labelAndQueue", "(III)Z"⟩ : MethodName) prog_26_method_27_code 4 (some .boolean) 82 (sDup 83) from g_dup d15_82) ?_
  refine okc_cons (show Good l Z hz shp A O (⟨"org/distinguo/graph/MinimumCostFlow", "labelAndQueue", "(III)Z"⟩ : MethodName) prog_26_method_27_code 4 (some .boolean) 83 (sGetF 2 29 86) from g_getfield (sid := 2) (i := 29) (R0 := "org/distinguo/graph/MinimumCostFlow") (host := "") d15_83 rfl rfl (Or.inl (hw _ (List.mem_of_getElem? (i := 165) rfl))) Via.refl) ?_
  refine okc_cons (show Good l Z hz shp A O (⟨"org/distinguo/graph/MinimumCostFlow", "labelAndQueue", "(III)Z"⟩ : MethodName) prog_26_method_27_code 4 (some .boolean) 86 (sDupX1 87) from g_dupX1 d15_86) ?_
  refine okc_cons (show Good l Z hz shp A O (⟨"org/distinguo/graph/MinimumCostFlow", "labelAndQueue", "(III)Z"⟩ : MethodName) prog_26_method_27_code 4 (some .boolean) 87 (sPush (0, .int 1) 88) from g_iconst d15_87 rfl) ?_
  refine okc_cons (show Good l Z hz shp A O (⟨"org/distinguo/graph/MinimumCostFlow", "labelAndQueue", "(III)Z"⟩ : MethodName) prog_26_method_27_code 4 (some .boolean) 88 (sBin 0 0 0 (jI Term.add) 89) from g_iadd d15_88) ?_
  refine okc_cons (show Good l Z hz shp A O (⟨"org/distinguo/graph/MinimumCostFlow", "labelAndQueue", "(III)Z"⟩ : MethodName) prog_26_method_27_code 4 (some .boolean) 89 (sPutF 2 29 .int 92) from g_putfield (sid := 2) (i := 29) (R0 := "org/distinguo/graph/MinimumCostFlow") d15_89 rfl (sok_2 hw) rfl (by decide) (hw _ (List.mem_of_getElem? (i := 165) rfl)) Via.refl (Or.inl (hw _ (List.mem_of_getElem? (i := 166) rfl)))) ?_
  refine okc_cons (show Good l Z hz shp A O (⟨"org/distinguo/graph/MinimumCostFlow", "labelAndQueue", "(III)Z"⟩ : MethodName) prog_26_method_27_code 4 (some .boolean) 92 (sLoad 0 1 93) from g_iloadN d15_92) ?_
  refine okc_cons (show Good l Z hz shp A O (⟨"org/distinguo/graph/MinimumCostFlow", "labelAndQueue", "(III)Z"⟩ : MethodName) prog_26_method_27_code 4 (some .boolean) 93 (sAst 4 .int 94) from g_iastore (sid := 4) d15_93 rfl) ?_
  refine okc_cons (show Good l Z hz shp A O (⟨"org/distinguo/graph/MinimumCostFlow", "labelAndQueue", "(III)Z"⟩ : MethodName) prog_26_method_27_code 4 (some .boolean) 94 (sGoto 109) from g_goto d15_94 (by decide) (by decide)) ?_
  refine okc_cons (show Good l Z hz shp A O (⟨"org/distinguo/graph/MinimumCostFlow", "labelAndQueue", "(III)Z"⟩ : MethodName) prog_26_method_27_code 4 (some .boolean) 97 (sLoad 2 0 98) from g_aloadN d15_97) ?_
  refine okc_cons (show Good l Z hz shp A O (⟨"org/distinguo/graph/MinimumCostFlow", "labelAndQueue", "(III)Z"⟩ : MethodName) prog_26_method_27_code 4 (some .boolean) 98 (sLoad 0 2 99) from g_iloadN d15_98) ?_
  refine okc_cons (show Good l Z hz shp A O (⟨"org/distinguo/graph/MinimumCostFlow", "labelAndQueue", "(III)Z"⟩ : MethodName) prog_26_method_27_code 4 (some .boolean) 99 (sUn 0 1 (uL (Term.op1 .i2l)) 100) from g_i2l d15_99) ?_
  refine okc_cons (show Good l Z hz shp A O (⟨"org/distinguo/graph/MinimumCostFlow", "labelAndQueue", "(III)Z"⟩ : MethodName) prog_26_method_27_code 4 (some .boolean) 100 (sPush (0, .int 32) 102) from g_bipush d15_100 rfl) ?_
  refine okc_cons (show Good l Z hz shp A O (⟨"org/distinguo/graph/MinimumCostFlow", "labelAndQueue", "(III)Z"⟩ : MethodName) prog_26_method_27_code 4 (some .boolean) 102 (sBin 1 0 1 (jL (Term.op2 .lshl)) 103) from g_lshl d15_102) ?_
  refine okc_cons (show Good l Z hz shp A O (⟨"org/distinguo/graph/MinimumCostFlow", "labelAndQueue", "(III)Z"⟩ : MethodName) prog_26_method_27_code 4 (some .boolean) 103 (sLoad 0 1 104) from g_iloadN d15_103) ?_
  refine okc_cons (show Good l Z hz shp A O (⟨"org/distinguo/graph/MinimumCostFlow", "labelAndQueue", "(III)Z"⟩ : MethodName) prog_26_method_27_code 4 (some .boolean) 104 (sUn 0 1 (uL (Term.op1 .i2l)) 105) from g_i2l d15_104) ?_
  refine okc_cons (show Good l Z hz shp A O (⟨"org/distinguo/graph/MinimumCostFlow", "labelAndQueue", "(III)Z"⟩ : MethodName) prog_26_method_27_code 4 (some .boolean) 105 (sBin 1 1 1 (jL (Term.op2 .lor)) 106) from g_lor d15_105) ?_
  refine okc_cons (fun m hm => by
    obtain rfl : m = (4, cd_25) := (Option.some.inj hm).symm
    exact (show CallGood l Z hz shp A O (⟨"org/distinguo/graph/MinimumCostFlow", "labelAndQueue", "(III)Z"⟩ : MethodName) prog_26_method_27_code 4 (some .boolean) (⟨"org/distinguo/graph/MinimumCostFlow", "push", "(J)V"⟩ : MethodName) prog_26_method_28_code 4 none 106 2 109 (ckObj 2) from c_private (a0 := a0) (sid := 2) (hd := d15_106) (hpl := pl_25) (hdesc := pd_25) (hna := rfl) (hy := by decide) (w1 := (hw _ (List.mem_of_getElem? (i := 215) rfl))) (w2 := (hw _ (List.mem_of_getElem? (i := 216) rfl))) (w3 := (hw _ (List.mem_of_getElem? (i := 53) rfl))) (w4 := (hw _ (List.mem_of_getElem? (i := 218) rfl))) (hs := rfl) (w5 := (hw _ (List.mem_of_getElem? (i := 217) rfl))) (w6 := (hw _ (List.mem_of_getElem? (i := 52) rfl))))) ?_
  refine okc_cons (show Good l Z hz shp A O (⟨"org/distinguo/graph/MinimumCostFlow", "labelAndQueue", "(III)Z"⟩ : MethodName) prog_26_method_27_code 4 (some .boolean) 109 (sPush (0, .int 1) 110) from g_iconst d15_109 rfl) ?_
  refine okc_cons (show RetGood l Z hz shp A O (⟨"org/distinguo/graph/MinimumCostFlow", "labelAndQueue", "(III)Z"⟩ : MethodName) prog_26_method_27_code 4 (some .boolean) 110 (rVal .boolean) from g_ret d15_110 (by decide) (by simp)) ?_
  exact okc_nil
set_option maxRecDepth 65536 in
set_option maxHeartbeats 40000000 in
theorem cok_16 (hw : ∀ d ∈ tables_1, d.before a0 Z = true) : ∀ el ∈ cd_16, ElOk l Z hz shp A O 96 704 mts mis 16 8 el := by
  unfold cd_16
  refine okc_cons (show Good l Z hz shp A O (⟨"org/distinguo/graph/MinimumCostFlow", "nextBack", "(J)I"⟩ : MethodName) prog_26_method_11_code 8 (some .int) 0 (sLoad 2 0 1) from g_aloadN d16_0) ?_
  refine okc_cons (fun m hm => by
    obtain rfl : m = (1, cd_17) := (Option.some.inj hm).symm
    exact (show CallGood l Z hz shp A O (⟨"org/distinguo/graph/MinimumCostFlow", "nextBack", "(J)I"⟩ : MethodName) prog_26_method_11_code 8 (some .int) (⟨"org/distinguo/graph/MinimumCostFlow", "smallestQueued", "()J"⟩ : MethodName) prog_26_method_26_code 1 (some .long) 1 1 4 (ckObj 2) from c_private (a0 := a0) (sid := 2) (hd := d16_1) (hpl := pl_17) (hdesc := pd_17) (hna := rfl) (hy := by decide) (w1 := (hw _ (List.mem_of_getElem? (i := 178) rfl))) (w2 := (hw _ (List.mem_of_getElem? (i := 179) rfl))) (w3 := (hw _ (List.mem_of_getElem? (i := 53) rfl))) (w4 := (hw _ (List.mem_of_getElem? (i := 181) rfl))) (hs := rfl) (w5 := (hw _ (List.mem_of_getElem? (i := 180) rfl))) (w6 := (hw _ (List.mem_of_getElem? (i := 52) rfl))))) ?_
  refine okc_cons (show Good l Z hz shp A O (⟨"org/distinguo/graph/MinimumCostFlow", "nextBack", "(J)I"⟩ : MethodName) prog_26_method_11_code 8 (some .int) 4 (sPush (1, .long 0) 5) from g_lconst d16_4 rfl) ?_
  refine okc_cons (show Good l Z hz shp A O (⟨"org/distinguo/graph/MinimumCostFlow", "nextBack", "(J)I"⟩ : MethodName) prog_26_method_11_code 8 (some .int) 5 (sBin 1 1 0 (jI (Term.op2 .lcmp)) 6) from g_lcmp d16_5) ?_
  refine okc_cons (show Good l Z hz shp A O (⟨"org/distinguo/graph/MinimumCostFlow", "nextBack", "(J)I"⟩ : MethodName) prog_26_method_11_code 8 (some .int) 6 (sIf .lt 128 9) from g_if d16_6 (by decide) (by decide)) ?_
  refine okc_cons (show Good l Z hz shp A O (⟨"org/distinguo/graph/MinimumCostFlow", "nextBack", "(J)I"⟩ : MethodName) prog_26_method_11_code 8 (some .int) 9 (sLoad 2 0 10) from g_aloadN d16_9) ?_
  refine okc_cons (fun m hm => by
    obtain rfl : m = (1, cd_17) := (Option.some.inj hm).symm
    exact (show CallGood l Z hz shp A O (⟨"org/distinguo/graph/MinimumCostFlow", "nextBack", "(J)I"⟩ : MethodName) prog_26_method_11_code 8 (some .int) (⟨"org/distinguo/graph/MinimumCostFlow", "smallestQueued", "()J"⟩ : MethodName) prog_26_method_26_code 1 (some .long) 10 1 13 (ckObj 2) from c_private (a0 := a0) (sid := 2) (hd := d16_10) (hpl := pl_17) (hdesc := pd_17) (hna := rfl) (hy := by decide) (w1 := (hw _ (List.mem_of_getElem? (i := 178) rfl))) (w2 := (hw _ (List.mem_of_getElem? (i := 179) rfl))) (w3 := (hw _ (List.mem_of_getElem? (i := 53) rfl))) (w4 := (hw _ (List.mem_of_getElem? (i := 181) rfl))) (hs := rfl) (w5 := (hw _ (List.mem_of_getElem? (i := 180) rfl))) (w6 := (hw _ (List.mem_of_getElem? (i := 52) rfl))))) ?_
  refine okc_cons (show Good l Z hz shp A O (⟨"org/distinguo/graph/MinimumCostFlow", "nextBack", "(J)I"⟩ : MethodName) prog_26_method_11_code 8 (some .int) 13 (sLoad 1 1 14) from g_lloadN d16_13) ?_
  refine okc_cons (show Good l Z hz shp A O (⟨"org/distinguo/graph/MinimumCostFlow", "nextBack", "(J)I"⟩ : MethodName) prog_26_method_11_code 8 (some .int) 14 (sBin 1 1 0 (jI (Term.op2 .lcmp)) 15) from g_lcmp d16_14) ?_
  refine okc_cons (show Good l Z hz shp A O (⟨"org/distinguo/graph/MinimumCostFlow", "nextBack", "(J)I"⟩ : MethodName) prog_26_method_11_code 8 (some .int) 15 (sIf .gt 128 18) from g_if d16_15 (by decide) (by decide)) ?_
  refine okc_cons (show Good l Z hz shp A O (⟨"org/distinguo/graph/MinimumCostFlow", "nextBack", "(J)I"⟩ : MethodName) prog_26_method_11_code 8 (some .int) 18 (sLoad 2 0 19) from g_aloadN d16_18) ?_
  refine okc_cons (fun m hm => by
    obtain rfl : m = (7, cd_21) := (Option.some.inj hm).symm
    exact (show CallGood l Z hz shp A O (⟨"org/distinguo/graph/MinimumCostFlow", "nextBack", "(J)I"⟩ : MethodName) prog_26_method_11_code 8 (some .int) (⟨"org/distinguo/graph/MinimumCostFlow", "settleNext", "()I"⟩ : MethodName) prog_26_method_29_code 7 (some .int) 19 1 22 (ckObj 2) from c_private (a0 := a0) (sid := 2) (hd := d16_19) (hpl := pl_21) (hdesc := pd_21) (hna := rfl) (hy := by decide) (w1 := (hw _ (List.mem_of_getElem? (i := 198) rfl))) (w2 := (hw _ (List.mem_of_getElem? (i := 199) rfl))) (w3 := (hw _ (List.mem_of_getElem? (i := 53) rfl))) (w4 := (hw _ (List.mem_of_getElem? (i := 201) rfl))) (hs := rfl) (w5 := (hw _ (List.mem_of_getElem? (i := 200) rfl))) (w6 := (hw _ (List.mem_of_getElem? (i := 52) rfl))))) ?_
  refine okc_cons (show Good l Z hz shp A O (⟨"org/distinguo/graph/MinimumCostFlow", "nextBack", "(J)I"⟩ : MethodName) prog_26_method_11_code 8 (some .int) 22 (sStore 0 3 23) from g_istoreN d16_22) ?_
  refine okc_cons (show Good l Z hz shp A O (⟨"org/distinguo/graph/MinimumCostFlow", "nextBack", "(J)I"⟩ : MethodName) prog_26_method_11_code 8 (some .int) 23 (sLoad 0 3 24) from g_iloadN d16_23) ?_
  refine okc_cons (show Good l Z hz shp A O (⟨"org/distinguo/graph/MinimumCostFlow", "nextBack", "(J)I"⟩ : MethodName) prog_26_method_11_code 8 (some .int) 24 (sIf .ge 30 27) from g_if d16_24 (by decide) (by decide)) ?_
  refine okc_cons (show Good l Z hz shp A O (⟨"org/distinguo/graph/MinimumCostFlow", "nextBack", "(J)I"⟩ : MethodName) prog_26_method_11_code 8 (some .int) 27 (sGoto 0) from g_goto d16_27 (by decide) (by decide)) ?_
  refine okc_cons (show Good l Z hz shp A O (⟨"org/distinguo/graph/MinimumCostFlow", "nextBack", "(J)I"⟩ : MethodName) prog_26_method_11_code 8 (some .int) 30 (sLoad 2 0 31) from g_aloadN d16_30) ?_
  refine okc_cons (show Good l Z hz shp A O (⟨"org/distinguo/graph/MinimumCostFlow", "nextBack", "(J)I"⟩ : MethodName) prog_26_method_11_code 8 (some .int) 31 (sGetF 2 2 34) from g_getfield (sid := 2) (i := 2) (R0 := "org/distinguo/graph/MinimumCostFlow") (host := "") d16_31 rfl rfl (Or.inl (hw _ (List.mem_of_getElem? (i := 74) rfl))) Via.refl) ?_
  refine okc_cons (show Good l Z hz shp A O (⟨"org/distinguo/graph/MinimumCostFlow", "nextBack", "(J)I"⟩ : MethodName) prog_26_method_11_code 8 (some .int) 34 (sLoad 0 3 35) from g_iloadN d16_34) ?_
  refine okc_cons (show Good l Z hz shp A O (⟨"org/distinguo/graph/MinimumCostFlow", "nextBack", "(J)I"⟩ : MethodName) prog_26_method_11_code 8 (some .int) 35 (sAld 4 36) from g_iaload (sid := 4) d16_35 rfl) ?_
  refine okc_cons (show Good l Z hz shp A O (⟨"org/distinguo/graph/MinimumCostFlow", "nextBack", "(J)I"⟩ : MethodName) prog_26_method_11_code 8 (some .int) 36 (sStore 0 4 38) from g_istore d16_36) ?_
  refine okc_cons (show Good l Z hz shp A O (⟨"org/distinguo/graph/MinimumCostFlow", "nextBack", "(J)I"⟩ : MethodName) prog_26_method_11_code 8 (some .int) 38 (sLoad 0 4 40) from g_iload d16_38) ?_
  refine okc_cons (show Good l Z hz shp A O (⟨"org/distinguo/graph/MinimumCostFlow", "nextBack", "(J)I"⟩ : MethodName) prog_26_method_11_code 8 (some .int) 40 (sLoad 2 0 41) from g_aloadN d16_40) ?_
  refine okc_cons (show Good l Z hz shp A O (⟨"org/distinguo/graph/MinimumCostFlow", "nextBack", "(J)I"⟩ : MethodName) prog_26_method_11_code 8 (some .int) 41 (sGetF 2 2 44) from g_getfield (sid := 2) (i := 2) (R0 := "org/distinguo/graph/MinimumCostFlow") (host := "") d16_41 rfl rfl (Or.inl (hw _ (List.mem_of_getElem? (i := 74) rfl))) Via.refl) ?_
  refine okc_cons (show Good l Z hz shp A O (⟨"org/distinguo/graph/MinimumCostFlow", "nextBack", "(J)I"⟩ : MethodName) prog_26_method_11_code 8 (some .int) 44 (sLoad 0 3 45) from g_iloadN d16_44) ?_
  refine okc_cons (show Good l Z hz shp A O (⟨"org/distinguo/graph/MinimumCostFlow", "nextBack", "(J)I"⟩ : MethodName) prog_26_method_11_code 8 (some .int) 45 (sPush (0, .int 1) 46) from g_iconst d16_45 rfl) ?_
  refine okc_cons (show Good l Z hz shp A O (⟨"org/distinguo/graph/MinimumCostFlow", "nextBack", "(J)I"⟩ : MethodName) prog_26_method_11_code 8 (some .int) 46 (sBin 0 0 0 (jI Term.add) 47) from g_iadd d16_46) ?_
  refine okc_cons (show Good l Z hz shp A O (⟨"org/distinguo/graph/MinimumCostFlow", "nextBack", "(J)I"⟩ : MethodName) prog_26_method_11_code 8 (some .int) 47 (sAld 4 48) from g_iaload (sid := 4) d16_47 rfl) ?_
  refine okc_cons (show Good l Z hz shp A O (⟨"org/distinguo/graph/MinimumCostFlow", "nextBack", "(J)I"⟩ : MethodName) prog_26_method_11_code 8 (some .int) 48 (sIcmp .ge 126 51) from g_icmp d16_48 (by decide) (by decide)) ?_
  refine okc_cons (show Good l Z hz shp A O (⟨"org/distinguo/graph/MinimumCostFlow", "nextBack", "(J)I"⟩ : MethodName) prog_26_method_11_code 8 (some .int) 51 (sLoad 2 0 52) from g_aloadN d16_51) ?_
  refine okc_cons (show Good l Z hz shp A O (⟨"org/distinguo/graph/MinimumCostFlow", "nextBack", "(J)I"⟩ : MethodName) prog_26_method_11_code 8 (some .int) 52 (sGetF 2 4 55) from g_getfield (sid := 2) (i := 4) (R0 := "org/distinguo/graph/MinimumCostFlow") (host := "") d16_52 rfl rfl (Or.inl (hw _ (List.mem_of_getElem? (i := 78) rfl))) Via.refl) ?_
  refine okc_cons (show Good l Z hz shp A O (⟨"org/distinguo/graph/MinimumCostFlow", "nextBack", "(J)I"⟩ : MethodName) prog_26_method_11_code 8 (some .int) 55 (sLoad 0 4 57) from g_iload d16_55) ?_
  refine okc_cons (show Good l Z hz shp A O (⟨"org/distinguo/graph/MinimumCostFlow", "nextBack", "(J)I"⟩ : MethodName) prog_26_method_11_code 8 (some .int) 57 (sAld 4 58) from g_iaload (sid := 4) d16_57 rfl) ?_
  refine okc_cons (show Good l Z hz shp A O (⟨"org/distinguo/graph/MinimumCostFlow", "nextBack", "(J)I"⟩ : MethodName) prog_26_method_11_code 8 (some .int) 58 (sStore 0 5 60) from g_istore d16_58) ?_
  refine okc_cons (show Good l Z hz shp A O (⟨"org/distinguo/graph/MinimumCostFlow", "nextBack", "(J)I"⟩ : MethodName) prog_26_method_11_code 8 (some .int) 60 (sLoad 2 0 61) from g_aloadN d16_60) ?_
  refine okc_cons (show Good l Z hz shp A O (⟨"org/distinguo/graph/MinimumCostFlow", "nextBack", "(J)I"⟩ : MethodName) prog_26_method_11_code 8 (some .int) 61 (sGetF 2 17 64) from g_getfield (sid := 2) (i := 17) (R0 := "org/distinguo/graph/MinimumCostFlow") (host := "") d16_61 rfl rfl (Or.inl (hw _ (List.mem_of_getElem? (i := 119) rfl))) Via.refl) ?_
  refine okc_cons (show Good l Z hz shp A O (⟨"org/distinguo/graph/MinimumCostFlow", "nextBack", "(J)I"⟩ : MethodName) prog_26_method_11_code 8 (some .int) 64 (sLoad 0 3 65) from g_iloadN d16_64) ?_
  refine okc_cons (show Good l Z hz shp A O (⟨"org/distinguo/graph/MinimumCostFlow", "nextBack", "(J)I"⟩ : MethodName) prog_26_method_11_code 8 (some .int) 65 (sAld 4 66) from g_iaload (sid := 4) d16_65 rfl) ?_
  refine okc_cons (show Good l Z hz shp A O (⟨"org/distinguo/graph/MinimumCostFlow", "nextBack", "(J)I"⟩ : MethodName) prog_26_method_11_code 8 (some .int) 66 (sLoad 2 0 67) from g_aloadN d16_66) ?_
  refine okc_cons (show Good l Z hz shp A O (⟨"org/distinguo/graph/MinimumCostFlow", "nextBack", "(J)I"⟩ : MethodName) prog_26_method_11_code 8 (some .int) 67 (sLoad 0 3 68) from g_iloadN d16_67) ?_
  refine okc_cons (show Good l Z hz shp A O (⟨"org/distinguo/graph/MinimumCostFlow", "nextBack", "(J)I"⟩ : MethodName) prog_26_method_11_code 8 (some .int) 68 (sLoad 0 4 70) from g_iload d16_68) ?_
  refine okc_cons (fun m hm => by
    obtain rfl : m = (3, cd_23) := (Option.some.inj hm).symm
    exact (show CallGood l Z hz shp A O (⟨"org/distinguo/graph/MinimumCostFlow", "nextBack", "(J)I"⟩ : MethodName) prog_26_method_11_code 8 (some .int) (⟨"org/distinguo/graph/MinimumCostFlow", "reducedCost", "(II)I"⟩ : MethodName) prog_26_method_24_code 3 (some .int) 70 3 73 (ckObj 2) from c_private (a0 := a0) (sid := 2) (hd := d16_70) (hpl := pl_23) (hdesc := pd_23) (hna := rfl) (hy := by decide) (w1 := (hw _ (List.mem_of_getElem? (i := 206) rfl))) (w2 := (hw _ (List.mem_of_getElem? (i := 207) rfl))) (w3 := (hw _ (List.mem_of_getElem? (i := 53) rfl))) (w4 := (hw _ (List.mem_of_getElem? (i := 209) rfl))) (hs := rfl) (w5 := (hw _ (List.mem_of_getElem? (i := 208) rfl))) (w6 := (hw _ (List.mem_of_getElem? (i := 52) rfl))))) ?_
  refine okc_cons (show Good l Z hz shp A O (⟨"org/distinguo/graph/MinimumCostFlow", "nextBack", "(J)I"⟩ : MethodName) prog_26_method_11_code 8 (some .int) 73 (sBin 0 0 0 xSub 74) from gx_isub xSub_ok d16_73) ?_
  refine okc_cons (show Good l Z hz shp A O (⟨"org/distinguo/graph/MinimumCostFlow", "nextBack", "(J)I"⟩ : MethodName) prog_26_method_11_code 8 (some .int) 74 (sUn 0 1 (uL (Term.op1 .i2l)) 75) from g_i2l d16_74) ?_
  refine okc_cons (show Good l Z hz shp A O (⟨"org/distinguo/graph/MinimumCostFlow", "nextBack", "(J)I"⟩ : MethodName) prog_26_method_11_code 8 (some .int) 75 (sStore 1 6 77) from g_lstore d16_75) ?_
  refine okc_cons (show Good l Z hz shp A O (⟨"org/distinguo/graph/MinimumCostFlow", "nextBack", "(J)I"⟩ : MethodName) prog_26_method_11_code 8 (some .int) 77 (sLoad 2 0 78) from g_aloadN d16_77) ?_
  refine okc_cons (show Good l Z hz shp A O (⟨"org/distinguo/graph/MinimumCostFlow", "nextBack", "(J)I"⟩ : MethodName) prog_26_method_11_code 8 (some .int) 78 (sGetF 2 8 81) from g_getfield (sid := 2) (i := 8) (R0 := "org/distinguo/graph/MinimumCostFlow") (host := "") d16_78 rfl rfl (Or.inl (hw _ (List.mem_of_getElem? (i := 86) rfl))) Via.refl) ?_
  refine okc_cons (show Good l Z hz shp A O (⟨"org/distinguo/graph/MinimumCostFlow", "nextBack", "(J)I"⟩ : MethodName) prog_26_method_11_code 8 (some .int) 81 (sLoad 0 4 83) from g_iload d16_81) ?_
  refine okc_cons (show Good l Z hz shp A O (⟨"org/distinguo/graph/MinimumCostFlow", "nextBack", "(J)I"⟩ : MethodName) prog_26_method_11_code 8 (some .int) 83 (sAld 4 84) from g_iaload (sid := 4) d16_83 rfl) ?_
  refine okc_cons (show Good l Z hz shp A O (⟨"org/distinguo/graph/MinimumCostFlow", "nextBack", "(J)I"⟩ : MethodName) prog_26_method_11_code 8 (some .int) 84 (sIf .le 120 87) from g_if d16_84 (by decide) (by decide)) ?_
  refine okc_cons (show Good l Z hz shp A O (⟨"org/distinguo/graph/MinimumCostFlow", "nextBack", "(J)I"⟩ : MethodName) prog_26_method_11_code 8 (some .int) 87 (sLoad 1 6 89) from g_lload d16_87) ?_
  refine okc_cons (show Good l Z hz shp A O (⟨"org/distinguo/graph/MinimumCostFlow", "nextBack", "(J)I"⟩ : MethodName) prog_26_method_11_code 8 (some .int) 89 (sLoad 1 1 90) from g_lloadN d16_89) ?_
  refine okc_cons (show Good l Z hz shp A O (⟨"org/distinguo/graph/MinimumCostFlow", "nextBack", "(J)I"⟩ : MethodName) prog_26_method_11_code 8 (some .int) 90 (sBin 1 1 0 (jI (Term.op2 .lcmp)) 91) from g_lcmp d16_90) ?_
  refine okc_cons (show Good l Z hz shp A O (⟨"org/distinguo/graph/MinimumCostFlow", "nextBack", "(J)I"⟩ : MethodName) prog_26_method_11_code 8 (some .int) 91 (sIf .gt 120 94) from g_if d16_91 (by decide) (by decide)) ?_
  refine okc_cons (show Good l Z hz shp A O (⟨"org/distinguo/graph/MinimumCostFlow", "nextBack", "(J)I"⟩ : MethodName) prog_26_method_11_code 8 (some .int) 94 (sLoad 2 0 95) from g_aloadN d16_94) ?_
  refine okc_cons (show Good l Z hz shp A O (⟨"org/distinguo/graph/MinimumCostFlow", "nextBack", "(J)I"⟩ : MethodName) prog_26_method_11_code 8 (some .int) 95 (sLoad 0 5 97) from g_iload d16_95) ?_
  refine okc_cons (fun m hm => by
    obtain rfl : m = (2, cd_24) := (Option.some.inj hm).symm
    exact (show CallGood l Z hz shp A O (⟨"org/distinguo/graph/MinimumCostFlow", "nextBack", "(J)I"⟩ : MethodName) prog_26_method_11_code 8 (some .int) (⟨"org/distinguo/graph/MinimumCostFlow", "isSettled", "(I)Z"⟩ : MethodName) prog_26_method_12_code 2 (some .boolean) 97 2 100 (ckObj 2) from c_virtual (a0 := a0) (sid := 2) (hd := d16_97) (hpl := pl_24) (hdesc := pd_24) (hna := rfl) (hy := by decide) (w1 := (hw _ (List.mem_of_getElem? (i := 210) rfl))) (w2 := (hw _ (List.mem_of_getElem? (i := 212) rfl))) (w3 := (hw _ (List.mem_of_getElem? (i := 53) rfl))) (w4 := (hw _ (List.mem_of_getElem? (i := 214) rfl))) (hs := rfl) (w5 := (hw _ (List.mem_of_getElem? (i := 211) rfl))) (w6 := (hw _ (List.mem_of_getElem? (i := 213) rfl))))) ?_
  refine okc_cons (show Good l Z hz shp A O (⟨"org/distinguo/graph/MinimumCostFlow", "nextBack", "(J)I"⟩ : MethodName) prog_26_method_11_code 8 (some .int) 100 (sIf .ne 120 103) from g_if d16_100 (by decide) (by decide)) ?_
  refine okc_cons (show Good l Z hz shp A O (⟨"org/distinguo/graph/MinimumCostFlow", "nextBack", "(J)I"⟩ : MethodName) prog_26_method_11_code 8 (some .int) 103 (sLoad 2 0 104) from g_aloadN d16_103) ?_
  refine okc_cons (show Good l Z hz shp A O (⟨"org/distinguo/graph/MinimumCostFlow", "nextBack", "(J)I"⟩ : MethodName) prog_26_method_11_code 8 (some .int) 104 (sLoad 0 5 106) from g_iload d16_104) ?_
  refine okc_cons (show Good l Z hz shp A O (⟨"org/distinguo/graph/MinimumCostFlow", "nextBack", "(J)I"⟩ : MethodName) prog_26_method_11_code 8 (some .int) 106 (sLoad 1 6 108) from g_lload d16_106) ?_
  refine okc_cons (show Good l Z hz shp A O (⟨"org/distinguo/graph/MinimumCostFlow", "nextBack", "(J)I"⟩ : MethodName) prog_26_method_11_code 8 (some .int) 108 (sUn 1 0 xL2I 109) from gx_l2i xL2I_ok d16_108) ?_
  refine okc_cons (show Good l Z hz shp A O (⟨"org/distinguo/graph/MinimumCostFlow", "nextBack", "(J)I"⟩ : MethodName) prog_26_method_11_code 8 (some .int) 109 (sLoad 2 0 110) from g_aloadN d16_109) ?_
  refine okc_cons (show Good l Z hz shp A O (⟨"org/distinguo/graph/MinimumCostFlow", "nextBack", "(J)I"⟩ : MethodName) prog_26_method_11_code 8 (some .int) 110 (sGetF 2 7 113) from g_getfield (sid := 2) (i := 7) (R0 := "org/distinguo/graph/MinimumCostFlow") (host := "") d16_110 rfl rfl (Or.inl (hw _ (List.mem_of_getElem? (i := 84) rfl))) Via.refl) ?_
  refine okc_cons (show Good l Z hz shp A O (⟨"org/distinguo/graph/MinimumCostFlow", "nextBack", "(J)I"⟩ : MethodName) prog_26_method_11_code 8 (some .int) 113 (sLoad 0 4 115) from g_iload d16_113) ?_
  refine okc_cons (show Good l Z hz shp A O (⟨"org/distinguo/graph/MinimumCostFlow", "nextBack", "(J)I"⟩ : MethodName) prog_26_method_11_code 8 (some .int) 115 (sAld 4 116) from g_iaload (sid := 4) d16_115 rfl) ?_
  refine okc_cons (fun m hm => by
    obtain rfl : m = (4, cd_15) := (Option.some.inj hm).symm
    exact (show CallGood l Z hz shp A O (⟨"org/distinguo/graph/MinimumCostFlow", "nextBack", "(J)I"⟩ : MethodName) prog_26_method_11_code 8 (some .int) (⟨"org/distinguo/graph/MinimumCostFlow", "labelAndQueue", "(III)Z"⟩ : MethodName) prog_26_method_27_code 4 (some .boolean) 116 4 119 (ckObj 2) from c_private (a0 := a0) (sid := 2) (hd := d16_116) (hpl := pl_15) (hdesc := pd_15) (hna := rfl) (hy := by decide) (w1 := (hw _ (List.mem_of_getElem? (i := 169) rfl))) (w2 := (hw _ (List.mem_of_getElem? (i := 170) rfl))) (w3 := (hw _ (List.mem_of_getElem? (i := 53) rfl))) (w4 := (hw _ (List.mem_of_getElem? (i := 172) rfl))) (hs := rfl) (w5 := (hw _ (List.mem_of_getElem? (i := 171) rfl))) (w6 := (hw _ (List.mem_of_getElem? (i := 52) rfl))))) ?_
  refine okc_cons (show Good l Z hz shp A O (⟨"org/distinguo/graph/MinimumCostFlow", "nextBack", "(J)I"⟩ : MethodName) prog_26_method_11_code 8 (some .int) 119 (sPop 120) from g_pop d16_119) ?_
  refine okc_cons (show Good l Z hz shp A O (⟨"org/distinguo/graph/MinimumCostFlow", "nextBack", "(J)I"⟩ : MethodName) prog_26_method_11_code 8 (some .int) 120 (sIinc 4 1 123) from g_iinc d16_120 rfl) ?_
  refine okc_cons (show Good l Z hz shp A O (⟨"org/distinguo/graph/MinimumCostFlow", "nextBack", "(J)I"⟩ : MethodName) prog_26_method_11_code 8 (some .int) 123 (sGoto 38) from g_goto d16_123 (by decide) (by decide)) ?_
  refine okc_cons (show Good l Z hz shp A O (⟨"org/distinguo/graph/MinimumCostFlow", "nextBack", "(J)I"⟩ : MethodName) prog_26_method_11_code 8 (some .int) 126 (sLoad 0 3 127) from g_iloadN d16_126) ?_
  refine okc_cons (show RetGood l Z hz shp A O (⟨"org/distinguo/graph/MinimumCostFlow", "nextBack", "(J)I"⟩ : MethodName) prog_26_method_11_code 8 (some .int) 127 (rVal .int) from g_ret d16_127 (by decide) (by simp)) ?_
  refine okc_cons (show Good l Z hz shp A O (⟨"org/distinguo/graph/MinimumCostFlow", "nextBack", "(J)I"⟩ : MethodName) prog_26_method_11_code 8 (some .int) 128 (sPush (0, .int (-1)) 129) from g_iconst d16_128 rfl) ?_
  refine okc_cons (show RetGood l Z hz shp A O (⟨"org/distinguo/graph/MinimumCostFlow", "nextBack", "(J)I"⟩ : MethodName) prog_26_method_11_code 8 (some .int) 129 (rVal .int) from g_ret d16_129 (by decide) (by simp)) ?_
  exact okc_nil
set_option maxRecDepth 65536 in
set_option maxHeartbeats 40000000 in
theorem cok_17 (hw : ∀ d ∈ tables_1, d.before a0 Z = true) : ∀ el ∈ cd_17, ElOk l Z hz shp A O 96 704 mts mis 17 1 el := by
  unfold cd_17
  refine okc_cons (show Good l Z hz shp A O (⟨"org/distinguo/graph/MinimumCostFlow", "smallestQueued", "()J"⟩ : MethodName) prog_26_method_26_code 1 (some .long) 0 (sLoad 2 0 1) from g_aloadN d17_0) ?_
  refine okc_cons (show Good l Z hz shp A O (⟨"org/distinguo/graph/MinimumCostFlow", "smallestQueued", "()J"⟩ : MethodName) prog_26_method_26_code 1 (some .long) 1 (sGetF 2 28 4) from g_getfield (sid := 2) (i := 28) (R0 := "org/distinguo/graph/MinimumCostFlow") (host := "") d17_1 rfl rfl (Or.inl (hw _ (List.mem_of_getElem? (i := 163) rfl))) Via.refl) ?_
  refine okc_cons (show Good l Z hz shp A O (⟨"org/distinguo/graph/MinimumCostFlow", "smallestQueued", "()J"⟩ : MethodName) prog_26_method_26_code 1 (some .long) 4 (sLoad 2 0 5) from g_aloadN d17_4) ?_
  refine okc_cons (show Good l Z hz shp A O (⟨"org/distinguo/graph/MinimumCostFlow", "smallestQueued", "()J"⟩ : MethodName) prog_26_method_26_code 1 (some .long) 5 (sGetF 2 29 8) from g_getfield (sid := 2) (i := 29) (R0 := "org/distinguo/graph/MinimumCostFlow") (host := "") d17_5 rfl rfl (Or.inl (hw _ (List.mem_of_getElem? (i := 165) rfl))) Via.refl) ?_
  refine okc_cons (show Good l Z hz shp A O (⟨"org/distinguo/graph/MinimumCostFlow", "smallestQueued", "()J"⟩ : MethodName) prog_26_method_26_code 1 (some .long) 8 (sIcmp .ge 17 11) from g_icmp d17_8 (by decide) (by decide)) ?_
  refine okc_cons (show Good l Z hz shp A O (⟨"org/distinguo/graph/MinimumCostFlow", "smallestQueued", "()J"⟩ : MethodName) prog_26_method_26_code 1 (some .long) 11 (sLoad 2 0 12) from g_aloadN d17_11) ?_
  refine okc_cons (show Good l Z hz shp A O (⟨"org/distinguo/graph/MinimumCostFlow", "smallestQueued", "()J"⟩ : MethodName) prog_26_method_26_code 1 (some .long) 12 (sGetF 2 30 15) from g_getfield (sid := 2) (i := 30) (R0 := "org/distinguo/graph/MinimumCostFlow") (host := "") d17_12 rfl rfl (Or.inl (hw _ (List.mem_of_getElem? (i := 167) rfl))) Via.refl) ?_
  refine okc_cons (show Good l Z hz shp A O (⟨"org/distinguo/graph/MinimumCostFlow", "smallestQueued", "()J"⟩ : MethodName) prog_26_method_26_code 1 (some .long) 15 (sUn 0 1 (uL (Term.op1 .i2l)) 16) from g_i2l d17_15) ?_
  refine okc_cons (show RetGood l Z hz shp A O (⟨"org/distinguo/graph/MinimumCostFlow", "smallestQueued", "()J"⟩ : MethodName) prog_26_method_26_code 1 (some .long) 16 (rVal .long) from g_ret d17_16 (by decide) (by simp)) ?_
  refine okc_cons (show Good l Z hz shp A O (⟨"org/distinguo/graph/MinimumCostFlow", "smallestQueued", "()J"⟩ : MethodName) prog_26_method_26_code 1 (some .long) 17 (sLoad 2 0 18) from g_aloadN d17_17) ?_
  refine okc_cons (show Good l Z hz shp A O (⟨"org/distinguo/graph/MinimumCostFlow", "smallestQueued", "()J"⟩ : MethodName) prog_26_method_26_code 1 (some .long) 18 (sGetF 2 27 21) from g_getfield (sid := 2) (i := 27) (R0 := "org/distinguo/graph/MinimumCostFlow") (host := "") d17_18 rfl rfl (Or.inl (hw _ (List.mem_of_getElem? (i := 161) rfl))) Via.refl) ?_
  refine okc_cons (show Good l Z hz shp A O (⟨"org/distinguo/graph/MinimumCostFlow", "smallestQueued", "()J"⟩ : MethodName) prog_26_method_26_code 1 (some .long) 21 (sIf .le 36 24) from g_if d17_21 (by decide) (by decide)) ?_
  refine okc_cons (show Good l Z hz shp A O (⟨"org/distinguo/graph/MinimumCostFlow", "smallestQueued", "()J"⟩ : MethodName) prog_26_method_26_code 1 (some .long) 24 (sLoad 2 0 25) from g_aloadN d17_24) ?_
  refine okc_cons (show Good l Z hz shp A O (⟨"org/distinguo/graph/MinimumCostFlow", "smallestQueued", "()J"⟩ : MethodName) prog_26_method_26_code 1 (some .long) 25 (sGetF 2 0 28) from g_getfield (sid := 2) (i := 0) (R0 := "org/distinguo/graph/MinimumCostFlow") (host := "") d17_25 rfl rfl (Or.inl (hw _ (List.mem_of_getElem? (i := 59) rfl))) Via.refl) ?_
  refine okc_cons (show Good l Z hz shp A O (⟨"org/distinguo/graph/MinimumCostFlow", "smallestQueued", "()J"⟩ : MethodName) prog_26_method_26_code 1 (some .long) 28 (sPush (0, .int 0) 29) from g_iconst d17_28 rfl) ?_
  refine okc_cons (show Good l Z hz shp A O (⟨"org/distinguo/graph/MinimumCostFlow", "smallestQueued", "()J"⟩ : MethodName) prog_26_method_26_code 1 (some .long) 29 (sAld 5 30) from g_laload (sid := 5) d17_29 rfl) ?_
  refine okc_cons (show Good l Z hz shp A O (⟨"org/distinguo/graph/MinimumCostFlow", "smallestQueued", "()J"⟩ : MethodName) prog_26_method_26_code 1 (some .long) 30 (sPush (0, .int 32) 32) from g_bipush d17_30 rfl) ?_
  refine okc_cons (show Good l Z hz shp A O (⟨"org/distinguo/graph/MinimumCostFlow", "smallestQueued", "()J"⟩ : MethodName) prog_26_method_26_code 1 (some .long) 32 (sBin 1 0 1 xLushr 33) from gx_lushr xLushr_ok d17_32) ?_
  refine okc_cons (show Good l Z hz shp A O (⟨"org/distinguo/graph/MinimumCostFlow", "smallestQueued", "()J"⟩ : MethodName) prog_26_method_26_code 1 (some .long) 33 (sGoto 39) from g_goto d17_33 (by decide) (by decide)) ?_
  refine okc_cons (show Good l Z hz shp A O (⟨"org/distinguo/graph/MinimumCostFlow", "smallestQueued", "()J"⟩ : MethodName) prog_26_method_26_code 1 (some .long) 36 (sPush (1, .long (-1)) 39) from g_ldc2 (v := (-1)) d17_36 (hw _ (List.mem_of_getElem? (i := 219) rfl))) ?_
  refine okc_cons (show RetGood l Z hz shp A O (⟨"org/distinguo/graph/MinimumCostFlow", "smallestQueued", "()J"⟩ : MethodName) prog_26_method_26_code 1 (some .long) 39 (rVal .long) from g_ret d17_39 (by decide) (by simp)) ?_
  exact okc_nil
set_option maxRecDepth 65536 in
set_option maxHeartbeats 40000000 in
theorem cok_18 (hw : ∀ d ∈ tables_1, d.before a0 Z = true) : ∀ el ∈ cd_18, ElOk l Z hz shp A O 96 704 mts mis 18 5 el := by
  unfold cd_18
  refine okc_cons (show Good l Z hz shp A O (⟨"org/distinguo/graph/MinimumCostFlow", "lowerPotentials", "(J)V"⟩ : MethodName) prog_26_method_15_code 5 none 0 (sLoad 2 0 1) from g_aloadN d18_0) ?_
  refine okc_cons (show Good l Z hz shp A O (⟨"org/distinguo/graph/MinimumCostFlow", "lowerPotentials", "(J)V"⟩ : MethodName) prog_26_method_15_code 5 none 1 (sDup 2) from g_dup d18_1) ?_
  refine okc_cons (show Good l Z hz shp A O (⟨"org/distinguo/graph/MinimumCostFlow", "lowerPotentials", "(J)V"⟩ : MethodName) prog_26_method_15_code 5 none 2 (sGetF 2 31 5) from g_getfield (sid := 2) (i := 31) (R0 := "org/distinguo/graph/MinimumCostFlow") (host := "") d18_2 rfl rfl (Or.inl (hw _ (List.mem_of_getElem? (i := 187) rfl))) Via.refl) ?_
  refine okc_cons (show Good l Z hz shp A O (⟨"org/distinguo/graph/MinimumCostFlow", "lowerPotentials", "(J)V"⟩ : MethodName) prog_26_method_15_code 5 none 5 (sLoad 1 1 6) from g_lloadN d18_5) ?_
  refine okc_cons (show Good l Z hz shp A O (⟨"org/distinguo/graph/MinimumCostFlow", "lowerPotentials", "(J)V"⟩ : MethodName) prog_26_method_15_code 5 none 6 (sBin 1 1 1 xSubL 7) from gx_lsub xSubL_ok d18_6) ?_
  refine okc_cons (show Good l Z hz shp A O (⟨"org/distinguo/graph/MinimumCostFlow", "lowerPotentials", "(J)V"⟩ : MethodName) prog_26_method_15_code 5 none 7 (sPutF 2 31 .long 10) from g_putfield (sid := 2) (i := 31) (R0 := "org/distinguo/graph/MinimumCostFlow") d18_7 rfl (sok_2 hw) rfl (by decide) (hw _ (List.mem_of_getElem? (i := 187) rfl)) Via.refl (Or.inl (hw _ (List.mem_of_getElem? (i := 188) rfl)))) ?_
  refine okc_cons (show Good l Z hz shp A O (⟨"org/distinguo/graph/MinimumCostFlow", "lowerPotentials", "(J)V"⟩ : MethodName) prog_26_method_15_code 5 none 10 (sPush (0, .int 0) 11) from g_iconst d18_10 rfl) ?_
  refine okc_cons (show Good l Z hz shp A O (⟨"org/distinguo/graph/MinimumCostFlow", "lowerPotentials", "(J)V"⟩ : MethodName) prog_26_method_15_code 5 none 11 (sStore 0 3 12) from g_istoreN d18_11) ?_
  refine okc_cons (show Good l Z hz shp A O (⟨"org/distinguo/graph/MinimumCostFlow", "lowerPotentials", "(J)V"⟩ : MethodName) prog_26_method_15_code 5 none 12 (sLoad 0 3 13) from g_iloadN d18_12) ?_
  refine okc_cons (show Good l Z hz shp A O (⟨"org/distinguo/graph/MinimumCostFlow", "lowerPotentials", "(J)V"⟩ : MethodName) prog_26_method_15_code 5 none 13 (sLoad 2 0 14) from g_aloadN d18_13) ?_
  refine okc_cons (show Good l Z hz shp A O (⟨"org/distinguo/graph/MinimumCostFlow", "lowerPotentials", "(J)V"⟩ : MethodName) prog_26_method_15_code 5 none 14 (sGetF 2 26 17) from g_getfield (sid := 2) (i := 26) (R0 := "org/distinguo/graph/MinimumCostFlow") (host := "") d18_14 rfl rfl (Or.inl (hw _ (List.mem_of_getElem? (i := 159) rfl))) Via.refl) ?_
  refine okc_cons (show Good l Z hz shp A O (⟨"org/distinguo/graph/MinimumCostFlow", "lowerPotentials", "(J)V"⟩ : MethodName) prog_26_method_15_code 5 none 17 (sIcmp .ge 54 20) from g_icmp d18_17 (by decide) (by decide)) ?_
  refine okc_cons (show Good l Z hz shp A O (⟨"org/distinguo/graph/MinimumCostFlow", "lowerPotentials", "(J)V"⟩ : MethodName) prog_26_method_15_code 5 none 20 (sLoad 2 0 21) from g_aloadN d18_20) ?_
  refine okc_cons (show Good l Z hz shp A O (⟨"org/distinguo/graph/MinimumCostFlow", "lowerPotentials", "(J)V"⟩ : MethodName) prog_26_method_15_code 5 none 21 (sGetF 2 20 24) from g_getfield (sid := 2) (i := 20) (R0 := "org/distinguo/graph/MinimumCostFlow") (host := "") d18_21 rfl rfl (Or.inl (hw _ (List.mem_of_getElem? (i := 125) rfl))) Via.refl) ?_
  refine okc_cons (show Good l Z hz shp A O (⟨"org/distinguo/graph/MinimumCostFlow", "lowerPotentials", "(J)V"⟩ : MethodName) prog_26_method_15_code 5 none 24 (sLoad 0 3 25) from g_iloadN d18_24) ?_
  refine okc_cons (show Good l Z hz shp A O (⟨"org/distinguo/graph/MinimumCostFlow", "lowerPotentials", "(J)V"⟩ : MethodName) prog_26_method_15_code 5 none 25 (sAld 4 26) from g_iaload (sid := 4) d18_25 rfl) ?_
  refine okc_cons (show Good l Z hz shp A O (⟨"org/distinguo/graph/MinimumCostFlow", "lowerPotentials", "(J)V"⟩ : MethodName) prog_26_method_15_code 5 none 26 (sStore 0 4 28) from g_istore d18_26) ?_
  refine okc_cons (show Good l Z hz shp A O (⟨"org/distinguo/graph/MinimumCostFlow", "lowerPotentials", "(J)V"⟩ : MethodName) prog_26_method_15_code 5 none 28 (sLoad 2 0 29) from g_aloadN d18_28) ?_
  refine okc_cons (show Good l Z hz shp A O (⟨"org/distinguo/graph/MinimumCostFlow", "lowerPotentials", "(J)V"⟩ : MethodName) prog_26_method_15_code 5 none 29 (sGetF 2 15 32) from g_getfield (sid := 2) (i := 15) (R0 := "org/distinguo/graph/MinimumCostFlow") (host := "") d18_29 rfl rfl (Or.inl (hw _ (List.mem_of_getElem? (i := 115) rfl))) Via.refl) ?_
  refine okc_cons (show Good l Z hz shp A O (⟨"org/distinguo/graph/MinimumCostFlow", "lowerPotentials", "(J)V"⟩ : MethodName) prog_26_method_15_code 5 none 32 (sLoad 0 4 34) from g_iload d18_32) ?_
  refine okc_cons (show Good l Z hz shp A O (⟨"org/distinguo/graph/MinimumCostFlow", "lowerPotentials", "(J)V"⟩ : MethodName) prog_26_method_15_code 5 none 34 (sDup2 35) from g_dup2 d18_34) ?_
  refine okc_cons (show Good l Z hz shp A O (⟨"org/distinguo/graph/MinimumCostFlow", "lowerPotentials", "(J)V"⟩ : MethodName) prog_26_method_15_code 5 none 35 (sAld 5 36) from g_laload (sid := 5) d18_35 rfl) ?_
  refine okc_cons (show Good l Z hz shp A O (⟨"org/distinguo/graph/MinimumCostFlow", "lowerPotentials", "(J)V"⟩ : MethodName) prog_26_method_15_code 5 none 36 (sLoad 1 1 37) from g_lloadN d18_36) ?_
  refine okc_cons (show Good l Z hz shp A O (⟨"org/distinguo/graph/MinimumCostFlow", "lowerPotentials", "(J)V"⟩ : MethodName) prog_26_method_15_code 5 none 37 (sLoad 2 0 38) from g_aloadN d18_37) ?_
  refine okc_cons (show Good l Z hz shp A O (⟨"org/distinguo/graph/MinimumCostFlow", "lowerPotentials", "(J)V"⟩ : MethodName) prog_26_method_15_code 5 none 38 (sGetF 2 17 41) from g_getfield (sid := 2) (i := 17) (R0 := "org/distinguo/graph/MinimumCostFlow") (host := "") d18_38 rfl rfl (Or.inl (hw _ (List.mem_of_getElem? (i := 119) rfl))) Via.refl) ?_
  refine okc_cons (show Good l Z hz shp A O (⟨"org/distinguo/graph/MinimumCostFlow", "lowerPotentials", "(J)V"⟩ : MethodName) prog_26_method_15_code 5 none 41 (sLoad 0 4 43) from g_iload d18_41) ?_
  refine okc_cons (show Good l Z hz shp A O (⟨"org/distinguo/graph/MinimumCostFlow", "lowerPotentials", "(J)V"⟩ : MethodName) prog_26_method_15_code 5 none 43 (sAld 4 44) from g_iaload (sid := 4) d18_43 rfl) ?_
  refine okc_cons (show Good l Z hz shp A O (⟨"org/distinguo/graph/MinimumCostFlow", "lowerPotentials", "(J)V"⟩ : MethodName) prog_26_method_15_code 5 none 44 (sUn 0 1 (uL (Term.op1 .i2l)) 45) from g_i2l d18_44) ?_
  refine okc_cons (show Good l Z hz shp A O (⟨"org/distinguo/graph/MinimumCostFlow", "lowerPotentials", "(J)V"⟩ : MethodName) prog_26_method_15_code 5 none 45 (sBin 1 1 1 xSubL 46) from gx_lsub xSubL_ok d18_45) ?_
  refine okc_cons (show Good l Z hz shp A O (⟨"org/distinguo/graph/MinimumCostFlow", "lowerPotentials", "(J)V"⟩ : MethodName) prog_26_method_15_code 5 none 46 (sBin 1 1 1 xAddL 47) from gx_ladd xAddL_ok d18_46) ?_
  refine okc_cons (show Good l Z hz shp A O (⟨"org/distinguo/graph/MinimumCostFlow", "lowerPotentials", "(J)V"⟩ : MethodName) prog_26_method_15_code 5 none 47 (sAst 5 .long 48) from g_lastore (sid := 5) d18_47 rfl) ?_
  refine okc_cons (show Good l Z hz shp A O (⟨"org/distinguo/graph/MinimumCostFlow", "lowerPotentials", "(J)V"⟩ : MethodName) prog_26_method_15_code 5 none 48 (sIinc 3 1 51) from g_iinc d18_48 rfl) ?_
  refine okc_cons (show Good l Z hz shp A O (⟨"org/distinguo/graph/MinimumCostFlow", "lowerPotentials", "(J)V"⟩ : MethodName) prog_26_method_15_code 5 none 51 (sGoto 12) from g_goto d18_51 (by decide) (by decide)) ?_
  refine okc_cons (show RetGood l Z hz shp A O (⟨"org/distinguo/graph/MinimumCostFlow", "lowerPotentials", "(J)V"⟩ : MethodName) prog_26_method_15_code 5 none 54 (rVoid) from g_return d18_54) ?_
  exact okc_nil
set_option maxRecDepth 65536 in
set_option maxHeartbeats 40000000 in
theorem cok_19 (hw : ∀ d ∈ tables_1, d.before a0 Z = true) : ∀ el ∈ cd_19, ElOk l Z hz shp A O 96 704 mts mis 19 2 el := by
  unfold cd_19
  refine okc_cons (show Good l Z hz shp A O (⟨"org/distinguo/graph/MinimumCostFlow", "potential", "(I)J"⟩ : MethodName) prog_26_method_9_code 2 (some .long) 0 (sLoad 2 0 1) from g_aloadN d19_0) ?_
  refine okc_cons (show Good l Z hz shp A O (⟨"org/distinguo/graph/MinimumCostFlow", "potential", "(I)J"⟩ : MethodName) prog_26_method_9_code 2 (some .long) 1 (sGetF 2 15 4) from g_getfield (sid := 2) (i := 15) (R0 := "org/distinguo/graph/MinimumCostFlow") (host := "") d19_1 rfl rfl (Or.inl (hw _ (List.mem_of_getElem? (i := 115) rfl))) Via.refl) ?_
  refine okc_cons (show Good l Z hz shp A O (⟨"org/distinguo/graph/MinimumCostFlow", "potential", "(I)J"⟩ : MethodName) prog_26_method_9_code 2 (some .long) 4 (sLoad 0 1 5) from g_iloadN d19_4) ?_
  refine okc_cons (show Good l Z hz shp A O (⟨"org/distinguo/graph/MinimumCostFlow", "potential", "(I)J"⟩ : MethodName) prog_26_method_9_code 2 (some .long) 5 (sAld 5 6) from g_laload (sid := 5) d19_5 rfl) ?_
  refine okc_cons (show Good l Z hz shp A O (⟨"org/distinguo/graph/MinimumCostFlow", "potential", "(I)J"⟩ : MethodName) prog_26_method_9_code 2 (some .long) 6 (sLoad 2 0 7) from g_aloadN d19_6) ?_
  refine okc_cons (show Good l Z hz shp A O (⟨"org/distinguo/graph/MinimumCostFlow", "potential", "(I)J"⟩ : MethodName) prog_26_method_9_code 2 (some .long) 7 (sGetF 2 31 10) from g_getfield (sid := 2) (i := 31) (R0 := "org/distinguo/graph/MinimumCostFlow") (host := "") d19_7 rfl rfl (Or.inl (hw _ (List.mem_of_getElem? (i := 187) rfl))) Via.refl) ?_
  refine okc_cons (show Good l Z hz shp A O (⟨"org/distinguo/graph/MinimumCostFlow", "potential", "(I)J"⟩ : MethodName) prog_26_method_9_code 2 (some .long) 10 (sBin 1 1 1 xAddL 11) from gx_ladd xAddL_ok d19_10) ?_
  refine okc_cons (show RetGood l Z hz shp A O (⟨"org/distinguo/graph/MinimumCostFlow", "potential", "(I)J"⟩ : MethodName) prog_26_method_9_code 2 (some .long) 11 (rVal .long) from g_ret d19_11 (by decide) (by simp)) ?_
  exact okc_nil
set_option maxRecDepth 65536 in
set_option maxHeartbeats 40000000 in
theorem cok_20 (hw : ∀ d ∈ tables_1, d.before a0 Z = true) : ∀ el ∈ cd_20, ElOk l Z hz shp A O 96 704 mts mis 20 5 el := by
  unfold cd_20
  refine okc_cons (show Good l Z hz shp A O (⟨"org/distinguo/graph/MinimumCostFlowLowerPotentialsPinLaw", "expected", "(ZJJ)J"⟩ : MethodName) method_2_code 5 (some .long) 0 (sLoad 0 0 1) from g_iloadN d20_0) ?_
  refine okc_cons (show Good l Z hz shp A O (⟨"org/distinguo/graph/MinimumCostFlowLowerPotentialsPinLaw", "expected", "(ZJJ)J"⟩ : MethodName) method_2_code 5 (some .long) 1 (sIf .eq 14 4) from g_if d20_1 (by decide) (by decide)) ?_
  refine okc_cons (show Good l Z hz shp A O (⟨"org/distinguo/graph/MinimumCostFlowLowerPotentialsPinLaw", "expected", "(ZJJ)J"⟩ : MethodName) method_2_code 5 (some .long) 4 (sLoad 1 1 5) from g_lloadN d20_4) ?_
  refine okc_cons (show Good l Z hz shp A O (⟨"org/distinguo/graph/MinimumCostFlowLowerPotentialsPinLaw", "expected", "(ZJJ)J"⟩ : MethodName) method_2_code 5 (some .long) 5 (sLoad 1 3 6) from g_lloadN d20_5) ?_
  refine okc_cons (show Good l Z hz shp A O (⟨"org/distinguo/graph/MinimumCostFlowLowerPotentialsPinLaw", "expected", "(ZJJ)J"⟩ : MethodName) method_2_code 5 (some .long) 6 (sBin 1 1 0 (jI (Term.op2 .lcmp)) 7) from g_lcmp d20_6) ?_
  refine okc_cons (show Good l Z hz shp A O (⟨"org/distinguo/graph/MinimumCostFlowLowerPotentialsPinLaw", "expected", "(ZJJ)J"⟩ : MethodName) method_2_code 5 (some .long) 7 (sIf .gt 14 10) from g_if d20_7 (by decide) (by decide)) ?_
  refine okc_cons (show Good l Z hz shp A O (⟨"org/distinguo/graph/MinimumCostFlowLowerPotentialsPinLaw", "expected", "(ZJJ)J"⟩ : MethodName) method_2_code 5 (some .long) 10 (sPush (1, .long 0) 11) from g_lconst d20_10 rfl) ?_
  refine okc_cons (show Good l Z hz shp A O (⟨"org/distinguo/graph/MinimumCostFlowLowerPotentialsPinLaw", "expected", "(ZJJ)J"⟩ : MethodName) method_2_code 5 (some .long) 11 (sLoad 1 1 12) from g_lloadN d20_11) ?_
  refine okc_cons (show Good l Z hz shp A O (⟨"org/distinguo/graph/MinimumCostFlowLowerPotentialsPinLaw", "expected", "(ZJJ)J"⟩ : MethodName) method_2_code 5 (some .long) 12 (sBin 1 1 1 xSubL 13) from gx_lsub xSubL_ok d20_12) ?_
  refine okc_cons (show RetGood l Z hz shp A O (⟨"org/distinguo/graph/MinimumCostFlowLowerPotentialsPinLaw", "expected", "(ZJJ)J"⟩ : MethodName) method_2_code 5 (some .long) 13 (rVal .long) from g_ret d20_13 (by decide) (by simp)) ?_
  refine okc_cons (show Good l Z hz shp A O (⟨"org/distinguo/graph/MinimumCostFlowLowerPotentialsPinLaw", "expected", "(ZJJ)J"⟩ : MethodName) method_2_code 5 (some .long) 14 (sPush (1, .long 0) 15) from g_lconst d20_14 rfl) ?_
  refine okc_cons (show Good l Z hz shp A O (⟨"org/distinguo/graph/MinimumCostFlowLowerPotentialsPinLaw", "expected", "(ZJJ)J"⟩ : MethodName) method_2_code 5 (some .long) 15 (sLoad 1 3 16) from g_lloadN d20_15) ?_
  refine okc_cons (show Good l Z hz shp A O (⟨"org/distinguo/graph/MinimumCostFlowLowerPotentialsPinLaw", "expected", "(ZJJ)J"⟩ : MethodName) method_2_code 5 (some .long) 16 (sBin 1 1 1 xSubL 17) from gx_lsub xSubL_ok d20_16) ?_
  refine okc_cons (show RetGood l Z hz shp A O (⟨"org/distinguo/graph/MinimumCostFlowLowerPotentialsPinLaw", "expected", "(ZJJ)J"⟩ : MethodName) method_2_code 5 (some .long) 17 (rVal .long) from g_ret d20_17 (by decide) (by simp)) ?_
  exact okc_nil
set_option maxRecDepth 65536 in
set_option maxHeartbeats 40000000 in
theorem cok_21 (hw : ∀ d ∈ tables_1, d.before a0 Z = true) : ∀ el ∈ cd_21, ElOk l Z hz shp A O 96 704 mts mis 21 7 el := by
  unfold cd_21
  refine okc_cons (show Good l Z hz shp A O (⟨"org/distinguo/graph/MinimumCostFlow", "settleNext", "()I"⟩ : MethodName) prog_26_method_29_code 7 (some .int) 0 (sLoad 2 0 1) from g_aloadN d21_0) ?_
  refine okc_cons (show Good l Z hz shp A O (⟨"org/distinguo/graph/MinimumCostFlow", "settleNext", "()I"⟩ : MethodName) prog_26_method_29_code 7 (some .int) 1 (sGetF 2 28 4) from g_getfield (sid := 2) (i := 28) (R0 := "org/distinguo/graph/MinimumCostFlow") (host := "") d21_1 rfl rfl (Or.inl (hw _ (List.mem_of_getElem? (i := 163) rfl))) Via.refl) ?_
  refine okc_cons (show Good l Z hz shp A O (⟨"org/distinguo/graph/MinimumCostFlow", "settleNext", "()I"⟩ : MethodName) prog_26_method_29_code 7 (some .int) 4 (sLoad 2 0 5) from g_aloadN d21_4) ?_
  refine okc_cons (show Good l Z hz shp A O (⟨"org/distinguo/graph/MinimumCostFlow", "settleNext", "()I"⟩ : MethodName) prog_26_method_29_code 7 (some .int) 5 (sGetF 2 29 8) from g_getfield (sid := 2) (i := 29) (R0 := "org/distinguo/graph/MinimumCostFlow") (host := "") d21_5 rfl rfl (Or.inl (hw _ (List.mem_of_getElem? (i := 165) rfl))) Via.refl) ?_
  refine okc_cons (show Good l Z hz shp A O (⟨"org/distinguo/graph/MinimumCostFlow", "settleNext", "()I"⟩ : MethodName) prog_26_method_29_code 7 (some .int) 8 (sIcmp .ge 32 11) from g_icmp d21_8 (by decide) (by decide)) ?_
  refine okc_cons (show Good l Z hz shp A O (⟨"org/distinguo/graph/MinimumCostFlow", "settleNext", "()I"⟩ : MethodName) prog_26_method_29_code 7 (some .int) 11 (sLoad 2 0 12) from g_aloadN d21_11) ?_
  refine okc_cons (show Good l Z hz shp A O (⟨"org/distinguo/graph/MinimumCostFlow", "settleNext", "()I"⟩ : MethodName) prog_26_method_29_code 7 (some .int) 12 (sLoad 2 0 13) from g_aloadN d21_12) ?_
  refine okc_cons (show Good l Z hz shp A O (⟨"org/distinguo/graph/MinimumCostFlow", "settleNext", "()I"⟩ : MethodName) prog_26_method_29_code 7 (some .int) 13 (sGetF 2 21 16) from g_getfield (sid := 2) (i := 21) (R0 := "org/distinguo/graph/MinimumCostFlow") (host := "") d21_13 rfl rfl (Or.inl (hw _ (List.mem_of_getElem? (i := 127) rfl))) Via.refl) ?_
  refine okc_cons (show Good l Z hz shp A O (⟨"org/distinguo/graph/MinimumCostFlow", "settleNext", "()I"⟩ : MethodName) prog_26_method_29_code 7 (some .int) 16 (sLoad 2 0 17) from g_aloadN d21_16) ?_
  refine okc_cons (show Good l Z hz shp A O (⟨"org/distinguo/graph/MinimumCostFlow", "settleNext", "()I"⟩ : MethodName) prog_26_method_29_code 7 (some .int) 17 (sDup 18) from g_dup d21_17) ?_
  refine okc_cons (show Good l Z hz shp A O (⟨"org/distinguo/graph/MinimumCostFlow", "settleNext", "()I"⟩ : MethodName) prog_26_method_29_code 7 (some .int) 18 (sGetF 2 28 21) from g_getfield (sid := 2) (i := 28) (R0 := "org/distinguo/graph/MinimumCostFlow") (host := "") d21_18 rfl rfl (Or.inl (hw _ (List.mem_of_getElem? (i := 163) rfl))) Via.refl) ?_
  refine okc_cons (show Good l Z hz shp A O (⟨"org/distinguo/graph/MinimumCostFlow", "settleNext", "()I"⟩ : MethodName) prog_26_method_29_code 7 (some .int) 21 (sDupX1 22) from g_dupX1 d21_21) ?_
  refine okc_cons (show Good l Z hz shp A O (⟨"org/distinguo/graph/MinimumCostFlow", "settleNext", "()I"⟩ : MethodName) prog_26_method_29_code 7 (some .int) 22 (sPush (0, .int 1) 23) from g_iconst d21_22 rfl) ?_
  refine okc_cons (show Good l Z hz shp A O (⟨"org/distinguo/graph/MinimumCostFlow", "settleNext", "()I"⟩ : MethodName) prog_26_method_29_code 7 (some .int) 23 (sBin 0 0 0 (jI Term.add) 24) from g_iadd d21_23) ?_
  refine okc_cons (show Good l Z hz shp A O (⟨"org/distinguo/graph/MinimumCostFlow", "settleNext", "()I"⟩ : MethodName) prog_26_method_29_code 7 (some .int) 24 (sPutF 2 28 .int 27) from g_putfield (sid := 2) (i := 28) (R0 := "org/distinguo/graph/MinimumCostFlow") d21_24 rfl (sok_2 hw) rfl (by decide) (hw _ (List.mem_of_getElem? (i := 163) rfl)) Via.refl (Or.inl (hw _ (List.mem_of_getElem? (i := 164) rfl)))) ?_
  refine okc_cons (show Good l Z hz shp A O (⟨"org/distinguo/graph/MinimumCostFlow", "settleNext", "()I"⟩ : MethodName) prog_26_method_29_code 7 (some .int) 27 (sAld 4 28) from g_iaload (sid := 4) d21_27 rfl) ?_
  refine okc_cons (fun m hm => by
    obtain rfl : m = (2, cd_22) := (Option.some.inj hm).symm
    exact (show CallGood l Z hz shp A O (⟨"org/distinguo/graph/MinimumCostFlow", "settleNext", "()I"⟩ : MethodName) prog_26_method_29_code 7 (some .int) (⟨"org/distinguo/graph/MinimumCostFlow", "settle", "(I)I"⟩ : MethodName) prog_26_method_30_code 2 (some .int) 28 2 31 (ckObj 2) from c_private (a0 := a0) (sid := 2) (hd := d21_28) (hpl := pl_22) (hdesc := pd_22) (hna := rfl) (hy := by decide) (w1 := (hw _ (List.mem_of_getElem? (i := 202) rfl))) (w2 := (hw _ (List.mem_of_getElem? (i := 203) rfl))) (w3 := (hw _ (List.mem_of_getElem? (i := 53) rfl))) (w4 := (hw _ (List.mem_of_getElem? (i := 205) rfl))) (hs := rfl) (w5 := (hw _ (List.mem_of_getElem? (i := 204) rfl))) (w6 := (hw _ (List.mem_of_getElem? (i := 52) rfl))))) ?_
  refine okc_cons (show RetGood l Z hz shp A O (⟨"org/distinguo/graph/MinimumCostFlow", "settleNext", "()I"⟩ : MethodName) prog_26_method_29_code 7 (some .int) 31 (rVal .int) from g_ret d21_31 (by decide) (by simp)) ?_
  refine okc_cons (show Good l Z hz shp A O (⟨"org/distinguo/graph/MinimumCostFlow", "settleNext", "()I"⟩ : MethodName) prog_26_method_29_code 7 (some .int) 32 (sLoad 2 0 33) from g_aloadN d21_32) ?_
  refine okc_cons (show Good l Z hz shp A O (⟨"org/distinguo/graph/MinimumCostFlow", "settleNext", "()I"⟩ : MethodName) prog_26_method_29_code 7 (some .int) 33 (sGetF 2 0 36) from g_getfield (sid := 2) (i := 0) (R0 := "org/distinguo/graph/MinimumCostFlow") (host := "") d21_33 rfl rfl (Or.inl (hw _ (List.mem_of_getElem? (i := 59) rfl))) Via.refl) ?_
  refine okc_cons (show Good l Z hz shp A O (⟨"org/distinguo/graph/MinimumCostFlow", "settleNext", "()I"⟩ : MethodName) prog_26_method_29_code 7 (some .int) 36 (sPush (0, .int 0) 37) from g_iconst d21_36 rfl) ?_
  refine okc_cons (show Good l Z hz shp A O (⟨"org/distinguo/graph/MinimumCostFlow", "settleNext", "()I"⟩ : MethodName) prog_26_method_29_code 7 (some .int) 37 (sAld 5 38) from g_laload (sid := 5) d21_37 rfl) ?_
  refine okc_cons (show Good l Z hz shp A O (⟨"org/distinguo/graph/MinimumCostFlow", "settleNext", "()I"⟩ : MethodName) prog_26_method_29_code 7 (some .int) 38 (sStore 1 1 39) from g_lstoreN d21_38) ?_
  refine okc_cons (show Good l Z hz shp A O (⟨"org/distinguo/graph/MinimumCostFlow", "settleNext", "()I"⟩ : MethodName) prog_26_method_29_code 7 (some .int) 39 (sLoad 2 0 40) from g_aloadN d21_39) ?_
  refine okc_cons (show Good l Z hz shp A O (⟨"org/distinguo/graph/MinimumCostFlow", "settleNext", "()I"⟩ : MethodName) prog_26_method_29_code 7 (some .int) 40 (sGetF 2 0 43) from g_getfield (sid := 2) (i := 0) (R0 := "org/distinguo/graph/MinimumCostFlow") (host := "") d21_40 rfl rfl (Or.inl (hw _ (List.mem_of_getElem? (i := 59) rfl))) Via.refl) ?_
  refine okc_cons (show Good l Z hz shp A O (⟨"org/distinguo/graph/MinimumCostFlow", "settleNext", "()I"⟩ : MethodName) prog_26_method_29_code 7 (some .int) 43 (sLoad 2 0 44) from g_aloadN d21_43) ?_
  refine okc_cons (show Good l Z hz shp A O (⟨"org/distinguo/graph/MinimumCostFlow", "settleNext", "()I"⟩ : MethodName) prog_26_method_29_code 7 (some .int) 44 (sDup 45) from g_dup d21_44) ?_
  refine okc_cons (show Good l Z hz shp A O (⟨"org/distinguo/graph/MinimumCostFlow", "settleNext", "()I"⟩ : MethodName) prog_26_method_29_code 7 (some .int) 45 (sGetF 2 27 48) from g_getfield (sid := 2) (i := 27) (R0 := "org/distinguo/graph/MinimumCostFlow") (host := "") d21_45 rfl rfl (Or.inl (hw _ (List.mem_of_getElem? (i := 161) rfl))) Via.refl) ?_
  refine okc_cons (show Good l Z hz shp A O (⟨"org/distinguo/graph/MinimumCostFlow", "settleNext", "()I"⟩ : MethodName) prog_26_method_29_code 7 (some .int) 48 (sPush (0, .int 1) 49) from g_iconst d21_48 rfl) ?_
  refine okc_cons (show Good l Z hz shp A O (⟨"org/distinguo/graph/MinimumCostFlow", "settleNext", "()I"⟩ : MethodName) prog_26_method_29_code 7 (some .int) 49 (sBin 0 0 0 xSub 50) from gx_isub xSub_ok d21_49) ?_
  refine okc_cons (show Good l Z hz shp A O (⟨"org/distinguo/graph/MinimumCostFlow", "settleNext", "()I"⟩ : MethodName) prog_26_method_29_code 7 (some .int) 50 (sDupX1 51) from g_dupX1 d21_50) ?_
  refine okc_cons (show Good l Z hz shp A O (⟨"org/distinguo/graph/MinimumCostFlow", "settleNext", "()I"⟩ : MethodName) prog_26_method_29_code 7 (some .int) 51 (sPutF 2 27 .int 54) from g_putfield (sid := 2) (i := 27) (R0 := "org/distinguo/graph/MinimumCostFlow") d21_51 rfl (sok_2 hw) rfl (by decide) (hw _ (List.mem_of_getElem? (i := 161) rfl)) Via.refl (Or.inl (hw _ (List.mem_of_getElem? (i := 162) rfl)))) ?_
  refine okc_cons (show Good l Z hz shp A O (⟨"org/distinguo/graph/MinimumCostFlow", "settleNext", "()I"⟩ : MethodName) prog_26_method_29_code 7 (some .int) 54 (sAld 5 55) from g_laload (sid := 5) d21_54 rfl) ?_
  refine okc_cons (show Good l Z hz shp A O (⟨"org/distinguo/graph/MinimumCostFlow", "settleNext", "()I"⟩ : MethodName) prog_26_method_29_code 7 (some .int) 55 (sStore 1 3 56) from g_lstoreN d21_55) ?_
  refine okc_cons (show Good l Z hz shp A O (⟨"org/distinguo/graph/MinimumCostFlow", "settleNext", "()I"⟩ : MethodName) prog_26_method_29_code 7 (some .int) 56 (sPush (0, .int 0) 57) from g_iconst d21_56 rfl) ?_
  refine okc_cons (show Good l Z hz shp A O (⟨"org/distinguo/graph/MinimumCostFlow", "settleNext", "()I"⟩ : MethodName) prog_26_method_29_code 7 (some .int) 57 (sStore 0 5 59) from g_istore d21_57) ?_
  refine okc_cons (show Good l Z hz shp A O (⟨"org/distinguo/graph/MinimumCostFlow", "settleNext", "()I"⟩ : MethodName) prog_26_method_29_code 7 (some .int) 59 (sPush (0, .int 2) 60) from g_iconst d21_59 rfl) ?_
  refine okc_cons (show Good l Z hz shp A O (⟨"org/distinguo/graph/MinimumCostFlow", "settleNext", "()I"⟩ : MethodName) prog_26_method_29_code 7 (some .int) 60 (sLoad 0 5 62) from g_iload d21_60) ?_
  refine okc_cons (show Good l Z hz shp A O (⟨"org/distinguo/graph/MinimumCostFlow", "settleNext", "()I"⟩ : MethodName) prog_26_method_29_code 7 (some .int) 62 (sBin 0 0 0 (jI Term.mul) 63) from g_imul d21_62) ?_
  refine okc_cons (show Good l Z hz shp A O (⟨"org/distinguo/graph/MinimumCostFlow", "settleNext", "()I"⟩ : MethodName) prog_26_method_29_code 7 (some .int) 63 (sPush (0, .int 1) 64) from g_iconst d21_63 rfl) ?_
  refine okc_cons (show Good l Z hz shp A O (⟨"org/distinguo/graph/MinimumCostFlow", "settleNext", "()I"⟩ : MethodName) prog_26_method_29_code 7 (some .int) 64 (sBin 0 0 0 (jI Term.add) 65) from g_iadd d21_64) ?_
  refine okc_cons (show Good l Z hz shp A O (⟨"org/distinguo/graph/MinimumCostFlow", "settleNext", "()I"⟩ : MethodName) prog_26_method_29_code 7 (some .int) 65 (sLoad 2 0 66) from g_aloadN d21_65) ?_
  refine okc_cons (show Good l Z hz shp A O (⟨"org/distinguo/graph/MinimumCostFlow", "settleNext", "()I"⟩ : MethodName) prog_26_method_29_code 7 (some .int) 66 (sGetF 2 27 69) from g_getfield (sid := 2) (i := 27) (R0 := "org/distinguo/graph/MinimumCostFlow") (host := "") d21_66 rfl rfl (Or.inl (hw _ (List.mem_of_getElem? (i := 161) rfl))) Via.refl) ?_
  refine okc_cons (show Good l Z hz shp A O (⟨"org/distinguo/graph/MinimumCostFlow", "settleNext", "()I"⟩ : MethodName) prog_26_method_29_code 7 (some .int) 69 (sIcmp .ge 150 72) from g_icmp d21_69 (by decide) (by decide)) ?_
  refine okc_cons (show Good l Z hz shp A O (⟨"org/distinguo/graph/MinimumCostFlow", "settleNext", "()I"⟩ : MethodName) prog_26_method_29_code 7 (some .int) 72 (sPush (0, .int 2) 73) from g_iconst d21_72 rfl) ?_
  refine okc_cons (show Good l Z hz shp A O (⟨"org/distinguo/graph/MinimumCostFlow", "settleNext", "()I"⟩ : MethodName) prog_26_method_29_code 7 (some .int) 73 (sLoad 0 5 75) from g_iload d21_73) ?_
  refine okc_cons (show Good l Z hz shp A O (⟨"org/distinguo/graph/MinimumCostFlow", "settleNext", "()I"⟩ : MethodName) prog_26_method_29_code 7 (some .int) 75 (sBin 0 0 0 (jI Term.mul) 76) from g_imul d21_75) ?_
  refine okc_cons (show Good l Z hz shp A O (⟨"org/distinguo/graph/MinimumCostFlow", "settleNext", "()I"⟩ : MethodName) prog_26_method_29_code 7 (some .int) 76 (sPush (0, .int 1) 77) from g_iconst d21_76 rfl) ?_
  refine okc_cons (show Good l Z hz shp A O (⟨"org/distinguo/graph/MinimumCostFlow", "settleNext", "()I"⟩ : MethodName) prog_26_method_29_code 7 (some .int) 77 (sBin 0 0 0 (jI Term.add) 78) from g_iadd d21_77) ?_
  refine okc_cons (show Good l Z hz shp A O (⟨"org/distinguo/graph/MinimumCostFlow", "settleNext", "()I"⟩ : MethodName) prog_26_method_29_code 7 (some .int) 78 (sStore 0 6 80) from g_istore d21_78) ?_
  refine okc_cons (show Good l Z hz shp A O (⟨"org/distinguo/graph/MinimumCostFlow", "settleNext", "()I"⟩ : MethodName) prog_26_method_29_code 7 (some .int) 80 (sLoad 0 6 82) from g_iload d21_80) ?_
  refine okc_cons (show Good l Z hz shp A O (⟨"org/distinguo/graph/MinimumCostFlow", "settleNext", "()I"⟩ : MethodName) prog_26_method_29_code 7 (some .int) 82 (sPush (0, .int 1) 83) from g_iconst d21_82 rfl) ?_
  refine okc_cons (show Good l Z hz shp A O (⟨"org/distinguo/graph/MinimumCostFlow", "settleNext", "()I"⟩ : MethodName) prog_26_method_29_code 7 (some .int) 83 (sBin 0 0 0 (jI Term.add) 84) from g_iadd d21_83) ?_
  refine okc_cons (show Good l Z hz shp A O (⟨"org/distinguo/graph/MinimumCostFlow", "settleNext", "()I"⟩ : MethodName) prog_26_method_29_code 7 (some .int) 84 (sLoad 2 0 85) from g_aloadN d21_84) ?_
  refine okc_cons (show Good l Z hz shp A O (⟨"org/distinguo/graph/MinimumCostFlow", "settleNext", "()I"⟩ : MethodName) prog_26_method_29_code 7 (some .int) 85 (sGetF 2 27 88) from g_getfield (sid := 2) (i := 27) (R0 := "org/distinguo/graph/MinimumCostFlow") (host := "") d21_85 rfl rfl (Or.inl (hw _ (List.mem_of_getElem? (i := 161) rfl))) Via.refl) ?_
  refine okc_cons (show Good l Z hz shp A O (⟨"org/distinguo/graph/MinimumCostFlow", "settleNext", "()I"⟩ : MethodName) prog_26_method_29_code 7 (some .int) 88 (sIcmp .ge 114 91) from g_icmp d21_88 (by decide) (by decide)) ?_
  refine okc_cons (show Good l Z hz shp A O (⟨"org/distinguo/graph/MinimumCostFlow", "settleNext", "()I"⟩ : MethodName) prog_26_method_29_code 7 (some .int) 91 (sLoad 2 0 92) from g_aloadN d21_91) ?_
  refine okc_cons (show Good l Z hz shp A O (⟨"org/distinguo/graph/MinimumCostFlow", "settleNext", "()I"⟩ : MethodName) prog_26_method_29_code 7 (some .int) 92 (sGetF 2 0 95) from g_getfield (sid := 2) (i := 0) (R0 := "org/distinguo/graph/MinimumCostFlow") (host := "") d21_92 rfl rfl (Or.inl (hw _ (List.mem_of_getElem? (i := 59) rfl))) Via.refl) ?_
  refine okc_cons (show Good l Z hz shp A O (⟨"org/distinguo/graph/MinimumCostFlow", "settleNext", "()I"⟩ : MethodName) prog_26_method_29_code 7 (some .int) 95 (sLoad 0 6 97) from g_iload d21_95) ?_
  refine okc_cons (show Good l Z hz shp A O (⟨"org/distinguo/graph/MinimumCostFlow", "settleNext", "()I"⟩ : MethodName) prog_26_method_29_code 7 (some .int) 97 (sPush (0, .int 1) 98) from g_iconst d21_97 rfl) ?_
  refine okc_cons (show Good l Z hz shp A O (⟨"org/distinguo/graph/MinimumCostFlow", "settleNext", "()I"⟩ : MethodName) prog_26_method_29_code 7 (some .int) 98 (sBin 0 0 0 (jI Term.add) 99) from g_iadd d21_98) ?_
  refine okc_cons (show Good l Z hz shp A O (⟨"org/distinguo/graph/MinimumCostFlow", "settleNext", "()I"⟩ : MethodName) prog_26_method_29_code 7 (some .int) 99 (sAld 5 100) from g_laload (sid := 5) d21_99 rfl) ?_
  refine okc_cons (show Good l Z hz shp A O (⟨"org/distinguo/graph/MinimumCostFlow", "settleNext", "()I"⟩ : MethodName) prog_26_method_29_code 7 (some .int) 100 (sLoad 2 0 101) from g_aloadN d21_100) ?_
  refine okc_cons (show Good l Z hz shp A O (⟨"org/distinguo/graph/MinimumCostFlow", "settleNext", "()I"⟩ : MethodName) prog_26_method_29_code 7 (some .int) 101 (sGetF 2 0 104) from g_getfield (sid := 2) (i := 0) (R0 := "org/distinguo/graph/MinimumCostFlow") (host := "") d21_101 rfl rfl (Or.inl (hw _ (List.mem_of_getElem? (i := 59) rfl))) Via.refl) ?_
  refine okc_cons (show Good l Z hz shp A O (⟨"org/distinguo/graph/MinimumCostFlow", "settleNext", "()I"⟩ : MethodName) prog_26_method_29_code 7 (some .int) 104 (sLoad 0 6 106) from g_iload d21_104) ?_
  refine okc_cons (show Good l Z hz shp A O (⟨"org/distinguo/graph/MinimumCostFlow", "settleNext", "()I"⟩ : MethodName) prog_26_method_29_code 7 (some .int) 106 (sAld 5 107) from g_laload (sid := 5) d21_106 rfl) ?_
  refine okc_cons (show Good l Z hz shp A O (⟨"org/distinguo/graph/MinimumCostFlow", "settleNext", "()I"⟩ : MethodName) prog_26_method_29_code 7 (some .int) 107 (sBin 1 1 0 (jI (Term.op2 .lcmp)) 108) from g_lcmp d21_107) ?_
  refine okc_cons (show Good l Z hz shp A O (⟨"org/distinguo/graph/MinimumCostFlow", "settleNext", "()I"⟩ : MethodName) prog_26_method_29_code 7 (some .int) 108 (sIf .ge 114 111) from g_if d21_108 (by decide) (by decide)) ?_
  refine okc_cons (show Good l Z hz shp A O (⟨"org/distinguo/graph/MinimumCostFlow", "settleNext", "()I"⟩ : MethodName) prog_26_method_29_code 7 (some .int) 111 (sIinc 6 1 114) from g_iinc d21_111 rfl) ?_
  refine okc_cons (show Good l Z hz shp A O (⟨"org/distinguo/graph/MinimumCostFlow", "settleNext", "()I"⟩ : MethodName) prog_26_method_29_code 7 (some .int) 114 (sLoad 2 0 115) from g_aloadN d21_114) ?_
  refine okc_cons (show Good l Z hz shp A O (⟨"org/distinguo/graph/MinimumCostFlow", "settleNext", "()I"⟩ : MethodName) prog_26_method_29_code 7 (some .int) 115 (sGetF 2 0 118) from g_getfield (sid := 2) (i := 0) (R0 := "org/distinguo/graph/MinimumCostFlow") (host := "") d21_115 rfl rfl (Or.inl (hw _ (List.mem_of_getElem? (i := 59) rfl))) Via.refl) ?_
  refine okc_cons (show Good l Z hz shp A O (⟨"org/distinguo/graph/MinimumCostFlow", "settleNext", "()I"⟩ : MethodName) prog_26_method_29_code 7 (some .int) 118 (sLoad 0 6 120) from g_iload d21_118) ?_
  refine okc_cons (show Good l Z hz shp A O (⟨"org/distinguo/graph/MinimumCostFlow", "settleNext", "()I"⟩ : MethodName) prog_26_method_29_code 7 (some .int) 120 (sAld 5 121) from g_laload (sid := 5) d21_120 rfl) ?_
  refine okc_cons (show Good l Z hz shp A O (⟨"org/distinguo/graph/MinimumCostFlow", "settleNext", "()I"⟩ : MethodName) prog_26_method_29_code 7 (some .int) 121 (sLoad 1 3 122) from g_lloadN d21_121) ?_
  refine okc_cons (show Good l Z hz shp A O (⟨"org/distinguo/graph/MinimumCostFlow", "settleNext", "()I"⟩ : MethodName) prog_26_method_29_code 7 (some .int) 122 (sBin 1 1 0 (jI (Term.op2 .lcmp)) 123) from g_lcmp d21_122) ?_
  refine okc_cons (show Good l Z hz shp A O (⟨"org/distinguo/graph/MinimumCostFlow", "settleNext", "()I"⟩ : MethodName) prog_26_method_29_code 7 (some .int) 123 (sIf .lt 129 126) from g_if d21_123 (by decide) (by decide)) ?_
  refine okc_cons (show Good l Z hz shp A O (⟨"org/distinguo/graph/MinimumCostFlow", "settleNext", "()I"⟩ : MethodName) prog_26_method_29_code 7 (some .int) 126 (sGoto 150) from g_goto d21_126 (by decide) (by decide)) ?_
  refine okc_cons (show Good l Z hz shp A O (⟨"org/distinguo/graph/MinimumCostFlow", "settleNext", "()I"⟩ : MethodName) prog_26_method_29_code 7 (some .int) 129 (sLoad 2 0 130) from g_aloadN d21_129) ?_
  refine okc_cons (show Good l Z hz shp A O (⟨"org/distinguo/graph/MinimumCostFlow", "settleNext", "()I"⟩ : MethodName) prog_26_method_29_code 7 (some .int) 130 (sGetF 2 0 133) from g_getfield (sid := 2) (i := 0) (R0 := "org/distinguo/graph/MinimumCostFlow") (host := "") d21_130 rfl rfl (Or.inl (hw _ (List.mem_of_getElem? (i := 59) rfl))) Via.refl) ?_
  refine okc_cons (show Good l Z hz shp A O (⟨"org/distinguo/graph/MinimumCostFlow", "settleNext", "()I"⟩ : MethodName) prog_26_method_29_code 7 (some .int) 133 (sLoad 0 5 135) from g_iload d21_133) ?_
  refine okc_cons (show Good l Z hz shp A O (⟨"org/distinguo/graph/MinimumCostFlow", "settleNext", "()I"⟩ : MethodName) prog_26_method_29_code 7 (some .int) 135 (sLoad 2 0 136) from g_aloadN d21_135) ?_
  refine okc_cons (show Good l Z hz shp A O (⟨"org/distinguo/graph/MinimumCostFlow", "settleNext", "()I"⟩ : MethodName) prog_26_method_29_code 7 (some .int) 136 (sGetF 2 0 139) from g_getfield (sid := 2) (i := 0) (R0 := "org/distinguo/graph/MinimumCostFlow") (host := "") d21_136 rfl rfl (Or.inl (hw _ (List.mem_of_getElem? (i := 59) rfl))) Via.refl) ?_
  refine okc_cons (show Good l Z hz shp A O (⟨"org/distinguo/graph/MinimumCostFlow", "settleNext", "()I"⟩ : MethodName) prog_26_method_29_code 7 (some .int) 139 (sLoad 0 6 141) from g_iload d21_139) ?_
  refine okc_cons (show Good l Z hz shp A O (⟨"org/distinguo/graph/MinimumCostFlow", "settleNext", "()I"⟩ : MethodName) prog_26_method_29_code 7 (some .int) 141 (sAld 5 142) from g_laload (sid := 5) d21_141 rfl) ?_
  refine okc_cons (show Good l Z hz shp A O (⟨"org/distinguo/graph/MinimumCostFlow", "settleNext", "()I"⟩ : MethodName) prog_26_method_29_code 7 (some .int) 142 (sAst 5 .long 143) from g_lastore (sid := 5) d21_142 rfl) ?_
  refine okc_cons (show Good l Z hz shp A O (⟨"org/distinguo/graph/MinimumCostFlow", "settleNext", "()I"⟩ : MethodName) prog_26_method_29_code 7 (some .int) 143 (sLoad 0 6 145) from g_iload d21_143) ?_
  refine okc_cons (show Good l Z hz shp A O (⟨"org/distinguo/graph/MinimumCostFlow", "settleNext", "()I"⟩ : MethodName) prog_26_method_29_code 7 (some .int) 145 (sStore 0 5 147) from g_istore d21_145) ?_
  refine okc_cons (show Good l Z hz shp A O (⟨"org/distinguo/graph/MinimumCostFlow", "settleNext", "()I"⟩ : MethodName) prog_26_method_29_code 7 (some .int) 147 (sGoto 59) from g_goto d21_147 (by decide) (by decide)) ?_
  refine okc_cons (show Good l Z hz shp A O (⟨"org/distinguo/graph/MinimumCostFlow", "settleNext", "()I"⟩ : MethodName) prog_26_method_29_code 7 (some .int) 150 (sLoad 2 0 151) from g_aloadN d21_150) ?_
  refine okc_cons (show Good l Z hz shp A O (⟨"org/distinguo/graph/MinimumCostFlow", "settleNext", "()I"⟩ : MethodName) prog_26_method_29_code 7 (some .int) 151 (sGetF 2 27 154) from g_getfield (sid := 2) (i := 27) (R0 := "org/distinguo/graph/MinimumCostFlow") (host := "") d21_151 rfl rfl (Or.inl (hw _ (List.mem_of_getElem? (i := 161) rfl))) Via.refl) ?_
  refine okc_cons (show Good l Z hz shp A O (⟨"org/distinguo/graph/MinimumCostFlow", "settleNext", "()I"⟩ : MethodName) prog_26_method_29_code 7 (some .int) 154 (sIf .le 165 157) from g_if d21_154 (by decide) (by decide)) ?_
  refine okc_cons (show Good l Z hz shp A O (⟨"org/distinguo/graph/MinimumCostFlow", "settleNext", "()I"⟩ : MethodName) prog_26_method_29_code 7 (some .int) 157 (sLoad 2 0 158) from g_aloadN d21_157) ?_
  refine okc_cons (show Good l Z hz shp A O (⟨"org/distinguo/graph/MinimumCostFlow", "settleNext", "()I"⟩ : MethodName) prog_26_method_29_code 7 (some .int) 158 (sGetF 2 0 161) from g_getfield (sid := 2) (i := 0) (R0 := "org/distinguo/graph/MinimumCostFlow") (host := "") d21_158 rfl rfl (Or.inl (hw _ (List.mem_of_getElem? (i := 59) rfl))) Via.refl) ?_
  refine okc_cons (show Good l Z hz shp A O (⟨"org/distinguo/graph/MinimumCostFlow", "settleNext", "()I"⟩ : MethodName) prog_26_method_29_code 7 (some .int) 161 (sLoad 0 5 163) from g_iload d21_161) ?_
  refine okc_cons (show Good l Z hz shp A O (⟨"org/distinguo/graph/MinimumCostFlow", "settleNext", "()I"⟩ : MethodName) prog_26_method_29_code 7 (some .int) 163 (sLoad 1 3 164) from g_lloadN d21_163) ?_
  refine okc_cons (show Good l Z hz shp A O (⟨"org/distinguo/graph/MinimumCostFlow", "settleNext", "()I"⟩ : MethodName) prog_26_method_29_code 7 (some .int) 164 (sAst 5 .long 165) from g_lastore (sid := 5) d21_164 rfl) ?_
  refine okc_cons (show Good l Z hz shp A O (⟨"org/distinguo/graph/MinimumCostFlow", "settleNext", "()I"⟩ : MethodName) prog_26_method_29_code 7 (some .int) 165 (sLoad 2 0 166) from g_aloadN d21_165) ?_
  refine okc_cons (show Good l Z hz shp A O (⟨"org/distinguo/graph/MinimumCostFlow", "settleNext", "()I"⟩ : MethodName) prog_26_method_29_code 7 (some .int) 166 (sPush (0, .int 0) 167) from g_iconst d21_166 rfl) ?_
  refine okc_cons (show Good l Z hz shp A O (⟨"org/distinguo/graph/MinimumCostFlow", "settleNext", "()I"⟩ : MethodName) prog_26_method_29_code 7 (some .int) 167 (sPutF 2 28 .int 170) from g_putfield (sid := 2) (i := 28) (R0 := "org/distinguo/graph/MinimumCostFlow") d21_167 rfl (sok_2 hw) rfl (by decide) (hw _ (List.mem_of_getElem? (i := 163) rfl)) Via.refl (Or.inl (hw _ (List.mem_of_getElem? (i := 164) rfl)))) ?_
  refine okc_cons (show Good l Z hz shp A O (⟨"org/distinguo/graph/MinimumCostFlow", "settleNext", "()I"⟩ : MethodName) prog_26_method_29_code 7 (some .int) 170 (sLoad 2 0 171) from g_aloadN d21_170) ?_
  refine okc_cons (show Good l Z hz shp A O (⟨"org/distinguo/graph/MinimumCostFlow", "settleNext", "()I"⟩ : MethodName) prog_26_method_29_code 7 (some .int) 171 (sPush (0, .int 0) 172) from g_iconst d21_171 rfl) ?_
  refine okc_cons (show Good l Z hz shp A O (⟨"org/distinguo/graph/MinimumCostFlow", "settleNext", "()I"⟩ : MethodName) prog_26_method_29_code 7 (some .int) 172 (sPutF 2 29 .int 175) from g_putfield (sid := 2) (i := 29) (R0 := "org/distinguo/graph/MinimumCostFlow") d21_172 rfl (sok_2 hw) rfl (by decide) (hw _ (List.mem_of_getElem? (i := 165) rfl)) Via.refl (Or.inl (hw _ (List.mem_of_getElem? (i := 166) rfl)))) ?_
  refine okc_cons (show Good l Z hz shp A O (⟨"org/distinguo/graph/MinimumCostFlow", "settleNext", "()I"⟩ : MethodName) prog_26_method_29_code 7 (some .int) 175 (sLoad 2 0 176) from g_aloadN d21_175) ?_
  refine okc_cons (show Good l Z hz shp A O (⟨"org/distinguo/graph/MinimumCostFlow", "settleNext", "()I"⟩ : MethodName) prog_26_method_29_code 7 (some .int) 176 (sLoad 1 1 177) from g_lloadN d21_176) ?_
  refine okc_cons (show Good l Z hz shp A O (⟨"org/distinguo/graph/MinimumCostFlow", "settleNext", "()I"⟩ : MethodName) prog_26_method_29_code 7 (some .int) 177 (sPush (0, .int 32) 179) from g_bipush d21_177 rfl) ?_
  refine okc_cons (show Good l Z hz shp A O (⟨"org/distinguo/graph/MinimumCostFlow", "settleNext", "()I"⟩ : MethodName) prog_26_method_29_code 7 (some .int) 179 (sBin 1 0 1 xLushr 180) from gx_lushr xLushr_ok d21_179) ?_
  refine okc_cons (show Good l Z hz shp A O (⟨"org/distinguo/graph/MinimumCostFlow", "settleNext", "()I"⟩ : MethodName) prog_26_method_29_code 7 (some .int) 180 (sUn 1 0 xL2I 181) from gx_l2i xL2I_ok d21_180) ?_
  refine okc_cons (show Good l Z hz shp A O (⟨"org/distinguo/graph/MinimumCostFlow", "settleNext", "()I"⟩ : MethodName) prog_26_method_29_code 7 (some .int) 181 (sPutF 2 30 .int 184) from g_putfield (sid := 2) (i := 30) (R0 := "org/distinguo/graph/MinimumCostFlow") d21_181 rfl (sok_2 hw) rfl (by decide) (hw _ (List.mem_of_getElem? (i := 167) rfl)) Via.refl (Or.inl (hw _ (List.mem_of_getElem? (i := 168) rfl)))) ?_
  refine okc_cons (show Good l Z hz shp A O (⟨"org/distinguo/graph/MinimumCostFlow", "settleNext", "()I"⟩ : MethodName) prog_26_method_29_code 7 (some .int) 184 (sLoad 2 0 185) from g_aloadN d21_184) ?_
  refine okc_cons (show Good l Z hz shp A O (⟨"org/distinguo/graph/MinimumCostFlow", "settleNext", "()I"⟩ : MethodName) prog_26_method_29_code 7 (some .int) 185 (sLoad 1 1 186) from g_lloadN d21_185) ?_
  refine okc_cons (show Good l Z hz shp A O (⟨"org/distinguo/graph/MinimumCostFlow", "settleNext", "()I"⟩ : MethodName) prog_26_method_29_code 7 (some .int) 186 (sUn 1 0 xL2I 187) from gx_l2i xL2I_ok d21_186) ?_
  refine okc_cons (fun m hm => by
    obtain rfl : m = (2, cd_22) := (Option.some.inj hm).symm
    exact (show CallGood l Z hz shp A O (⟨"org/distinguo/graph/MinimumCostFlow", "settleNext", "()I"⟩ : MethodName) prog_26_method_29_code 7 (some .int) (⟨"org/distinguo/graph/MinimumCostFlow", "settle", "(I)I"⟩ : MethodName) prog_26_method_30_code 2 (some .int) 187 2 190 (ckObj 2) from c_private (a0 := a0) (sid := 2) (hd := d21_187) (hpl := pl_22) (hdesc := pd_22) (hna := rfl) (hy := by decide) (w1 := (hw _ (List.mem_of_getElem? (i := 202) rfl))) (w2 := (hw _ (List.mem_of_getElem? (i := 203) rfl))) (w3 := (hw _ (List.mem_of_getElem? (i := 53) rfl))) (w4 := (hw _ (List.mem_of_getElem? (i := 205) rfl))) (hs := rfl) (w5 := (hw _ (List.mem_of_getElem? (i := 204) rfl))) (w6 := (hw _ (List.mem_of_getElem? (i := 52) rfl))))) ?_
  refine okc_cons (show RetGood l Z hz shp A O (⟨"org/distinguo/graph/MinimumCostFlow", "settleNext", "()I"⟩ : MethodName) prog_26_method_29_code 7 (some .int) 190 (rVal .int) from g_ret d21_190 (by decide) (by simp)) ?_
  exact okc_nil
set_option maxRecDepth 65536 in
set_option maxHeartbeats 40000000 in
theorem cok_22 (hw : ∀ d ∈ tables_1, d.before a0 Z = true) : ∀ el ∈ cd_22, ElOk l Z hz shp A O 96 704 mts mis 22 2 el := by
  unfold cd_22
  refine okc_cons (show Good l Z hz shp A O (⟨"org/distinguo/graph/MinimumCostFlow", "settle", "(I)I"⟩ : MethodName) prog_26_method_30_code 2 (some .int) 0 (sLoad 2 0 1) from g_aloadN d22_0) ?_
  refine okc_cons (show Good l Z hz shp A O (⟨"org/distinguo/graph/MinimumCostFlow", "settle", "(I)I"⟩ : MethodName) prog_26_method_30_code 2 (some .int) 1 (sGetF 2 19 4) from g_getfield (sid := 2) (i := 19) (R0 := "org/distinguo/graph/MinimumCostFlow") (host := "") d22_1 rfl rfl (Or.inl (hw _ (List.mem_of_getElem? (i := 123) rfl))) Via.refl) ?_
  refine okc_cons (show Good l Z hz shp A O (⟨"org/distinguo/graph/MinimumCostFlow", "settle", "(I)I"⟩ : MethodName) prog_26_method_30_code 2 (some .int) 4 (sLoad 0 1 5) from g_iloadN d22_4) ?_
  refine okc_cons (show Good l Z hz shp A O (⟨"org/distinguo/graph/MinimumCostFlow", "settle", "(I)I"⟩ : MethodName) prog_26_method_30_code 2 (some .int) 5 (sAld 6 6) from g_baloadZ (sid := 6) d22_5 rfl) ?_
  refine okc_cons (show Good l Z hz shp A O (⟨"org/distinguo/graph/MinimumCostFlow", "settle", "(I)I"⟩ : MethodName) prog_26_method_30_code 2 (some .int) 6 (sIf .eq 11 9) from g_if d22_6 (by decide) (by decide)) ?_
  refine okc_cons (show Good l Z hz shp A O (⟨"org/distinguo/graph/MinimumCostFlow", "settle", "(I)I"⟩ : MethodName) prog_26_method_30_code 2 (some .int) 9 (sPush (0, .int (-1)) 10) from g_iconst d22_9 rfl) ?_
  refine okc_cons (show RetGood l Z hz shp A O (⟨"org/distinguo/graph/MinimumCostFlow", "settle", "(I)I"⟩ : MethodName) prog_26_method_30_code 2 (some .int) 10 (rVal .int) from g_ret d22_10 (by decide) (by simp)) ?_
  refine okc_cons (show Good l Z hz shp A O (⟨"org/distinguo/graph/MinimumCostFlow", "settle", "(I)I"⟩ : MethodName) prog_26_method_30_code 2 (some .int) 11 (sLoad 2 0 12) from g_aloadN d22_11) ?_
  refine okc_cons (show Good l Z hz shp A O (⟨"org/distinguo/graph/MinimumCostFlow", "settle", "(I)I"⟩ : MethodName) prog_26_method_30_code 2 (some .int) 12 (sGetF 2 19 15) from g_getfield (sid := 2) (i := 19) (R0 := "org/distinguo/graph/MinimumCostFlow") (host := "") d22_12 rfl rfl (Or.inl (hw _ (List.mem_of_getElem? (i := 123) rfl))) Via.refl) ?_
  refine okc_cons (show Good l Z hz shp A O (⟨"org/distinguo/graph/MinimumCostFlow", "settle", "(I)I"⟩ : MethodName) prog_26_method_30_code 2 (some .int) 15 (sLoad 0 1 16) from g_iloadN d22_15) ?_
  refine okc_cons (show Good l Z hz shp A O (⟨"org/distinguo/graph/MinimumCostFlow", "settle", "(I)I"⟩ : MethodName) prog_26_method_30_code 2 (some .int) 16 (sPush (0, .int 1) 17) from g_iconst d22_16 rfl) ?_
  refine okc_cons (show Good l Z hz shp A O (⟨"org/distinguo/graph/MinimumCostFlow", "settle", "(I)I"⟩ : MethodName) prog_26_method_30_code 2 (some .int) 17 (sAst 6 .boolean 18) from g_bastoreZ (sid := 6) d22_17 rfl) ?_
  refine okc_cons (show Good l Z hz shp A O (⟨"org/distinguo/graph/MinimumCostFlow", "settle", "(I)I"⟩ : MethodName) prog_26_method_30_code 2 (some .int) 18 (sLoad 2 0 19) from g_aloadN d22_18) ?_
  refine okc_cons (show Good l Z hz shp A O (⟨"org/distinguo/graph/MinimumCostFlow", "settle", "(I)I"⟩ : MethodName) prog_26_method_30_code 2 (some .int) 19 (sGetF 2 20 22) from g_getfield (sid := 2) (i := 20) (R0 := "org/distinguo/graph/MinimumCostFlow") (host := "") d22_19 rfl rfl (Or.inl (hw _ (List.mem_of_getElem? (i := 125) rfl))) Via.refl) ?_
  refine okc_cons (show Good l Z hz shp A O (⟨"org/distinguo/graph/MinimumCostFlow", "settle", "(I)I"⟩ : MethodName) prog_26_method_30_code 2 (some .int) 22 (sLoad 2 0 23) from g_aloadN d22_22) ?_
  refine okc_cons (show Good l Z hz shp A O (⟨"org/distinguo/graph/MinimumCostFlow", "settle", "(I)I"⟩ : MethodName) prog_26_method_30_code 2 (some .int) 23 (sDup 24) from g_dup d22_23) ?_
  refine okc_cons (show Good l Z hz shp A O (⟨"org/distinguo/graph/MinimumCostFlow", "settle", "(I)I"⟩ : MethodName) prog_26_method_30_code 2 (some .int) 24 (sGetF 2 26 27) from g_getfield (sid := 2) (i := 26) (R0 := "org/distinguo/graph/MinimumCostFlow") (host := "") d22_24 rfl rfl (Or.inl (hw _ (List.mem_of_getElem? (i := 159) rfl))) Via.refl) ?_
  refine okc_cons (show Good l Z hz shp A O (⟨"org/distinguo/graph/MinimumCostFlow", "settle", "(I)I"⟩ : MethodName) prog_26_method_30_code 2 (some .int) 27 (sDupX1 28) from g_dupX1 d22_27) ?_
  refine okc_cons (show Good l Z hz shp A O (⟨"org/distinguo/graph/MinimumCostFlow", "settle", "(I)I"⟩ : MethodName) prog_26_method_30_code 2 (some .int) 28 (sPush (0, .int 1) 29) from g_iconst d22_28 rfl) ?_
  refine okc_cons (show Good l Z hz shp A O (⟨"org/distinguo/graph/MinimumCostFlow", "settle", "(I)I"⟩ : MethodName) prog_26_method_30_code 2 (some .int) 29 (sBin 0 0 0 (jI Term.add) 30) from g_iadd d22_29) ?_
  refine okc_cons (show Good l Z hz shp A O (⟨"org/distinguo/graph/MinimumCostFlow", "settle", "(I)I"⟩ : MethodName) prog_26_method_30_code 2 (some .int) 30 (sPutF 2 26 .int 33) from g_putfield (sid := 2) (i := 26) (R0 := "org/distinguo/graph/MinimumCostFlow") d22_30 rfl (sok_2 hw) rfl (by decide) (hw _ (List.mem_of_getElem? (i := 159) rfl)) Via.refl (Or.inl (hw _ (List.mem_of_getElem? (i := 160) rfl)))) ?_
  refine okc_cons (show Good l Z hz shp A O (⟨"org/distinguo/graph/MinimumCostFlow", "settle", "(I)I"⟩ : MethodName) prog_26_method_30_code 2 (some .int) 33 (sLoad 0 1 34) from g_iloadN d22_33) ?_
  refine okc_cons (show Good l Z hz shp A O (⟨"org/distinguo/graph/MinimumCostFlow", "settle", "(I)I"⟩ : MethodName) prog_26_method_30_code 2 (some .int) 34 (sAst 4 .int 35) from g_iastore (sid := 4) d22_34 rfl) ?_
  refine okc_cons (show Good l Z hz shp A O (⟨"org/distinguo/graph/MinimumCostFlow", "settle", "(I)I"⟩ : MethodName) prog_26_method_30_code 2 (some .int) 35 (sLoad 0 1 36) from g_iloadN d22_35) ?_
  refine okc_cons (show RetGood l Z hz shp A O (⟨"org/distinguo/graph/MinimumCostFlow", "settle", "(I)I"⟩ : MethodName) prog_26_method_30_code 2 (some .int) 36 (rVal .int) from g_ret d22_36 (by decide) (by simp)) ?_
  exact okc_nil
set_option maxRecDepth 65536 in
set_option maxHeartbeats 40000000 in
theorem cok_23 (hw : ∀ d ∈ tables_1, d.before a0 Z = true) : ∀ el ∈ cd_23, ElOk l Z hz shp A O 96 704 mts mis 23 3 el := by
  unfold cd_23
  refine okc_cons (show Good l Z hz shp A O (⟨"org/distinguo/graph/MinimumCostFlow", "reducedCost", "(II)I"⟩ : MethodName) prog_26_method_24_code 3 (some .int) 0 (sLoad 2 0 1) from g_aloadN d23_0) ?_
  refine okc_cons (show Good l Z hz shp A O (⟨"org/distinguo/graph/MinimumCostFlow", "reducedCost", "(II)I"⟩ : MethodName) prog_26_method_24_code 3 (some .int) 1 (sGetF 2 5 4) from g_getfield (sid := 2) (i := 5) (R0 := "org/distinguo/graph/MinimumCostFlow") (host := "") d23_1 rfl rfl (Or.inl (hw _ (List.mem_of_getElem? (i := 80) rfl))) Via.refl) ?_
  refine okc_cons (show Good l Z hz shp A O (⟨"org/distinguo/graph/MinimumCostFlow", "reducedCost", "(II)I"⟩ : MethodName) prog_26_method_24_code 3 (some .int) 4 (sLoad 0 2 5) from g_iloadN d23_4) ?_
  refine okc_cons (show Good l Z hz shp A O (⟨"org/distinguo/graph/MinimumCostFlow", "reducedCost", "(II)I"⟩ : MethodName) prog_26_method_24_code 3 (some .int) 5 (sAld 4 6) from g_iaload (sid := 4) d23_5 rfl) ?_
  refine okc_cons (show Good l Z hz shp A O (⟨"org/distinguo/graph/MinimumCostFlow", "reducedCost", "(II)I"⟩ : MethodName) prog_26_method_24_code 3 (some .int) 6 (sUn 0 1 (uL (Term.op1 .i2l)) 7) from g_i2l d23_6) ?_
  refine okc_cons (show Good l Z hz shp A O (⟨"org/distinguo/graph/MinimumCostFlow", "reducedCost", "(II)I"⟩ : MethodName) prog_26_method_24_code 3 (some .int) 7 (sLoad 2 0 8) from g_aloadN d23_7) ?_
  refine okc_cons (show Good l Z hz shp A O (⟨"org/distinguo/graph/MinimumCostFlow", "reducedCost", "(II)I"⟩ : MethodName) prog_26_method_24_code 3 (some .int) 8 (sGetF 2 15 11) from g_getfield (sid := 2) (i := 15) (R0 := "org/distinguo/graph/MinimumCostFlow") (host := "") d23_8 rfl rfl (Or.inl (hw _ (List.mem_of_getElem? (i := 115) rfl))) Via.refl) ?_
  refine okc_cons (show Good l Z hz shp A O (⟨"org/distinguo/graph/MinimumCostFlow", "reducedCost", "(II)I"⟩ : MethodName) prog_26_method_24_code 3 (some .int) 11 (sLoad 0 1 12) from g_iloadN d23_11) ?_
  refine okc_cons (show Good l Z hz shp A O (⟨"org/distinguo/graph/MinimumCostFlow", "reducedCost", "(II)I"⟩ : MethodName) prog_26_method_24_code 3 (some .int) 12 (sAld 5 13) from g_laload (sid := 5) d23_12 rfl) ?_
  refine okc_cons (show Good l Z hz shp A O (⟨"org/distinguo/graph/MinimumCostFlow", "reducedCost", "(II)I"⟩ : MethodName) prog_26_method_24_code 3 (some .int) 13 (sBin 1 1 1 xAddL 14) from gx_ladd xAddL_ok d23_13) ?_
  refine okc_cons (show Good l Z hz shp A O (⟨"org/distinguo/graph/MinimumCostFlow", "reducedCost", "(II)I"⟩ : MethodName) prog_26_method_24_code 3 (some .int) 14 (sLoad 2 0 15) from g_aloadN d23_14) ?_
  refine okc_cons (show Good l Z hz shp A O (⟨"org/distinguo/graph/MinimumCostFlow", "reducedCost", "(II)I"⟩ : MethodName) prog_26_method_24_code 3 (some .int) 15 (sGetF 2 15 18) from g_getfield (sid := 2) (i := 15) (R0 := "org/distinguo/graph/MinimumCostFlow") (host := "") d23_15 rfl rfl (Or.inl (hw _ (List.mem_of_getElem? (i := 115) rfl))) Via.refl) ?_
  refine okc_cons (show Good l Z hz shp A O (⟨"org/distinguo/graph/MinimumCostFlow", "reducedCost", "(II)I"⟩ : MethodName) prog_26_method_24_code 3 (some .int) 18 (sLoad 2 0 19) from g_aloadN d23_18) ?_
  refine okc_cons (show Good l Z hz shp A O (⟨"org/distinguo/graph/MinimumCostFlow", "reducedCost", "(II)I"⟩ : MethodName) prog_26_method_24_code 3 (some .int) 19 (sGetF 2 4 22) from g_getfield (sid := 2) (i := 4) (R0 := "org/distinguo/graph/MinimumCostFlow") (host := "") d23_19 rfl rfl (Or.inl (hw _ (List.mem_of_getElem? (i := 78) rfl))) Via.refl) ?_
  refine okc_cons (show Good l Z hz shp A O (⟨"org/distinguo/graph/MinimumCostFlow", "reducedCost", "(II)I"⟩ : MethodName) prog_26_method_24_code 3 (some .int) 22 (sLoad 0 2 23) from g_iloadN d23_22) ?_
  refine okc_cons (show Good l Z hz shp A O (⟨"org/distinguo/graph/MinimumCostFlow", "reducedCost", "(II)I"⟩ : MethodName) prog_26_method_24_code 3 (some .int) 23 (sAld 4 24) from g_iaload (sid := 4) d23_23 rfl) ?_
  refine okc_cons (show Good l Z hz shp A O (⟨"org/distinguo/graph/MinimumCostFlow", "reducedCost", "(II)I"⟩ : MethodName) prog_26_method_24_code 3 (some .int) 24 (sAld 5 25) from g_laload (sid := 5) d23_24 rfl) ?_
  refine okc_cons (show Good l Z hz shp A O (⟨"org/distinguo/graph/MinimumCostFlow", "reducedCost", "(II)I"⟩ : MethodName) prog_26_method_24_code 3 (some .int) 25 (sBin 1 1 1 xSubL 26) from gx_lsub xSubL_ok d23_25) ?_
  refine okc_cons (show Good l Z hz shp A O (⟨"org/distinguo/graph/MinimumCostFlow", "reducedCost", "(II)I"⟩ : MethodName) prog_26_method_24_code 3 (some .int) 26 (sUn 1 0 xL2I 27) from gx_l2i xL2I_ok d23_26) ?_
  refine okc_cons (show RetGood l Z hz shp A O (⟨"org/distinguo/graph/MinimumCostFlow", "reducedCost", "(II)I"⟩ : MethodName) prog_26_method_24_code 3 (some .int) 27 (rVal .int) from g_ret d23_27 (by decide) (by simp)) ?_
  exact okc_nil
set_option maxRecDepth 65536 in
set_option maxHeartbeats 40000000 in
theorem cok_24 (hw : ∀ d ∈ tables_1, d.before a0 Z = true) : ∀ el ∈ cd_24, ElOk l Z hz shp A O 96 704 mts mis 24 2 el := by
  unfold cd_24
  refine okc_cons (show Good l Z hz shp A O (⟨"org/distinguo/graph/MinimumCostFlow", "isSettled", "(I)Z"⟩ : MethodName) prog_26_method_12_code 2 (some .boolean) 0 (sLoad 2 0 1) from g_aloadN d24_0) ?_
  refine okc_cons (show Good l Z hz shp A O (⟨"org/distinguo/graph/MinimumCostFlow", "isSettled", "(I)Z"⟩ : MethodName) prog_26_method_12_code 2 (some .boolean) 1 (sGetF 2 16 4) from g_getfield (sid := 2) (i := 16) (R0 := "org/distinguo/graph/MinimumCostFlow") (host := "") d24_1 rfl rfl (Or.inl (hw _ (List.mem_of_getElem? (i := 117) rfl))) Via.refl) ?_
  refine okc_cons (show Good l Z hz shp A O (⟨"org/distinguo/graph/MinimumCostFlow", "isSettled", "(I)Z"⟩ : MethodName) prog_26_method_12_code 2 (some .boolean) 4 (sLoad 0 1 5) from g_iloadN d24_4) ?_
  refine okc_cons (show Good l Z hz shp A O (⟨"org/distinguo/graph/MinimumCostFlow", "isSettled", "(I)Z"⟩ : MethodName) prog_26_method_12_code 2 (some .boolean) 5 (sAld 4 6) from g_iaload (sid := 4) d24_5 rfl) ?_
  refine okc_cons (show Good l Z hz shp A O (⟨"org/distinguo/graph/MinimumCostFlow", "isSettled", "(I)Z"⟩ : MethodName) prog_26_method_12_code 2 (some .boolean) 6 (sLoad 2 0 7) from g_aloadN d24_6) ?_
  refine okc_cons (show Good l Z hz shp A O (⟨"org/distinguo/graph/MinimumCostFlow", "isSettled", "(I)Z"⟩ : MethodName) prog_26_method_12_code 2 (some .boolean) 7 (sGetF 2 24 10) from g_getfield (sid := 2) (i := 24) (R0 := "org/distinguo/graph/MinimumCostFlow") (host := "") d24_7 rfl rfl (Or.inl (hw _ (List.mem_of_getElem? (i := 155) rfl))) Via.refl) ?_
  refine okc_cons (show Good l Z hz shp A O (⟨"org/distinguo/graph/MinimumCostFlow", "isSettled", "(I)Z"⟩ : MethodName) prog_26_method_12_code 2 (some .boolean) 10 (sIcmp .ne 26 13) from g_icmp d24_10 (by decide) (by decide)) ?_
  refine okc_cons (show Good l Z hz shp A O (⟨"org/distinguo/graph/MinimumCostFlow", "isSettled", "(I)Z"⟩ : MethodName) prog_26_method_12_code 2 (some .boolean) 13 (sLoad 2 0 14) from g_aloadN d24_13) ?_
  refine okc_cons (show Good l Z hz shp A O (⟨"org/distinguo/graph/MinimumCostFlow", "isSettled", "(I)Z"⟩ : MethodName) prog_26_method_12_code 2 (some .boolean) 14 (sGetF 2 19 17) from g_getfield (sid := 2) (i := 19) (R0 := "org/distinguo/graph/MinimumCostFlow") (host := "") d24_14 rfl rfl (Or.inl (hw _ (List.mem_of_getElem? (i := 123) rfl))) Via.refl) ?_
  refine okc_cons (show Good l Z hz shp A O (⟨"org/distinguo/graph/MinimumCostFlow", "isSettled", "(I)Z"⟩ : MethodName) prog_26_method_12_code 2 (some .boolean) 17 (sLoad 0 1 18) from g_iloadN d24_17) ?_
  refine okc_cons (show Good l Z hz shp A O (⟨"org/distinguo/graph/MinimumCostFlow", "isSettled", "(I)Z"⟩ : MethodName) prog_26_method_12_code 2 (some .boolean) 18 (sAld 6 19) from g_baloadZ (sid := 6) d24_18 rfl) ?_
  refine okc_cons (show Good l Z hz shp A O (⟨"org/distinguo/graph/MinimumCostFlow", "isSettled", "(I)Z"⟩ : MethodName) prog_26_method_12_code 2 (some .boolean) 19 (sIf .eq 26 22) from g_if d24_19 (by decide) (by decide)) ?_
  refine okc_cons (show Good l Z hz shp A O (⟨"org/distinguo/graph/MinimumCostFlow", "isSettled", "(I)Z"⟩ : MethodName) prog_26_method_12_code 2 (some .boolean) 22 (sPush (0, .int 1) 23) from g_iconst d24_22 rfl) ?_
  refine okc_cons (show Good l Z hz shp A O (⟨"org/distinguo/graph/MinimumCostFlow", "isSettled", "(I)Z"⟩ : MethodName) prog_26_method_12_code 2 (some .boolean) 23 (sGoto 27) from g_goto d24_23 (by decide) (by decide)) ?_
  refine okc_cons (show Good l Z hz shp A O (⟨"org/distinguo/graph/MinimumCostFlow", "isSettled", "(I)Z"⟩ : MethodName) prog_26_method_12_code 2 (some .boolean) 26 (sPush (0, .int 0) 27) from g_iconst d24_26 rfl) ?_
  refine okc_cons (show RetGood l Z hz shp A O (⟨"org/distinguo/graph/MinimumCostFlow", "isSettled", "(I)Z"⟩ : MethodName) prog_26_method_12_code 2 (some .boolean) 27 (rVal .boolean) from g_ret d24_27 (by decide) (by simp)) ?_
  exact okc_nil
set_option maxRecDepth 65536 in
set_option maxHeartbeats 40000000 in
theorem cok_25 (hw : ∀ d ∈ tables_1, d.before a0 Z = true) : ∀ el ∈ cd_25, ElOk l Z hz shp A O 96 704 mts mis 25 4 el := by
  unfold cd_25
  refine okc_cons (show Good l Z hz shp A O (⟨"org/distinguo/graph/MinimumCostFlow", "push", "(J)V"⟩ : MethodName) prog_26_method_28_code 4 none 0 (sLoad 2 0 1) from g_aloadN d25_0) ?_
  refine okc_cons (show Good l Z hz shp A O (⟨"org/distinguo/graph/MinimumCostFlow", "push", "(J)V"⟩ : MethodName) prog_26_method_28_code 4 none 1 (sGetF 2 27 4) from g_getfield (sid := 2) (i := 27) (R0 := "org/distinguo/graph/MinimumCostFlow") (host := "") d25_1 rfl rfl (Or.inl (hw _ (List.mem_of_getElem? (i := 161) rfl))) Via.refl) ?_
  refine okc_cons (show Good l Z hz shp A O (⟨"org/distinguo/graph/MinimumCostFlow", "push", "(J)V"⟩ : MethodName) prog_26_method_28_code 4 none 4 (sLoad 2 0 5) from g_aloadN d25_4) ?_
  refine okc_cons (show Good l Z hz shp A O (⟨"org/distinguo/graph/MinimumCostFlow", "push", "(J)V"⟩ : MethodName) prog_26_method_28_code 4 none 5 (sGetF 2 0 8) from g_getfield (sid := 2) (i := 0) (R0 := "org/distinguo/graph/MinimumCostFlow") (host := "") d25_5 rfl rfl (Or.inl (hw _ (List.mem_of_getElem? (i := 59) rfl))) Via.refl) ?_
  refine okc_cons (show Good l Z hz shp A O (⟨"org/distinguo/graph/MinimumCostFlow", "push", "(J)V"⟩ : MethodName) prog_26_method_28_code 4 none 8 (sLenA 5 9) from g_len (sid := 5) d25_8 rfl) ?_
  refine okc_cons (show Good l Z hz shp A O (⟨"org/distinguo/graph/MinimumCostFlow", "push", "(J)V"⟩ : MethodName) prog_26_method_28_code 4 none 9 (sIcmp .ne 29 12) from g_icmp d25_9 (by decide) (by decide)) ?_
  refine okc_cons (show Good l Z hz shp A O (⟨"org/distinguo/graph/MinimumCostFlow", "push", "(J)V"⟩ : MethodName) prog_26_method_28_code 4 none 12 (sLoad 2 0 13) from g_aloadN d25_12) ?_
  refine okc_cons (show Good l Z hz shp A O (⟨"org/distinguo/graph/MinimumCostFlow", "push", "(J)V"⟩ : MethodName) prog_26_method_28_code 4 none 13 (sLoad 2 0 14) from g_aloadN d25_13) ?_
  refine okc_cons (show Good l Z hz shp A O (⟨"org/distinguo/graph/MinimumCostFlow", "push", "(J)V"⟩ : MethodName) prog_26_method_28_code 4 none 14 (sGetF 2 0 17) from g_getfield (sid := 2) (i := 0) (R0 := "org/distinguo/graph/MinimumCostFlow") (host := "") d25_14 rfl rfl (Or.inl (hw _ (List.mem_of_getElem? (i := 59) rfl))) Via.refl) ?_
  refine okc_cons (show Good l Z hz shp A O (⟨"org/distinguo/graph/MinimumCostFlow", "push", "(J)V"⟩ : MethodName) prog_26_method_28_code 4 none 17 (sPush (0, .int 2) 18) from g_iconst d25_17 rfl) ?_
  refine okc_cons (show Good l Z hz shp A O (⟨"org/distinguo/graph/MinimumCostFlow", "push", "(J)V"⟩ : MethodName) prog_26_method_28_code 4 none 18 (sLoad 2 0 19) from g_aloadN d25_18) ?_
  refine okc_cons (show Good l Z hz shp A O (⟨"org/distinguo/graph/MinimumCostFlow", "push", "(J)V"⟩ : MethodName) prog_26_method_28_code 4 none 19 (sGetF 2 27 22) from g_getfield (sid := 2) (i := 27) (R0 := "org/distinguo/graph/MinimumCostFlow") (host := "") d25_19 rfl rfl (Or.inl (hw _ (List.mem_of_getElem? (i := 161) rfl))) Via.refl) ?_
  refine okc_cons (show Good l Z hz shp A O (⟨"org/distinguo/graph/MinimumCostFlow", "push", "(J)V"⟩ : MethodName) prog_26_method_28_code 4 none 22 (sBin 0 0 0 (jI Term.mul) 23) from g_imul d25_22) ?_
  refine okc_cons (show Good l Z hz shp A O (⟨"org/distinguo/graph/MinimumCostFlow", "push", "(J)V"⟩ : MethodName) prog_26_method_28_code 4 none 23 (sStop) from g_stop) ?_
  refine okc_cons (show Good l Z hz shp A O (⟨"org/distinguo/graph/MinimumCostFlow", "push", "(J)V"⟩ : MethodName) prog_26_method_28_code 4 none 26 (sPutF 2 0 (.array .long) 29) from g_putfield (sid := 2) (i := 0) (R0 := "org/distinguo/graph/MinimumCostFlow") d25_26 rfl (sok_2 hw) rfl (by decide) (hw _ (List.mem_of_getElem? (i := 59) rfl)) Via.refl (Or.inl (hw _ (List.mem_of_getElem? (i := 60) rfl)))) ?_
  refine okc_cons (show Good l Z hz shp A O (⟨"org/distinguo/graph/MinimumCostFlow", "push", "(J)V"⟩ : MethodName) prog_26_method_28_code 4 none 29 (sLoad 2 0 30) from g_aloadN d25_29) ?_
  refine okc_cons (show Good l Z hz shp A O (⟨"org/distinguo/graph/MinimumCostFlow", "push", "(J)V"⟩ : MethodName) prog_26_method_28_code 4 none 30 (sDup 31) from g_dup d25_30) ?_
  refine okc_cons (show Good l Z hz shp A O (⟨"org/distinguo/graph/MinimumCostFlow", "push", "(J)V"⟩ : MethodName) prog_26_method_28_code 4 none 31 (sGetF 2 27 34) from g_getfield (sid := 2) (i := 27) (R0 := "org/distinguo/graph/MinimumCostFlow") (host := "") d25_31 rfl rfl (Or.inl (hw _ (List.mem_of_getElem? (i := 161) rfl))) Via.refl) ?_
  refine okc_cons (show Good l Z hz shp A O (⟨"org/distinguo/graph/MinimumCostFlow", "push", "(J)V"⟩ : MethodName) prog_26_method_28_code 4 none 34 (sDupX1 35) from g_dupX1 d25_34) ?_
  refine okc_cons (show Good l Z hz shp A O (⟨"org/distinguo/graph/MinimumCostFlow", "push", "(J)V"⟩ : MethodName) prog_26_method_28_code 4 none 35 (sPush (0, .int 1) 36) from g_iconst d25_35 rfl) ?_
  refine okc_cons (show Good l Z hz shp A O (⟨"org/distinguo/graph/MinimumCostFlow", "push", "(J)V"⟩ : MethodName) prog_26_method_28_code 4 none 36 (sBin 0 0 0 (jI Term.add) 37) from g_iadd d25_36) ?_
  refine okc_cons (show Good l Z hz shp A O (⟨"org/distinguo/graph/MinimumCostFlow", "push", "(J)V"⟩ : MethodName) prog_26_method_28_code 4 none 37 (sPutF 2 27 .int 40) from g_putfield (sid := 2) (i := 27) (R0 := "org/distinguo/graph/MinimumCostFlow") d25_37 rfl (sok_2 hw) rfl (by decide) (hw _ (List.mem_of_getElem? (i := 161) rfl)) Via.refl (Or.inl (hw _ (List.mem_of_getElem? (i := 162) rfl)))) ?_
  refine okc_cons (show Good l Z hz shp A O (⟨"org/distinguo/graph/MinimumCostFlow", "push", "(J)V"⟩ : MethodName) prog_26_method_28_code 4 none 40 (sStore 0 3 41) from g_istoreN d25_40) ?_
  refine okc_cons (show Good l Z hz shp A O (⟨"org/distinguo/graph/MinimumCostFlow", "push", "(J)V"⟩ : MethodName) prog_26_method_28_code 4 none 41 (sLoad 0 3 42) from g_iloadN d25_41) ?_
  refine okc_cons (show Good l Z hz shp A O (⟨"org/distinguo/graph/MinimumCostFlow", "push", "(J)V"⟩ : MethodName) prog_26_method_28_code 4 none 42 (sIf .le 85 45) from g_if d25_42 (by decide) (by decide)) ?_
  refine okc_cons (show Good l Z hz shp A O (⟨"org/distinguo/graph/MinimumCostFlow", "push", "(J)V"⟩ : MethodName) prog_26_method_28_code 4 none 45 (sLoad 2 0 46) from g_aloadN d25_45) ?_
  refine okc_cons (show Good l Z hz shp A O (⟨"org/distinguo/graph/MinimumCostFlow", "push", "(J)V"⟩ : MethodName) prog_26_method_28_code 4 none 46 (sGetF 2 0 49) from g_getfield (sid := 2) (i := 0) (R0 := "org/distinguo/graph/MinimumCostFlow") (host := "") d25_46 rfl rfl (Or.inl (hw _ (List.mem_of_getElem? (i := 59) rfl))) Via.refl) ?_
  refine okc_cons (show Good l Z hz shp A O (⟨"org/distinguo/graph/MinimumCostFlow", "push", "(J)V"⟩ : MethodName) prog_26_method_28_code 4 none 49 (sLoad 0 3 50) from g_iloadN d25_49) ?_
  refine okc_cons (show Good l Z hz shp A O (⟨"org/distinguo/graph/MinimumCostFlow", "push", "(J)V"⟩ : MethodName) prog_26_method_28_code 4 none 50 (sPush (0, .int 1) 51) from g_iconst d25_50 rfl) ?_
  refine okc_cons (show Good l Z hz shp A O (⟨"org/distinguo/graph/MinimumCostFlow", "push", "(J)V"⟩ : MethodName) prog_26_method_28_code 4 none 51 (sBin 0 0 0 xSub 52) from gx_isub xSub_ok d25_51) ?_
  refine okc_cons (show Good l Z hz shp A O (⟨"org/distinguo/graph/MinimumCostFlow", "push", "(J)V"⟩ : MethodName) prog_26_method_28_code 4 none 52 (sPush (0, .int 2) 53) from g_iconst d25_52 rfl) ?_
  refine okc_cons (show Good l Z hz shp A O (⟨"org/distinguo/graph/MinimumCostFlow", "push", "(J)V"⟩ : MethodName) prog_26_method_28_code 4 none 53 (s_idiv 54) from g_idiv d25_53) ?_
  refine okc_cons (show Good l Z hz shp A O (⟨"org/distinguo/graph/MinimumCostFlow", "push", "(J)V"⟩ : MethodName) prog_26_method_28_code 4 none 54 (sAld 5 55) from g_laload (sid := 5) d25_54 rfl) ?_
  refine okc_cons (show Good l Z hz shp A O (⟨"org/distinguo/graph/MinimumCostFlow", "push", "(J)V"⟩ : MethodName) prog_26_method_28_code 4 none 55 (sLoad 1 1 56) from g_lloadN d25_55) ?_
  refine okc_cons (show Good l Z hz shp A O (⟨"org/distinguo/graph/MinimumCostFlow", "push", "(J)V"⟩ : MethodName) prog_26_method_28_code 4 none 56 (sBin 1 1 0 (jI (Term.op2 .lcmp)) 57) from g_lcmp d25_56) ?_
  refine okc_cons (show Good l Z hz shp A O (⟨"org/distinguo/graph/MinimumCostFlow", "push", "(J)V"⟩ : MethodName) prog_26_method_28_code 4 none 57 (sIf .le 85 60) from g_if d25_57 (by decide) (by decide)) ?_
  refine okc_cons (show Good l Z hz shp A O (⟨"org/distinguo/graph/MinimumCostFlow", "push", "(J)V"⟩ : MethodName) prog_26_method_28_code 4 none 60 (sLoad 2 0 61) from g_aloadN d25_60) ?_
  refine okc_cons (show Good l Z hz shp A O (⟨"org/distinguo/graph/MinimumCostFlow", "push", "(J)V"⟩ : MethodName) prog_26_method_28_code 4 none 61 (sGetF 2 0 64) from g_getfield (sid := 2) (i := 0) (R0 := "org/distinguo/graph/MinimumCostFlow") (host := "") d25_61 rfl rfl (Or.inl (hw _ (List.mem_of_getElem? (i := 59) rfl))) Via.refl) ?_
  refine okc_cons (show Good l Z hz shp A O (⟨"org/distinguo/graph/MinimumCostFlow", "push", "(J)V"⟩ : MethodName) prog_26_method_28_code 4 none 64 (sLoad 0 3 65) from g_iloadN d25_64) ?_
  refine okc_cons (show Good l Z hz shp A O (⟨"org/distinguo/graph/MinimumCostFlow", "push", "(J)V"⟩ : MethodName) prog_26_method_28_code 4 none 65 (sLoad 2 0 66) from g_aloadN d25_65) ?_
  refine okc_cons (show Good l Z hz shp A O (⟨"org/distinguo/graph/MinimumCostFlow", "push", "(J)V"⟩ : MethodName) prog_26_method_28_code 4 none 66 (sGetF 2 0 69) from g_getfield (sid := 2) (i := 0) (R0 := "org/distinguo/graph/MinimumCostFlow") (host := "") d25_66 rfl rfl (Or.inl (hw _ (List.mem_of_getElem? (i := 59) rfl))) Via.refl) ?_
  refine okc_cons (show Good l Z hz shp A O (⟨"org/distinguo/graph/MinimumCostFlow", "push", "(J)V"⟩ : MethodName) prog_26_method_28_code 4 none 69 (sLoad 0 3 70) from g_iloadN d25_69) ?_
  refine okc_cons (show Good l Z hz shp A O (⟨"org/distinguo/graph/MinimumCostFlow", "push", "(J)V"⟩ : MethodName) prog_26_method_28_code 4 none 70 (sPush (0, .int 1) 71) from g_iconst d25_70 rfl) ?_
  refine okc_cons (show Good l Z hz shp A O (⟨"org/distinguo/graph/MinimumCostFlow", "push", "(J)V"⟩ : MethodName) prog_26_method_28_code 4 none 71 (sBin 0 0 0 xSub 72) from gx_isub xSub_ok d25_71) ?_
  refine okc_cons (show Good l Z hz shp A O (⟨"org/distinguo/graph/MinimumCostFlow", "push", "(J)V"⟩ : MethodName) prog_26_method_28_code 4 none 72 (sPush (0, .int 2) 73) from g_iconst d25_72 rfl) ?_
  refine okc_cons (show Good l Z hz shp A O (⟨"org/distinguo/graph/MinimumCostFlow", "push", "(J)V"⟩ : MethodName) prog_26_method_28_code 4 none 73 (s_idiv 74) from g_idiv d25_73) ?_
  refine okc_cons (show Good l Z hz shp A O (⟨"org/distinguo/graph/MinimumCostFlow", "push", "(J)V"⟩ : MethodName) prog_26_method_28_code 4 none 74 (sAld 5 75) from g_laload (sid := 5) d25_74 rfl) ?_
  refine okc_cons (show Good l Z hz shp A O (⟨"org/distinguo/graph/MinimumCostFlow", "push", "(J)V"⟩ : MethodName) prog_26_method_28_code 4 none 75 (sAst 5 .long 76) from g_lastore (sid := 5) d25_75 rfl) ?_
  refine okc_cons (show Good l Z hz shp A O (⟨"org/distinguo/graph/MinimumCostFlow", "push", "(J)V"⟩ : MethodName) prog_26_method_28_code 4 none 76 (sLoad 0 3 77) from g_iloadN d25_76) ?_
  refine okc_cons (show Good l Z hz shp A O (⟨"org/distinguo/graph/MinimumCostFlow", "push", "(J)V"⟩ : MethodName) prog_26_method_28_code 4 none 77 (sPush (0, .int 1) 78) from g_iconst d25_77 rfl) ?_
  refine okc_cons (show Good l Z hz shp A O (⟨"org/distinguo/graph/MinimumCostFlow", "push", "(J)V"⟩ : MethodName) prog_26_method_28_code 4 none 78 (sBin 0 0 0 xSub 79) from gx_isub xSub_ok d25_78) ?_
  refine okc_cons (show Good l Z hz shp A O (⟨"org/distinguo/graph/MinimumCostFlow", "push", "(J)V"⟩ : MethodName) prog_26_method_28_code 4 none 79 (sPush (0, .int 2) 80) from g_iconst d25_79 rfl) ?_
  refine okc_cons (show Good l Z hz shp A O (⟨"org/distinguo/graph/MinimumCostFlow", "push", "(J)V"⟩ : MethodName) prog_26_method_28_code 4 none 80 (s_idiv 81) from g_idiv d25_80) ?_
  refine okc_cons (show Good l Z hz shp A O (⟨"org/distinguo/graph/MinimumCostFlow", "push", "(J)V"⟩ : MethodName) prog_26_method_28_code 4 none 81 (sStore 0 3 82) from g_istoreN d25_81) ?_
  refine okc_cons (show Good l Z hz shp A O (⟨"org/distinguo/graph/MinimumCostFlow", "push", "(J)V"⟩ : MethodName) prog_26_method_28_code 4 none 82 (sGoto 41) from g_goto d25_82 (by decide) (by decide)) ?_
  refine okc_cons (show Good l Z hz shp A O (⟨"org/distinguo/graph/MinimumCostFlow", "push", "(J)V"⟩ : MethodName) prog_26_method_28_code 4 none 85 (sLoad 2 0 86) from g_aloadN d25_85) ?_
  refine okc_cons (show Good l Z hz shp A O (⟨"org/distinguo/graph/MinimumCostFlow", "push", "(J)V"⟩ : MethodName) prog_26_method_28_code 4 none 86 (sGetF 2 0 89) from g_getfield (sid := 2) (i := 0) (R0 := "org/distinguo/graph/MinimumCostFlow") (host := "") d25_86 rfl rfl (Or.inl (hw _ (List.mem_of_getElem? (i := 59) rfl))) Via.refl) ?_
  refine okc_cons (show Good l Z hz shp A O (⟨"org/distinguo/graph/MinimumCostFlow", "push", "(J)V"⟩ : MethodName) prog_26_method_28_code 4 none 89 (sLoad 0 3 90) from g_iloadN d25_89) ?_
  refine okc_cons (show Good l Z hz shp A O (⟨"org/distinguo/graph/MinimumCostFlow", "push", "(J)V"⟩ : MethodName) prog_26_method_28_code 4 none 90 (sLoad 1 1 91) from g_lloadN d25_90) ?_
  refine okc_cons (show Good l Z hz shp A O (⟨"org/distinguo/graph/MinimumCostFlow", "push", "(J)V"⟩ : MethodName) prog_26_method_28_code 4 none 91 (sAst 5 .long 92) from g_lastore (sid := 5) d25_91 rfl) ?_
  refine okc_cons (show RetGood l Z hz shp A O (⟨"org/distinguo/graph/MinimumCostFlow", "push", "(J)V"⟩ : MethodName) prog_26_method_28_code 4 none 92 (rVoid) from g_return d25_92) ?_
  exact okc_nil
theorem mok (hw : ∀ d ∈ tables_1, d.before a0 Z = true) : MtOk l Z hz shp A O 96 704 mts mis := by
  intro j mx code h
  match j, h with
  | 0, h => cases h; exact ⟨cok_0 hw, fun el tl q => by cases q; rfl⟩
  | 1, h => cases h; exact ⟨cok_1 hw, fun el tl q => by cases q; rfl⟩
  | 2, h => cases h; exact ⟨fun _ q => (nomatch q), fun _ _ q => (by cases q)⟩
  | 3, h => cases h; exact ⟨cok_3 hw, fun el tl q => by cases q; rfl⟩
  | 4, h => cases h; exact ⟨cok_4 hw, fun el tl q => by cases q; rfl⟩
  | 5, h => cases h; exact ⟨cok_5 hw, fun el tl q => by cases q; rfl⟩
  | 6, h => cases h; exact ⟨cok_6 hw, fun el tl q => by cases q; rfl⟩
  | 7, h => cases h; exact ⟨cok_7 hw, fun el tl q => by cases q; rfl⟩
  | 8, h => cases h; exact ⟨cok_8 hw, fun el tl q => by cases q; rfl⟩
  | 9, h => cases h; exact ⟨cok_9 hw, fun el tl q => by cases q; rfl⟩
  | 10, h => cases h; exact ⟨cok_10 hw, fun el tl q => by cases q; rfl⟩
  | 11, h => cases h; exact ⟨cok_11 hw, fun el tl q => by cases q; rfl⟩
  | 12, h => cases h; exact ⟨cok_12 hw, fun el tl q => by cases q; rfl⟩
  | 13, h => cases h; exact ⟨cok_13 hw, fun el tl q => by cases q; rfl⟩
  | 14, h => cases h; exact ⟨cok_14 hw, fun el tl q => by cases q; rfl⟩
  | 15, h => cases h; exact ⟨cok_15 hw, fun el tl q => by cases q; rfl⟩
  | 16, h => cases h; exact ⟨cok_16 hw, fun el tl q => by cases q; rfl⟩
  | 17, h => cases h; exact ⟨cok_17 hw, fun el tl q => by cases q; rfl⟩
  | 18, h => cases h; exact ⟨cok_18 hw, fun el tl q => by cases q; rfl⟩
  | 19, h => cases h; exact ⟨cok_19 hw, fun el tl q => by cases q; rfl⟩
  | 20, h => cases h; exact ⟨cok_20 hw, fun el tl q => by cases q; rfl⟩
  | 21, h => cases h; exact ⟨cok_21 hw, fun el tl q => by cases q; rfl⟩
  | 22, h => cases h; exact ⟨cok_22 hw, fun el tl q => by cases q; rfl⟩
  | 23, h => cases h; exact ⟨cok_23 hw, fun el tl q => by cases q; rfl⟩
  | 24, h => cases h; exact ⟨cok_24 hw, fun el tl q => by cases q; rfl⟩
  | 25, h => cases h; exact ⟨cok_25 hw, fun el tl q => by cases q; rfl⟩
  | j + 26, h => exact absurd h (by simp [mts])
end Valid

def xs0 : List SV := [(0, .arg 0), (0, .arg 1), (0, .arg 2), (1, .arg 3)]
def env (p0 : Int32) (p1 : Int32) (p2 : Int32) (p3 : Int64) : En
  | 0 => (p0, 0)
  | 1 => (p1, 0)
  | 2 => (p2, 0)
  | 3 => (0, p3)
  | _ => (0, 0)
def isNil : Option (List Pd) → Bool
  | some [] => true
  | _ => false
theorem isNil_eq {o : Option (List Pd)} (h : isNil o = true) : o = some [] := by
  unfold isNil at h
  split at h
  · rfl
  · cases h
def mts_0 : List Mt := (21, cd_0) :: mts.tail
def tCA : Term := .op2 .iand (.arg 0) (.int 1073741823)
def tCB : Term := .op2 .iand (.arg 1) (.int 1073741823)
def tS : Term := .add tCA tCB
def tR : Term := .arg 3
def f0 (t : Term) : Jvm.Cond := .lt (.int 0) (.op2 .lcmp t tR)
def fE (t : Term) : Jvm.Cond := .eq (.op2 .lcmp (.op2 .lsub (.long 0) tR) (.op2 .lsub (.long 0) (.op1 .i2l t))) (.int 0)
def fB (k : Int32) : Jvm.Cond := .eq (.op2 .iand (.arg 2) (.int k)) (.int 0)
def pend_0 : List Pd := [
  ([.not (fE tCA), .not (f0 (.op1 .i2l tCA)), f0 (.long 0), fB 2, .not (fB 1)], some (0, .int 0)),
  ([.not (fE tS), .not (f0 (.op1 .i2l tS)), f0 (.op1 .i2l tCA), f0 (.long 0), .not (fB 2), .not (fB 1)], some (0, .int 0)),
  ([.not (fE tS), .not (f0 (.op1 .i2l tS)), fE tCA, .not (f0 (.op1 .i2l tCA)), f0 (.long 0), .not (fB 2), .not (fB 1)], some (0, .int 0)),
  ([.not (fE tCA), .not (f0 (.op1 .i2l tCA)), f0 (.long 0), .not (fB 2), .not (fB 1)], some (0, .int 0)),
  ([.not (fE tS), .not (f0 (.op1 .i2l tS)), f0 (.op1 .i2l tCA), .not (f0 (.long 0)), .not (fB 2), .not (fB 1)], some (0, .int 0))]
theorem f0_iff (A : En) (t : Term) : hold A (f0 t) ↔ (te A tR).2 < (te A t).2 := lw_gt _ _
theorem noLow (A : En) (t : Term) (h : 0 ≤ (rg0 t).1.1) (h1 : hold A (f0 (.long 0))) (h2 : ¬ hold A (f0 (.op1 .i2l t))) : False := by
  rw [f0_iff] at h1 h2
  have e1 : (te A (.long 0)).2 = 0 := rfl
  have e2 : (te A (.op1 .i2l t)).2 = (te A t).1.toInt64 := rfl
  rw [e1] at h1; rw [e2] at h2
  rw [Int64.lt_iff_toInt_lt] at h1 h2
  have c := c_i2l (te A t).1
  have r := (rg0_ok A t).1.1
  have z : (0 : Int64).toInt = 0 := rfl
  omega
theorem noSum (A : En) (h1 : hold A (f0 (.op1 .i2l tCA))) (h2 : ¬ hold A (f0 (.op1 .i2l tS))) : False := by
  rw [f0_iff] at h1 h2
  have e1 : (te A (.op1 .i2l tCA)).2 = (te A tCA).1.toInt64 := rfl
  have e2 : (te A (.op1 .i2l tS)).2 = ((te A tCA).1 + (te A tCB).1).toInt64 := rfl
  rw [e1] at h1; rw [e2] at h2
  rw [Int64.lt_iff_toInt_lt] at h1 h2
  have c1 := c_i2l (te A tCA).1
  have c2 := c_i2l ((te A tCA).1 + (te A tCB).1)
  have c3 := c_iadd (te A tCA).1 (te A tCB).1
  obtain ⟨a1, a2⟩ := (rg0_ok A tCA).1
  obtain ⟨b1, b2⟩ := (rg0_ok A tCB).1
  have ra : (rg0 tCA).1 = (0, 1073741823) := by decide
  have rb : (rg0 tCB).1 = (0, 1073741823) := by decide
  rw [ra] at a1 a2; rw [rb] at b1 b2
  have r := rng32 ((te A tCA).1 + (te A tCB).1)
  simp only at a1 a2 b1 b2
  omega
theorem pend_ok_0 (A : En) : ∀ q ∈ pend_0, holds A q.1 → ∃ t, q.2 = some (0, t) ∧ (te A t).1 = 1 := by
  intro q hq hh
  exfalso
  simp only [pend_0, List.mem_cons, List.not_mem_nil, or_false] at hq
  rcases hq with rfl | rfl | rfl | rfl | rfl
  · exact noLow A tCA (by decide) (hh (f0 (.long 0)) (by simp)) (hh (.not (f0 (.op1 .i2l tCA))) (by simp))
  · exact noSum A (hh (f0 (.op1 .i2l tCA)) (by simp)) (hh (.not (f0 (.op1 .i2l tS))) (by simp))
  · exact noLow A tCA (by decide) (hh (f0 (.long 0)) (by simp)) (hh (.not (f0 (.op1 .i2l tCA))) (by simp))
  · exact noLow A tCA (by decide) (hh (f0 (.long 0)) (by simp)) (hh (.not (f0 (.op1 .i2l tCA))) (by simp))
  · exact noSum A (hh (f0 (.op1 .i2l tCA)) (by simp)) (hh (.not (f0 (.op1 .i2l tS))) (by simp))
set_option maxRecDepth 65536 in
theorem ran_0 : xgo mts_0 96 704 6000 (0, seekF cd_0 0, (entL xs0 21, [], [], 0), [], 6, 160, []) = some pend_0 := by decide +kernel
theorem top_0 {l : Launch} {Z : State} {hz : Heap} {O : Nat → Addr} {a0 : Array Value} (hw : ∀ d ∈ tables_1, d.before a0 Z = true) (A : En) (hF : holds A []) : Top l Z hz shp A O x code 21 ret 96 704 6 160 0 (entL xs0 21, [], [], 0) :=
  top_ok (MI := mis) (M := mts_0) (show MtOk l Z hz shp A O 96 704 mts_0 mis from mok hw) (P := pend_0) rfl ran_0 hF (pend_ok_0 A)
theorem rm0 (l : Launch) (Z : State) (a0 : Array Value) (hw : ∀ d ∈ tables_1, d.before a0 Z = true) (ws : List Jvm.Cond) (p0 : Int32) (p1 : Int32) (p2 : Int32) (p3 : Int64) (h0 : Heap) :
    MetFree l x (head1 (Jvm.Cond.code x code maxLocals ret :: ws) room_1) (fun a U => a = #[(.int p0), (.int p1), (.int p2), (.long p3)] ∧ Z.Warmed39 U.vm ∧ U.heap = h0) (fun _ _ _ _ _ => True) (fun _ U o U' => ∃ v L, o = .returned v ∧ (v = some (.int 1) ∧ Fr h0.size L) ∧ FrameEnd U o U' L 96 704) :=
  law_ok (sh := shp) (A := env p0 p1 p2 p3) (O := fun _ => 0) (xs := xs0) (top_0 hw _ (fun _ h => nomatch h)) pl_0 ws room_1 rfl
set_option maxRecDepth 65536 in
set_option maxHeartbeats 4000000 in
theorem comes_1 {Post : Tables → Env → Array Value → State → Outcome → State → Prop} (hpost : ∀ tb e args s v u, (limb_1_1.after args s (.returned v) u = true ∧ limb_1_2.after args s (.returned v) u = true ∧ True) → FrameEnd s (.returned v) u (Jvm.fieldLocs frame_1_writes args s ++ Jvm.arrayLocs frame_1_arrays args s ++ Jvm.staticLocs frame_1_statics s) 96 704 → Post tb e args s (.returned v) u) :
    ArmFor flags0 classFile x code maxLocals ret World_1 tables_1 room_1 Calls_1 rest_1 Pre_1 Post := by
  intro l hfl _ _ p e ha hc hk s m args below hf hA hF happ hP
  obtain ⟨hcalls, hrest, hpre⟩ := hP
  obtain ⟨-, -, -, hnamed, -, -, -, hat⟩ := (Spec.applies_iff hf).mp happ
  obtain ⟨hg, hn⟩ := and_e (Cond.before_iff.mp (show (Jvm.Cond.and given_1 narrow_1).before args s = true from hpre))
  obtain ⟨g1, g2⟩ := and_e hg
  obtain ⟨g3, g4⟩ := and_e g2
  obtain ⟨g5, g6⟩ := and_e g4
  obtain ⟨g7, g8⟩ := and_e g6
  obtain ⟨w0, w1, w2, w3, rfl⟩ : ∃ w0 w1 w2 w3 : Value, args = #[w0, w1, w2, w3] := by
    have hs : args.size = 4 := by simpa [Cond.value, given_1] using g1
    obtain ⟨L⟩ := args
    match L, hs with
    | [w0, w1, w2, w3], _ => exact ⟨w0, w1, w2, w3, rfl⟩
  have hw := fun d (hd : d ∈ tables_1) => atoms_spec (ws := Jvm.Cond.code x code maxLocals ret :: tables_1) hat d (List.mem_cons_of_mem _ hd)
  obtain ⟨i0, ei0⟩ := is_v g3
  obtain rfl : w0 = (.int i0) := Option.some.inj ei0
  obtain ⟨i1, ei1⟩ := is_v g5
  obtain rfl : w1 = (.int i1) := Option.some.inj ei1
  obtain ⟨i2, ei2⟩ := is_v g7
  obtain rfl : w2 = (.int i2) := Option.some.inj ei2
  obtain ⟨i3, ei3⟩ := isL_v g8
  obtain rfl : w3 = (.long i3) := Option.some.inj ei3
  obtain ⟨n, o, h1, h2, h3, _, L, rfl, ⟨rfl, N⟩, hq⟩ := rm0 l s _ hw tables_1 i0 i1 i2 i3 s.heap p e ha hc hk s m _ below hf ((Spec.applies_iff_loose hf).mp happ).1 ⟨rfl, State.Warmed39.refl s, rfl⟩ trivial
  refine ⟨n, _, h1, h2, h3, hpost _ _ _ _ _ _ ⟨Cond.after_iff.mpr rfl, Cond.after_iff.mpr (eq_i res_at (Term.int_eval (1)) rfl), trivial⟩ ⟨hq.1, hq.2.1, (hq.2.2.sift fun y hy => Or.inr (N y hy)).mono (by decide) (by decide)⟩⟩
theorem main_1_1 : Claimed_1_1 := comes_1 fun _ _ _ _ _ _ h hF => ⟨h.1, hF⟩
theorem main_1_2 : Claimed_1_2 := comes_1 fun _ _ _ _ _ _ h hF => ⟨h.2.1, hF⟩
end Jvm.Pilot.@@N@@
namespace Jvm.Pilot.@@N@@
open Jvm Jvm.ClassFile Sem Op Lib Jvm.Free Jvm.Stand Jvm.Pilot.@@N@@.Jvm.D
/-! MADE BY PROGRAM (witnessworld.py) out of the Statement's table words and the real class files: 19 classes; the members and pool entries that the words name. The judged class is class 1, her method 2. -/
namespace start1
open Jvm.ClassFile
def u (s : String) : CpInfo := .utf8 (stringToUtf16 s)
/-- a pool by its gaps: so many unusable entries, then the entry; so many at the end -/
def gap : Nat → List CpInfo → List CpInfo
  | 0, r => r
  | n + 1, r => .unusable :: gap n r
def poolList (es : List (Nat × CpInfo)) (last : Nat) : List CpInfo := es.foldr (fun e r => gap e.1 (e.2 :: r)) (gap last [])
def pool (es : List (Nat × CpInfo)) (last : Nat) : Array CpInfo := ⟨poolList es last⟩
def fileOf (pool : Array CpInfo) (this : Nat) (attrs : Array Attribute := #[]) (ms : Array MethodInfo := #[]) (fl : Nat := 33) (sup : Nat := 0) (ifs : Array Nat := #[]) (fds : Array FieldInfo := #[]) : ClassFile where
  minorVersion := 0
  majorVersion := 65
  constantPool := pool
  accessFlags := fl
  thisClass := this
  superClass := sup
  interfaces := ifs
  fields := fds
  methods := ms
  attributes := attrs
def plain (name : String) (sup : Option ClassId) : Class where
  name := name
  kind := .ordinary
  loader := none
  accessFlags := 33
  super := sup
  interfaces := #[]
  cf := none
  fields := #[]
  methods := #[]
  instanceTypes := #[]
  staticTypes := #[]
  resolved := #[]
  callSites := []
  init := .initialized
  statics := none
  mirror := none

def pool0 : Array CpInfo := pool [(5, u "<init>"), (0, u "()V"), (1, .class_ 10), (1, u "java/lang/Object")] 113

def k0c0 : Code := { maxStack := 0, maxLocals := 1, code := object_method_1_code, exceptionTable := #[], attributes := #[] }
def k0m0 : Method := { name := "<init>", desc := "()V", sig := { parameters := [], returnType := none }, accessFlags := 1, code := some k0c0 }
/-- java/lang/Object -/
def k0 : Class := { plain "java/lang/Object" none with
  accessFlags := 33
  interfaces := #[]
  cf := some (fileOf pool0 8 #[] #[{ accessFlags := 1, nameIndex := 5, descriptorIndex := 6, attributes := #[] }] 33 0 #[] #[])
  fields := #[]
  methods := #[k0m0]
  instanceTypes := #[]
  staticTypes := #[]
  resolved := Array.replicate 124 none
  statics := none }

def pool1 : Array CpInfo := pool [(2, .class_ 4), (1, u "java/lang/Object"), (0, u "<init>"), (0, u "()V"), (0, .integer 1073741823), (0, .class_ 9), (0, u "org/distinguo/graph/MinimumCostFlow$Network"), (0, .methodref 8 11), (0, .nameAndType 5 12), (0, u "(I)V"), (0, .methodref 8 14), (0, .nameAndType 15 16), (0, u "arc"), (0, u "(IIII)I"), (0, .class_ 18), (0, u "org/distinguo/graph/MinimumCostFlow"), (0, .methodref 17 20), (0, .nameAndType 5 21), (0, u "(Lorg/distinguo/graph/MinimumCostFlow$Network;)V"), (0, .methodref 17 23), (0, .nameAndType 24 12), (0, u "startBack"), (0, .methodref 17 26), (0, .nameAndType 27 28), (0, u "nextBack"), (0, u "(J)I"), (0, .methodref 17 30), (0, .nameAndType 31 32), (0, u "lowerPotentials"), (0, u "(J)V"), (0, .methodref 17 34), (0, .nameAndType 35 36), (0, u "potential"), (0, u "(I)J"), (0, .methodref 38 39), (0, .class_ 40), (0, .nameAndType 41 42), (0, u "org/distinguo/graph/MinimumCostFlowLowerPotentialsPinLaw"), (0, u "expected"), (0, u "(ZJJ)J"), (3, u "law"), (0, u "(IIIJ)Z")] 4

def k1m0 : Method := { name := "<init>", desc := "()V", sig := { parameters := [], returnType := none }, accessFlags := 1, code := none }
def k1c1 : Code := { maxStack := 4, maxLocals := 5, code := method_2_code, exceptionTable := #[], attributes := #[] }
def k1m1 : Method := { name := "expected", desc := "(ZJJ)J", sig := { parameters := [.boolean, .long, .long], returnType := some .long }, accessFlags := 10, code := some k1c1 }
def k1c2 : Code := { maxStack := 7, maxLocals := 21, code := code, exceptionTable := #[], attributes := #[] }
def k1m2 : Method := { name := "law", desc := "(IIIJ)Z", sig := { parameters := [.int, .int, .int, .long], returnType := some .boolean }, accessFlags := 9, code := some k1c2 }
/-- org/distinguo/graph/MinimumCostFlowLowerPotentialsPinLaw -/
def k1 : Class := { plain "org/distinguo/graph/MinimumCostFlowLowerPotentialsPinLaw" (some 0) with
  accessFlags := 49
  interfaces := #[]
  cf := some (fileOf pool1 38 #[] #[{ accessFlags := 1, nameIndex := 5, descriptorIndex := 6, attributes := #[] }, { accessFlags := 10, nameIndex := 41, descriptorIndex := 42, attributes := #[] }, { accessFlags := 9, nameIndex := 46, descriptorIndex := 47, attributes := #[] }] 49 2 #[] #[])
  fields := #[]
  methods := #[k1m0, k1m1, k1m2]
  instanceTypes := #[]
  staticTypes := #[]
  resolved := Array.replicate 52 none
  statics := none }

def pool2 : Array CpInfo := pool [(1, .methodref 2 3), (0, .class_ 4), (0, .nameAndType 5 6), (0, u "java/lang/Object"), (0, u "<init>"), (0, u "()V"), (0, .class_ 8), (0, u "org/distinguo/model/IntList"), (0, .methodref 7 3), (0, .fieldref 11 12), (0, .class_ 13), (0, .nameAndType 14 15), (0, u "org/distinguo/graph/MinimumCostFlow$Network"), (0, u "tails"), (0, u "Lorg/distinguo/model/IntList;"), (0, .fieldref 11 17), (0, .nameAndType 18 15), (0, u "heads"), (0, .fieldref 11 20), (0, .nameAndType 21 15), (0, u "costs"), (0, .fieldref 11 23), (0, .nameAndType 24 15), (0, u "capacities"), (0, .fieldref 11 26), (0, .nameAndType 27 28), (0, u "nodes"), (0, u "I"), (0, .methodref 7 30), (0, .nameAndType 31 32), (0, u "add"), (0, u "(I)V"), (0, .methodref 7 34), (0, .nameAndType 35 36), (0, u "size"), (0, u "()I"), (2, u "arc"), (0, u "(IIII)I"), (3, .class_ 45), (0, u "org/distinguo/graph/MinimumCostFlow")] 2

def k2c0 : Code := { maxStack := 3, maxLocals := 2, code := prog_28_method_1_code, exceptionTable := #[], attributes := #[] }
def k2m0 : Method := { name := "<init>", desc := "(I)V", sig := { parameters := [.int], returnType := none }, accessFlags := 1, code := some k2c0 }
def k2c1 : Code := { maxStack := 2, maxLocals := 5, code := prog_28_method_2_code, exceptionTable := #[], attributes := #[] }
def k2m1 : Method := { name := "arc", desc := "(IIII)I", sig := { parameters := [.int, .int, .int, .int], returnType := some .int }, accessFlags := 1, code := some k2c1 }
/-- org/distinguo/graph/MinimumCostFlow$Network -/
def k2 : Class := { plain "org/distinguo/graph/MinimumCostFlow$Network" (some 0) with
  accessFlags := 49
  interfaces := #[]
  cf := some (fileOf pool2 11 #[.nestHost 44] #[{ accessFlags := 1, nameIndex := 5, descriptorIndex := 32, attributes := #[] }, { accessFlags := 1, nameIndex := 39, descriptorIndex := 40, attributes := #[] }] 49 2 #[] #[{ accessFlags := 18, nameIndex := 27, descriptorIndex := 28, attributes := #[] }, { accessFlags := 18, nameIndex := 14, descriptorIndex := 15, attributes := #[] }, { accessFlags := 18, nameIndex := 18, descriptorIndex := 15, attributes := #[] }, { accessFlags := 18, nameIndex := 21, descriptorIndex := 15, attributes := #[] }, { accessFlags := 18, nameIndex := 24, descriptorIndex := 15, attributes := #[] }])
  fields := #[{ name := "nodes", type := .int, accessFlags := 18, slot := 0, constantValue := 0 }, { name := "tails", type := (.object "org/distinguo/model/IntList"), accessFlags := 18, slot := 1, constantValue := 0 }, { name := "heads", type := (.object "org/distinguo/model/IntList"), accessFlags := 18, slot := 2, constantValue := 0 }, { name := "costs", type := (.object "org/distinguo/model/IntList"), accessFlags := 18, slot := 3, constantValue := 0 }, { name := "capacities", type := (.object "org/distinguo/model/IntList"), accessFlags := 18, slot := 4, constantValue := 0 }]
  methods := #[k2m0, k2m1]
  instanceTypes := #[.int, (.object "org/distinguo/model/IntList"), (.object "org/distinguo/model/IntList"), (.object "org/distinguo/model/IntList"), (.object "org/distinguo/model/IntList")]
  staticTypes := #[]
  resolved := Array.replicate 48 none
  statics := none }

def pool3 : Array CpInfo := pool [(3, .methodref 4 5), (0, .class_ 6), (0, .nameAndType 7 8), (0, u "java/lang/Object"), (0, u "<init>"), (0, u "()V"), (0, .fieldref 10 11), (0, .class_ 12), (0, .nameAndType 13 14), (0, u "org/distinguo/model/IntList"), (0, u "values"), (0, u "[I"), (0, .fieldref 10 16), (0, .nameAndType 17 18), (0, u "size"), (0, u "I"), (0, .methodref 10 20), (0, .nameAndType 21 22), (0, u "makeRoom"), (0, u "(I)V"), (6, .long 2147483639), (8, .long 2), (10, .methodref 50 51), (0, .class_ 52), (0, .nameAndType 53 54), (0, u "java/util/Arrays"), (0, u "copyOf"), (0, u "([II)[I"), (0, u "MOST"), (4, u "()I"), (0, u "get"), (0, u "(I)I"), (2, u "add")] 9

def k3c0 : Code := { maxStack := 2, maxLocals := 1, code := prog_99_method_1_code, exceptionTable := #[], attributes := #[] }
def k3m0 : Method := { name := "<init>", desc := "()V", sig := { parameters := [], returnType := none }, accessFlags := 1, code := some k3c0 }
def k3c1 : Code := { maxStack := 1, maxLocals := 1, code := prog_99_method_2_code, exceptionTable := #[], attributes := #[] }
def k3m1 : Method := { name := "size", desc := "()I", sig := { parameters := [], returnType := some .int }, accessFlags := 1, code := some k3c1 }
def k3c2 : Code := { maxStack := 2, maxLocals := 2, code := prog_99_method_3_code, exceptionTable := #[], attributes := #[] }
def k3m2 : Method := { name := "get", desc := "(I)I", sig := { parameters := [.int], returnType := some .int }, accessFlags := 1, code := some k3c2 }
def k3c3 : Code := { maxStack := 5, maxLocals := 2, code := prog_99_method_5_code, exceptionTable := #[], attributes := #[] }
def k3m3 : Method := { name := "add", desc := "(I)V", sig := { parameters := [.int], returnType := none }, accessFlags := 1, code := some k3c3 }
def k3c4 : Code := { maxStack := 6, maxLocals := 6, code := prog_99_method_7_code, exceptionTable := #[], attributes := #[] }
def k3m4 : Method := { name := "makeRoom", desc := "(I)V", sig := { parameters := [.int], returnType := none }, accessFlags := 2, code := some k3c4 }
/-- org/distinguo/model/IntList -/
def k3 : Class := { plain "org/distinguo/model/IntList" (some 0) with
  accessFlags := 49
  interfaces := #[]
  cf := some (fileOf pool3 10 #[] #[{ accessFlags := 1, nameIndex := 7, descriptorIndex := 8, attributes := #[] }, { accessFlags := 1, nameIndex := 17, descriptorIndex := 60, attributes := #[] }, { accessFlags := 1, nameIndex := 61, descriptorIndex := 62, attributes := #[] }, { accessFlags := 1, nameIndex := 65, descriptorIndex := 22, attributes := #[] }, { accessFlags := 2, nameIndex := 21, descriptorIndex := 22, attributes := #[] }] 49 4 #[] #[{ accessFlags := 26, nameIndex := 55, descriptorIndex := 18, attributes := #[] }, { accessFlags := 2, nameIndex := 13, descriptorIndex := 14, attributes := #[] }, { accessFlags := 2, nameIndex := 17, descriptorIndex := 18, attributes := #[] }])
  fields := #[{ name := "MOST", type := .int, accessFlags := 26, slot := 0, constantValue := 0 }, { name := "values", type := (.array .int), accessFlags := 2, slot := 0, constantValue := 0 }, { name := "size", type := .int, accessFlags := 2, slot := 1, constantValue := 0 }]
  methods := #[k3m0, k3m1, k3m2, k3m3, k3m4]
  instanceTypes := #[(.array .int), .int]
  staticTypes := #[.int]
  resolved := Array.replicate 75 none
  statics := none }

def pool4 : Array CpInfo := pool [(3, .methodref 4 5), (0, .class_ 6), (0, .nameAndType 7 8), (0, u "java/lang/Object"), (0, u "<init>"), (0, u "()V"), (0, .fieldref 10 11), (0, .class_ 12), (0, .nameAndType 13 14), (0, u "org/distinguo/graph/MinimumCostFlow"), (0, u "heap"), (0, u "[J"), (0, .class_ 16), (0, u "org/distinguo/model/IntList"), (0, .methodref 15 5), (0, .fieldref 10 19), (0, .nameAndType 20 21), (0, u "sinks"), (0, u "Lorg/distinguo/model/IntList;"), (0, .fieldref 23 24), (0, .class_ 25), (0, .nameAndType 26 27), (0, u "org/distinguo/graph/MinimumCostFlow$Network"), (0, u "nodes"), (0, u "I"), (0, .fieldref 23 29), (0, .nameAndType 30 21), (0, u "tails"), (0, .methodref 15 32), (0, .nameAndType 33 34), (0, u "size"), (0, u "()I"), (0, .methodref 15 36), (0, .nameAndType 37 38), (0, u "get"), (0, u "(I)I"), (0, .fieldref 23 40), (0, .nameAndType 41 21), (0, u "heads"), (0, .fieldref 10 43), (0, .nameAndType 44 45), (0, u "first"), (0, u "[I"), (0, .fieldref 10 47), (0, .nameAndType 48 45), (0, u "carryingStart"), (0, .fieldref 10 50), (0, .nameAndType 51 45), (0, u "head"), (0, .fieldref 10 53), (0, .nameAndType 54 45), (0, u "cost"), (0, .fieldref 10 56), (0, .nameAndType 57 45), (0, u "residual"), (0, .fieldref 10 59), (0, .nameAndType 60 45), (0, u "partner"), (0, .fieldref 10 62), (0, .nameAndType 63 45), (0, u "partnerResidual"), (0, .fieldref 10 65), (0, .nameAndType 66 67), (0, u "forward"), (0, u "[Z"), (0, .fieldref 10 69), (0, .nameAndType 70 45), (0, u "placed"), (0, .methodref 72 73), (0, .class_ 74), (0, .nameAndType 75 76), (0, u "java/util/Arrays"), (0, u "copyOf"), (0, u "([II)[I"), (0, .fieldref 23 78), (0, .nameAndType 79 21), (0, u "costs"), (0, .fieldref 23 81), (0, .nameAndType 82 21), (0, u "capacities"), (0, .fieldref 10 84), (0, .nameAndType 85 45), (0, u "carrying"), (0, .fieldref 10 87), (0, .nameAndType 88 45), (0, u "carryingCount"), (0, .fieldref 10 90), (0, .nameAndType 91 45), (0, u "carryingSlot"), (0, .fieldref 10 93), (0, .nameAndType 94 45), (0, u "balance"), (0, .fieldref 10 96), (0, .nameAndType 97 14), (0, u "potential"), (0, .fieldref 10 99), (0, .nameAndType 100 45), (0, u "labelledIn"), (0, .fieldref 10 102), (0, .nameAndType 103 45), (0, u "label"), (0, .fieldref 10 105), (0, .nameAndType 106 45), (0, u "via"), (0, .fieldref 10 108), (0, .nameAndType 109 67), (0, u "settled"), (0, .fieldref 10 111), (0, .nameAndType 112 45), (0, u "settledNodes"), (0, .fieldref 10 114), (0, .nameAndType 115 45), (0, u "level"), (0, .class_ 117), (0, u "org/distinguo/graph/MinimumCostFlow$Layers"), (0, .methodref 116 119), (0, .nameAndType 7 120), (0, u "(I)V"), (0, .fieldref 10 122), (0, .nameAndType 123 124), (0, u "fromSource"), (0, u "Lorg/distinguo/graph/MinimumCostFlow$Layers;"), (0, .fieldref 10 126), (0, .nameAndType 127 124), (0, u "toSink"), (9, u "(I)Z"), (7, .fieldref 10 146), (0, .nameAndType 147 148), (0, u "offset"), (0, u "J"), (0, .methodref 10 150), (0, .nameAndType 151 120), (0, u "startSearch"), (0, .methodref 10 153), (0, .nameAndType 154 155), (0, u "smallestQueued"), (0, u "()J"), (0, .methodref 10 157), (0, .nameAndType 158 34), (0, u "settleNext"), (0, .methodref 10 160), (0, .nameAndType 161 162), (0, u "reducedCost"), (0, u "(II)I"), (0, .methodref 10 164), (0, .nameAndType 165 137), (0, u "isSettled"), (0, .methodref 10 167), (0, .nameAndType 168 169), (0, u "labelAndQueue"), (0, u "(III)Z"), (0, .fieldref 10 171), (0, .nameAndType 172 27), (0, u "round"), (0, .fieldref 10 174), (0, .nameAndType 175 27), (0, u "origin"), (0, .fieldref 10 177), (0, .nameAndType 178 27), (0, u "settledCount"), (0, .fieldref 10 180), (0, .nameAndType 181 27), (0, u "levelLabel"), (11, u "sinkMet"), (36, .fieldref 10 231), (0, .nameAndType 232 27), (0, u "heapSize"), (0, .fieldref 10 234), (0, .nameAndType 235 27), (0, u "levelHead"), (0, .fieldref 10 237), (0, .nameAndType 238 27), (0, u "levelTail"), (0, .long 18446744073709551615), (1, .methodref 10 242), (0, .nameAndType 243 244), (0, u "push"), (0, u "(J)V"), (3, .methodref 10 249), (0, .nameAndType 250 38), (0, u "settle"), (0, u "UNBOUNDED"), (1, u "ANY_LENGTH"), (0, u "(Lorg/distinguo/graph/MinimumCostFlow$Network;)V"), (11, u "(I)J"), (0, u "startBack"), (0, u "nextBack"), (0, u "(J)I"), (1, u "lowerPotentials")] 6

def k4c0 : Code := { maxStack := 5, maxLocals := 12, code := prog_26_method_1_code, exceptionTable := #[], attributes := #[] }
def k4m0 : Method := { name := "<init>", desc := "(Lorg/distinguo/graph/MinimumCostFlow$Network;)V", sig := { parameters := [(.object "org/distinguo/graph/MinimumCostFlow$Network")], returnType := none }, accessFlags := 1, code := some k4c0 }
def k4c1 : Code := { maxStack := 4, maxLocals := 2, code := prog_26_method_9_code, exceptionTable := #[], attributes := #[] }
def k4m1 : Method := { name := "potential", desc := "(I)J", sig := { parameters := [.int], returnType := some .long }, accessFlags := 1, code := some k4c1 }
def k4c2 : Code := { maxStack := 2, maxLocals := 2, code := prog_26_method_10_code, exceptionTable := #[], attributes := #[] }
def k4m2 : Method := { name := "startBack", desc := "(I)V", sig := { parameters := [.int], returnType := none }, accessFlags := 1, code := some k4c2 }
def k4c3 : Code := { maxStack := 5, maxLocals := 8, code := prog_26_method_11_code, exceptionTable := #[], attributes := #[] }
def k4m3 : Method := { name := "nextBack", desc := "(J)I", sig := { parameters := [.long], returnType := some .int }, accessFlags := 1, code := some k4c3 }
def k4c4 : Code := { maxStack := 2, maxLocals := 2, code := prog_26_method_12_code, exceptionTable := #[], attributes := #[] }
def k4m4 : Method := { name := "isSettled", desc := "(I)Z", sig := { parameters := [.int], returnType := some .boolean }, accessFlags := 1, code := some k4c4 }
def k4c5 : Code := { maxStack := 8, maxLocals := 5, code := prog_26_method_15_code, exceptionTable := #[], attributes := #[] }
def k4m5 : Method := { name := "lowerPotentials", desc := "(J)V", sig := { parameters := [.long], returnType := none }, accessFlags := 1, code := some k4c5 }
def k4c6 : Code := { maxStack := 5, maxLocals := 3, code := prog_26_method_24_code, exceptionTable := #[], attributes := #[] }
def k4m6 : Method := { name := "reducedCost", desc := "(II)I", sig := { parameters := [.int, .int], returnType := some .int }, accessFlags := 2, code := some k4c6 }
def k4c7 : Code := { maxStack := 4, maxLocals := 2, code := prog_26_method_25_code, exceptionTable := #[], attributes := #[] }
def k4m7 : Method := { name := "startSearch", desc := "(I)V", sig := { parameters := [.int], returnType := none }, accessFlags := 2, code := some k4c7 }
def k4c8 : Code := { maxStack := 3, maxLocals := 1, code := prog_26_method_26_code, exceptionTable := #[], attributes := #[] }
def k4m8 : Method := { name := "smallestQueued", desc := "()J", sig := { parameters := [], returnType := some .long }, accessFlags := 2, code := some k4c8 }
def k4c9 : Code := { maxStack := 5, maxLocals := 4, code := prog_26_method_27_code, exceptionTable := #[], attributes := #[] }
def k4m9 : Method := { name := "labelAndQueue", desc := "(III)Z", sig := { parameters := [.int, .int, .int], returnType := some .boolean }, accessFlags := 2, code := some k4c9 }
def k4c10 : Code := { maxStack := 5, maxLocals := 4, code := prog_26_method_28_code, exceptionTable := #[], attributes := #[] }
def k4m10 : Method := { name := "push", desc := "(J)V", sig := { parameters := [.long], returnType := none }, accessFlags := 2, code := some k4c10 }
def k4c11 : Code := { maxStack := 6, maxLocals := 7, code := prog_26_method_29_code, exceptionTable := #[], attributes := #[] }
def k4m11 : Method := { name := "settleNext", desc := "()I", sig := { parameters := [], returnType := some .int }, accessFlags := 2, code := some k4c11 }
def k4c12 : Code := { maxStack := 5, maxLocals := 2, code := prog_26_method_30_code, exceptionTable := #[], attributes := #[] }
def k4m12 : Method := { name := "settle", desc := "(I)I", sig := { parameters := [.int], returnType := some .int }, accessFlags := 2, code := some k4c12 }
/-- org/distinguo/graph/MinimumCostFlow -/
def k4 : Class := { plain "org/distinguo/graph/MinimumCostFlow" (some 0) with
  accessFlags := 33
  interfaces := #[]
  cf := some (fileOf pool4 10 #[.nestMembers #[116, 23]] #[{ accessFlags := 1, nameIndex := 7, descriptorIndex := 254, attributes := #[] }, { accessFlags := 1, nameIndex := 97, descriptorIndex := 266, attributes := #[] }, { accessFlags := 1, nameIndex := 267, descriptorIndex := 120, attributes := #[] }, { accessFlags := 1, nameIndex := 268, descriptorIndex := 269, attributes := #[] }, { accessFlags := 1, nameIndex := 165, descriptorIndex := 137, attributes := #[] }, { accessFlags := 1, nameIndex := 271, descriptorIndex := 244, attributes := #[] }, { accessFlags := 2, nameIndex := 161, descriptorIndex := 162, attributes := #[] }, { accessFlags := 2, nameIndex := 151, descriptorIndex := 120, attributes := #[] }, { accessFlags := 2, nameIndex := 154, descriptorIndex := 155, attributes := #[] }, { accessFlags := 2, nameIndex := 168, descriptorIndex := 169, attributes := #[] }, { accessFlags := 2, nameIndex := 243, descriptorIndex := 244, attributes := #[] }, { accessFlags := 2, nameIndex := 158, descriptorIndex := 34, attributes := #[] }, { accessFlags := 2, nameIndex := 250, descriptorIndex := 38, attributes := #[] }] 33 4 #[] #[{ accessFlags := 25, nameIndex := 251, descriptorIndex := 27, attributes := #[] }, { accessFlags := 26, nameIndex := 253, descriptorIndex := 27, attributes := #[] }, { accessFlags := 18, nameIndex := 70, descriptorIndex := 45, attributes := #[] }, { accessFlags := 18, nameIndex := 44, descriptorIndex := 45, attributes := #[] }, { accessFlags := 18, nameIndex := 51, descriptorIndex := 45, attributes := #[] }, { accessFlags := 18, nameIndex := 54, descriptorIndex := 45, attributes := #[] }, { accessFlags := 18, nameIndex := 57, descriptorIndex := 45, attributes := #[] }, { accessFlags := 18, nameIndex := 60, descriptorIndex := 45, attributes := #[] }, { accessFlags := 18, nameIndex := 63, descriptorIndex := 45, attributes := #[] }, { accessFlags := 18, nameIndex := 66, descriptorIndex := 67, attributes := #[] }, { accessFlags := 18, nameIndex := 48, descriptorIndex := 45, attributes := #[] }, { accessFlags := 18, nameIndex := 85, descriptorIndex := 45, attributes := #[] }, { accessFlags := 18, nameIndex := 88, descriptorIndex := 45, attributes := #[] }, { accessFlags := 18, nameIndex := 91, descriptorIndex := 45, attributes := #[] }, { accessFlags := 18, nameIndex := 94, descriptorIndex := 45, attributes := #[] }, { accessFlags := 18, nameIndex := 97, descriptorIndex := 14, attributes := #[] }, { accessFlags := 2, nameIndex := 147, descriptorIndex := 148, attributes := #[] }, { accessFlags := 18, nameIndex := 100, descriptorIndex := 45, attributes := #[] }, { accessFlags := 18, nameIndex := 103, descriptorIndex := 45, attributes := #[] }, { accessFlags := 18, nameIndex := 106, descriptorIndex := 45, attributes := #[] }, { accessFlags := 18, nameIndex := 109, descriptorIndex := 67, attributes := #[] }, { accessFlags := 18, nameIndex := 112, descriptorIndex := 45, attributes := #[] }, { accessFlags := 2, nameIndex := 178, descriptorIndex := 27, attributes := #[] }, { accessFlags := 2, nameIndex := 172, descriptorIndex := 27, attributes := #[] }, { accessFlags := 2, nameIndex := 175, descriptorIndex := 27, attributes := #[] }, { accessFlags := 18, nameIndex := 115, descriptorIndex := 45, attributes := #[] }, { accessFlags := 2, nameIndex := 235, descriptorIndex := 27, attributes := #[] }, { accessFlags := 2, nameIndex := 238, descriptorIndex := 27, attributes := #[] }, { accessFlags := 2, nameIndex := 181, descriptorIndex := 27, attributes := #[] }, { accessFlags := 2, nameIndex := 13, descriptorIndex := 14, attributes := #[] }, { accessFlags := 2, nameIndex := 232, descriptorIndex := 27, attributes := #[] }, { accessFlags := 18, nameIndex := 123, descriptorIndex := 124, attributes := #[] }, { accessFlags := 18, nameIndex := 127, descriptorIndex := 124, attributes := #[] }, { accessFlags := 18, nameIndex := 20, descriptorIndex := 21, attributes := #[] }, { accessFlags := 2, nameIndex := 193, descriptorIndex := 27, attributes := #[] }])
  fields := #[{ name := "UNBOUNDED", type := .int, accessFlags := 25, slot := 0, constantValue := 0 }, { name := "ANY_LENGTH", type := .int, accessFlags := 26, slot := 1, constantValue := 0 }, { name := "placed", type := (.array .int), accessFlags := 18, slot := 0, constantValue := 0 }, { name := "first", type := (.array .int), accessFlags := 18, slot := 1, constantValue := 0 }, { name := "head", type := (.array .int), accessFlags := 18, slot := 2, constantValue := 0 }, { name := "cost", type := (.array .int), accessFlags := 18, slot := 3, constantValue := 0 }, { name := "residual", type := (.array .int), accessFlags := 18, slot := 4, constantValue := 0 }, { name := "partner", type := (.array .int), accessFlags := 18, slot := 5, constantValue := 0 }, { name := "partnerResidual", type := (.array .int), accessFlags := 18, slot := 6, constantValue := 0 }, { name := "forward", type := (.array .boolean), accessFlags := 18, slot := 7, constantValue := 0 }, { name := "carryingStart", type := (.array .int), accessFlags := 18, slot := 8, constantValue := 0 }, { name := "carrying", type := (.array .int), accessFlags := 18, slot := 9, constantValue := 0 }, { name := "carryingCount", type := (.array .int), accessFlags := 18, slot := 10, constantValue := 0 }, { name := "carryingSlot", type := (.array .int), accessFlags := 18, slot := 11, constantValue := 0 }, { name := "balance", type := (.array .int), accessFlags := 18, slot := 12, constantValue := 0 }, { name := "potential", type := (.array .long), accessFlags := 18, slot := 13, constantValue := 0 }, { name := "offset", type := .long, accessFlags := 2, slot := 14, constantValue := 0 }, { name := "labelledIn", type := (.array .int), accessFlags := 18, slot := 15, constantValue := 0 }, { name := "label", type := (.array .int), accessFlags := 18, slot := 16, constantValue := 0 }, { name := "via", type := (.array .int), accessFlags := 18, slot := 17, constantValue := 0 }, { name := "settled", type := (.array .boolean), accessFlags := 18, slot := 18, constantValue := 0 }, { name := "settledNodes", type := (.array .int), accessFlags := 18, slot := 19, constantValue := 0 }, { name := "settledCount", type := .int, accessFlags := 2, slot := 20, constantValue := 0 }, { name := "round", type := .int, accessFlags := 2, slot := 21, constantValue := 0 }, { name := "origin", type := .int, accessFlags := 2, slot := 22, constantValue := 0 }, { name := "level", type := (.array .int), accessFlags := 18, slot := 23, constantValue := 0 }, { name := "levelHead", type := .int, accessFlags := 2, slot := 24, constantValue := 0 }, { name := "levelTail", type := .int, accessFlags := 2, slot := 25, constantValue := 0 }, { name := "levelLabel", type := .int, accessFlags := 2, slot := 26, constantValue := 0 }, { name := "heap", type := (.array .long), accessFlags := 2, slot := 27, constantValue := 0 }, { name := "heapSize", type := .int, accessFlags := 2, slot := 28, constantValue := 0 }, { name := "fromSource", type := (.object "org/distinguo/graph/MinimumCostFlow$Layers"), accessFlags := 18, slot := 29, constantValue := 0 }, { name := "toSink", type := (.object "org/distinguo/graph/MinimumCostFlow$Layers"), accessFlags := 18, slot := 30, constantValue := 0 }, { name := "sinks", type := (.object "org/distinguo/model/IntList"), accessFlags := 18, slot := 31, constantValue := 0 }, { name := "sinkMet", type := .int, accessFlags := 2, slot := 32, constantValue := 0 }]
  methods := #[k4m0, k4m1, k4m2, k4m3, k4m4, k4m5, k4m6, k4m7, k4m8, k4m9, k4m10, k4m11, k4m12]
  instanceTypes := #[(.array .int), (.array .int), (.array .int), (.array .int), (.array .int), (.array .int), (.array .int), (.array .boolean), (.array .int), (.array .int), (.array .int), (.array .int), (.array .int), (.array .long), .long, (.array .int), (.array .int), (.array .int), (.array .boolean), (.array .int), .int, .int, .int, (.array .int), .int, .int, .int, (.array .long), .int, (.object "org/distinguo/graph/MinimumCostFlow$Layers"), (.object "org/distinguo/graph/MinimumCostFlow$Layers"), (.object "org/distinguo/model/IntList"), .int]
  staticTypes := #[.int, .int]
  resolved := ((((((Array.replicate 278 none).setIfInBounds 22 (some (.field 2 0))).setIfInBounds 28 (some (.field 2 1))).setIfInBounds 39 (some (.field 2 2))).setIfInBounds 77 (some (.field 2 3))).setIfInBounds 80 (some (.field 2 4)))
  statics := none }

def pool5 : Array CpInfo := pool [(2, .class_ 4), (1, u "java/lang/Object"), (0, u "<init>"), (0, u "()V"), (7, .class_ 16), (1, u "java/util/Arrays"), (57, .class_ 76), (1, u "java/util/Arrays$NaturalOrder"), (36, .class_ 115), (1, u "java/util/Arrays$LegacyMergeSort"), (1, u "Z"), (32, .methodref 151 152), (0, .class_ 153), (0, .nameAndType 154 155), (0, u "java/lang/System"), (0, u "arraycopy"), (0, u "(Ljava/lang/Object;ILjava/lang/Object;II)V"), (146, u "copyOf"), (1, .methodref 305 306), (0, .class_ 307), (0, .nameAndType 308 309), (0, u "java/lang/Math"), (0, u "min"), (0, u "(II)I"), (65, .class_ 376), (0, u "java/util/Arrays$ArrayList"), (68, u "$assertionsDisabled"), (269, u "MIN_ARRAY_SORT_GRAN"), (0, u "I"), (2, u "INSERTIONSORT_THRESHOLD"), (151, u "([II)[I"), (103, .class_ 976), (0, u "java/util/Arrays$ArrayItr")] 52

def k5m0 : Method := { name := "<init>", desc := "()V", sig := { parameters := [], returnType := none }, accessFlags := 2, code := none }
def k5c1 : Code := { maxStack := 6, maxLocals := 3, code := jdk_65_method_123_code, exceptionTable := #[], attributes := #[] }
def k5m1 : Method := { name := "copyOf", desc := "([II)[I", sig := { parameters := [(.array .int), .int], returnType := some (.array .int) }, accessFlags := 9, code := some k5c1 }
/-- java/util/Arrays -/
def k5 : Class := { plain "java/util/Arrays" (some 0) with
  accessFlags := 49
  interfaces := #[]
  cf := some (fileOf pool5 14 #[.nestMembers #[975, 375, 113, 74]] #[{ accessFlags := 2, nameIndex := 5, descriptorIndex := 6, attributes := #[] }, { accessFlags := 9, nameIndex := 302, descriptorIndex := 871, attributes := #[] }] 49 2 #[] #[{ accessFlags := 26, nameIndex := 715, descriptorIndex := 716, attributes := #[] }, { accessFlags := 26, nameIndex := 719, descriptorIndex := 716, attributes := #[] }, { accessFlags := 4120, nameIndex := 445, descriptorIndex := 117, attributes := #[] }])
  fields := #[{ name := "MIN_ARRAY_SORT_GRAN", type := .int, accessFlags := 26, slot := 0, constantValue := 0 }, { name := "INSERTIONSORT_THRESHOLD", type := .int, accessFlags := 26, slot := 1, constantValue := 0 }, { name := "$assertionsDisabled", type := .boolean, accessFlags := 4120, slot := 2, constantValue := 0 }]
  methods := #[k5m0, k5m1]
  instanceTypes := #[]
  staticTypes := #[.int, .int, .boolean]
  resolved := Array.replicate 1029 none
  statics := none }

def pool6 : Array CpInfo := pool [(1, .class_ 2), (0, u "java/lang/Math"), (1, .class_ 6), (1, u "java/lang/Object"), (0, u "<init>"), (0, u "()V"), (89, .class_ 100), (1, u "java/lang/Math$RandomNumberGeneratorHolder"), (71, u "negativeZeroFloatBits"), (0, u "J"), (2, u "negativeZeroDoubleBits"), (24, u "min"), (43, u "$assertionsDisabled"), (0, u "Z"), (88, u "(II)I"), (2, u "twoToTheDoubleScaleDown"), (0, u "D"), (4, u "twoToTheDoubleScaleUp"), (9, u "E"), (3, u "PI"), (2, u "TAU"), (2, u "DEGREES_TO_RADIANS"), (0, u "RADIANS_TO_DEGREES")] 94

def k6m0 : Method := { name := "<init>", desc := "()V", sig := { parameters := [], returnType := none }, accessFlags := 2, code := none }
def k6c1 : Code := { maxStack := 2, maxLocals := 2, code := jdk_29_method_69_code, exceptionTable := #[], attributes := #[] }
def k6m1 : Method := { name := "min", desc := "(II)I", sig := { parameters := [.int, .int], returnType := some .int }, accessFlags := 9, code := some k6c1 }
/-- java/lang/Math -/
def k6 : Class := { plain "java/lang/Math" (some 0) with
  accessFlags := 49
  interfaces := #[]
  cf := some (fileOf pool6 1 #[.nestMembers #[98]] #[{ accessFlags := 2, nameIndex := 7, descriptorIndex := 8, attributes := #[] }, { accessFlags := 9, nameIndex := 201, descriptorIndex := 335, attributes := #[] }] 49 4 #[] #[{ accessFlags := 25, nameIndex := 354, descriptorIndex := 339, attributes := #[] }, { accessFlags := 25, nameIndex := 358, descriptorIndex := 339, attributes := #[] }, { accessFlags := 25, nameIndex := 361, descriptorIndex := 339, attributes := #[] }, { accessFlags := 26, nameIndex := 364, descriptorIndex := 339, attributes := #[] }, { accessFlags := 26, nameIndex := 365, descriptorIndex := 339, attributes := #[] }, { accessFlags := 26, nameIndex := 172, descriptorIndex := 173, attributes := #[] }, { accessFlags := 26, nameIndex := 176, descriptorIndex := 173, attributes := #[] }, { accessFlags := 8, nameIndex := 344, descriptorIndex := 339, attributes := #[] }, { accessFlags := 8, nameIndex := 338, descriptorIndex := 339, attributes := #[] }, { accessFlags := 4120, nameIndex := 245, descriptorIndex := 246, attributes := #[] }])
  fields := #[{ name := "E", type := .double, accessFlags := 25, slot := 0, constantValue := 0 }, { name := "PI", type := .double, accessFlags := 25, slot := 1, constantValue := 0 }, { name := "TAU", type := .double, accessFlags := 25, slot := 2, constantValue := 0 }, { name := "DEGREES_TO_RADIANS", type := .double, accessFlags := 26, slot := 3, constantValue := 0 }, { name := "RADIANS_TO_DEGREES", type := .double, accessFlags := 26, slot := 4, constantValue := 0 }, { name := "negativeZeroFloatBits", type := .long, accessFlags := 26, slot := 5, constantValue := 0 }, { name := "negativeZeroDoubleBits", type := .long, accessFlags := 26, slot := 6, constantValue := 0 }, { name := "twoToTheDoubleScaleUp", type := .double, accessFlags := 8, slot := 7, constantValue := 0 }, { name := "twoToTheDoubleScaleDown", type := .double, accessFlags := 8, slot := 8, constantValue := 0 }, { name := "$assertionsDisabled", type := .boolean, accessFlags := 4120, slot := 9, constantValue := 0 }]
  methods := #[k6m0, k6m1]
  instanceTypes := #[]
  staticTypes := #[.double, .double, .double, .double, .double, .long, .long, .double, .double, .boolean]
  resolved := Array.replicate 460 none
  statics := none }

def pool7 : Array CpInfo := pool [(2, .class_ 4), (1, u "java/lang/Object"), (0, u "<init>"), (0, u "()V"), (1, .class_ 10), (1, u "java/lang/System"), (0, u "allowSecurityManager"), (0, u "I"), (16, u "cons"), (0, u "Ljava/io/Console;"), (77, .class_ 110), (1, u "java/lang/System$CallersHolder"), (43, u "initialErrStream"), (0, u "Ljava/io/PrintStream;"), (19, u "security"), (0, u "Ljava/lang/SecurityManager;"), (31, .class_ 209), (0, u "java/lang/System$1"), (7, u "props"), (0, u "Ljava/util/Properties;"), (2, u "lineSeparator"), (0, u "Ljava/lang/String;"), (96, .class_ 321), (1, u "java/lang/System$LoggerFinder"), (5, .class_ 328), (0, u "java/lang/System$Logger"), (67, u "err"), (2, u "out"), (91, u "notSupportedJnuEncoding"), (15, u "in"), (17, u "initialIn"), (0, u "Ljava/io/InputStream;"), (35, u "bootLayer"), (0, u "Ljava/lang/ModuleLayer;"), (99, .class_ 664), (0, u "java/lang/System$2"), (9, u "NEVER"), (2, u "MAYBE"), (49, u "arraycopy"), (0, u "(Ljava/lang/Object;ILjava/lang/Object;II)V"), (72, .class_ 802), (0, u "java/lang/System$Logger$Level")] 31

def k7m0 : Method := { name := "<init>", desc := "()V", sig := { parameters := [], returnType := none }, accessFlags := 2, code := none }
def k7m1 : Method := { name := "arraycopy", desc := "(Ljava/lang/Object;ILjava/lang/Object;II)V", sig := { parameters := [(.object "java/lang/Object"), .int, (.object "java/lang/Object"), .int, .int], returnType := none }, accessFlags := 265, code := none }
/-- java/lang/System -/
def k7 : Class := { plain "java/lang/System" (some 0) with
  accessFlags := 49
  interfaces := #[]
  cf := some (fileOf pool7 8 #[.nestMembers #[319, 327, 801, 108, 663, 208]] #[{ accessFlags := 2, nameIndex := 5, descriptorIndex := 6, attributes := #[] }, { accessFlags := 265, nameIndex := 727, descriptorIndex := 728, attributes := #[] }] 49 2 #[] #[{ accessFlags := 25, nameIndex := 507, descriptorIndex := 526, attributes := #[] }, { accessFlags := 25, nameIndex := 399, descriptorIndex := 155, attributes := #[] }, { accessFlags := 25, nameIndex := 396, descriptorIndex := 155, attributes := #[] }, { accessFlags := 10, nameIndex := 525, descriptorIndex := 526, attributes := #[] }, { accessFlags := 26, nameIndex := 674, descriptorIndex := 12, attributes := #[] }, { accessFlags := 26, nameIndex := 677, descriptorIndex := 12, attributes := #[] }, { accessFlags := 10, nameIndex := 11, descriptorIndex := 12, attributes := #[] }, { accessFlags := 74, nameIndex := 175, descriptorIndex := 176, attributes := #[] }, { accessFlags := 10, nameIndex := 491, descriptorIndex := 222, attributes := #[] }, { accessFlags := 74, nameIndex := 29, descriptorIndex := 30, attributes := #[] }, { accessFlags := 74, nameIndex := 154, descriptorIndex := 155, attributes := #[] }, { accessFlags := 10, nameIndex := 217, descriptorIndex := 218, attributes := #[] }, { accessFlags := 10, nameIndex := 221, descriptorIndex := 222, attributes := #[] }, { accessFlags := 8, nameIndex := 562, descriptorIndex := 563, attributes := #[] }])
  fields := #[{ name := "in", type := (.object "java/io/InputStream"), accessFlags := 25, slot := 0, constantValue := 0 }, { name := "out", type := (.object "java/io/PrintStream"), accessFlags := 25, slot := 1, constantValue := 0 }, { name := "err", type := (.object "java/io/PrintStream"), accessFlags := 25, slot := 2, constantValue := 0 }, { name := "initialIn", type := (.object "java/io/InputStream"), accessFlags := 10, slot := 3, constantValue := 0 }, { name := "NEVER", type := .int, accessFlags := 26, slot := 4, constantValue := 0 }, { name := "MAYBE", type := .int, accessFlags := 26, slot := 5, constantValue := 0 }, { name := "allowSecurityManager", type := .int, accessFlags := 10, slot := 6, constantValue := 0 }, { name := "security", type := (.object "java/lang/SecurityManager"), accessFlags := 74, slot := 7, constantValue := 0 }, { name := "notSupportedJnuEncoding", type := (.object "java/lang/String"), accessFlags := 10, slot := 8, constantValue := 0 }, { name := "cons", type := (.object "java/io/Console"), accessFlags := 74, slot := 9, constantValue := 0 }, { name := "initialErrStream", type := (.object "java/io/PrintStream"), accessFlags := 74, slot := 10, constantValue := 0 }, { name := "props", type := (.object "java/util/Properties"), accessFlags := 10, slot := 11, constantValue := 0 }, { name := "lineSeparator", type := (.object "java/lang/String"), accessFlags := 10, slot := 12, constantValue := 0 }, { name := "bootLayer", type := (.object "java/lang/ModuleLayer"), accessFlags := 8, slot := 13, constantValue := 0 }]
  methods := #[k7m0, k7m1]
  instanceTypes := #[]
  staticTypes := #[(.object "java/io/InputStream"), (.object "java/io/PrintStream"), (.object "java/io/PrintStream"), (.object "java/io/InputStream"), .int, .int, .int, (.object "java/lang/SecurityManager"), (.object "java/lang/String"), (.object "java/io/Console"), (.object "java/io/PrintStream"), (.object "java/util/Properties"), (.object "java/lang/String"), (.object "java/lang/ModuleLayer")]
  resolved := Array.replicate 834 none
  statics := none }

def pool8 : Array CpInfo := pool [(1, .methodref 2 3), (0, .class_ 4), (0, .nameAndType 5 6), (0, u "java/lang/Object"), (0, u "<init>"), (0, u "()V"), (0, .fieldref 8 9), (0, .class_ 10), (0, .nameAndType 11 12), (0, u "org/distinguo/graph/MinimumCostFlow$Layers"), (0, u "metIn"), (0, u "[I"), (0, .fieldref 8 14), (0, .nameAndType 15 12), (0, u "depth"), (0, .fieldref 8 17), (0, .nameAndType 18 12), (0, u "order"), (9, u "search"), (0, u "I"), (2, u "next"), (2, u "count"), (0, u "(I)V"), (12, .class_ 50), (0, u "org/distinguo/graph/MinimumCostFlow")] 2

def k8c0 : Code := { maxStack := 2, maxLocals := 2, code := prog_27_method_1_code, exceptionTable := #[], attributes := #[] }
def k8m0 : Method := { name := "<init>", desc := "(I)V", sig := { parameters := [.int], returnType := none }, accessFlags := 0, code := some k8c0 }
/-- org/distinguo/graph/MinimumCostFlow$Layers -/
def k8 : Class := { plain "org/distinguo/graph/MinimumCostFlow$Layers" (some 0) with
  accessFlags := 48
  interfaces := #[]
  cf := some (fileOf pool8 8 #[.nestHost 49] #[{ accessFlags := 0, nameIndex := 5, descriptorIndex := 36, attributes := #[] }] 48 2 #[] #[{ accessFlags := 18, nameIndex := 11, descriptorIndex := 12, attributes := #[] }, { accessFlags := 18, nameIndex := 15, descriptorIndex := 12, attributes := #[] }, { accessFlags := 18, nameIndex := 18, descriptorIndex := 12, attributes := #[] }, { accessFlags := 2, nameIndex := 32, descriptorIndex := 29, attributes := #[] }, { accessFlags := 2, nameIndex := 35, descriptorIndex := 29, attributes := #[] }, { accessFlags := 2, nameIndex := 28, descriptorIndex := 29, attributes := #[] }])
  fields := #[{ name := "metIn", type := (.array .int), accessFlags := 18, slot := 0, constantValue := 0 }, { name := "depth", type := (.array .int), accessFlags := 18, slot := 1, constantValue := 0 }, { name := "order", type := (.array .int), accessFlags := 18, slot := 2, constantValue := 0 }, { name := "next", type := .int, accessFlags := 2, slot := 3, constantValue := 0 }, { name := "count", type := .int, accessFlags := 2, slot := 4, constantValue := 0 }, { name := "search", type := .int, accessFlags := 2, slot := 5, constantValue := 0 }]
  methods := #[k8m0]
  instanceTypes := #[(.array .int), (.array .int), (.array .int), .int, .int, .int]
  staticTypes := #[]
  resolved := Array.replicate 53 none
  statics := none }

def pool9 : Array CpInfo := pool [(1, u "java/lang/Cloneable"), (0, .class_ 1), (0, u "java/lang/Object"), (0, .class_ 3)] 3

/-- java/lang/Cloneable -/
def k9 : Class := { plain "java/lang/Cloneable" (some 0) with
  accessFlags := 1537
  interfaces := #[]
  cf := some (fileOf pool9 2 #[] #[] 1537 4 #[] #[])
  fields := #[]
  methods := #[]
  instanceTypes := #[]
  staticTypes := #[]
  resolved := Array.replicate 8 none
  statics := none }

def pool10 : Array CpInfo := pool [(1, u "java/io/Serializable"), (0, .class_ 1), (0, u "java/lang/Object"), (0, .class_ 3)] 3

/-- java/io/Serializable -/
def k10 : Class := { plain "java/io/Serializable" (some 0) with
  accessFlags := 1537
  interfaces := #[]
  cf := some (fileOf pool10 2 #[] #[] 1537 4 #[] #[])
  fields := #[]
  methods := #[]
  instanceTypes := #[]
  staticTypes := #[]
  resolved := Array.replicate 8 none
  statics := none }

/-- the primitive boolean -/
def k11 : Class := { plain "boolean" none with kind := .primitive 'Z', accessFlags := 0x411 }
/-- [Z -/
def k12 : Class := { plain "[Z" (some 0) with kind := .array 11 .boolean, interfaces := #[9, 10], accessFlags := 1041 }

/-- the primitive byte -/
def k13 : Class := { plain "byte" none with kind := .primitive 'B', accessFlags := 0x411 }
/-- [B -/
def k14 : Class := { plain "[B" (some 0) with kind := .array 13 .byte, interfaces := #[9, 10], accessFlags := 1041 }

/-- the primitive int -/
def k15 : Class := { plain "int" none with kind := .primitive 'I', accessFlags := 0x411 }
/-- [I -/
def k16 : Class := { plain "[I" (some 0) with kind := .array 15 .int, interfaces := #[9, 10], accessFlags := 1041 }

/-- the primitive long -/
def k17 : Class := { plain "long" none with kind := .primitive 'J', accessFlags := 0x411 }
/-- [J -/
def k18 : Class := { plain "[J" (some 0) with kind := .array 17 .long, interfaces := #[9, 10], accessFlags := 1041 }

def heap : Heap := #[]
def classes : Array Class := #[k0, k1, k2, k3, k4, k5, k6, k7, k8, k9, k10, k11, k12, k13, k14, k15, k16, k17, k18]
def interned : List (Array UInt16 × Addr) := []
def slotsUsed : Nat := 0
def theMethod : MethodId := ⟨1, 2⟩
def args0 : Array Value := #[.int 5, .int 9, .int 3, .long 20]
def aboutOver (below : List Frame) : State where
  vm := { classes := classes, interned := interned.toArray }
  heap := heap
  slotsUsed := slotsUsed
  threads := #[{ frames := .invoking theMethod args0 :: below }]
def below0 : List Frame := [.native { method := ⟨0, 0⟩, args := #[] }]
def about1 : State := aboutOver below0
def p0 : Program := .bare "" "" ""
def e0 : Env := launch0.env 0 0 0
theorem w_frames : about1.frames = Frame.invoking theMethod args0 :: below0 := rfl
set_option maxRecDepth 65536 in
theorem w_args : argsFit about1.vm theMethod args0 = true := by decide +kernel
set_option maxRecDepth 65536 in
theorem w_heap : heapFits about1 = true := by decide +kernel
set_option maxRecDepth 65536 in
theorem w_runnable : about1.curStatus? = some .runnable := by decide +kernel
set_option maxRecDepth 65536 in
theorem w_alone : about1.alone = true := by decide +kernel
set_option maxRecDepth 65536 in
theorem w_named : about1.methodNamed? x = some theMethod := by decide +kernel
set_option maxRecDepth 65536 in
theorem w_hears : about1.hears theMethod below0 = true := by decide +kernel
set_option maxRecDepth 65536 in
theorem w_ripe : about1.ripe theMethod args0 below0 = true := by decide +kernel
theorem w_running : about1.status = .running := rfl
set_option maxRecDepth 65536 in
theorem w_room : about1.hasRoom e0.platform room_1 = true :=
  launch0.hasRoom_least _ room_1 (by decide +kernel) (by decide +kernel) (by decide +kernel) (by decide +kernel) (by decide +kernel) (by decide +kernel)
theorem allAtoms_all (ts : List Jvm.Cond) (a : Array Jvm.Value) (st : Jvm.State) : (allAtoms ts).before a st = ts.all (fun c => c.before a st) := by
  induction ts with
  | nil => rfl
  | cons c t ih =>
    show (Jvm.Cond.and c (allAtoms t)).before a st = _
    rw [Jvm.Cond.before_and, ih, List.all_cons]
def words1 : List Jvm.Cond := Jvm.Cond.code x code maxLocals ret :: tables_1
/-- a 'code' word, met by the world's own term for the bytes: nothing is compared byte by byte -/
theorem code_word {y : MethodName} {bytes : ByteArray} {mx : Nat} {rt : Option FieldType} {a : Array Value} {s : State} {m : MethodId} {meth : Method} {c : Code} (h1 : s.methodNamed? y = some m) (h2 : s.vm.method? m = some meth) (h3 : meth.code = some c) (h4 : c.code = bytes)
    (h5 : (c.maxLocals == mx && c.exceptionTable.isEmpty && decide (c.maxStack ≤ mostOperands) && decide (meth.sig.returnType = rt) && !meth.locks && decide (parseMethodDescriptor y.desc = some meth.sig)) = true) : (Jvm.Cond.code y bytes mx rt).before a s = true := by
  simp only [Bool.and_eq_true, beq_iff_eq, Bool.not_eq_true', decide_eq_true_eq] at h5
  obtain ⟨⟨⟨⟨⟨g1, g2⟩, g3⟩, g4⟩, g5⟩, g6⟩ := h5
  simp [Cond.before, Cond.holds, Cond.value, h1, h2, h3, h4, g1, g2, g3, g4, g5, g6]
def isCode : Jvm.Cond → Bool
  | .code _ _ _ _ => true
  | _ => false
theorem all_split {L : List Jvm.Cond} {P : Jvm.Cond → Bool} (h1 : L.all (fun c => isCode c || P c) = true) (h2 : ∀ c ∈ L.filter isCode, P c = true) : L.all P = true := by
  refine List.all_eq_true.mpr fun c hc => ?_
  have h := List.all_eq_true.mp h1 c hc
  rcases Bool.eq_false_or_eq_true (isCode c) with hi | hi
  · exact h2 c (List.mem_filter.mpr ⟨hc, hi⟩)
  · simpa [hi] using h
set_option maxRecDepth 65536 in
theorem w_c0 : (Jvm.Cond.code x code maxLocals ret).before args0 about1 = true := code_word (m := ⟨1, 2⟩) (meth := k1m2) (c := k1c2) (by decide +kernel) rfl rfl rfl (by decide +kernel)
set_option maxRecDepth 65536 in
theorem w_c1 : (Jvm.Cond.code ({ cls := "org/distinguo/graph/MinimumCostFlow$Network", name := "<init>", desc := "(I)V" } : Jvm.MethodName) prog_28_method_1_code (2 : Nat) (Option.none : Option Jvm.ClassFile.FieldType)).before args0 about1 = true := code_word (m := ⟨2, 0⟩) (meth := k2m0) (c := k2c0) (by decide +kernel) rfl rfl rfl (by decide +kernel)
set_option maxRecDepth 65536 in
theorem w_c2 : (Jvm.Cond.code ({ cls := "java/lang/Object", name := "<init>", desc := "()V" } : Jvm.MethodName) object_method_1_code (1 : Nat) (Option.none : Option Jvm.ClassFile.FieldType)).before args0 about1 = true := code_word (m := ⟨0, 0⟩) (meth := k0m0) (c := k0c0) (by decide +kernel) rfl rfl rfl (by decide +kernel)
set_option maxRecDepth 65536 in
theorem w_c3 : (Jvm.Cond.code ({ cls := "org/distinguo/model/IntList", name := "<init>", desc := "()V" } : Jvm.MethodName) prog_99_method_1_code (1 : Nat) (Option.none : Option Jvm.ClassFile.FieldType)).before args0 about1 = true := code_word (m := ⟨3, 0⟩) (meth := k3m0) (c := k3c0) (by decide +kernel) rfl rfl rfl (by decide +kernel)
set_option maxRecDepth 65536 in
theorem w_c4 : (Jvm.Cond.code ({ cls := "org/distinguo/graph/MinimumCostFlow$Network", name := "arc", desc := "(IIII)I" } : Jvm.MethodName) prog_28_method_2_code (5 : Nat) (Option.some Jvm.ClassFile.FieldType.int)).before args0 about1 = true := code_word (m := ⟨2, 1⟩) (meth := k2m1) (c := k2c1) (by decide +kernel) rfl rfl rfl (by decide +kernel)
set_option maxRecDepth 65536 in
theorem w_c5 : (Jvm.Cond.code ({ cls := "org/distinguo/model/IntList", name := "add", desc := "(I)V" } : Jvm.MethodName) prog_99_method_5_code (2 : Nat) (Option.none : Option Jvm.ClassFile.FieldType)).before args0 about1 = true := code_word (m := ⟨3, 3⟩) (meth := k3m3) (c := k3c3) (by decide +kernel) rfl rfl rfl (by decide +kernel)
set_option maxRecDepth 65536 in
theorem w_c6 : (Jvm.Cond.code ({ cls := "org/distinguo/model/IntList", name := "makeRoom", desc := "(I)V" } : Jvm.MethodName) prog_99_method_7_code (6 : Nat) (Option.none : Option Jvm.ClassFile.FieldType)).before args0 about1 = true := code_word (m := ⟨3, 4⟩) (meth := k3m4) (c := k3c4) (by decide +kernel) rfl rfl rfl (by decide +kernel)
set_option maxRecDepth 65536 in
theorem w_c7 : (Jvm.Cond.code ({ cls := "org/distinguo/model/IntList", name := "size", desc := "()I" } : Jvm.MethodName) prog_99_method_2_code (1 : Nat) (Option.some Jvm.ClassFile.FieldType.int)).before args0 about1 = true := code_word (m := ⟨3, 1⟩) (meth := k3m1) (c := k3c1) (by decide +kernel) rfl rfl rfl (by decide +kernel)
set_option maxRecDepth 65536 in
theorem w_c8 : (Jvm.Cond.code ({ cls := "org/distinguo/graph/MinimumCostFlow", name := "<init>", desc := "(Lorg/distinguo/graph/MinimumCostFlow$Network;)V" } : Jvm.MethodName) prog_26_method_1_code (12 : Nat) (Option.none : Option Jvm.ClassFile.FieldType)).before args0 about1 = true := code_word (m := ⟨4, 0⟩) (meth := k4m0) (c := k4c0) (by decide +kernel) rfl rfl rfl (by decide +kernel)
set_option maxRecDepth 65536 in
theorem w_c9 : (Jvm.Cond.code ({ cls := "org/distinguo/model/IntList", name := "get", desc := "(I)I" } : Jvm.MethodName) prog_99_method_3_code (2 : Nat) (Option.some Jvm.ClassFile.FieldType.int)).before args0 about1 = true := code_word (m := ⟨3, 2⟩) (meth := k3m2) (c := k3c2) (by decide +kernel) rfl rfl rfl (by decide +kernel)
set_option maxRecDepth 65536 in
theorem w_c10 : (Jvm.Cond.code ({ cls := "java/util/Arrays", name := "copyOf", desc := "([II)[I" } : Jvm.MethodName) jdk_65_method_123_code (3 : Nat) (Option.some (Jvm.ClassFile.FieldType.array Jvm.ClassFile.FieldType.int))).before args0 about1 = true := code_word (m := ⟨5, 1⟩) (meth := k5m1) (c := k5c1) (by decide +kernel) rfl rfl rfl (by decide +kernel)
set_option maxRecDepth 65536 in
theorem w_c11 : (Jvm.Cond.code ({ cls := "java/lang/Math", name := "min", desc := "(II)I" } : Jvm.MethodName) jdk_29_method_69_code (2 : Nat) (Option.some Jvm.ClassFile.FieldType.int)).before args0 about1 = true := code_word (m := ⟨6, 1⟩) (meth := k6m1) (c := k6c1) (by decide +kernel) rfl rfl rfl (by decide +kernel)
set_option maxRecDepth 65536 in
theorem w_c12 : (Jvm.Cond.code ({ cls := "org/distinguo/graph/MinimumCostFlow$Layers", name := "<init>", desc := "(I)V" } : Jvm.MethodName) prog_27_method_1_code (2 : Nat) (Option.none : Option Jvm.ClassFile.FieldType)).before args0 about1 = true := code_word (m := ⟨8, 0⟩) (meth := k8m0) (c := k8c0) (by decide +kernel) rfl rfl rfl (by decide +kernel)
set_option maxRecDepth 65536 in
theorem w_c13 : (Jvm.Cond.code ({ cls := "org/distinguo/graph/MinimumCostFlow", name := "startBack", desc := "(I)V" } : Jvm.MethodName) prog_26_method_10_code (2 : Nat) (Option.none : Option Jvm.ClassFile.FieldType)).before args0 about1 = true := code_word (m := ⟨4, 2⟩) (meth := k4m2) (c := k4c2) (by decide +kernel) rfl rfl rfl (by decide +kernel)
set_option maxRecDepth 65536 in
theorem w_c14 : (Jvm.Cond.code ({ cls := "org/distinguo/graph/MinimumCostFlow", name := "startSearch", desc := "(I)V" } : Jvm.MethodName) prog_26_method_25_code (2 : Nat) (Option.none : Option Jvm.ClassFile.FieldType)).before args0 about1 = true := code_word (m := ⟨4, 7⟩) (meth := k4m7) (c := k4c7) (by decide +kernel) rfl rfl rfl (by decide +kernel)
set_option maxRecDepth 65536 in
theorem w_c15 : (Jvm.Cond.code ({ cls := "org/distinguo/graph/MinimumCostFlow", name := "labelAndQueue", desc := "(III)Z" } : Jvm.MethodName) prog_26_method_27_code (4 : Nat) (Option.some Jvm.ClassFile.FieldType.boolean)).before args0 about1 = true := code_word (m := ⟨4, 9⟩) (meth := k4m9) (c := k4c9) (by decide +kernel) rfl rfl rfl (by decide +kernel)
set_option maxRecDepth 65536 in
theorem w_c16 : (Jvm.Cond.code ({ cls := "org/distinguo/graph/MinimumCostFlow", name := "nextBack", desc := "(J)I" } : Jvm.MethodName) prog_26_method_11_code (8 : Nat) (Option.some Jvm.ClassFile.FieldType.int)).before args0 about1 = true := code_word (m := ⟨4, 3⟩) (meth := k4m3) (c := k4c3) (by decide +kernel) rfl rfl rfl (by decide +kernel)
set_option maxRecDepth 65536 in
theorem w_c17 : (Jvm.Cond.code ({ cls := "org/distinguo/graph/MinimumCostFlow", name := "smallestQueued", desc := "()J" } : Jvm.MethodName) prog_26_method_26_code (1 : Nat) (Option.some Jvm.ClassFile.FieldType.long)).before args0 about1 = true := code_word (m := ⟨4, 8⟩) (meth := k4m8) (c := k4c8) (by decide +kernel) rfl rfl rfl (by decide +kernel)
set_option maxRecDepth 65536 in
theorem w_c18 : (Jvm.Cond.code ({ cls := "org/distinguo/graph/MinimumCostFlow", name := "lowerPotentials", desc := "(J)V" } : Jvm.MethodName) prog_26_method_15_code (5 : Nat) (Option.none : Option Jvm.ClassFile.FieldType)).before args0 about1 = true := code_word (m := ⟨4, 5⟩) (meth := k4m5) (c := k4c5) (by decide +kernel) rfl rfl rfl (by decide +kernel)
set_option maxRecDepth 65536 in
theorem w_c19 : (Jvm.Cond.code ({ cls := "org/distinguo/graph/MinimumCostFlow", name := "potential", desc := "(I)J" } : Jvm.MethodName) prog_26_method_9_code (2 : Nat) (Option.some Jvm.ClassFile.FieldType.long)).before args0 about1 = true := code_word (m := ⟨4, 1⟩) (meth := k4m1) (c := k4c1) (by decide +kernel) rfl rfl rfl (by decide +kernel)
set_option maxRecDepth 65536 in
theorem w_c20 : (Jvm.Cond.code ({ cls := "org/distinguo/graph/MinimumCostFlowLowerPotentialsPinLaw", name := "expected", desc := "(ZJJ)J" } : Jvm.MethodName) method_2_code (5 : Nat) (Option.some Jvm.ClassFile.FieldType.long)).before args0 about1 = true := code_word (m := ⟨1, 1⟩) (meth := k1m1) (c := k1c1) (by decide +kernel) rfl rfl rfl (by decide +kernel)
set_option maxRecDepth 65536 in
theorem w_c21 : (Jvm.Cond.code ({ cls := "org/distinguo/graph/MinimumCostFlow", name := "settleNext", desc := "()I" } : Jvm.MethodName) prog_26_method_29_code (7 : Nat) (Option.some Jvm.ClassFile.FieldType.int)).before args0 about1 = true := code_word (m := ⟨4, 11⟩) (meth := k4m11) (c := k4c11) (by decide +kernel) rfl rfl rfl (by decide +kernel)
set_option maxRecDepth 65536 in
theorem w_c22 : (Jvm.Cond.code ({ cls := "org/distinguo/graph/MinimumCostFlow", name := "settle", desc := "(I)I" } : Jvm.MethodName) prog_26_method_30_code (2 : Nat) (Option.some Jvm.ClassFile.FieldType.int)).before args0 about1 = true := code_word (m := ⟨4, 12⟩) (meth := k4m12) (c := k4c12) (by decide +kernel) rfl rfl rfl (by decide +kernel)
set_option maxRecDepth 65536 in
theorem w_c23 : (Jvm.Cond.code ({ cls := "org/distinguo/graph/MinimumCostFlow", name := "reducedCost", desc := "(II)I" } : Jvm.MethodName) prog_26_method_24_code (3 : Nat) (Option.some Jvm.ClassFile.FieldType.int)).before args0 about1 = true := code_word (m := ⟨4, 6⟩) (meth := k4m6) (c := k4c6) (by decide +kernel) rfl rfl rfl (by decide +kernel)
set_option maxRecDepth 65536 in
theorem w_c24 : (Jvm.Cond.code ({ cls := "org/distinguo/graph/MinimumCostFlow", name := "isSettled", desc := "(I)Z" } : Jvm.MethodName) prog_26_method_12_code (2 : Nat) (Option.some Jvm.ClassFile.FieldType.boolean)).before args0 about1 = true := code_word (m := ⟨4, 4⟩) (meth := k4m4) (c := k4c4) (by decide +kernel) rfl rfl rfl (by decide +kernel)
set_option maxRecDepth 65536 in
theorem w_c25 : (Jvm.Cond.code ({ cls := "org/distinguo/graph/MinimumCostFlow", name := "push", desc := "(J)V" } : Jvm.MethodName) prog_26_method_28_code (4 : Nat) (Option.none : Option Jvm.ClassFile.FieldType)).before args0 about1 = true := code_word (m := ⟨4, 10⟩) (meth := k4m10) (c := k4c10) (by decide +kernel) rfl rfl rfl (by decide +kernel)
def codes1 : List Jvm.Cond := [Jvm.Cond.code x code maxLocals ret, Jvm.Cond.code ({ cls := "org/distinguo/graph/MinimumCostFlow$Network", name := "<init>", desc := "(I)V" } : Jvm.MethodName) prog_28_method_1_code (2 : Nat) (Option.none : Option Jvm.ClassFile.FieldType), Jvm.Cond.code ({ cls := "java/lang/Object", name := "<init>", desc := "()V" } : Jvm.MethodName) object_method_1_code (1 : Nat) (Option.none : Option Jvm.ClassFile.FieldType), Jvm.Cond.code ({ cls := "org/distinguo/model/IntList", name := "<init>", desc := "()V" } : Jvm.MethodName) prog_99_method_1_code (1 : Nat) (Option.none : Option Jvm.ClassFile.FieldType), Jvm.Cond.code ({ cls := "org/distinguo/graph/MinimumCostFlow$Network", name := "arc", desc := "(IIII)I" } : Jvm.MethodName) prog_28_method_2_code (5 : Nat) (Option.some Jvm.ClassFile.FieldType.int), Jvm.Cond.code ({ cls := "org/distinguo/model/IntList", name := "add", desc := "(I)V" } : Jvm.MethodName) prog_99_method_5_code (2 : Nat) (Option.none : Option Jvm.ClassFile.FieldType), Jvm.Cond.code ({ cls := "org/distinguo/model/IntList", name := "makeRoom", desc := "(I)V" } : Jvm.MethodName) prog_99_method_7_code (6 : Nat) (Option.none : Option Jvm.ClassFile.FieldType), Jvm.Cond.code ({ cls := "org/distinguo/model/IntList", name := "size", desc := "()I" } : Jvm.MethodName) prog_99_method_2_code (1 : Nat) (Option.some Jvm.ClassFile.FieldType.int), Jvm.Cond.code ({ cls := "org/distinguo/graph/MinimumCostFlow", name := "<init>", desc := "(Lorg/distinguo/graph/MinimumCostFlow$Network;)V" } : Jvm.MethodName) prog_26_method_1_code (12 : Nat) (Option.none : Option Jvm.ClassFile.FieldType), Jvm.Cond.code ({ cls := "org/distinguo/model/IntList", name := "get", desc := "(I)I" } : Jvm.MethodName) prog_99_method_3_code (2 : Nat) (Option.some Jvm.ClassFile.FieldType.int), Jvm.Cond.code ({ cls := "java/util/Arrays", name := "copyOf", desc := "([II)[I" } : Jvm.MethodName) jdk_65_method_123_code (3 : Nat) (Option.some (Jvm.ClassFile.FieldType.array Jvm.ClassFile.FieldType.int)), Jvm.Cond.code ({ cls := "java/lang/Math", name := "min", desc := "(II)I" } : Jvm.MethodName) jdk_29_method_69_code (2 : Nat) (Option.some Jvm.ClassFile.FieldType.int), Jvm.Cond.code ({ cls := "org/distinguo/graph/MinimumCostFlow$Layers", name := "<init>", desc := "(I)V" } : Jvm.MethodName) prog_27_method_1_code (2 : Nat) (Option.none : Option Jvm.ClassFile.FieldType), Jvm.Cond.code ({ cls := "org/distinguo/graph/MinimumCostFlow", name := "startBack", desc := "(I)V" } : Jvm.MethodName) prog_26_method_10_code (2 : Nat) (Option.none : Option Jvm.ClassFile.FieldType), Jvm.Cond.code ({ cls := "org/distinguo/graph/MinimumCostFlow", name := "startSearch", desc := "(I)V" } : Jvm.MethodName) prog_26_method_25_code (2 : Nat) (Option.none : Option Jvm.ClassFile.FieldType), Jvm.Cond.code ({ cls := "org/distinguo/graph/MinimumCostFlow", name := "labelAndQueue", desc := "(III)Z" } : Jvm.MethodName) prog_26_method_27_code (4 : Nat) (Option.some Jvm.ClassFile.FieldType.boolean), Jvm.Cond.code ({ cls := "org/distinguo/graph/MinimumCostFlow", name := "nextBack", desc := "(J)I" } : Jvm.MethodName) prog_26_method_11_code (8 : Nat) (Option.some Jvm.ClassFile.FieldType.int), Jvm.Cond.code ({ cls := "org/distinguo/graph/MinimumCostFlow", name := "smallestQueued", desc := "()J" } : Jvm.MethodName) prog_26_method_26_code (1 : Nat) (Option.some Jvm.ClassFile.FieldType.long), Jvm.Cond.code ({ cls := "org/distinguo/graph/MinimumCostFlow", name := "lowerPotentials", desc := "(J)V" } : Jvm.MethodName) prog_26_method_15_code (5 : Nat) (Option.none : Option Jvm.ClassFile.FieldType), Jvm.Cond.code ({ cls := "org/distinguo/graph/MinimumCostFlow", name := "potential", desc := "(I)J" } : Jvm.MethodName) prog_26_method_9_code (2 : Nat) (Option.some Jvm.ClassFile.FieldType.long), Jvm.Cond.code ({ cls := "org/distinguo/graph/MinimumCostFlowLowerPotentialsPinLaw", name := "expected", desc := "(ZJJ)J" } : Jvm.MethodName) method_2_code (5 : Nat) (Option.some Jvm.ClassFile.FieldType.long), Jvm.Cond.code ({ cls := "org/distinguo/graph/MinimumCostFlow", name := "settleNext", desc := "()I" } : Jvm.MethodName) prog_26_method_29_code (7 : Nat) (Option.some Jvm.ClassFile.FieldType.int), Jvm.Cond.code ({ cls := "org/distinguo/graph/MinimumCostFlow", name := "settle", desc := "(I)I" } : Jvm.MethodName) prog_26_method_30_code (2 : Nat) (Option.some Jvm.ClassFile.FieldType.int), Jvm.Cond.code ({ cls := "org/distinguo/graph/MinimumCostFlow", name := "reducedCost", desc := "(II)I" } : Jvm.MethodName) prog_26_method_24_code (3 : Nat) (Option.some Jvm.ClassFile.FieldType.int), Jvm.Cond.code ({ cls := "org/distinguo/graph/MinimumCostFlow", name := "isSettled", desc := "(I)Z" } : Jvm.MethodName) prog_26_method_12_code (2 : Nat) (Option.some Jvm.ClassFile.FieldType.boolean), Jvm.Cond.code ({ cls := "org/distinguo/graph/MinimumCostFlow", name := "push", desc := "(J)V" } : Jvm.MethodName) prog_26_method_28_code (4 : Nat) (Option.none : Option Jvm.ClassFile.FieldType)]
set_option maxRecDepth 65536 in
theorem codes_eq : words1.filter isCode = codes1 := rfl
theorem w_codes : ∀ c ∈ words1.filter isCode, c.before args0 about1 = true := by
  rw [codes_eq]
  intro c hc
  simp only [codes1, List.mem_cons, List.not_mem_nil, or_false] at hc
  rcases hc with rfl | rfl | rfl | rfl | rfl | rfl | rfl | rfl | rfl | rfl | rfl | rfl | rfl | rfl | rfl | rfl | rfl | rfl | rfl | rfl | rfl | rfl | rfl | rfl | rfl | rfl
  · exact w_c0
  · exact w_c1
  · exact w_c2
  · exact w_c3
  · exact w_c4
  · exact w_c5
  · exact w_c6
  · exact w_c7
  · exact w_c8
  · exact w_c9
  · exact w_c10
  · exact w_c11
  · exact w_c12
  · exact w_c13
  · exact w_c14
  · exact w_c15
  · exact w_c16
  · exact w_c17
  · exact w_c18
  · exact w_c19
  · exact w_c20
  · exact w_c21
  · exact w_c22
  · exact w_c23
  · exact w_c24
  · exact w_c25
set_option maxRecDepth 65536 in
theorem w_t1 : (words1.take 24).all (fun c => isCode c || c.before args0 about1) = true := by decide +kernel
set_option maxRecDepth 65536 in
theorem w_t2 : ((words1.drop 24).take 24).all (fun c => isCode c || c.before args0 about1) = true := by decide +kernel
set_option maxRecDepth 65536 in
theorem w_t3 : (((words1.drop 24).drop 24).take 24).all (fun c => isCode c || c.before args0 about1) = true := by decide +kernel
set_option maxRecDepth 65536 in
theorem w_t4 : ((((words1.drop 24).drop 24).drop 24).take 24).all (fun c => isCode c || c.before args0 about1) = true := by decide +kernel
set_option maxRecDepth 65536 in
theorem w_t5 : (((((words1.drop 24).drop 24).drop 24).drop 24).take 24).all (fun c => isCode c || c.before args0 about1) = true := by decide +kernel
set_option maxRecDepth 65536 in
theorem w_t6 : ((((((words1.drop 24).drop 24).drop 24).drop 24).drop 24).take 24).all (fun c => isCode c || c.before args0 about1) = true := by decide +kernel
set_option maxRecDepth 65536 in
theorem w_t7 : (((((((words1.drop 24).drop 24).drop 24).drop 24).drop 24).drop 24).take 24).all (fun c => isCode c || c.before args0 about1) = true := by decide +kernel
set_option maxRecDepth 65536 in
theorem w_t8 : ((((((((words1.drop 24).drop 24).drop 24).drop 24).drop 24).drop 24).drop 24).take 24).all (fun c => isCode c || c.before args0 about1) = true := by decide +kernel
set_option maxRecDepth 65536 in
theorem w_t9 : (((((((((words1.drop 24).drop 24).drop 24).drop 24).drop 24).drop 24).drop 24).drop 24).take 24).all (fun c => isCode c || c.before args0 about1) = true := by decide +kernel
set_option maxRecDepth 65536 in
theorem w_t10 : (((((((((words1.drop 24).drop 24).drop 24).drop 24).drop 24).drop 24).drop 24).drop 24).drop 24).all (fun c => isCode c || c.before args0 about1) = true := by decide +kernel
theorem w_tables : (allAtoms (Jvm.Cond.code x code maxLocals ret :: tables_1)).before args0 about1 = true := by
  rw [allAtoms_all]
  show words1.all (fun c => c.before args0 about1) = true
  refine all_split ?_ w_codes
  rw [← List.take_append_drop 24 words1, List.all_append, w_t1, ← List.take_append_drop 24 (words1.drop 24), List.all_append, w_t2, ← List.take_append_drop 24 ((words1.drop 24).drop 24), List.all_append, w_t3, ← List.take_append_drop 24 (((words1.drop 24).drop 24).drop 24), List.all_append, w_t4, ← List.take_append_drop 24 ((((words1.drop 24).drop 24).drop 24).drop 24), List.all_append, w_t5, ← List.take_append_drop 24 (((((words1.drop 24).drop 24).drop 24).drop 24).drop 24), List.all_append, w_t6, ← List.take_append_drop 24 ((((((words1.drop 24).drop 24).drop 24).drop 24).drop 24).drop 24), List.all_append, w_t7, ← List.take_append_drop 24 (((((((words1.drop 24).drop 24).drop 24).drop 24).drop 24).drop 24).drop 24), List.all_append, w_t8, ← List.take_append_drop 24 ((((((((words1.drop 24).drop 24).drop 24).drop 24).drop 24).drop 24).drop 24).drop 24), List.all_append, w_t9, w_t10]
  rfl
set_option maxRecDepth 65536 in
theorem w_case : (Jvm.Cond.and given_1 narrow_1).before args0 about1 = true := by decide +kernel
theorem w_applies : (headSpec (Jvm.Cond.code x code maxLocals ret :: tables_1) room_1).applies x e0.platform about1 = true :=
  (Spec.applies_iff w_frames).mpr ⟨w_running, w_runnable, w_alone, w_named, w_hears, w_ripe, w_room, w_tables⟩
theorem atStart : AtStart classFile x code maxLocals ret World_1 tables_1 room_1 Calls_1 rest_1 Pre_1 launch0 p0 e0 about1 theMethod args0 below0 :=
  ⟨lists_1, trivial, launch0.admits_env _ _ _, launch0.least_env, fairChoices_fair.cas, fairChoices_fair.clock, w_frames, w_args, w_heap, w_applies, trivial, trivial, w_case⟩
end start1
theorem witness_1 : WitnessClaimed_1 := ⟨start1.p0, start1.e0, start1.about1, start1.theMethod, start1.args0, start1.below0, start1.atStart⟩
end Jvm.Pilot.@@N@@
