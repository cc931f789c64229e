import JvmDerived
import JvmDerived.Pilot.@@N@@Statement
import JvmDerived.Pilot.@@N@@Code
set_option linter.unusedVariables false
set_option linter.unusedSimpArgs false
namespace Jvm.OwnX
open Sem ClassFile Op Lib Jvm.Stand Jvm.Free Jvm.LawKit Jvm.RoadKit
/-! ### 1. Symbolic values -/
abbrev En := Nat → Int32 × Int64
def op2v (o : Binary) (x y : Int32 × Int64) : Int32 × Int64 := match o with
  | .iand => (x.1 &&& y.1, 0)
  | .ior => (x.1 ||| y.1, 0)
  | .ixor => (x.1 ^^^ y.1, 0)
  | .ishl => (x.1 <<< (y.1 &&& 31), 0)
  | .ishr => (x.1 >>> (y.1 &&& 31), 0)
  | .iushr => ((x.1.toUInt32 >>> (y.1 &&& 31).toUInt32).toInt32, 0)
  | .ladd => (0, x.2 + y.2)
  | .lsub => (0, x.2 - y.2)
  | .lmul => (0, x.2 * y.2)
  | .land => (0, x.2 &&& y.2)
  | .lor => (0, x.2 ||| y.2)
  | .lxor => (0, x.2 ^^^ y.2)
  | .lshl => (0, x.2 <<< (y.1 &&& 0x3f).toInt64)
  | .lshr => (0, x.2 >>> (y.1 &&& 0x3f).toInt64)
  | .lushr => (0, (x.2.toUInt64 >>> (y.1 &&& 0x3f).toInt64.toUInt64).toInt64)
  | .lcmp => (lcmpW x.2 y.2, 0)
  | _ => (0, 0)
def op1v (o : Unary) (x : Int32 × Int64) : Int32 × Int64 := match o with
  | .ineg => (-x.1, 0)
  | .lneg => (0, -x.2)
  | .i2l => (0, x.1.toInt64)
  | .l2i => (x.2.toInt32, 0)
  | .i2b => (x.1.toInt8.toInt32, 0)
  | .i2c => (x.1.toUInt32.toUInt16.toUInt32.toInt32, 0)
  | .i2s => (x.1.toInt16.toInt32, 0)
  | _ => (0, 0)
def te (A : En) : Term → Int32 × Int64
  | .arg i => A i
  | .int v => (v, 0)
  | .long v => (0, v)
  | .add a b => ((te A a).1 + (te A b).1, 0)
  | .sub a b => ((te A a).1 - (te A b).1, 0)
  | .mul a b => ((te A a).1 * (te A b).1, 0)
  | .div a b => ((te A a).1 / (te A b).1, 0)
  | .rem a b => ((te A a).1 % (te A b).1, 0)
  | .op2 o a b => op2v o (te A a) (te A b)
  | .op1 o a => op1v o (te A a)
  | _ => (0, 0)
def isLit : Term → Bool
  | .int _ => true
  | .long _ => true
  | _ => false
def kids : Term → Bool
  | .add a b => isLit a && isLit b
  | .sub a b => isLit a && isLit b
  | .mul a b => isLit a && isLit b
  | .div a b => isLit a && isLit b
  | .rem a b => isLit a && isLit b
  | .op2 _ a b => isLit a && isLit b
  | .op1 _ a => isLit a
  | _ => false
def e0 : En := fun _ => (0, 0)
def smI (t : Term) : Term := bif kids t then .int (te e0 t).1 else t
def smL (t : Term) : Term := bif kids t then .long (te e0 t).2 else t
theorem te_lit {t : Term} (h : isLit t = true) (A B : En) : te A t = te B t := by
  cases t <;> simp [isLit] at h <;> rfl
theorem te_kids {t : Term} (h : kids t = true) (A B : En) : te A t = te B t := by
  cases t <;> simp [kids] at h
  all_goals first
    | (rename_i a b; simp only [te, te_lit h.1 A B, te_lit h.2 A B])
    | (rename_i o a; simp only [te, te_lit h A B])
theorem te_smI (A : En) (t : Term) : (te A (smI t)).1 = (te A t).1 := by
  unfold smI
  cases h : kids t
  · rfl
  · simp only [cond_true, te, te_kids h A e0]
theorem te_smL (A : En) (t : Term) : (te A (smL t)).2 = (te A t).2 := by
  unfold smL
  cases h : kids t
  · rfl
  · simp only [cond_true, te, te_kids h A e0]
/-- a symbolic value: its kind (0 int, 1 long, 2 reference, 3 double) and its term -/
abbrev SV := Nat × Term
abbrev SL := Option (Option SV)
abbrev Ob := Nat × List SV
abbrev Cf := List SL × List SV × List Ob × Nat
abbrev Nx := List Cond × Nat × Cf
abbrev Stp := List Cond → Cf → Option (List Nx)
/-- a shape: an array's element type, or a class with its number of slots and its fields (declaring class, name, descriptor, type) -/
abbrev Fi := String × String × String × FieldType
abbrev Sh := Option FieldType × String × Nat × List Fi
def rf (O : Nat → Addr) (n0 : Nat) : Term → Value
  | .index k => .ref (n0 + k)
  | .arg i => .ref (O i)
  | _ => .null
def vv (A : En) (O : Nat → Addr) (n0 : Nat) (x : SV) : Value := match x.1 with
  | 0 => .int (te A x.2).1
  | 1 => .long (te A x.2).2
  | 2 => rf O n0 x.2
  | _ => .double (te A x.2).2.toUInt64
def sl1 (A : En) (O : Nat → Addr) (n0 : Nat) : SL → Slot
  | none => .unset
  | some none => .second
  | some (some x) => .val (vv A O n0 x)
def cat (x : SV) : Nat := match x.1 with
  | 1 => 2
  | 3 => 2
  | 0 => 1
  | 2 => 1
  | _ => 2
theorem rf_isRef (O : Nat → Addr) (n0 : Nat) (t : Term) : (rf O n0 t).isRef = true := by cases t <;> rfl
theorem vv_cat (A : En) (O : Nat → Addr) (n0 : Nat) (x : SV) : (vv A O n0 x).category = cat x := by
  obtain ⟨k, t⟩ := x
  match k with
  | 0 => rfl
  | 1 => rfl
  | 2 => show (rf O n0 t).category = 1; cases t <;> rfl
  | 3 => rfl
  | n + 4 => rfl
/-! ### 2. Facts -/
def hold (A : En) : Cond → Prop
  | .eq a b => (te A a).1 = (te A b).1
  | .lt a b => (te A a).1 < (te A b).1
  | .not c => ¬ hold A c
  | _ => True
def holds (A : En) (F : List Cond) : Prop := ∀ c ∈ F, hold A c
theorem holds_cons {A : En} {c : Cond} {F : List Cond} (h : hold A c) (H : holds A F) : holds A (c :: F) := by
  intro d hd
  rcases List.mem_cons.mp hd with rfl | hd
  · exact h
  · exact H d hd
/-- the same term -/
def tq : Term → Term → Bool
  | .arg i, .arg j => i == j
  | .int x, .int y => x == y
  | .long x, .long y => x == y
  | .null, .null => true
  | .index i, .index j => i == j
  | .add a b, .add c d => tq a c && tq b d
  | .sub a b, .sub c d => tq a c && tq b d
  | .mul a b, .mul c d => tq a c && tq b d
  | .div a b, .div c d => tq a c && tq b d
  | .rem a b, .rem c d => tq a c && tq b d
  | .op2 o a b, .op2 p c d => (o == p) && (tq a c && tq b d)
  | .op1 o a, .op1 p b => (o == p) && tq a b
  | _, _ => false
theorem tq_eq : ∀ {a b : Term}, tq a b = true → a = b := by
  intro a
  induction a <;> intro b h <;> cases b <;> simp [tq] at h
  all_goals first
    | rfl
    | (subst h; rfl)
    | (rename_i i1 i2 _ _; rw [i1 h.1, i2 h.2])
    | (rename_i i1 i2 _ _ _; rw [h.1, i1 h.2.1, i2 h.2.2])
    | (rename_i i1 _ _; rw [h.1, i1 h.2])
def cut (lo hi : Int) : Int × Int := bif (decide (-2147483648 ≤ lo)) && (decide (hi ≤ 2147483647)) then (lo, hi) else (-2147483648, 2147483647)
def lcr (p q : Int × Int) : Int × Int :=
  bif decide (p.2 < q.1) then (-1, -1) else bif decide (q.2 < p.1) then (1, 1) else
  bif decide (p.1 = p.2) && (decide (q.1 = q.2) && decide (p.1 = q.1)) then (0, 0) else
  bif decide (p.2 ≤ q.1) then (-1, 0) else bif decide (q.2 ≤ p.1) then (0, 1) else (-1, 1)
def fI : Int × Int := (-2147483648, 2147483647)
def fL : Int × Int := (-9223372036854775808, 9223372036854775807)
/-- bounds of a term's two views -/
def rg0 : Term → (Int × Int) × (Int × Int)
  | .int v => ((v.toInt, v.toInt), fL)
  | .long v => (fI, (v.toInt, v.toInt))
  | .add a b => (cut ((rg0 a).1.1 + (rg0 b).1.1) ((rg0 a).1.2 + (rg0 b).1.2), fL)
  | .sub a b => (cut ((rg0 a).1.1 - (rg0 b).1.2) ((rg0 a).1.2 - (rg0 b).1.1), fL)
  | .rem a b => (bif decide (0 < (rg0 b).1.1) then (bif decide (0 ≤ (rg0 a).1.1) then (0, (rg0 b).1.2 - 1) else (1 - (rg0 b).1.2, (rg0 b).1.2 - 1)) else fI, fL)
  | .op2 .iand a b => (bif decide (0 ≤ (rg0 b).1.1) then (0, (rg0 b).1.2) else bif decide (0 ≤ (rg0 a).1.1) then (0, (rg0 a).1.2) else fI, fL)
  | .op2 .lcmp a b => (bif tq a b then (0, 0) else lcr (rg0 a).2 (rg0 b).2, fL)
  | .op2 .land a b => (fI, bif decide (0 ≤ (rg0 b).2.1) || decide (0 ≤ (rg0 a).2.1) then (0, 9223372036854775807) else fL)
  | .op1 .i2c _ => ((0, 65535), fL)
  | .op1 .i2b _ => ((-128, 127), fL)
  | .op1 .i2l a => (fI, (rg0 a).1)
  | _ => (fI, fL)
def bI (p : Int × Int) (x : Int32) : Prop := p.1 ≤ x.toInt ∧ x.toInt ≤ p.2
def bL (p : Int × Int) (x : Int64) : Prop := p.1 ≤ x.toInt ∧ x.toInt ≤ p.2
theorem bI_full (x : Int32) : bI fI x := by have := rng32 x; simp only [bI, fI]; omega
theorem bL_full (x : Int64) : bL fL x := by have := rng64 x; simp only [bL, fL]; omega
theorem cut_ok {lo hi : Int} {x : Int32} {v : Int} (h1 : lo ≤ v) (h2 : v ≤ hi) (h3 : (x.toInt - v) % 4294967296 = 0) : bI (cut lo hi) x := by
  have := rng32 x
  unfold cut
  cases h : (decide (-2147483648 ≤ lo) && decide (hi ≤ 2147483647))
  · exact bI_full x
  · simp only [Bool.and_eq_true, decide_eq_true_eq] at h
    simp only [cond_true, bI]; omega
theorem lcr_ok {p q : Int × Int} {x y : Int64} (hx : bL p x) (hy : bL q y) : bI (lcr p q) (lcmpW x y) := by
  have h := c_lcmp x y
  obtain ⟨h1, h2⟩ := hx
  obtain ⟨h3, h4⟩ := hy
  obtain ⟨c1, c2, c3⟩ := h
  unfold lcr
  have hc : (lcmpW x y).toInt = -1 ∨ (lcmpW x y).toInt = 0 ∨ (lcmpW x y).toInt = 1 := by
    rcases Int.lt_trichotomy x.toInt y.toInt with h | h | h
    · exact Or.inl (c1 h)
    · exact Or.inr (Or.inl (c2 h))
    · exact Or.inr (Or.inr (c3 h))
  cases q1 : decide (p.2 < q.1)
  · cases q2 : decide (q.2 < p.1)
    · cases q3 : (decide (p.1 = p.2) && (decide (q.1 = q.2) && decide (p.1 = q.1)))
      · cases q4 : decide (p.2 ≤ q.1)
        · cases q5 : decide (q.2 ≤ p.1)
          · simp only [cond_false, cond_true, bI]; omega
          · simp only [cond_false, cond_true, bI]; simp only [decide_eq_true_eq] at q5
            rcases Int.lt_trichotomy x.toInt y.toInt with h | h | h
            · omega
            · have := c2 h; omega
            · have := c3 h; omega
        · simp only [cond_false, cond_true, bI]; simp only [decide_eq_true_eq] at q4
          rcases Int.lt_trichotomy x.toInt y.toInt with h | h | h
          · have := c1 h; omega
          · have := c2 h; omega
          · omega
      · simp only [Bool.and_eq_true, decide_eq_true_eq] at q3
        have := c2 (by omega)
        simp only [cond_false, cond_true, bI]; omega
    · simp only [decide_eq_true_eq] at q2
      have := c3 (by omega)
      simp only [cond_false, cond_true, bI]; omega
  · simp only [decide_eq_true_eq] at q1
    have := c1 (by omega)
    simp only [cond_true, bI]; omega
theorem rg0_ok (A : En) : ∀ t : Term, bI (rg0 t).1 (te A t).1 ∧ bL (rg0 t).2 (te A t).2 := by
  intro t
  induction t with
  | int v => exact ⟨⟨Int.le_refl _, Int.le_refl _⟩, bL_full _⟩
  | long v => exact ⟨bI_full _, ⟨Int.le_refl _, Int.le_refl _⟩⟩
  | add a b ia ib =>
    refine ⟨?_, bL_full _⟩
    exact cut_ok (v := (te A a).1.toInt + (te A b).1.toInt) (by have := ia.1.1; have := ib.1.1; omega) (by have := ia.1.2; have := ib.1.2; omega) (c_iadd _ _)
  | sub a b ia ib =>
    refine ⟨?_, bL_full _⟩
    exact cut_ok (v := (te A a).1.toInt - (te A b).1.toInt) (by have := ia.1.1; have := ib.1.2; omega) (by have := ia.1.2; have := ib.1.1; omega) (c_isub _ _)
  | rem a b ia ib =>
    refine ⟨?_, bL_full _⟩
    have ia := ia.1
    have ib := ib.1
    show bI (bif decide (0 < (rg0 b).1.1) then (bif decide (0 ≤ (rg0 a).1.1) then (0, (rg0 b).1.2 - 1) else (1 - (rg0 b).1.2, (rg0 b).1.2 - 1)) else fI) ((te A a).1 % (te A b).1)
    have h := c_iremV (te A a).1 (te A b).1
    cases q1 : decide (0 < (rg0 b).1.1)
    · exact bI_full _
    · simp only [decide_eq_true_eq] at q1
      have hb : 0 < (te A b).1.toInt := by have := ib.1; omega
      have hb2 := ib.2
      have ha1 := ia.1
      cases q2 : decide (0 ≤ (rg0 a).1.1)
      · simp only [cond_true, cond_false, bI]
        by_cases q : 0 ≤ (te A a).1.toInt
        · have := h.1 q hb; omega
        · have := h.2 (by omega) hb; omega
      · simp only [decide_eq_true_eq] at q2
        have := h.1 (by omega) hb
        simp only [cond_true, bI]; omega
  | op2 o a b ia ib =>
    cases o with
    | iand =>
      refine ⟨?_, bL_full _⟩
      have ia := ia.1
      have ib := ib.1
      show bI (bif decide (0 ≤ (rg0 b).1.1) then (0, (rg0 b).1.2) else bif decide (0 ≤ (rg0 a).1.1) then (0, (rg0 a).1.2) else fI) ((te A a).1 &&& (te A b).1)
      have ha1 := ia.1
      have ha2 := ia.2
      have hb1 := ib.1
      have hb2 := ib.2
      cases q1 : decide (0 ≤ (rg0 b).1.1)
      · cases q2 : decide (0 ≤ (rg0 a).1.1)
        · exact bI_full _
        · simp only [decide_eq_true_eq] at q2
          have := c_and' (te A a).1 (te A b).1 (by omega)
          simp only [cond_true, cond_false, bI]; omega
      · simp only [decide_eq_true_eq] at q1
        have := c_and (te A a).1 (te A b).1 (by omega)
        simp only [cond_true, bI]; omega
    | lcmp =>
      refine ⟨?_, bL_full _⟩
      show bI (bif tq a b then (0, 0) else lcr (rg0 a).2 (rg0 b).2) (lcmpW (te A a).2 (te A b).2)
      cases q : tq a b
      · exact lcr_ok ia.2 ib.2
      · obtain rfl := tq_eq q
        have e : lcmpW (te A a).2 (te A a).2 = 0 := by simp [lcmpW, Int64.lt_irrefl]
        rw [e]; show bI (0, 0) 0; exact ⟨by decide, by decide⟩
    | land =>
      refine ⟨bI_full _, ?_⟩
      have h1 := ia.2.1
      have h2 := ib.2.1
      have h3 := c_andSL (te A a).2 (te A b).2
      have h4 := rng64 ((te A a).2 &&& (te A b).2)
      show bL (bif decide (0 ≤ (rg0 b).2.1) || decide (0 ≤ (rg0 a).2.1) then (0, 9223372036854775807) else fL) ((te A a).2 &&& (te A b).2)
      cases q : (decide (0 ≤ (rg0 b).2.1) || decide (0 ≤ (rg0 a).2.1))
      · exact bL_full _
      · simp only [Bool.or_eq_true, decide_eq_true_eq] at q
        simp only [cond_true, bL]
        rcases q with q | q
        · have := h3.2.2 (by omega); omega
        · have := h3.2.1 (by omega); omega
    | _ => exact ⟨bI_full _, bL_full _⟩
  | op1 o a ia =>
    cases o with
    | i2c => refine ⟨?_, bL_full _⟩; have := c_i2c (te A a).1; show bI (0, 65535) _; simp only [bI, te, op1v]; omega
    | i2b => refine ⟨?_, bL_full _⟩; have := c_i2b (te A a).1; show bI (-128, 127) _; simp only [bI, te, op1v]; omega
    | i2l => refine ⟨bI_full _, ?_⟩; have := c_i2l (te A a).1; have h1 := ia.1.1; have h2 := ia.1.2; show bL (rg0 a).1 (te A a).1.toInt64; simp only [bL]; omega
    | _ => exact ⟨bI_full _, bL_full _⟩
  | _ => exact ⟨bI_full _, bL_full _⟩
/-- what one fact says of a term -/
def nr1 (t : Term) (c : Cond) (p : Int × Int) : Int × Int := match c with
  | .eq a (.int v) => bif tq a t then (v.toInt, v.toInt) else p
  | .lt a (.int v) => bif tq a t then (p.1, bif decide (v.toInt - 1 < p.2) then v.toInt - 1 else p.2) else p
  | .lt (.int v) a => bif tq a t then (bif decide (p.1 < v.toInt + 1) then v.toInt + 1 else p.1, p.2) else p
  | .not (.lt a (.int v)) => bif tq a t then (bif decide (p.1 < v.toInt) then v.toInt else p.1, p.2) else p
  | .not (.lt (.int v) a) => bif tq a t then (p.1, bif decide (v.toInt < p.2) then v.toInt else p.2) else p
  | .not (.eq a (.int v)) => bif tq a t then (bif decide (p.1 = v.toInt) then p.1 + 1 else p.1, bif decide (p.2 = v.toInt) then p.2 - 1 else p.2) else p
  | _ => p
def nr (t : Term) : List Cond → Int × Int → Int × Int
  | [], p => p
  | c :: F, p => nr1 t c (nr t F p)
/-- the facts on a comparison of longs are read both ways -/
def rg (F : List Cond) (t : Term) : Int × Int := match t with
  | .op2 .lcmp a b => nr t F (-(nr (.op2 .lcmp b a) F (rg0 (.op2 .lcmp b a)).1).2, -(nr (.op2 .lcmp b a) F (rg0 (.op2 .lcmp b a)).1).1)
  | t => nr t F (nr t F (rg0 t).1)
theorem nr1_ok {A : En} {t : Term} {c : Cond} {p : Int × Int} (hc : hold A c) (h : bI p (te A t).1) : bI (nr1 t c p) (te A t).1 := by
  obtain ⟨h1, h2⟩ := h
  unfold nr1
  split
  all_goals first
    | exact ⟨h1, h2⟩
    | (rename_i a v
       cases q : tq a t
       · exact ⟨h1, h2⟩
       · obtain rfl := tq_eq q
         simp only [hold, te, Int32.lt_iff_toInt_lt, ← Int32.toInt_inj] at hc
         simp only [cond_true, bI]
         try simp only [Bool.cond_decide]
         refine ⟨?_, ?_⟩ <;> first | omega | (split <;> omega))
    | (rename_i v a _
       cases q : tq a t
       · exact ⟨h1, h2⟩
       · obtain rfl := tq_eq q
         simp only [hold, te, Int32.lt_iff_toInt_lt, ← Int32.toInt_inj] at hc
         simp only [cond_true, bI]
         try simp only [Bool.cond_decide]
         refine ⟨?_, ?_⟩ <;> first | omega | (split <;> omega))
theorem nr_ok {A : En} {t : Term} : ∀ {F : List Cond} {p : Int × Int}, holds A F → bI p (te A t).1 → bI (nr t F p) (te A t).1
  | [], p, _, h => h
  | c :: F, p, hF, h => nr1_ok (hF c (List.mem_cons_self ..)) (nr_ok (fun d hd => hF d (List.mem_cons_of_mem _ hd)) h)
theorem cmp_flip (x y : Int64) : (lcmpW x y).toInt = -(lcmpW y x).toInt := by
  have h1 := c_lcmp x y
  have h2 := c_lcmp y x
  rcases Int.lt_trichotomy x.toInt y.toInt with h | h | h
  · have a := h1.1 h; have b := h2.2.2 h; omega
  · have a := h1.2.1 h; have b := h2.2.1 h.symm; omega
  · have a := h1.2.2 h; have b := h2.1 h; omega
theorem rg_ok {A : En} {F : List Cond} (hF : holds A F) (t : Term) : bI (rg F t) (te A t).1 := by
  unfold rg
  split
  · rename_i a b
    refine nr_ok hF ?_
    obtain ⟨h1, h2⟩ := nr_ok hF (rg0_ok A (.op2 .lcmp b a)).1
    have h3 : (te A (.op2 .lcmp a b)).1.toInt = -(te A (.op2 .lcmp b a)).1.toInt := cmp_flip _ _
    constructor <;> simp only <;> omega
  · exact nr_ok hF (nr_ok hF (rg0_ok A t).1)
def cq : Cond → Cond → Bool
  | .eq a b, .eq c d => tq a c && tq b d
  | .lt a b, .lt c d => tq a c && tq b d
  | _, _ => false
theorem cq_eq {c d : Cond} (h : cq c d = true) : c = d := by
  unfold cq at h
  split at h
  · simp only [Bool.and_eq_true] at h; rw [tq_eq h.1, tq_eq h.2]
  · simp only [Bool.and_eq_true] at h; rw [tq_eq h.1, tq_eq h.2]
  · cases h
def lk (c : Cond) : List Cond → Option Bool
  | [] => none
  | .not d :: F => bif cq c d then some false else lk c F
  | d :: F => bif cq c d then some true else lk c F
theorem lk_ok {A : En} {c : Cond} : ∀ {F : List Cond} {b : Bool}, holds A F → lk c F = some b → (hold A c ↔ b = true)
  | [], b, _, h => by cases h
  | d :: F, b, hF, h => by
    have hd := hF d (List.mem_cons_self ..)
    have ih := fun b h => lk_ok (A := A) (c := c) (F := F) (b := b) (fun d hd => hF d (List.mem_cons_of_mem _ hd)) h
    unfold lk at h
    split at h
    · cases h
    · rename_i d' F' q
      cases q
      cases q : cq c d'
      · rw [q] at h; exact ih b h
      · rw [q] at h; cases h; obtain rfl := cq_eq q
        exact ⟨fun x => absurd x hd, fun x => by cases x⟩
    · rename_i d' F' _ q
      cases q
      cases q : cq c d
      · rw [q] at h; exact ih b h
      · rw [q] at h; cases h; obtain rfl := cq_eq q
        exact ⟨fun _ => rfl, fun _ => hd⟩
/-- is the atom decided by the facts? -/
def dec (F : List Cond) (c : Cond) : Option Bool := match c with
  | .eq (.int x) (.int y) => some (x == y)
  | .lt (.int x) (.int y) => some (decide (x < y))
  | .eq a b => bif decide ((rg F a).2 < (rg F b).1) || decide ((rg F b).2 < (rg F a).1) then some false else
      bif decide ((rg F a).1 = (rg F a).2) && (decide ((rg F b).1 = (rg F b).2) && decide ((rg F a).1 = (rg F b).1)) then some true else lk c F
  | .lt a b => bif decide ((rg F a).2 < (rg F b).1) then some true else bif decide ((rg F b).2 ≤ (rg F a).1) then some false else lk c F
  | _ => none
theorem dec_ok {A : En} {F : List Cond} {c : Cond} {b : Bool} (hF : holds A F) (h : dec F c = some b) : hold A c ↔ b = true := by
  unfold dec at h
  split at h
  · cases h; simp [hold, te]
  · cases h; simp [hold, te]
  · rename_i a b' _
    have ha := rg_ok hF a
    have hb := rg_ok hF b'
    obtain ⟨a1, a2⟩ := ha
    obtain ⟨b1, b2⟩ := hb
    simp only [hold, ← Int32.toInt_inj]
    cases q1 : (decide ((rg F a).2 < (rg F b').1) || decide ((rg F b').2 < (rg F a).1))
    · cases q2 : (decide ((rg F a).1 = (rg F a).2) && (decide ((rg F b').1 = (rg F b').2) && decide ((rg F a).1 = (rg F b').1)))
      · rw [q1, q2] at h; have := lk_ok hF h; simpa only [hold, ← Int32.toInt_inj] using this
      · rw [q1, q2] at h; cases h
        simp only [Bool.and_eq_true, decide_eq_true_eq] at q2
        simp only [iff_true]; omega
    · rw [q1] at h; cases h
      simp only [Bool.or_eq_true, decide_eq_true_eq] at q1
      simp only [Bool.false_eq_true, iff_false]; omega
  · rename_i a b' _
    have ha := rg_ok hF a
    have hb := rg_ok hF b'
    obtain ⟨a1, a2⟩ := ha
    obtain ⟨b1, b2⟩ := hb
    cases q1 : decide ((rg F a).2 < (rg F b').1)
    · cases q2 : decide ((rg F b').2 ≤ (rg F a).1)
      · rw [q1, q2] at h; exact lk_ok hF h
      · rw [q1, q2] at h; cases h
        simp only [decide_eq_true_eq] at q2
        simp only [hold, Int32.lt_iff_toInt_lt, Bool.false_eq_true, iff_false]; omega
    · rw [q1] at h; cases h
      simp only [decide_eq_true_eq] at q1
      simp only [hold, Int32.lt_iff_toInt_lt, iff_true]; omega
  · cases h
/-- a branch: decided, or both ways with the fact noted -/
def fork (F : List Cond) (c : Cond) (yes no : List Cond → Nx) : List Nx := match dec F c with
  | some true => [yes F]
  | some false => [no F]
  | none => [yes (c :: F), no (.not c :: F)]
theorem fork_ok {A : En} {F : List Cond} {c : Cond} {yes no : List Cond → Nx} (hF : holds A F) (hy : ∀ G, (yes G).1 = G) (hn : ∀ G, (no G).1 = G) :
    ∃ G, holds A G ∧ ((hold A c ∧ yes G ∈ fork F c yes no) ∨ (¬ hold A c ∧ no G ∈ fork F c yes no)) := by
  unfold fork
  cases h : dec F c with
  | none =>
    by_cases q : hold A c
    · exact ⟨c :: F, holds_cons q hF, Or.inl ⟨q, List.mem_cons_self ..⟩⟩
    · exact ⟨.not c :: F, holds_cons (c := .not c) q hF, Or.inr ⟨q, List.mem_cons_of_mem _ (List.mem_cons_self ..)⟩⟩
  | some b =>
    have q := dec_ok hF h
    cases b with
    | true => exact ⟨F, hF, Or.inl ⟨q.mpr rfl, List.mem_cons_self ..⟩⟩
    | false => exact ⟨F, hF, Or.inr ⟨fun x => (by cases q.mp x), List.mem_cons_self ..⟩⟩
/-- a term's value, where the facts fix it -/
def cv (F : List Cond) (t : Term) : Option Int32 := match t with
  | .int v => some v
  | _ => bif decide ((rg F t).1 = (rg F t).2) then some (Int32.ofInt (rg F t).1) else none
theorem cv_ok {A : En} {F : List Cond} {t : Term} {v : Int32} (hF : holds A F) (h : cv F t = some v) : (te A t).1 = v := by
  unfold cv at h
  split at h
  · cases h; rfl
  · cases q : decide ((rg F t).1 = (rg F t).2)
    · rw [q] at h; cases h
    · rw [q] at h; cases h
      simp only [decide_eq_true_eq] at q
      obtain ⟨h1, h2⟩ := rg_ok hF t
      have : (rg F t).1 = (te A t).1.toInt := by omega
      rw [this, Int32.ofInt_toInt]
/-! ### 3. The heap of what the run has made -/
section Heap
variable (Z : State) (hz : Heap) (sh : List Sh) (A : En) (O : Nat → Addr)
def ArOk (h : Heap) (a : Addr) (ty : FieldType) (xs : List SV) : Prop := ∃ cl : Cell, Arr Z h a cl ty ∧ cl.slots = (xs.map (vv A O hz.size)).toArray ∧ xs.length < 2 ^ 31 ∧ ∀ C, ty = .object C → Ovr Z cl.cls C
def ClOk (h : Heap) (a : Addr) (C : String) (fs : List Fi) (xs : List SV) : Prop := Exa Z h a C ∧ xs.length = fs.length ∧ ∀ (i : Nat) (f : Fi) (x : SV), fs[i]? = some f → xs[i]? = some x → Fld Z h a f.1 f.2.1 f.2.2.1 (vv A O hz.size x)
def ObAt (h : Heap) (a : Addr) (o : Ob) : Prop := match sh[o.1]? with
  | some (some ty, _) => ArOk Z hz A O h a ty o.2
  | some (none, C, _, fs) => ClOk Z hz A O h a C fs o.2
  | none => False
def HD (h : Heap) (D : List Ob) : Prop := h.size = hz.size + D.length ∧ (∀ a, a < hz.size → h[a]? = hz[a]?) ∧ ∀ (k : Nat) (o : Ob), D[k]? = some o → ObAt Z hz sh A O h (hz.size + k) o
/-- the words on a shape that the sheet bears -/
def ShOk (a0 : Array Value) (s : Sh) : Prop := s.1 = none → (Cond.instantiable s.2.1 s.2.2.1).before a0 Z = true ∧ (∀ f ∈ s.2.2.2, Laid Z a0 s.2.1 f.1 f.2.1 f.2.2.1 ∧ parseFieldDescriptor f.2.2.1 = some f.2.2.2) ∧ (s.2.2.2.map (·.2.1)).Nodup
end Heap
section HeapLaws
variable {Z : State} {hz : Heap} {sh : List Sh} {A : En} {O : Nat → Addr} {h h' : Heap} {D : List Ob} {a0 : Array Value}
theorem HD.ext (H : HD Z hz sh A O h D) : Ext hz h := by
  refine ⟨by rw [H.1]; omega, fun a c hc => ?_⟩
  rw [H.2.1 a (Array.getElem?_eq_some_iff.mp hc).1]; exact hc
theorem ArOk.ext {a : Addr} {ty : FieldType} {xs : List SV} (E : Ext h h') (X : ArOk Z hz A O h a ty xs) : ArOk Z hz A O h' a ty xs := by
  obtain ⟨cl, h1, h2⟩ := X; exact ⟨cl, h1.ext E, h2⟩
theorem ClOk.ext {a : Addr} {C : String} {fs : List Fi} {xs : List SV} (E : Ext h h') (X : ClOk Z hz A O h a C fs xs) : ClOk Z hz A O h' a C fs xs :=
  ⟨X.1.ext E, X.2.1, fun i f x hf hx => (X.2.2 i f x hf hx).ext E⟩
theorem ObAt.ext {a : Addr} {o : Ob} (E : Ext h h') (X : ObAt Z hz sh A O h a o) : ObAt Z hz sh A O h' a o := by
  unfold ObAt at X ⊢
  split
  · rename_i q; rw [q] at X; exact ArOk.ext E X
  · rename_i q; rw [q] at X; exact ClOk.ext E X
  · rename_i q; rw [q] at X; exact X
theorem ObAt.other {a b : Addr} {o : Ob} {sl : Nat} {v : Value} (W : Wr h h' a sl v) (ne : b ≠ a) (X : ObAt Z hz sh A O h b o) : ObAt Z hz sh A O h' b o := by
  unfold ObAt at X ⊢
  split
  · rename_i q; rw [q] at X; obtain ⟨cl, h1, h2⟩ := X; exact ⟨cl, h1.other W ne, h2⟩
  · rename_i q; rw [q] at X; exact ⟨X.1.wr W, X.2.1, fun i f x hf hx => (X.2.2 i f x hf hx).other W (Or.inl ne)⟩
  · rename_i q; rw [q] at X; exact X
/-- a new object behind the last -/
theorem HD.push (H : HD Z hz sh A O h D) {o : Ob} (E : Ext h h') (hs : h'.size = h.size + 1) (ho : ObAt Z hz sh A O h' h.size o) : HD Z hz sh A O h' (D ++ [o]) := by
  refine ⟨by rw [hs, H.1, List.length_append]; rfl, fun a ha => ?_, fun k o' hk => ?_⟩
  · rw [← H.2.1 a ha]
    have hlt : a < h.size := by rw [H.1]; omega
    rw [E.2 a _ (Array.getElem?_eq_getElem hlt), Array.getElem?_eq_getElem hlt]
  · rcases Nat.lt_trichotomy k D.length with q | q | q
    · rw [List.getElem?_append_left q] at hk; exact (H.2.2 k o' hk).ext E
    · subst q
      rw [List.getElem?_append_right (Nat.le_refl _), Nat.sub_self] at hk
      cases hk; rw [← H.1]; exact ho
    · rw [List.getElem?_append_right (by omega)] at hk
      have : k - D.length ≠ 0 := by omega
      cases hq : k - D.length with
      | zero => exact absurd hq this
      | succ n => rw [hq] at hk; cases hk
/-- one object is written -/
theorem HD.set (H : HD Z hz sh A O h D) {k : Nat} {o o' : Ob} {sl : Nat} {v : Value} (hk : D[k]? = some o) (W : Wr h h' (hz.size + k) sl v) (ho : ObAt Z hz sh A O h' (hz.size + k) o') : HD Z hz sh A O h' (D.set k o') := by
  refine ⟨by rw [W.size, H.1, List.length_set], fun a ha => ?_, fun j o2 hj => ?_⟩
  · rw [← H.2.1 a ha]
    have hlt : a < h.size := by rw [H.1]; omega
    obtain ⟨cb, e1, -, -, -, e5, -⟩ := wr_at W (Array.getElem?_eq_getElem hlt)
    rw [e1, e5 (Nat.ne_of_lt (Nat.lt_of_lt_of_le ha (Nat.le_add_right _ _))), Array.getElem?_eq_getElem hlt]
  · by_cases q : j = k
    · subst q
      rw [List.getElem?_set_self (List.getElem?_eq_some_iff.mp hk).1] at hj
      cases hj; exact ho
    · rw [List.getElem?_set_ne (Ne.symm q)] at hj
      exact (H.2.2 j o2 hj).other W (fun e => q (Nat.add_left_cancel e))
theorem ObAt.arr {a : Addr} {o : Ob} {ty : FieldType} {r} (q : sh[o.1]? = some (some ty, r)) : ObAt Z hz sh A O h a o = ArOk Z hz A O h a ty o.2 := by unfold ObAt; rw [q]
theorem ObAt.cls {a : Addr} {o : Ob} {C : String} {n : Nat} {fs : List Fi} (q : sh[o.1]? = some (none, C, n, fs)) : ObAt Z hz sh A O h a o = ClOk Z hz A O h a C fs o.2 := by unfold ObAt; rw [q]
theorem ArOk.set {a : Addr} {ty : FieldType} {xs : List SV} (X : ArOk Z hz A O h a ty xs) {j : Nat} {x : SV} (W : Wr h h' a j (vv A O hz.size x)) : ArOk Z hz A O h' a ty (xs.set j x) := by
  obtain ⟨cl, h1, h2, h3, h4⟩ := X
  refine ⟨_, h1.same W, ?_, by rw [List.length_set]; exact h3, h4⟩
  show cl.slots.setIfInBounds j _ = _
  rw [h2, List.map_set]; simp
theorem ClOk.set {a : Addr} {C : String} {n : Nat} {fs : List Fi} {xs : List SV} (hs : ShOk Z a0 (none, C, n, fs)) (X : ClOk Z hz A O h a C fs xs) {i : Nat} {f : Fi} (hf : fs[i]? = some f) {x : SV} (W : Wr h h' a (RoadKit.slotOf Z f.1 f.2.1 f.2.2.1) (vv A O hz.size x)) : ClOk Z hz A O h' a C fs (xs.set i x) := by
  obtain ⟨h1, h2, h3⟩ := X
  obtain ⟨-, s2, s3⟩ := hs rfl
  refine ⟨h1.wr W, by rw [List.length_set]; exact h2, fun j g y hg hy => ?_⟩
  by_cases q : j = i
  · subst q
    cases hf.symm.trans hg
    have hlt : j < xs.length := by rw [h2]; exact (List.getElem?_eq_some_iff.mp hf).1
    rw [List.getElem?_set_self hlt] at hy
    cases hy
    exact Fld.same W (h3 j f xs[j] hf (List.getElem?_eq_getElem hlt))
  · rw [List.getElem?_set_ne (Ne.symm q)] at hy
    obtain ⟨l1, p1⟩ := s2 g (List.mem_of_getElem? hg)
    obtain ⟨l2, p2⟩ := s2 f (List.mem_of_getElem? hf)
    refine Fld.other W (h3 j g y hg hy) (Or.inr (slot_ne l1 l2 ?_ p1 p2))
    intro e
    have hj : (fs.map (·.2.1))[j]? = some g.2.1 := by simp [hg]
    have hi : (fs.map (·.2.1))[i]? = some f.2.1 := by simp [hf]
    have hjl : j < (fs.map (·.2.1)).length := (List.getElem?_eq_some_iff.mp hj).1
    exact q ((List.getElem?_inj hjl s3).mp (by rw [hj, hi, e]))
end HeapLaws
/-! ### 4. What a step says -/
section Sim
variable (l : Launch) (Z : State) (hz : Heap) (sh : List Sh) (A : En) (O : Nat → Addr) (y : MethodName) (bytes : ByteArray) (maxL : Nat) (ret : Option FieldType)
def Act (p : Program) (s : State) (m : MethodId) (meth : Method) (c : Code) : Prop := p.tables.exec = Jvm.exec ∧ Z.Warmed39 s.vm ∧ c.code = bytes ∧ c.maxLocals = maxL ∧ s.vm.findClass y.cls = some m.cls ∧ meth.name = y.name ∧ meth.sig.returnType = ret ∧ meth.locks = false
def frm (m : MethodId) (pc : Nat) (cf : Cf) : JFrame := mkF m pc (cf.1.map (sl1 A O hz.size)).toArray (cf.2.1.map (vv A O hz.size))
def Sim (fr lo pc : Nat) (cf : Cf) (pc' : Nat) (cf' : Cf) : Prop :=
  cf.2.2.1.length ≤ cf'.2.2.1.length ∧ cf.2.2.2 ≤ cf'.2.2.2 ∧
  ∀ (d0 s0 : Nat) (p : Program) (e : Env) (R : Room) (s : State) (m : MethodId) (args : Array Value) (below : List Frame) (meth : Method) (c : Code) (T : State) (locs : List Loc),
    d0 ≤ cf.2.2.1.length → s0 ≤ cf.2.2.2 → s.heap.size = hz.size + d0 → Act Z y bytes maxL ret p s m meth c →
    Stand p l e R s m args below meth c T locs (cf.2.2.1.length - d0) (cf.2.2.2 - s0) → HD Z hz sh A O T.heap cf.2.2.1 → Fr hz.size locs →
    cf'.2.2.1.length - d0 ≤ R.cells → cf'.2.2.2 - s0 ≤ R.slots → fr ≤ R.frames → lo ≤ R.locals →
    ∃ T' locs', Stand p l e R s m args below meth c T' locs' (cf'.2.2.1.length - d0) (cf'.2.2.2 - s0) ∧ HD Z hz sh A O T'.heap cf'.2.2.1 ∧ Fr hz.size locs' ∧
      ∀ target, Steps p.tables e below (T'.setTop (frm hz A O m pc' cf')) target → Steps p.tables e below (T.setTop (frm hz A O m pc cf)) target
def Good (pc : Nat) (f : Stp) : Prop := ∀ F cf ns, f F cf = some ns → holds A F → ∃ n ∈ ns, holds A n.1 ∧ Sim l Z hz sh A O y bytes maxL ret 0 0 pc cf n.2.1 n.2.2
/-- the run from here to the method's return -/
def Ret (fr lo pc : Nat) (cf : Cf) (v : Option SV) (D' : List Ob) (sl' : Nat) : Prop :=
  cf.2.2.1.length ≤ D'.length ∧ cf.2.2.2 ≤ sl' ∧
  ∀ (d0 s0 : Nat) (p : Program) (e : Env) (R : Room) (s : State) (m : MethodId) (args : Array Value) (below : List Frame) (meth : Method) (c : Code) (T : State) (locs : List Loc),
    d0 ≤ cf.2.2.1.length → s0 ≤ cf.2.2.2 → s.heap.size = hz.size + d0 → Act Z y bytes maxL ret p s m meth c →
    Stand p l e R s m args below meth c T locs (cf.2.2.1.length - d0) (cf.2.2.2 - s0) → HD Z hz sh A O T.heap cf.2.2.1 → Fr hz.size locs →
    D'.length - d0 ≤ R.cells → sl' - s0 ≤ R.slots → fr ≤ R.frames → lo ≤ R.locals →
    ∃ s₂ locs', Steps p.tables e below (T.setTop (frm hz A O m pc cf)) s₂ ∧ s₂.status = .running ∧ Ended s₂ below (.returned (v.map (vv A O hz.size))) ∧ HD Z hz sh A O s₂.heap D' ∧ Fr hz.size locs' ∧
      s.WarmedH s₂.vm ∧ s.sameButNew ({ s₂ with vm := s.vm } : State) locs' (D'.length - d0) (sl' - s0)
end Sim
section SimLaws
variable {l : Launch} {Z : State} {hz : Heap} {sh : List Sh} {A : En} {O : Nat → Addr} {y : MethodName} {bytes : ByteArray} {maxL : Nat} {ret : Option FieldType}
theorem Sim.thenRet {fr lo pc pc' : Nat} {cf cf' : Cf} {v : Option SV} {D' : List Ob} {sl' : Nat} (S : Sim l Z hz sh A O y bytes maxL ret fr lo pc cf pc' cf') (R : Ret l Z hz sh A O y bytes maxL ret fr lo pc' cf' v D' sl') :
    Ret l Z hz sh A O y bytes maxL ret fr lo pc cf v D' sl' := by
  obtain ⟨s1, s2, s3⟩ := S
  obtain ⟨r1, r2, r3⟩ := R
  refine ⟨Nat.le_trans s1 r1, Nat.le_trans s2 r2, ?_⟩
  intro d0 s0 p e R s m args below meth c T locs hd hs hh hA X H N hc hl hf hlo
  obtain ⟨T', locs', X', H', N', st⟩ := s3 d0 s0 p e R s m args below meth c T locs hd hs hh hA X H N (by omega) (by omega) hf hlo
  obtain ⟨s₂, L2, k1, k2⟩ := r3 d0 s0 p e R s m args below meth c T' locs' (by omega) (by omega) hh hA X' H' N' hc hl hf hlo
  exact ⟨s₂, L2, st _ k1, k2⟩
theorem Sim.mono {fr lo fr' lo' pc pc' : Nat} {cf cf' : Cf} (S : Sim l Z hz sh A O y bytes maxL ret fr lo pc cf pc' cf') (h1 : fr ≤ fr') (h2 : lo ≤ lo') : Sim l Z hz sh A O y bytes maxL ret fr' lo' pc cf pc' cf' := by
  obtain ⟨s1, s2, s3⟩ := S
  refine ⟨s1, s2, ?_⟩
  intro d0 s0 p e R s m args below meth c T locs hd hs hh hA X H N hc hl hf hlo
  exact s3 d0 s0 p e R s m args below meth c T locs hd hs hh hA X H N hc hl (Nat.le_trans h1 hf) (Nat.le_trans h2 hlo)
/-- a step that moves nothing but the frame -/
theorem sim_pure {pc pc' sl : Nat} {L L' : List SL} {S S' : List SV} {D : List Ob}
    (h : ∀ (p : Program) (e : Env) (R : Room) (s : State) (m : MethodId) (args : Array Value) (below : List Frame) (meth : Method) (c : Code) (T : State) (locs : List Loc) (cells slots : Nat),
      Act Z y bytes maxL ret p s m meth c → Stand p l e R s m args below meth c T locs cells slots → HD Z hz sh A O T.heap D →
      ∀ target, Steps p.tables e below (T.setTop (frm hz A O m pc' (L', S', D, sl))) target → Steps p.tables e below (T.setTop (frm hz A O m pc (L, S, D, sl))) target) :
    Sim l Z hz sh A O y bytes maxL ret 0 0 pc (L, S, D, sl) pc' (L', S', D, sl) :=
  ⟨Nat.le_refl _, Nat.le_refl _, fun d0 s0 p e R s m args below meth c T locs hd hs hh hA X H N hc hl hf hlo => ⟨T, locs, X, H, N, h p e R s m args below meth c T locs _ _ hA X H⟩⟩
theorem loc_at {L : List SL} {k : Nat} {x : SV} (h : L[k]? = some (some (some x))) : (L.map (sl1 A O hz.size)).toArray[k]? = some (.val (vv A O hz.size x)) := by
  simp [h, sl1]
/-! #### the single steps -/
def one (F : List Cond) (nx : Nat) (cf : Cf) : Option (List Nx) := some [(F, nx, cf)]
theorem good_one {pc nx : Nat} {f : Stp} (h : ∀ F L S D sl ns, f F (L, S, D, sl) = some ns → ∃ L' S', ns = [(F, nx, (L', S', D, sl))] ∧ (holds A F → 
    ∀ (p : Program) (e : Env) (R : Room) (s : State) (m : MethodId) (args : Array Value) (below : List Frame) (meth : Method) (c : Code) (T : State) (locs : List Loc) (cells slots : Nat),
      Act Z y bytes maxL ret p s m meth c → Stand p l e R s m args below meth c T locs cells slots → HD Z hz sh A O T.heap D →
      ∀ target, Steps p.tables e below (T.setTop (frm hz A O m nx (L', S', D, sl))) target → Steps p.tables e below (T.setTop (frm hz A O m pc (L, S, D, sl))) target)) :
    Good l Z hz sh A O y bytes maxL ret pc f := by
  intro F cf ns hf hF
  obtain ⟨L, S, D, sl⟩ := cf
  obtain ⟨L', S', rfl, k⟩ := h F L S D sl ns hf
  exact ⟨_, List.mem_cons_self .., hF, sim_pure (k hF)⟩
def sLoad (kd k nx : Nat) : Stp := fun F cf => match cf.1[k]? with
  | some (some (some x)) => bif x.1 == kd then some [(F, nx, (cf.1, x :: cf.2.1, cf.2.2))] else none
  | _ => none
theorem sLoad_inv {kd k nx : Nat} {F : List Cond} {L : List SL} {S : List SV} {D : List Ob} {sl : Nat} {ns : List Nx} (h : sLoad kd k nx F (L, S, D, sl) = some ns) : ∃ t, L[k]? = some (some (some (kd, t))) ∧ ns = [(F, nx, (L, (kd, t) :: S, D, sl))] := by
  simp only [sLoad] at h
  split at h
  · rename_i x q
    obtain ⟨k', t⟩ := x
    cases hk : (k' == kd)
    · rw [hk] at h; cases h
    · rw [hk] at h; obtain rfl := beq_iff_eq.mp hk; cases h; exact ⟨t, q, rfl⟩
  · cases h
theorem g_iload {pc k : Nat} (hd : decode bytes pc = .ok (.iload k, 2)) : Good l Z hz sh A O y bytes maxL ret pc (sLoad 0 k (pc + 2)) :=
  good_one fun F L S D sl ns h => by
    obtain ⟨t, q, rfl⟩ := sLoad_inv h
    refine ⟨_, _, rfl, fun hF p e R s m args below meth c T locs cells slots hA X H target st => ?_⟩
    exact XS.iload X.here hA.1 rfl (hb hA.2.2.1 hd) (loc_at q) st
theorem g_iloadN {pc : Nat} {k : Fin 4} (hd : decode bytes pc = .ok (.iload_n k, 1)) : Good l Z hz sh A O y bytes maxL ret pc (sLoad 0 k.val (pc + 1)) :=
  good_one fun F L S D sl ns h => by
    obtain ⟨t, q, rfl⟩ := sLoad_inv h
    refine ⟨_, _, rfl, fun hF p e R s m args below meth c T locs cells slots hA X H target st => ?_⟩
    exact XS.iloadN X.here hA.1 rfl (hb hA.2.2.1 hd) (loc_at q) st
theorem g_lload {pc k : Nat} (hd : decode bytes pc = .ok (.lload k, 2)) : Good l Z hz sh A O y bytes maxL ret pc (sLoad 1 k (pc + 2)) :=
  good_one fun F L S D sl ns h => by
    obtain ⟨t, q, rfl⟩ := sLoad_inv h
    refine ⟨_, _, rfl, fun hF p e R s m args below meth c T locs cells slots hA X H target st => ?_⟩
    exact XS.lload X.here hA.1 rfl (hb hA.2.2.1 hd) (loc_at q) st
theorem g_lloadN {pc : Nat} {k : Fin 4} (hd : decode bytes pc = .ok (.lload_n k, 1)) : Good l Z hz sh A O y bytes maxL ret pc (sLoad 1 k.val (pc + 1)) :=
  good_one fun F L S D sl ns h => by
    obtain ⟨t, q, rfl⟩ := sLoad_inv h
    refine ⟨_, _, rfl, fun hF p e R s m args below meth c T locs cells slots hA X H target st => ?_⟩
    exact XS.lloadN X.here hA.1 rfl (hb hA.2.2.1 hd) (loc_at q) st
theorem g_aload {pc k : Nat} (hd : decode bytes pc = .ok (.aload k, 2)) : Good l Z hz sh A O y bytes maxL ret pc (sLoad 2 k (pc + 2)) :=
  good_one fun F L S D sl ns h => by
    obtain ⟨t, q, rfl⟩ := sLoad_inv h
    refine ⟨_, _, rfl, fun hF p e R s m args below meth c T locs cells slots hA X H target st => ?_⟩
    exact XS.aload X.here hA.1 rfl (hb hA.2.2.1 hd) (loc_at q) (rf_isRef _ _ _) st
theorem g_aloadN {pc : Nat} {k : Fin 4} (hd : decode bytes pc = .ok (.aload_n k, 1)) : Good l Z hz sh A O y bytes maxL ret pc (sLoad 2 k.val (pc + 1)) :=
  good_one fun F L S D sl ns h => by
    obtain ⟨t, q, rfl⟩ := sLoad_inv h
    refine ⟨_, _, rfl, fun hF p e R s m args below meth c T locs cells slots hA X H target st => ?_⟩
    exact XS.aloadN X.here hA.1 rfl (hb hA.2.2.1 hd) (loc_at q) (rf_isRef _ _ _) st
/-! stores -/
def setL (L : List SL) (i : Nat) (x : SL) : Option (List SL) := bif Nat.blt i L.length then some (L.set i x) else none
def stSelf (L : List SL) (i : Nat) (x : SV) : Option (List SL) := match setL L i (some (some x)) with
  | none => none
  | some L => match cat x with
    | 2 => match L[i + 1]? with
      | none => none
      | some (some (some o)) => match cat o with
        | 2 => match setL L (i + 2) none with
          | none => none
          | some L => setL L (i + 1) (some none)
        | _ => setL L (i + 1) (some none)
      | some _ => setL L (i + 1) (some none)
    | _ => some L
def stL (L : List SL) (i : Nat) (x : SV) : Option (List SL) := match L[i]? with
  | none => none
  | some none => stSelf L i x
  | some (some none) => match setL L (i - 1) none with
    | none => none
    | some L => stSelf L i x
  | some (some (some o)) => match cat o with
    | 2 => match setL L (i + 1) none with
      | none => none
      | some L => stSelf L i x
    | _ => stSelf L i x
theorem setL_ok {L L' : List SL} {i : Nat} {x : SL} (h : setL L i x = some L') : setAt (L.map (sl1 A O hz.size)).toArray i (sl1 A O hz.size x) = some (L'.map (sl1 A O hz.size)).toArray := by
  unfold setL at h
  cases q : Nat.blt i L.length
  · rw [q] at h; cases h
  · rw [q] at h; cases h
    have hi : i < L.length := Nat.blt_eq.mp q
    simp [setAt, hi, List.map_set]
theorem stSelf_ok {L L' : List SL} {i : Nat} {x : SV} (h : stSelf L i x = some L') : storeSelf (L.map (sl1 A O hz.size)).toArray i (vv A O hz.size x) = some (L'.map (sl1 A O hz.size)).toArray := by
  unfold stSelf at h
  cases q : setL L i (some (some x)) with
  | none => rw [q] at h; cases h
  | some L1 =>
    rw [q] at h
    have e1 := setL_ok (A := A) (O := O) (hz := hz) q
    have e1' : setAt (L.map (sl1 A O hz.size)).toArray i (.val (vv A O hz.size x)) = some (L1.map (sl1 A O hz.size)).toArray := e1
    unfold storeSelf
    rw [e1', vv_cat]
    simp only [Option.bind_eq_bind, Option.bind_some]
    simp only at h
    split at h
    · rename_i hc
      rw [if_pos hc]
      have hg : (L1.map (sl1 A O hz.size)).toArray[i + 1]? = (L1[i + 1]?).map (sl1 A O hz.size) := by simp
      rw [hg]
      split at h
      · cases h
      · rename_i o hq
        rw [hq]
        simp only [Option.map_some, Option.bind_some, sl1, vv_cat]
        split at h
        · rename_i ho
          rw [if_pos ho]
          split at h
          · cases h
          · rename_i L2 hq2
            have e2 := setL_ok (A := A) (O := O) (hz := hz) hq2
            have e2' : setAt (L1.map (sl1 A O hz.size)).toArray (i + 2) .unset = some (L2.map (sl1 A O hz.size)).toArray := e2
            rw [e2']
            exact setL_ok (A := A) (O := O) (hz := hz) h
        · rename_i ho
          rw [if_neg ho]
          exact setL_ok (A := A) (O := O) (hz := hz) h
      · rename_i w hw hq
        rw [hq]
        simp only [Option.map_some, Option.bind_some]
        match w with
        | none => simp only [sl1]; exact setL_ok (A := A) (O := O) (hz := hz) h
        | some none => simp only [sl1]; exact setL_ok (A := A) (O := O) (hz := hz) h
        | some (some o) => exact absurd rfl (hw o)
    · rename_i hc
      rw [if_neg hc]; cases h; rfl
theorem stL_ok {L L' : List SL} {i : Nat} {x : SV} (h : stL L i x = some L') : storeLocals (L.map (sl1 A O hz.size)).toArray i (vv A O hz.size x) = some (L'.map (sl1 A O hz.size)).toArray := by
  have hg : (L.map (sl1 A O hz.size)).toArray[i]? = (L[i]?).map (sl1 A O hz.size) := by simp
  unfold stL at h
  unfold storeLocals
  rw [hg]
  split at h
  · cases h
  · rename_i q; rw [q]; simp only [Option.map_some, Option.bind_eq_bind, Option.bind_some, sl1]; exact stSelf_ok h
  · rename_i q; rw [q]; simp only [Option.map_some, Option.bind_eq_bind, Option.bind_some, sl1]
    split at h
    · cases h
    · rename_i L2 hq2
      have e2 := setL_ok (A := A) (O := O) (hz := hz) hq2
      have e2' : setAt (L.map (sl1 A O hz.size)).toArray (i - 1) .unset = some (L2.map (sl1 A O hz.size)).toArray := e2
      rw [e2']; exact stSelf_ok h
  · rename_i o q; rw [q]; simp only [Option.map_some, Option.bind_eq_bind, Option.bind_some, sl1, vv_cat]
    split at h
    · rename_i ho
      rw [if_pos ho]
      split at h
      · cases h
      · rename_i L2 hq2
        have e2 := setL_ok (A := A) (O := O) (hz := hz) hq2
        have e2' : setAt (L.map (sl1 A O hz.size)).toArray (i + 1) .unset = some (L2.map (sl1 A O hz.size)).toArray := e2
        rw [e2']; exact stSelf_ok h
    · rename_i ho
      rw [if_neg ho]; exact stSelf_ok h
def sStore (kd k nx : Nat) : Stp := fun F cf => match cf.2.1 with
  | x :: S => bif x.1 == kd then (match stL cf.1 k x with
    | some L => some [(F, nx, (L, S, cf.2.2))]
    | none => none) else none
  | [] => none
theorem sStore_inv {kd k nx : Nat} {F : List Cond} {L : List SL} {S : List SV} {D : List Ob} {sl : Nat} {ns : List Nx} (h : sStore kd k nx F (L, S, D, sl) = some ns) : ∃ t S' L', S = (kd, t) :: S' ∧ stL L k (kd, t) = some L' ∧ ns = [(F, nx, (L', S', D, sl))] := by
  simp only [sStore] at h
  split at h
  · rename_i x S'
    obtain ⟨k', t⟩ := x
    cases hk : (k' == kd)
    · rw [hk] at h; cases h
    · rw [hk] at h; obtain rfl := beq_iff_eq.mp hk
      simp only [cond_true] at h
      split at h
      · rename_i L' q; cases h; exact ⟨t, S', L', rfl, q, rfl⟩
      · cases h
  · cases h
theorem g_istore {pc k : Nat} (hd : decode bytes pc = .ok (.istore k, 2)) : Good l Z hz sh A O y bytes maxL ret pc (sStore 0 k (pc + 2)) :=
  good_one fun F L S D sl ns h => by
    obtain ⟨t, S', L', rfl, q, rfl⟩ := sStore_inv h
    refine ⟨_, _, rfl, fun hF p e R s m args below meth c T locs cells slots hA X H target st => ?_⟩
    exact XS.istore X.here hA.1 rfl (hb hA.2.2.1 hd) rfl (stL_ok q) st
theorem g_istoreN {pc : Nat} {k : Fin 4} (hd : decode bytes pc = .ok (.istore_n k, 1)) : Good l Z hz sh A O y bytes maxL ret pc (sStore 0 k.val (pc + 1)) :=
  good_one fun F L S D sl ns h => by
    obtain ⟨t, S', L', rfl, q, rfl⟩ := sStore_inv h
    refine ⟨_, _, rfl, fun hF p e R s m args below meth c T locs cells slots hA X H target st => ?_⟩
    exact XS.istoreN X.here hA.1 rfl (hb hA.2.2.1 hd) rfl (stL_ok q) st
theorem g_lstore {pc k : Nat} (hd : decode bytes pc = .ok (.lstore k, 2)) : Good l Z hz sh A O y bytes maxL ret pc (sStore 1 k (pc + 2)) :=
  good_one fun F L S D sl ns h => by
    obtain ⟨t, S', L', rfl, q, rfl⟩ := sStore_inv h
    refine ⟨_, _, rfl, fun hF p e R s m args below meth c T locs cells slots hA X H target st => ?_⟩
    exact XS.lstore X.here hA.1 rfl (hb hA.2.2.1 hd) rfl (stL_ok q) st
theorem g_lstoreN {pc : Nat} {k : Fin 4} (hd : decode bytes pc = .ok (.lstore_n k, 1)) : Good l Z hz sh A O y bytes maxL ret pc (sStore 1 k.val (pc + 1)) :=
  good_one fun F L S D sl ns h => by
    obtain ⟨t, S', L', rfl, q, rfl⟩ := sStore_inv h
    refine ⟨_, _, rfl, fun hF p e R s m args below meth c T locs cells slots hA X H target st => ?_⟩
    exact XS.lstoreN X.here hA.1 rfl (hb hA.2.2.1 hd) rfl (stL_ok q) st
theorem g_astore {pc k : Nat} (hd : decode bytes pc = .ok (.astore k, 2)) : Good l Z hz sh A O y bytes maxL ret pc (sStore 2 k (pc + 2)) :=
  good_one fun F L S D sl ns h => by
    obtain ⟨t, S', L', rfl, q, rfl⟩ := sStore_inv h
    refine ⟨_, _, rfl, fun hF p e R s m args below meth c T locs cells slots hA X H target st => ?_⟩
    exact XS.astore X.here hA.1 rfl (hb hA.2.2.1 hd) rfl (rf_isRef _ _ _) (stL_ok q) st
theorem g_astoreN {pc : Nat} {k : Fin 4} (hd : decode bytes pc = .ok (.astore_n k, 1)) : Good l Z hz sh A O y bytes maxL ret pc (sStore 2 k.val (pc + 1)) :=
  good_one fun F L S D sl ns h => by
    obtain ⟨t, S', L', rfl, q, rfl⟩ := sStore_inv h
    refine ⟨_, _, rfl, fun hF p e R s m args below meth c T locs cells slots hA X H target st => ?_⟩
    exact XS.astoreN X.here hA.1 rfl (hb hA.2.2.1 hd) rfl (rf_isRef _ _ _) (stL_ok q) st
/-! constants -/
def sPush (x : SV) (nx : Nat) : Stp := fun F cf => some [(F, nx, (cf.1, x :: cf.2.1, cf.2.2))]
theorem g_iconst {pc : Nat} {i : Int} {v : Int32} (hd : decode bytes pc = .ok (.iconst i, 1)) (hv : Int32.ofInt i = v) : Good l Z hz sh A O y bytes maxL ret pc (sPush (0, .int v) (pc + 1)) :=
  good_one fun F L S D sl ns h => by
    cases h
    refine ⟨_, _, rfl, fun hF p e R s m args below meth c T locs cells slots hA X H target st => ?_⟩
    subst hv; exact XS.iconst X.here hA.1 rfl (hb hA.2.2.1 hd) st
theorem g_bipush {pc : Nat} {i : Int} {v : Int32} (hd : decode bytes pc = .ok (.bipush i, 2)) (hv : (Int8.ofInt i).toInt32 = v) : Good l Z hz sh A O y bytes maxL ret pc (sPush (0, .int v) (pc + 2)) :=
  good_one fun F L S D sl ns h => by
    cases h
    refine ⟨_, _, rfl, fun hF p e R s m args below meth c T locs cells slots hA X H target st => ?_⟩
    subst hv; exact XS.bipush X.here hA.1 rfl (hb hA.2.2.1 hd) st
theorem g_sipush {pc : Nat} {i : Int} {v : Int32} (hd : decode bytes pc = .ok (.sipush i, 3)) (hv : (Int16.ofInt i).toInt32 = v) : Good l Z hz sh A O y bytes maxL ret pc (sPush (0, .int v) (pc + 3)) :=
  good_one fun F L S D sl ns h => by
    cases h
    refine ⟨_, _, rfl, fun hF p e R s m args below meth c T locs cells slots hA X H target st => ?_⟩
    subst hv; exact XS.sipush X.here hA.1 rfl (hb hA.2.2.1 hd) st
theorem g_lconst {pc : Nat} {k : Fin 2} {v : Int64} (hd : decode bytes pc = .ok (.lconst k, 1)) (hv : Int64.ofNat k = v) : Good l Z hz sh A O y bytes maxL ret pc (sPush (1, .long v) (pc + 1)) :=
  good_one fun F L S D sl ns h => by
    cases h
    refine ⟨_, _, rfl, fun hF p e R s m args below meth c T locs cells slots hA X H target st => ?_⟩
    subst hv; exact XS.lconst X.here hA.1 rfl (hb hA.2.2.1 hd) st
theorem g_null {pc : Nat} (hd : decode bytes pc = .ok (.aconst_null, 1)) : Good l Z hz sh A O y bytes maxL ret pc (sPush (2, .null) (pc + 1)) :=
  good_one fun F L S D sl ns h => by
    cases h
    refine ⟨_, _, rfl, fun hF p e R s m args below meth c T locs cells slots hA X H target st => ?_⟩
    exact XS.aconstNull X.here hA.1 rfl (hb hA.2.2.1 hd) st
theorem g_ldc {pc : Nat} {k : Nat} {v : Int32} {a0 : Array Value} (hd : decode bytes pc = .ok (.ldc k, 2)) (w : (Cond.constant y.cls k v).before a0 Z = true) : Good l Z hz sh A O y bytes maxL ret pc (sPush (0, .int v) (pc + 2)) :=
  good_one fun F L S D sl ns h => by
    cases h
    refine ⟨_, _, rfl, fun hF p e R s m args below meth c T locs cells slots hA X H target st => ?_⟩
    exact X.ldcInt hA.1 hA.2.2.2.2.1 (mvT hA.2.1 w) (g := frm hz A O m pc (L, S, D, sl)) rfl (hb hA.2.2.1 hd) _ st
theorem g_ldcw {pc : Nat} {k : Nat} {v : Int32} {a0 : Array Value} (hd : decode bytes pc = .ok (.ldc_w k, 3)) (w : (Cond.constant y.cls k v).before a0 Z = true) : Good l Z hz sh A O y bytes maxL ret pc (sPush (0, .int v) (pc + 3)) :=
  good_one fun F L S D sl ns h => by
    cases h
    refine ⟨_, _, rfl, fun hF p e R s m args below meth c T locs cells slots hA X H target st => ?_⟩
    exact X.ldcwInt hA.1 hA.2.2.2.2.1 (mvT hA.2.1 w) (g := frm hz A O m pc (L, S, D, sl)) rfl (hb hA.2.2.1 hd) _ st
theorem g_ldc2 {pc : Nat} {k : Nat} {v : Int64} {a0 : Array Value} (hd : decode bytes pc = .ok (.ldc2_w k, 3)) (w : (Cond.constantLong y.cls k v).before a0 Z = true) : Good l Z hz sh A O y bytes maxL ret pc (sPush (1, .long v) (pc + 3)) :=
  good_one fun F L S D sl ns h => by
    cases h
    refine ⟨_, _, rfl, fun hF p e R s m args below meth c T locs cells slots hA X H target st => ?_⟩
    exact X.ldc2Long hA.1 hA.2.2.2.2.1 (mvT hA.2.1 w) (g := frm hz A O m pc (L, S, D, sl)) rfl (hb hA.2.2.1 hd) _ st
def sStop : Stp := fun _ _ => none
theorem g_stop {pc : Nat} : Good l Z hz sh A O y bytes maxL ret pc sStop := fun _ _ _ h => by cases h
/-! operations -/
def jI (f : Term → Term → Term) (a b : Term) : Term := smI (f a b)
def jL (f : Term → Term → Term) (a b : Term) : Term := smL (f a b)
def sBin (k1 k2 k3 : Nat) (f : Term → Term → Term) (nx : Nat) : Stp := fun F cf => match cf.2.1 with
  | b :: a :: S => bif (a.1 == k1) && (b.1 == k2) then some [(F, nx, (cf.1, (k3, f a.2 b.2) :: S, cf.2.2))] else none
  | _ => none
theorem sBin_inv {k1 k2 k3 : Nat} {f : Term → Term → Term} {nx : Nat} {F : List Cond} {L : List SL} {S : List SV} {D : List Ob} {sl : Nat} {ns : List Nx} (h : sBin k1 k2 k3 f nx F (L, S, D, sl) = some ns) : ∃ a b S', S = (k2, b) :: (k1, a) :: S' ∧ ns = [(F, nx, (L, (k3, f a b) :: S', D, sl))] := by
  simp only [sBin] at h
  split at h
  · rename_i b a S'
    obtain ⟨kb, b⟩ := b
    obtain ⟨ka, a⟩ := a
    cases hk : ((ka == k1) && (kb == k2))
    · rw [hk] at h; cases h
    · rw [hk] at h
      simp only [Bool.and_eq_true, beq_iff_eq] at hk
      obtain ⟨rfl, rfl⟩ := hk
      cases h; exact ⟨a, b, S', rfl, rfl⟩
  · cases h
theorem g_iadd {pc : Nat} (hd : decode bytes pc = .ok (.iadd, 1)) : Good l Z hz sh A O y bytes maxL ret pc (sBin 0 0 0 (jI Term.add) (pc + 1)) :=
  good_one fun F L S D sl ns h => by
    obtain ⟨a, b, S', rfl, rfl⟩ := sBin_inv h
    refine ⟨_, _, rfl, fun hF p e_ R s m args below meth c T locs cells slots hA X H target st => ?_⟩
    have e : vv A O hz.size (0, jI Term.add a b) = .int ((te A a).1 + (te A b).1) := by show Value.int (te A (smI _)).1 = _; rw [te_smI]; rfl
    have st' : Steps p.tables e_ below (T.setTop (mkF m (pc + 1) (L.map (sl1 A O hz.size)).toArray (vv A O hz.size (0, jI Term.add a b) :: S'.map (vv A O hz.size)))) target := st
    rw [e] at st'
    exact XS.iadd X.here hA.1 rfl (hb hA.2.2.1 hd) rfl st'
theorem g_isub {pc : Nat} (hd : decode bytes pc = .ok (.isub, 1)) : Good l Z hz sh A O y bytes maxL ret pc (sBin 0 0 0 (jI Term.sub) (pc + 1)) :=
  good_one fun F L S D sl ns h => by
    obtain ⟨a, b, S', rfl, rfl⟩ := sBin_inv h
    refine ⟨_, _, rfl, fun hF p e_ R s m args below meth c T locs cells slots hA X H target st => ?_⟩
    have e : vv A O hz.size (0, jI Term.sub a b) = .int ((te A a).1 - (te A b).1) := by show Value.int (te A (smI _)).1 = _; rw [te_smI]; rfl
    have st' : Steps p.tables e_ below (T.setTop (mkF m (pc + 1) (L.map (sl1 A O hz.size)).toArray (vv A O hz.size (0, jI Term.sub a b) :: S'.map (vv A O hz.size)))) target := st
    rw [e] at st'
    exact XS.isub X.here hA.1 rfl (hb hA.2.2.1 hd) rfl st'
theorem g_imul {pc : Nat} (hd : decode bytes pc = .ok (.imul, 1)) : Good l Z hz sh A O y bytes maxL ret pc (sBin 0 0 0 (jI Term.mul) (pc + 1)) :=
  good_one fun F L S D sl ns h => by
    obtain ⟨a, b, S', rfl, rfl⟩ := sBin_inv h
    refine ⟨_, _, rfl, fun hF p e_ R s m args below meth c T locs cells slots hA X H target st => ?_⟩
    have e : vv A O hz.size (0, jI Term.mul a b) = .int ((te A a).1 * (te A b).1) := by show Value.int (te A (smI _)).1 = _; rw [te_smI]; rfl
    have st' : Steps p.tables e_ below (T.setTop (mkF m (pc + 1) (L.map (sl1 A O hz.size)).toArray (vv A O hz.size (0, jI Term.mul a b) :: S'.map (vv A O hz.size)))) target := st
    rw [e] at st'
    exact XS.imul X.here hA.1 rfl (hb hA.2.2.1 hd) rfl st'
theorem g_iand {pc : Nat} (hd : decode bytes pc = .ok (.iand, 1)) : Good l Z hz sh A O y bytes maxL ret pc (sBin 0 0 0 (jI (Term.op2 .iand)) (pc + 1)) :=
  good_one fun F L S D sl ns h => by
    obtain ⟨a, b, S', rfl, rfl⟩ := sBin_inv h
    refine ⟨_, _, rfl, fun hF p e_ R s m args below meth c T locs cells slots hA X H target st => ?_⟩
    have e : vv A O hz.size (0, jI (Term.op2 .iand) a b) = .int ((te A a).1 &&& (te A b).1) := by show Value.int (te A (smI _)).1 = _; rw [te_smI]; rfl
    have st' : Steps p.tables e_ below (T.setTop (mkF m (pc + 1) (L.map (sl1 A O hz.size)).toArray (vv A O hz.size (0, jI (Term.op2 .iand) a b) :: S'.map (vv A O hz.size)))) target := st
    rw [e] at st'
    exact XS.iand X.here hA.1 rfl (hb hA.2.2.1 hd) rfl st'
theorem g_ior {pc : Nat} (hd : decode bytes pc = .ok (.ior, 1)) : Good l Z hz sh A O y bytes maxL ret pc (sBin 0 0 0 (jI (Term.op2 .ior)) (pc + 1)) :=
  good_one fun F L S D sl ns h => by
    obtain ⟨a, b, S', rfl, rfl⟩ := sBin_inv h
    refine ⟨_, _, rfl, fun hF p e_ R s m args below meth c T locs cells slots hA X H target st => ?_⟩
    have e : vv A O hz.size (0, jI (Term.op2 .ior) a b) = .int ((te A a).1 ||| (te A b).1) := by show Value.int (te A (smI _)).1 = _; rw [te_smI]; rfl
    have st' : Steps p.tables e_ below (T.setTop (mkF m (pc + 1) (L.map (sl1 A O hz.size)).toArray (vv A O hz.size (0, jI (Term.op2 .ior) a b) :: S'.map (vv A O hz.size)))) target := st
    rw [e] at st'
    exact XS.ior X.here hA.1 rfl (hb hA.2.2.1 hd) rfl st'
theorem g_ixor {pc : Nat} (hd : decode bytes pc = .ok (.ixor, 1)) : Good l Z hz sh A O y bytes maxL ret pc (sBin 0 0 0 (jI (Term.op2 .ixor)) (pc + 1)) :=
  good_one fun F L S D sl ns h => by
    obtain ⟨a, b, S', rfl, rfl⟩ := sBin_inv h
    refine ⟨_, _, rfl, fun hF p e_ R s m args below meth c T locs cells slots hA X H target st => ?_⟩
    have e : vv A O hz.size (0, jI (Term.op2 .ixor) a b) = .int ((te A a).1 ^^^ (te A b).1) := by show Value.int (te A (smI _)).1 = _; rw [te_smI]; rfl
    have st' : Steps p.tables e_ below (T.setTop (mkF m (pc + 1) (L.map (sl1 A O hz.size)).toArray (vv A O hz.size (0, jI (Term.op2 .ixor) a b) :: S'.map (vv A O hz.size)))) target := st
    rw [e] at st'
    exact XS.ixor X.here hA.1 rfl (hb hA.2.2.1 hd) rfl st'
theorem g_ishl {pc : Nat} (hd : decode bytes pc = .ok (.ishl, 1)) : Good l Z hz sh A O y bytes maxL ret pc (sBin 0 0 0 (jI (Term.op2 .ishl)) (pc + 1)) :=
  good_one fun F L S D sl ns h => by
    obtain ⟨a, b, S', rfl, rfl⟩ := sBin_inv h
    refine ⟨_, _, rfl, fun hF p e_ R s m args below meth c T locs cells slots hA X H target st => ?_⟩
    have e : vv A O hz.size (0, jI (Term.op2 .ishl) a b) = .int ((te A a).1 <<< ((te A b).1 &&& 31)) := by show Value.int (te A (smI _)).1 = _; rw [te_smI]; rfl
    have st' : Steps p.tables e_ below (T.setTop (mkF m (pc + 1) (L.map (sl1 A O hz.size)).toArray (vv A O hz.size (0, jI (Term.op2 .ishl) a b) :: S'.map (vv A O hz.size)))) target := st
    rw [e] at st'
    exact XS.ishl X.here hA.1 rfl (hb hA.2.2.1 hd) rfl st'
theorem g_ishr {pc : Nat} (hd : decode bytes pc = .ok (.ishr, 1)) : Good l Z hz sh A O y bytes maxL ret pc (sBin 0 0 0 (jI (Term.op2 .ishr)) (pc + 1)) :=
  good_one fun F L S D sl ns h => by
    obtain ⟨a, b, S', rfl, rfl⟩ := sBin_inv h
    refine ⟨_, _, rfl, fun hF p e_ R s m args below meth c T locs cells slots hA X H target st => ?_⟩
    have e : vv A O hz.size (0, jI (Term.op2 .ishr) a b) = .int ((te A a).1 >>> ((te A b).1 &&& 31)) := by show Value.int (te A (smI _)).1 = _; rw [te_smI]; rfl
    have st' : Steps p.tables e_ below (T.setTop (mkF m (pc + 1) (L.map (sl1 A O hz.size)).toArray (vv A O hz.size (0, jI (Term.op2 .ishr) a b) :: S'.map (vv A O hz.size)))) target := st
    rw [e] at st'
    exact XS.ishr X.here hA.1 rfl (hb hA.2.2.1 hd) rfl st'
theorem g_iushr {pc : Nat} (hd : decode bytes pc = .ok (.iushr, 1)) : Good l Z hz sh A O y bytes maxL ret pc (sBin 0 0 0 (jI (Term.op2 .iushr)) (pc + 1)) :=
  good_one fun F L S D sl ns h => by
    obtain ⟨a, b, S', rfl, rfl⟩ := sBin_inv h
    refine ⟨_, _, rfl, fun hF p e_ R s m args below meth c T locs cells slots hA X H target st => ?_⟩
    have e : vv A O hz.size (0, jI (Term.op2 .iushr) a b) = .int (((te A a).1.toUInt32 >>> ((te A b).1 &&& 31).toUInt32).toInt32) := by show Value.int (te A (smI _)).1 = _; rw [te_smI]; rfl
    have st' : Steps p.tables e_ below (T.setTop (mkF m (pc + 1) (L.map (sl1 A O hz.size)).toArray (vv A O hz.size (0, jI (Term.op2 .iushr) a b) :: S'.map (vv A O hz.size)))) target := st
    rw [e] at st'
    exact XS.iushr X.here hA.1 rfl (hb hA.2.2.1 hd) rfl st'
theorem g_ladd {pc : Nat} (hd : decode bytes pc = .ok (.ladd, 1)) : Good l Z hz sh A O y bytes maxL ret pc (sBin 1 1 1 (jL (Term.op2 .ladd)) (pc + 1)) :=
  good_one fun F L S D sl ns h => by
    obtain ⟨a, b, S', rfl, rfl⟩ := sBin_inv h
    refine ⟨_, _, rfl, fun hF p e_ R s m args below meth c T locs cells slots hA X H target st => ?_⟩
    have e : vv A O hz.size (1, jL (Term.op2 .ladd) a b) = .long ((te A a).2 + (te A b).2) := by show Value.long (te A (smL _)).2 = _; rw [te_smL]; rfl
    have st' : Steps p.tables e_ below (T.setTop (mkF m (pc + 1) (L.map (sl1 A O hz.size)).toArray (vv A O hz.size (1, jL (Term.op2 .ladd) a b) :: S'.map (vv A O hz.size)))) target := st
    rw [e] at st'
    exact XS.ladd X.here hA.1 rfl (hb hA.2.2.1 hd) rfl st'
theorem g_lsub {pc : Nat} (hd : decode bytes pc = .ok (.lsub, 1)) : Good l Z hz sh A O y bytes maxL ret pc (sBin 1 1 1 (jL (Term.op2 .lsub)) (pc + 1)) :=
  good_one fun F L S D sl ns h => by
    obtain ⟨a, b, S', rfl, rfl⟩ := sBin_inv h
    refine ⟨_, _, rfl, fun hF p e_ R s m args below meth c T locs cells slots hA X H target st => ?_⟩
    have e : vv A O hz.size (1, jL (Term.op2 .lsub) a b) = .long ((te A a).2 - (te A b).2) := by show Value.long (te A (smL _)).2 = _; rw [te_smL]; rfl
    have st' : Steps p.tables e_ below (T.setTop (mkF m (pc + 1) (L.map (sl1 A O hz.size)).toArray (vv A O hz.size (1, jL (Term.op2 .lsub) a b) :: S'.map (vv A O hz.size)))) target := st
    rw [e] at st'
    exact XS.lsub X.here hA.1 rfl (hb hA.2.2.1 hd) rfl st'
theorem g_lmul {pc : Nat} (hd : decode bytes pc = .ok (.lmul, 1)) : Good l Z hz sh A O y bytes maxL ret pc (sBin 1 1 1 (jL (Term.op2 .lmul)) (pc + 1)) :=
  good_one fun F L S D sl ns h => by
    obtain ⟨a, b, S', rfl, rfl⟩ := sBin_inv h
    refine ⟨_, _, rfl, fun hF p e_ R s m args below meth c T locs cells slots hA X H target st => ?_⟩
    have e : vv A O hz.size (1, jL (Term.op2 .lmul) a b) = .long ((te A a).2 * (te A b).2) := by show Value.long (te A (smL _)).2 = _; rw [te_smL]; rfl
    have st' : Steps p.tables e_ below (T.setTop (mkF m (pc + 1) (L.map (sl1 A O hz.size)).toArray (vv A O hz.size (1, jL (Term.op2 .lmul) a b) :: S'.map (vv A O hz.size)))) target := st
    rw [e] at st'
    exact XS.lmul X.here hA.1 rfl (hb hA.2.2.1 hd) rfl st'
theorem g_land {pc : Nat} (hd : decode bytes pc = .ok (.land, 1)) : Good l Z hz sh A O y bytes maxL ret pc (sBin 1 1 1 (jL (Term.op2 .land)) (pc + 1)) :=
  good_one fun F L S D sl ns h => by
    obtain ⟨a, b, S', rfl, rfl⟩ := sBin_inv h
    refine ⟨_, _, rfl, fun hF p e_ R s m args below meth c T locs cells slots hA X H target st => ?_⟩
    have e : vv A O hz.size (1, jL (Term.op2 .land) a b) = .long ((te A a).2 &&& (te A b).2) := by show Value.long (te A (smL _)).2 = _; rw [te_smL]; rfl
    have st' : Steps p.tables e_ below (T.setTop (mkF m (pc + 1) (L.map (sl1 A O hz.size)).toArray (vv A O hz.size (1, jL (Term.op2 .land) a b) :: S'.map (vv A O hz.size)))) target := st
    rw [e] at st'
    exact XS.land X.here hA.1 rfl (hb hA.2.2.1 hd) rfl st'
theorem g_lor {pc : Nat} (hd : decode bytes pc = .ok (.lor, 1)) : Good l Z hz sh A O y bytes maxL ret pc (sBin 1 1 1 (jL (Term.op2 .lor)) (pc + 1)) :=
  good_one fun F L S D sl ns h => by
    obtain ⟨a, b, S', rfl, rfl⟩ := sBin_inv h
    refine ⟨_, _, rfl, fun hF p e_ R s m args below meth c T locs cells slots hA X H target st => ?_⟩
    have e : vv A O hz.size (1, jL (Term.op2 .lor) a b) = .long ((te A a).2 ||| (te A b).2) := by show Value.long (te A (smL _)).2 = _; rw [te_smL]; rfl
    have st' : Steps p.tables e_ below (T.setTop (mkF m (pc + 1) (L.map (sl1 A O hz.size)).toArray (vv A O hz.size (1, jL (Term.op2 .lor) a b) :: S'.map (vv A O hz.size)))) target := st
    rw [e] at st'
    exact XS.lor X.here hA.1 rfl (hb hA.2.2.1 hd) rfl st'
theorem g_lxor {pc : Nat} (hd : decode bytes pc = .ok (.lxor, 1)) : Good l Z hz sh A O y bytes maxL ret pc (sBin 1 1 1 (jL (Term.op2 .lxor)) (pc + 1)) :=
  good_one fun F L S D sl ns h => by
    obtain ⟨a, b, S', rfl, rfl⟩ := sBin_inv h
    refine ⟨_, _, rfl, fun hF p e_ R s m args below meth c T locs cells slots hA X H target st => ?_⟩
    have e : vv A O hz.size (1, jL (Term.op2 .lxor) a b) = .long ((te A a).2 ^^^ (te A b).2) := by show Value.long (te A (smL _)).2 = _; rw [te_smL]; rfl
    have st' : Steps p.tables e_ below (T.setTop (mkF m (pc + 1) (L.map (sl1 A O hz.size)).toArray (vv A O hz.size (1, jL (Term.op2 .lxor) a b) :: S'.map (vv A O hz.size)))) target := st
    rw [e] at st'
    exact XS.lxor X.here hA.1 rfl (hb hA.2.2.1 hd) rfl st'
theorem g_lshl {pc : Nat} (hd : decode bytes pc = .ok (.lshl, 1)) : Good l Z hz sh A O y bytes maxL ret pc (sBin 1 0 1 (jL (Term.op2 .lshl)) (pc + 1)) :=
  good_one fun F L S D sl ns h => by
    obtain ⟨a, b, S', rfl, rfl⟩ := sBin_inv h
    refine ⟨_, _, rfl, fun hF p e_ R s m args below meth c T locs cells slots hA X H target st => ?_⟩
    have e : vv A O hz.size (1, jL (Term.op2 .lshl) a b) = .long ((te A a).2 <<< ((te A b).1 &&& 0x3f).toInt64) := by show Value.long (te A (smL _)).2 = _; rw [te_smL]; rfl
    have st' : Steps p.tables e_ below (T.setTop (mkF m (pc + 1) (L.map (sl1 A O hz.size)).toArray (vv A O hz.size (1, jL (Term.op2 .lshl) a b) :: S'.map (vv A O hz.size)))) target := st
    rw [e] at st'
    exact XS.lshl X.here hA.1 rfl (hb hA.2.2.1 hd) rfl st'
theorem g_lshr {pc : Nat} (hd : decode bytes pc = .ok (.lshr, 1)) : Good l Z hz sh A O y bytes maxL ret pc (sBin 1 0 1 (jL (Term.op2 .lshr)) (pc + 1)) :=
  good_one fun F L S D sl ns h => by
    obtain ⟨a, b, S', rfl, rfl⟩ := sBin_inv h
    refine ⟨_, _, rfl, fun hF p e_ R s m args below meth c T locs cells slots hA X H target st => ?_⟩
    have e : vv A O hz.size (1, jL (Term.op2 .lshr) a b) = .long ((te A a).2 >>> ((te A b).1 &&& 0x3f).toInt64) := by show Value.long (te A (smL _)).2 = _; rw [te_smL]; rfl
    have st' : Steps p.tables e_ below (T.setTop (mkF m (pc + 1) (L.map (sl1 A O hz.size)).toArray (vv A O hz.size (1, jL (Term.op2 .lshr) a b) :: S'.map (vv A O hz.size)))) target := st
    rw [e] at st'
    exact XS.lshr X.here hA.1 rfl (hb hA.2.2.1 hd) rfl st'
theorem g_lushr {pc : Nat} (hd : decode bytes pc = .ok (.lushr, 1)) : Good l Z hz sh A O y bytes maxL ret pc (sBin 1 0 1 (jL (Term.op2 .lushr)) (pc + 1)) :=
  good_one fun F L S D sl ns h => by
    obtain ⟨a, b, S', rfl, rfl⟩ := sBin_inv h
    refine ⟨_, _, rfl, fun hF p e_ R s m args below meth c T locs cells slots hA X H target st => ?_⟩
    have e : vv A O hz.size (1, jL (Term.op2 .lushr) a b) = .long (((te A a).2.toUInt64 >>> ((te A b).1 &&& 0x3f).toInt64.toUInt64).toInt64) := by show Value.long (te A (smL _)).2 = _; rw [te_smL]; rfl
    have st' : Steps p.tables e_ below (T.setTop (mkF m (pc + 1) (L.map (sl1 A O hz.size)).toArray (vv A O hz.size (1, jL (Term.op2 .lushr) a b) :: S'.map (vv A O hz.size)))) target := st
    rw [e] at st'
    exact XS.lushr X.here hA.1 rfl (hb hA.2.2.1 hd) rfl st'
theorem g_lcmp {pc : Nat} (hd : decode bytes pc = .ok (.lcmp, 1)) : Good l Z hz sh A O y bytes maxL ret pc (sBin 1 1 0 (jI (Term.op2 .lcmp)) (pc + 1)) :=
  good_one fun F L S D sl ns h => by
    obtain ⟨a, b, S', rfl, rfl⟩ := sBin_inv h
    refine ⟨_, _, rfl, fun hF p e_ R s m args below meth c T locs cells slots hA X H target st => ?_⟩
    have e : vv A O hz.size (0, jI (Term.op2 .lcmp) a b) = .int (lcmpW (te A a).2 (te A b).2) := by show Value.int (te A (smI _)).1 = _; rw [te_smI]; rfl
    have st' : Steps p.tables e_ below (T.setTop (mkF m (pc + 1) (L.map (sl1 A O hz.size)).toArray (vv A O hz.size (0, jI (Term.op2 .lcmp) a b) :: S'.map (vv A O hz.size)))) target := st
    rw [e] at st'
    exact XS.lcmp X.here hA.1 rfl (hb hA.2.2.1 hd) rfl st'
def uI (f : Term → Term) (a : Term) : Term := smI (f a)
def uL (f : Term → Term) (a : Term) : Term := smL (f a)
def sUn (k1 k3 : Nat) (f : Term → Term) (nx : Nat) : Stp := fun F cf => match cf.2.1 with
  | a :: S => bif a.1 == k1 then some [(F, nx, (cf.1, (k3, f a.2) :: S, cf.2.2))] else none
  | _ => none
theorem sUn_inv {k1 k3 : Nat} {f : Term → Term} {nx : Nat} {F : List Cond} {L : List SL} {S : List SV} {D : List Ob} {sl : Nat} {ns : List Nx} (h : sUn k1 k3 f nx F (L, S, D, sl) = some ns) : ∃ a S', S = (k1, a) :: S' ∧ ns = [(F, nx, (L, (k3, f a) :: S', D, sl))] := by
  simp only [sUn] at h
  split at h
  · rename_i a S'
    obtain ⟨ka, a⟩ := a
    cases hk : (ka == k1)
    · rw [hk] at h; cases h
    · rw [hk] at h; obtain rfl := beq_iff_eq.mp hk
      cases h; exact ⟨a, S', rfl, rfl⟩
  · cases h
theorem g_ineg {pc : Nat} (hd : decode bytes pc = .ok (.ineg, 1)) : Good l Z hz sh A O y bytes maxL ret pc (sUn 0 0 (uI (Term.op1 .ineg)) (pc + 1)) :=
  good_one fun F L S D sl ns h => by
    obtain ⟨a, S', rfl, rfl⟩ := sUn_inv h
    refine ⟨_, _, rfl, fun hF p e_ R s m args below meth c T locs cells slots hA X H target st => ?_⟩
    have e : vv A O hz.size (0, uI (Term.op1 .ineg) a) = .int (-(te A a).1) := by show Value.int (te A (smI _)).1 = _; rw [te_smI]; rfl
    have st' : Steps p.tables e_ below (T.setTop (mkF m (pc + 1) (L.map (sl1 A O hz.size)).toArray (vv A O hz.size (0, uI (Term.op1 .ineg) a) :: S'.map (vv A O hz.size)))) target := st
    rw [e] at st'
    exact XS.ineg X.here hA.1 rfl (hb hA.2.2.1 hd) rfl st'
theorem g_lneg {pc : Nat} (hd : decode bytes pc = .ok (.lneg, 1)) : Good l Z hz sh A O y bytes maxL ret pc (sUn 1 1 (uL (Term.op1 .lneg)) (pc + 1)) :=
  good_one fun F L S D sl ns h => by
    obtain ⟨a, S', rfl, rfl⟩ := sUn_inv h
    refine ⟨_, _, rfl, fun hF p e_ R s m args below meth c T locs cells slots hA X H target st => ?_⟩
    have e : vv A O hz.size (1, uL (Term.op1 .lneg) a) = .long (-(te A a).2) := by show Value.long (te A (smL _)).2 = _; rw [te_smL]; rfl
    have st' : Steps p.tables e_ below (T.setTop (mkF m (pc + 1) (L.map (sl1 A O hz.size)).toArray (vv A O hz.size (1, uL (Term.op1 .lneg) a) :: S'.map (vv A O hz.size)))) target := st
    rw [e] at st'
    exact XS.lneg X.here hA.1 rfl (hb hA.2.2.1 hd) rfl st'
theorem g_i2l {pc : Nat} (hd : decode bytes pc = .ok (.i2l, 1)) : Good l Z hz sh A O y bytes maxL ret pc (sUn 0 1 (uL (Term.op1 .i2l)) (pc + 1)) :=
  good_one fun F L S D sl ns h => by
    obtain ⟨a, S', rfl, rfl⟩ := sUn_inv h
    refine ⟨_, _, rfl, fun hF p e_ R s m args below meth c T locs cells slots hA X H target st => ?_⟩
    have e : vv A O hz.size (1, uL (Term.op1 .i2l) a) = .long ((te A a).1.toInt64) := by show Value.long (te A (smL _)).2 = _; rw [te_smL]; rfl
    have st' : Steps p.tables e_ below (T.setTop (mkF m (pc + 1) (L.map (sl1 A O hz.size)).toArray (vv A O hz.size (1, uL (Term.op1 .i2l) a) :: S'.map (vv A O hz.size)))) target := st
    rw [e] at st'
    exact XS.i2l X.here hA.1 rfl (hb hA.2.2.1 hd) rfl st'
theorem g_l2i {pc : Nat} (hd : decode bytes pc = .ok (.l2i, 1)) : Good l Z hz sh A O y bytes maxL ret pc (sUn 1 0 (uI (Term.op1 .l2i)) (pc + 1)) :=
  good_one fun F L S D sl ns h => by
    obtain ⟨a, S', rfl, rfl⟩ := sUn_inv h
    refine ⟨_, _, rfl, fun hF p e_ R s m args below meth c T locs cells slots hA X H target st => ?_⟩
    have e : vv A O hz.size (0, uI (Term.op1 .l2i) a) = .int ((te A a).2.toInt32) := by show Value.int (te A (smI _)).1 = _; rw [te_smI]; rfl
    have st' : Steps p.tables e_ below (T.setTop (mkF m (pc + 1) (L.map (sl1 A O hz.size)).toArray (vv A O hz.size (0, uI (Term.op1 .l2i) a) :: S'.map (vv A O hz.size)))) target := st
    rw [e] at st'
    exact XS.l2i X.here hA.1 rfl (hb hA.2.2.1 hd) rfl st'
theorem g_i2b {pc : Nat} (hd : decode bytes pc = .ok (.i2b, 1)) : Good l Z hz sh A O y bytes maxL ret pc (sUn 0 0 (uI (Term.op1 .i2b)) (pc + 1)) :=
  good_one fun F L S D sl ns h => by
    obtain ⟨a, S', rfl, rfl⟩ := sUn_inv h
    refine ⟨_, _, rfl, fun hF p e_ R s m args below meth c T locs cells slots hA X H target st => ?_⟩
    have e : vv A O hz.size (0, uI (Term.op1 .i2b) a) = .int ((te A a).1.toInt8.toInt32) := by show Value.int (te A (smI _)).1 = _; rw [te_smI]; rfl
    have st' : Steps p.tables e_ below (T.setTop (mkF m (pc + 1) (L.map (sl1 A O hz.size)).toArray (vv A O hz.size (0, uI (Term.op1 .i2b) a) :: S'.map (vv A O hz.size)))) target := st
    rw [e] at st'
    exact XS.i2b X.here hA.1 rfl (hb hA.2.2.1 hd) rfl st'
theorem g_i2c {pc : Nat} (hd : decode bytes pc = .ok (.i2c, 1)) : Good l Z hz sh A O y bytes maxL ret pc (sUn 0 0 (uI (Term.op1 .i2c)) (pc + 1)) :=
  good_one fun F L S D sl ns h => by
    obtain ⟨a, S', rfl, rfl⟩ := sUn_inv h
    refine ⟨_, _, rfl, fun hF p e_ R s m args below meth c T locs cells slots hA X H target st => ?_⟩
    have e : vv A O hz.size (0, uI (Term.op1 .i2c) a) = .int ((te A a).1.toUInt32.toUInt16.toUInt32.toInt32) := by show Value.int (te A (smI _)).1 = _; rw [te_smI]; rfl
    have st' : Steps p.tables e_ below (T.setTop (mkF m (pc + 1) (L.map (sl1 A O hz.size)).toArray (vv A O hz.size (0, uI (Term.op1 .i2c) a) :: S'.map (vv A O hz.size)))) target := st
    rw [e] at st'
    exact XS.i2c X.here hA.1 rfl (hb hA.2.2.1 hd) rfl st'
theorem g_i2s {pc : Nat} (hd : decode bytes pc = .ok (.i2s, 1)) : Good l Z hz sh A O y bytes maxL ret pc (sUn 0 0 (uI (Term.op1 .i2s)) (pc + 1)) :=
  good_one fun F L S D sl ns h => by
    obtain ⟨a, S', rfl, rfl⟩ := sUn_inv h
    refine ⟨_, _, rfl, fun hF p e_ R s m args below meth c T locs cells slots hA X H target st => ?_⟩
    have e : vv A O hz.size (0, uI (Term.op1 .i2s) a) = .int ((te A a).1.toInt16.toInt32) := by show Value.int (te A (smI _)).1 = _; rw [te_smI]; rfl
    have st' : Steps p.tables e_ below (T.setTop (mkF m (pc + 1) (L.map (sl1 A O hz.size)).toArray (vv A O hz.size (0, uI (Term.op1 .i2s) a) :: S'.map (vv A O hz.size)))) target := st
    rw [e] at st'
    exact XS.i2s X.here hA.1 rfl (hb hA.2.2.1 hd) rfl st'
def s_irem (nx : Nat) : Stp := fun F cf => match cf.2.1 with
  | b :: a :: S => bif (a.1 == 0) && (b.1 == 0) then (match cv F b.2 with
    | some v => bif v == 0 then none else some [(F, nx, (cf.1, (0, jI Term.rem a.2 (.int v)) :: S, cf.2.2))]
    | none => none) else none
  | _ => none
theorem g_irem {pc : Nat} (hd : decode bytes pc = .ok (.irem, 1)) : Good l Z hz sh A O y bytes maxL ret pc (s_irem (pc + 1)) :=
  good_one fun F L S D sl ns h => by
    simp only [s_irem] at h
    split at h
    · rename_i b a S'
      obtain ⟨kb, b⟩ := b
      obtain ⟨ka, a⟩ := a
      cases hk : ((ka == 0) && (kb == 0))
      · rw [hk] at h; cases h
      · rw [hk] at h
        simp only [Bool.and_eq_true, beq_iff_eq] at hk
        obtain ⟨rfl, rfl⟩ := hk
        simp only [cond_true] at h
        split at h
        · rename_i v q
          cases hv : (v == 0)
          · rw [hv] at h; cases h
            refine ⟨_, _, rfl, fun hF p e_ R s m args below meth c T locs cells slots hA X H target st => ?_⟩
            have hb0 := cv_ok hF q
            have e : vv A O hz.size (0, jI Term.rem a (.int v)) = .int ((te A a).1 % (te A b).1) := by show Value.int (te A (smI _)).1 = _; rw [te_smI, hb0]; rfl
            have st' : Steps p.tables e_ below (T.setTop (mkF m (pc + 1) (L.map (sl1 A O hz.size)).toArray (vv A O hz.size (0, jI Term.rem a (.int v)) :: S'.map (vv A O hz.size)))) target := st
            rw [e] at st'
            exact iremM X hA.1 rfl (hb hA.2.2.1 hd) rfl (by rw [hb0]; simpa using hv) st'
          · rw [hv] at h; cases h
        · cases h
    · cases h
def s_idiv (nx : Nat) : Stp := fun F cf => match cf.2.1 with
  | b :: a :: S => bif (a.1 == 0) && (b.1 == 0) then (match cv F b.2 with
    | some v => bif v == 0 then none else some [(F, nx, (cf.1, (0, jI Term.div a.2 (.int v)) :: S, cf.2.2))]
    | none => none) else none
  | _ => none
theorem g_idiv {pc : Nat} (hd : decode bytes pc = .ok (.idiv, 1)) : Good l Z hz sh A O y bytes maxL ret pc (s_idiv (pc + 1)) :=
  good_one fun F L S D sl ns h => by
    simp only [s_idiv] at h
    split at h
    · rename_i b a S'
      obtain ⟨kb, b⟩ := b
      obtain ⟨ka, a⟩ := a
      cases hk : ((ka == 0) && (kb == 0))
      · rw [hk] at h; cases h
      · rw [hk] at h
        simp only [Bool.and_eq_true, beq_iff_eq] at hk
        obtain ⟨rfl, rfl⟩ := hk
        simp only [cond_true] at h
        split at h
        · rename_i v q
          cases hv : (v == 0)
          · rw [hv] at h; cases h
            refine ⟨_, _, rfl, fun hF p e_ R s m args below meth c T locs cells slots hA X H target st => ?_⟩
            have hb0 := cv_ok hF q
            have e : vv A O hz.size (0, jI Term.div a (.int v)) = .int ((te A a).1 / (te A b).1) := by show Value.int (te A (smI _)).1 = _; rw [te_smI, hb0]; rfl
            have st' : Steps p.tables e_ below (T.setTop (mkF m (pc + 1) (L.map (sl1 A O hz.size)).toArray (vv A O hz.size (0, jI Term.div a (.int v)) :: S'.map (vv A O hz.size)))) target := st
            rw [e] at st'
            exact XS.idiv X.here hA.1 rfl (hb hA.2.2.1 hd) rfl (by rw [hb0]; simpa using hv) st'
          · rw [hv] at h; cases h
        · cases h
    · cases h
def sIinc (k : Nat) (c : Int32) (nx : Nat) : Stp := fun F cf => match cf.1[k]? with
  | some (some (some x)) => bif x.1 == 0 then (match stL cf.1 k (0, jI Term.add x.2 (.int c)) with
    | some L => some [(F, nx, (L, cf.2))]
    | none => none) else none
  | _ => none
theorem g_iinc {pc k : Nat} {i : Int} {v : Int32} (hd : decode bytes pc = .ok (.iinc k i, 3)) (hv : Int32.ofInt i = v) : Good l Z hz sh A O y bytes maxL ret pc (sIinc k v (pc + 3)) :=
  good_one fun F L S D sl ns h => by
    simp only [sIinc] at h
    split at h
    · rename_i x q
      obtain ⟨kx, t⟩ := x
      cases hk : (kx == 0)
      · rw [hk] at h; cases h
      · rw [hk] at h; obtain rfl := beq_iff_eq.mp hk
        simp only [cond_true] at h
        split at h
        · rename_i L' q2
          cases h
          refine ⟨_, _, rfl, fun hF p e R s m args below meth c T locs cells slots hA X H target st => ?_⟩
          subst hv
          have k1 := stL_ok (A := A) (O := O) (hz := hz) q2
          have e1 : vv A O hz.size (0, jI Term.add t (.int (Int32.ofInt i))) = .int ((te A t).1 + Int32.ofInt i) := by show Value.int (te A (smI _)).1 = _; rw [te_smI]; rfl
          rw [e1] at k1
          exact XS.iinc X.here hA.1 rfl (hb hA.2.2.1 hd) (loc_at q) k1 st
        · cases h
    · cases h
/-! the stack -/
def sDup (nx : Nat) : Stp := fun F cf => match cf.2.1 with
  | x :: S => bif cat x == 1 then some [(F, nx, (cf.1, x :: x :: S, cf.2.2))] else none
  | _ => none
theorem g_dup {pc : Nat} (hd : decode bytes pc = .ok (.dup, 1)) : Good l Z hz sh A O y bytes maxL ret pc (sDup (pc + 1)) :=
  good_one fun F L S D sl ns h => by
    simp only [sDup] at h
    split at h
    · rename_i x S'
      cases hk : (cat x == 1)
      · rw [hk] at h; cases h
      · rw [hk] at h; cases h
        refine ⟨_, _, rfl, fun hF p e R s m args below meth c T locs cells slots hA X H target st => ?_⟩
        exact XS.dup X.here hA.1 rfl (hb hA.2.2.1 hd) rfl (by rw [vv_cat]; exact beq_iff_eq.mp hk) st
    · cases h
def sPop (nx : Nat) : Stp := fun F cf => match cf.2.1 with
  | x :: S => bif cat x == 1 then some [(F, nx, (cf.1, S, cf.2.2))] else none
  | _ => none
theorem g_pop {pc : Nat} (hd : decode bytes pc = .ok (.pop, 1)) : Good l Z hz sh A O y bytes maxL ret pc (sPop (pc + 1)) :=
  good_one fun F L S D sl ns h => by
    simp only [sPop] at h
    split at h
    · rename_i x S'
      cases hk : (cat x == 1)
      · rw [hk] at h; cases h
      · rw [hk] at h; cases h
        refine ⟨_, _, rfl, fun hF p e R s m args below meth c T locs cells slots hA X H target st => ?_⟩
        exact XS.pop X.here hA.1 rfl (hb hA.2.2.1 hd) rfl (by rw [vv_cat]; exact beq_iff_eq.mp hk) st
    · cases h
def sDupX1 (nx : Nat) : Stp := fun F cf => match cf.2.1 with
  | x :: z :: S => bif (cat x == 1) && (cat z == 1) then some [(F, nx, (cf.1, x :: z :: x :: S, cf.2.2))] else none
  | _ => none
theorem g_dupX1 {pc : Nat} (hd : decode bytes pc = .ok (.dup_x1, 1)) : Good l Z hz sh A O y bytes maxL ret pc (sDupX1 (pc + 1)) :=
  good_one fun F L S D sl ns h => by
    simp only [sDupX1] at h
    split at h
    · rename_i x z S'
      cases hk : ((cat x == 1) && (cat z == 1))
      · rw [hk] at h; cases h
      · rw [hk] at h; cases h
        simp only [Bool.and_eq_true, beq_iff_eq] at hk
        refine ⟨_, _, rfl, fun hF p e R s m args below meth c T locs cells slots hA X H target st => ?_⟩
        exact XT.dupX1 X.here hA.1 rfl (hb hA.2.2.1 hd) rfl (by rw [vv_cat]; exact hk.1) (by rw [vv_cat]; exact hk.2) st
    · cases h
def sDup2 (nx : Nat) : Stp := fun F cf => match cf.2.1 with
  | x :: z :: S => bif (cat x == 1) && (cat z == 1) then some [(F, nx, (cf.1, x :: z :: x :: z :: S, cf.2.2))] else none
  | _ => none
theorem g_dup2 {pc : Nat} (hd : decode bytes pc = .ok (.dup2, 1)) : Good l Z hz sh A O y bytes maxL ret pc (sDup2 (pc + 1)) :=
  good_one fun F L S D sl ns h => by
    simp only [sDup2] at h
    split at h
    · rename_i x z S'
      cases hk : ((cat x == 1) && (cat z == 1))
      · rw [hk] at h; cases h
      · rw [hk] at h; cases h
        simp only [Bool.and_eq_true, beq_iff_eq] at hk
        refine ⟨_, _, rfl, fun hF p e R s m args below meth c T locs cells slots hA X H target st => ?_⟩
        exact XT.dup2 X.here hA.1 rfl (hb hA.2.2.1 hd) rfl (by rw [vv_cat]; exact hk.1) (by rw [vv_cat]; exact hk.2) st
    · cases h
/-! jumps -/
def sGoto (tg : Nat) : Stp := fun F cf => some [(F, tg, cf)]
theorem g_goto {pc tg : Nat} {o : Int} (hd : decode bytes pc = .ok (.goto o, 3)) (h1 : 0 ≤ (pc : Int) + o) (h2 : ((pc : Int) + o).toNat = tg) : Good l Z hz sh A O y bytes maxL ret pc (sGoto tg) :=
  good_one fun F L S D sl ns h => by
    cases h
    refine ⟨_, _, rfl, fun hF p e R s m args below meth c T locs cells slots hA X H target st => ?_⟩
    exact XS.goto X.here hA.1 rfl (pc0 := pc) (pc' := tg) rfl (hb hA.2.2.1 hd) h1 h2 st
def atm : ClassFile.Cond → Term → Term → Cond × Bool
  | .eq, a, b => (.eq a b, true)
  | .ne, a, b => (.eq a b, false)
  | .lt, a, b => (.lt a b, true)
  | .ge, a, b => (.lt a b, false)
  | .gt, a, b => (.lt b a, true)
  | .le, a, b => (.lt b a, false)
theorem atm_ok (A : En) (cd : ClassFile.Cond) (a b : Term) : (hold A (atm cd a b).1 → if_icmp.holds cd (te A a).1 (te A b).1 = (atm cd a b).2) ∧ (¬ hold A (atm cd a b).1 → if_icmp.holds cd (te A a).1 (te A b).1 = !(atm cd a b).2) := by
  cases cd <;> refine ⟨fun h => ?_, fun h => ?_⟩ <;> simp only [atm, hold] at h <;> simp only [atm, Bool.not_true, Bool.not_false]
  · exact (teq h).1
  · exact (feq h).1
  · exact (teq h).2
  · exact (feq h).2
  · exact (tlt h).1
  · exact (flt h).1
  · exact (tlt h).2.1
  · exact (flt h).2.1
  · exact (tlt h).2.2.1
  · exact (flt h).2.2.1
  · exact (tlt h).2.2.2
  · exact (flt h).2.2.2
def br (F : List Cond) (q : Cond × Bool) (tg nx : Nat) (cf : Cf) : List Nx := match q.2 with
  | true => fork F q.1 (fun G => (G, tg, cf)) (fun G => (G, nx, cf))
  | false => fork F q.1 (fun G => (G, nx, cf)) (fun G => (G, tg, cf))
theorem br_ok {F : List Cond} {cd : ClassFile.Cond} {a b : Term} {tg nx : Nat} {cf : Cf} (hF : holds A F) :
    ∃ n ∈ br F (atm cd a b) tg nx cf, holds A n.1 ∧ n.2.2 = cf ∧ ((if_icmp.holds cd (te A a).1 (te A b).1 = true ∧ n.2.1 = tg) ∨ (if_icmp.holds cd (te A a).1 (te A b).1 = false ∧ n.2.1 = nx)) := by
  obtain ⟨k1, k2⟩ := atm_ok A cd a b
  unfold br
  cases hq : (atm cd a b).2
  · rw [hq] at k1 k2
    obtain ⟨G, hG, ⟨h1, h2⟩ | ⟨h1, h2⟩⟩ := fork_ok (A := A) (F := F) (c := (atm cd a b).1) (yes := fun G => (G, nx, cf)) (no := fun G => (G, tg, cf)) hF (fun _ => rfl) (fun _ => rfl)
    · exact ⟨_, h2, hG, rfl, Or.inr ⟨k1 h1, rfl⟩⟩
    · exact ⟨_, h2, hG, rfl, Or.inl ⟨k2 h1, rfl⟩⟩
  · rw [hq] at k1 k2
    obtain ⟨G, hG, ⟨h1, h2⟩ | ⟨h1, h2⟩⟩ := fork_ok (A := A) (F := F) (c := (atm cd a b).1) (yes := fun G => (G, tg, cf)) (no := fun G => (G, nx, cf)) hF (fun _ => rfl) (fun _ => rfl)
    · exact ⟨_, h2, hG, rfl, Or.inl ⟨k1 h1, rfl⟩⟩
    · exact ⟨_, h2, hG, rfl, Or.inr ⟨k2 h1, rfl⟩⟩
def sIcmp (cd : ClassFile.Cond) (tg nx : Nat) : Stp := fun F cf => match cf.2.1 with
  | b :: a :: S => bif (a.1 == 0) && (b.1 == 0) then some (br F (atm cd a.2 b.2) tg nx (cf.1, S, cf.2.2)) else none
  | _ => none
theorem g_icmp {pc tg : Nat} {cd : ClassFile.Cond} {o : Int} (hd : decode bytes pc = .ok (.if_icmp cd o, 3)) (h1 : 0 ≤ (pc : Int) + o) (h2 : ((pc : Int) + o).toNat = tg) : Good l Z hz sh A O y bytes maxL ret pc (sIcmp cd tg (pc + 3)) := by
  intro F cf ns h hF
  obtain ⟨L, S, D, sl⟩ := cf
  simp only [sIcmp] at h
  split at h
  · rename_i b a S'
    obtain ⟨kb, b⟩ := b
    obtain ⟨ka, a⟩ := a
    cases hk : ((ka == 0) && (kb == 0))
    · rw [hk] at h; cases h
    · rw [hk] at h; cases h
      simp only [Bool.and_eq_true, beq_iff_eq] at hk
      obtain ⟨rfl, rfl⟩ := hk
      obtain ⟨n, hn, hG, e1, ⟨e2, e3⟩ | ⟨e2, e3⟩⟩ := br_ok (cd := cd) (a := a) (b := b) (tg := tg) (nx := pc + 3) (cf := (L, S', D, sl)) hF
      · refine ⟨n, hn, hG, ?_⟩
        rw [e1, e3]
        refine sim_pure fun p e R s m args below meth c T locs cells slots hA X H target st => ?_
        exact XS.icmpYes X.here hA.1 rfl (pc0 := pc) (pc' := tg) rfl (hb hA.2.2.1 hd) rfl e2 h1 h2 st
      · refine ⟨n, hn, hG, ?_⟩
        rw [e1, e3]
        refine sim_pure fun p e R s m args below meth c T locs cells slots hA X H target st => ?_
        exact XS.icmpNo X.here hA.1 rfl (hb hA.2.2.1 hd) rfl e2 st
  · cases h
def sIf (cd : ClassFile.Cond) (tg nx : Nat) : Stp := fun F cf => match cf.2.1 with
  | a :: S => bif (a.1 == 0) then some (br F (atm cd a.2 (.int 0)) tg nx (cf.1, S, cf.2.2)) else none
  | _ => none
theorem g_if {pc tg : Nat} {cd : ClassFile.Cond} {o : Int} (hd : decode bytes pc = .ok (.ifCond cd o, 3)) (h1 : 0 ≤ (pc : Int) + o) (h2 : ((pc : Int) + o).toNat = tg) : Good l Z hz sh A O y bytes maxL ret pc (sIf cd tg (pc + 3)) := by
  intro F cf ns h hF
  obtain ⟨L, S, D, sl⟩ := cf
  simp only [sIf] at h
  split at h
  · rename_i a S'
    obtain ⟨ka, a⟩ := a
    cases hk : (ka == 0)
    · rw [hk] at h; cases h
    · rw [hk] at h; cases h
      obtain rfl := beq_iff_eq.mp hk
      obtain ⟨n, hn, hG, e1, ⟨e2, e3⟩ | ⟨e2, e3⟩⟩ := br_ok (cd := cd) (a := a) (b := .int 0) (tg := tg) (nx := pc + 3) (cf := (L, S', D, sl)) hF
      · refine ⟨n, hn, hG, ?_⟩
        rw [e1, e3]
        refine sim_pure fun p e R s m args below meth c T locs cells slots hA X H target st => ?_
        exact XS.ifYes X.here hA.1 rfl (pc0 := pc) (pc' := tg) rfl (hb hA.2.2.1 hd) rfl ((if0 _ _).trans e2) h1 h2 st
      · refine ⟨n, hn, hG, ?_⟩
        rw [e1, e3]
        refine sim_pure fun p e R s m args below meth c T locs cells slots hA X H target st => ?_
        exact XS.ifNo X.here hA.1 rfl (hb hA.2.2.1 hd) rfl ((if0 _ _).trans e2) st
  · cases h
/-- references whose being null is known -/
def isNull : Term → Bool
  | .index _ => false
  | .arg _ => false
  | _ => true
theorem rf_null {O : Nat → Addr} {n0 : Nat} {t : Term} (h : isNull t = true) : rf O n0 t = .null := by cases t <;> simp [isNull] at h <;> rfl
theorem rf_some {O : Nat → Addr} {n0 : Nat} {t : Term} (h : isNull t = false) : ∃ b, rf O n0 t = .ref b := by cases t <;> simp [isNull] at h <;> exact ⟨_, rfl⟩
def sIfNull (w : Bool) (tg nx : Nat) : Stp := fun F cf => match cf.2.1 with
  | a :: S => bif (a.1 == 2) then some [(F, bif isNull a.2 == w then tg else nx, (cf.1, S, cf.2.2))] else none
  | _ => none
theorem g_ifnull {pc tg : Nat} {o : Int} (hd : decode bytes pc = .ok (.ifnull o, 3)) (h1 : 0 ≤ (pc : Int) + o) (h2 : ((pc : Int) + o).toNat = tg) : Good l Z hz sh A O y bytes maxL ret pc (sIfNull true tg (pc + 3)) := by
  intro F cf ns h hF
  obtain ⟨L, S, D, sl⟩ := cf
  simp only [sIfNull] at h
  split at h
  · rename_i a S'
    obtain ⟨ka, a⟩ := a
    cases hk : (ka == 2)
    · rw [hk] at h; cases h
    · rw [hk] at h; cases h
      obtain rfl := beq_iff_eq.mp hk
      refine ⟨_, List.mem_cons_self .., hF, ?_⟩
      cases q : isNull a
      · obtain ⟨b, hb'⟩ := rf_some (O := O) (n0 := hz.size) q
        refine sim_pure fun p e R s m args below meth c T locs cells slots hA X H target st => ?_
        have hs : (frm hz A O m pc (L, (2, a) :: S', D, sl)).stack = .ref b :: S'.map (vv A O hz.size) := by show rf O hz.size a :: _ = _; rw [hb']
        exact XS.ifnullNo X.here hA.1 rfl (hb hA.2.2.1 hd) hs st
      · have hb' := rf_null (O := O) (n0 := hz.size) q
        refine sim_pure fun p e R s m args below meth c T locs cells slots hA X H target st => ?_
        have hs : (frm hz A O m pc (L, (2, a) :: S', D, sl)).stack = .null :: S'.map (vv A O hz.size) := by show rf O hz.size a :: _ = _; rw [hb']
        exact XS.ifnullYes X.here hA.1 rfl (pc0 := pc) (pc' := tg) rfl (hb hA.2.2.1 hd) hs h1 h2 st
  · cases h
theorem g_ifnonnull {pc tg : Nat} {o : Int} (hd : decode bytes pc = .ok (.ifnonnull o, 3)) (h1 : 0 ≤ (pc : Int) + o) (h2 : ((pc : Int) + o).toNat = tg) : Good l Z hz sh A O y bytes maxL ret pc (sIfNull false tg (pc + 3)) := by
  intro F cf ns h hF
  obtain ⟨L, S, D, sl⟩ := cf
  simp only [sIfNull] at h
  split at h
  · rename_i a S'
    obtain ⟨ka, a⟩ := a
    cases hk : (ka == 2)
    · rw [hk] at h; cases h
    · rw [hk] at h; cases h
      obtain rfl := beq_iff_eq.mp hk
      refine ⟨_, List.mem_cons_self .., hF, ?_⟩
      cases q : isNull a
      · obtain ⟨b, hb'⟩ := rf_some (O := O) (n0 := hz.size) q
        refine sim_pure fun p e R s m args below meth c T locs cells slots hA X H target st => ?_
        have hs : (frm hz A O m pc (L, (2, a) :: S', D, sl)).stack = .ref b :: S'.map (vv A O hz.size) := by show rf O hz.size a :: _ = _; rw [hb']
        exact XS.ifnonnullYes X.here hA.1 rfl (pc0 := pc) (pc' := tg) rfl (hb hA.2.2.1 hd) hs h1 h2 st
      · have hb' := rf_null (O := O) (n0 := hz.size) q
        refine sim_pure fun p e R s m args below meth c T locs cells slots hA X H target st => ?_
        have hs : (frm hz A O m pc (L, (2, a) :: S', D, sl)).stack = .null :: S'.map (vv A O hz.size) := by show rf O hz.size a :: _ = _; rw [hb']
        exact XS.ifnonnullNo X.here hA.1 rfl (hb hA.2.2.1 hd) hs st
  · cases h
/-! enumeration of an int whose bounds are near each other -/
def enum (F : List Cond) (pc : Nat) (t : Term) (L : List SL) (S : List SV) (r : List Ob × Nat) (lo : Int) (n : Nat) : List Nx :=
  ((List.range n).map fun (i : Nat) => (Cond.eq t (.int (Int32.ofInt (lo + Int.ofNat i))) :: F, pc, (L, (0, .int (Int32.ofInt (lo + Int.ofNat i))) :: S, r))).filter fun n => (match n.1 with
    | c :: _ => (match lk c F with
      | some false => false
      | _ => true)
    | [] => true)
def sSplit (pc : Nat) (f : Stp) : Stp := fun F cf => match cf.2.1 with
  | (0, t) :: S => bif isLit t then f F cf else
      bif decide ((rg F t).2 - (rg F t).1 < 300) then some (enum F pc t cf.1 S cf.2.2 (rg F t).1 ((rg F t).2 - (rg F t).1 + 1).toNat) else none
  | _ => none
theorem g_split {pc : Nat} {f : Stp} (g : Good l Z hz sh A O y bytes maxL ret pc f) : Good l Z hz sh A O y bytes maxL ret pc (sSplit pc f) := by
  intro F cf ns h hF
  obtain ⟨L, S, D, sl⟩ := cf
  simp only [sSplit] at h
  split at h
  · rename_i t S'
    cases hl : isLit t
    · rw [hl] at h
      cases hq : decide ((rg F t).2 - (rg F t).1 < 300)
      · rw [hq] at h; cases h
      · rw [hq] at h; cases h
        obtain ⟨h1, h2⟩ := rg_ok hF t
        have e : (rg F t).1 + Int.ofNat ((te A t).1.toInt - (rg F t).1).toNat = (te A t).1.toInt := by
          show (rg F t).1 + (((te A t).1.toInt - (rg F t).1).toNat : Int) = _; omega
        refine ⟨(Cond.eq t (.int (Int32.ofInt ((rg F t).1 + Int.ofNat ((te A t).1.toInt - (rg F t).1).toNat))) :: F, pc, (L, (0, .int (Int32.ofInt ((rg F t).1 + Int.ofNat ((te A t).1.toInt - (rg F t).1).toNat))) :: S', (D, sl))), ?_, ?_, ?_⟩
        · refine List.mem_filter.mpr ⟨List.mem_map.mpr ⟨((te A t).1.toInt - (rg F t).1).toNat, List.mem_range.mpr (by omega), rfl⟩, ?_⟩
          simp only
          split
          · rename_i q
            have hh : hold A (Cond.eq t (.int (Int32.ofInt ((rg F t).1 + Int.ofNat ((te A t).1.toInt - (rg F t).1).toNat)))) := by show (te A t).1 = Int32.ofInt _; rw [e, Int32.ofInt_toInt]
            exact absurd ((lk_ok hF q).mp hh) (by simp)
          · rfl
        · refine holds_cons ?_ hF
          show (te A t).1 = Int32.ofInt _
          rw [e, Int32.ofInt_toInt]
        · refine sim_pure fun p e' R s m args below meth c T locs cells slots hA X H target st => ?_
          have q : frm hz A O m pc (L, (0, .int (Int32.ofInt ((rg F t).1 + Int.ofNat ((te A t).1.toInt - (rg F t).1).toNat))) :: S', D, sl) = frm hz A O m pc (L, (0, t) :: S', D, sl) := by
            rw [e, Int32.ofInt_toInt]; rfl
          rw [q] at st; exact st
    · rw [hl] at h; exact g F _ ns h hF
  · cases h
/-! ### 5. Arrays and objects -/
def dflt : FieldType → SV
  | .long => (1, .long 0)
  | .double => (3, .long 0)
  | .object _ => (2, .null)
  | .array _ => (2, .null)
  | _ => (0, .int 0)
theorem dflt_ok {ty : FieldType} (h : ty ≠ .float) : vv A O hz.size (dflt ty) = defaultValue ty := by
  cases ty <;> first | rfl | exact absurd rfl h
theorem list_rep (n : Nat) (x : SV) : ((List.replicate n x).map (vv A O hz.size)).toArray = Array.replicate n (vv A O hz.size x) := by simp
/-- the state has grown by just one cell -/
theorem grown {p : Program} {e : Env} {R : Room} {s : State} {m : MethodId} {args : Array Value} {below : List Frame} {meth : Method} {c : Code} {T T' : State} {locs : List Loc} {d0 slots : Nat} {D : List Ob}
    (X : Stand p l e R s m args below meth c T' locs (D.length - d0 + 1) slots) (hd : d0 ≤ D.length) (hh : s.heap.size = hz.size + d0) (H : HD Z hz sh A O T.heap D) (hlt : T.heap.size < T'.heap.size) : T'.heap.size = T.heap.size + 1 := by
  have h1 := X.heapSize
  have h2 := H.1
  omega
def sNewA (sid : Nat) (ty : FieldType) (nx : Nat) : Stp := fun F cf => match cf.2.1 with
  | (0, t) :: S => (match cv F t with
    | some v => bif decide (0 ≤ v) && Nat.ble v.toNatClampNeg 67108864 then some [(F, nx, (cf.1, (2, .index cf.2.2.1.length) :: S, cf.2.2.1 ++ [(sid, List.replicate v.toNatClampNeg (dflt ty))], cf.2.2.2 + v.toNatClampNeg))] else none
    | none => none)
  | _ => none
theorem g_newarray {pc sid : Nat} {aty : ArrayType} {r : String × Nat × List Fi} {a0 : Array Value} (hd : decode bytes pc = .ok (.newarray aty, 2)) (hs : sh[sid]? = some (some (newarray.typeOf aty), r)) (hf : aty ≠ .float) (w : (Cond.arrayClass (newarray.typeOf aty)).before a0 Z = true) :
    Good l Z hz sh A O y bytes maxL ret pc (sNewA sid (newarray.typeOf aty) (pc + 2)) := by
  intro F cf ns h hF
  obtain ⟨L, S, D, sl⟩ := cf
  simp only [sNewA] at h
  split at h
  · rename_i t S'
    split at h
    · rename_i v q
      cases hv : (decide (0 ≤ v) && Nat.ble v.toNatClampNeg 67108864)
      · rw [hv] at h; cases h
      · rw [hv] at h; cases h
        simp only [Bool.and_eq_true, decide_eq_true_eq] at hv
        obtain ⟨v1, v2⟩ := hv
        have v2 := Nat.le_of_ble_eq_true v2
        have hv0 : ¬ v < 0 := Int32.not_lt.mpr v1
        have ev := cv_ok hF q
        refine ⟨_, List.mem_cons_self .., hF, by simp, by simp, ?_⟩
        intro d0 s0 p e R s m args below meth c T locs hd0 hs0 hh hA X H N hc hl hfr hlo
        simp only [List.length_append, List.length_cons, List.length_nil] at hc hl hd0 hs0 X H ⊢
        have hgs : (frm hz A O m pc (L, (0, t) :: S', D, sl)).stack = .int v :: S'.map (vv A O hz.size) := by show Value.int (te A t).1 :: _ = _; rw [ev]
        obtain ⟨T', h', cA, X', e1, E, Ar, st⟩ := newP X hA.1 hA.2.1 w rfl (g := frm hz A O m pc (L, (0, t) :: S', D, sl)) rfl (hb hA.2.2.1 hd) hgs hv0 (cap := v.toNatClampNeg) (Nat.le_refl _) (by omega) (by omega) (by omega)
        have hsz : T'.heap.size = T.heap.size + 1 := grown X' hd0 hh H (by rw [e1]; exact Ar.lt)
        have c1 : D.length + (0 + 1) - d0 = D.length - d0 + 1 := by omega
        have c2 : sl + v.toNatClampNeg - s0 = sl - s0 + v.toNatClampNeg := by omega
        refine ⟨T', locs, by rw [c1, c2]; exact X', ?_, N, ?_⟩
        · subst e1
          refine H.push E hsz ?_
          rw [ObAt.arr (o := (sid, _)) hs]
          refine ⟨_, Ar, ?_, ?_, fun C q => ?_⟩
          · show Array.replicate _ _ = _
            rw [list_rep, dflt_ok]
            intro q; cases aty <;> first | exact hf rfl | cases q
          · rw [List.length_replicate]; omega
          · cases aty <;> cases q
        · intro target k
          refine st target ?_
          have hi : vv A O hz.size (2, .index D.length) = .ref T.heap.size := by show Value.ref (hz.size + D.length) = _; rw [H.1]
          have k' : Steps p.tables e below (T'.setTop (mkF m (pc + 2) (L.map (sl1 A O hz.size)).toArray (vv A O hz.size (2, .index D.length) :: S'.map (vv A O hz.size)))) target := k
          rw [hi] at k'; exact k'
    · cases h
  · cases h
def sLen (nx : Nat) : Stp := fun F cf => match cf.2.1 with
  | (2, .index k) :: S => (match cf.2.2.1[k]? with
    | some o => some [(F, nx, (cf.1, (0, .int o.2.length.toInt32) :: S, cf.2.2))]
    | none => none)
  | _ => none
def sLenA (sid nx : Nat) : Stp := fun F cf => match cf.2.1 with
  | (2, .index k) :: S => (match cf.2.2.1[k]? with
    | some o => bif o.1 == sid then some [(F, nx, (cf.1, (0, .int o.2.length.toInt32) :: S, cf.2.2))] else none
    | none => none)
  | _ => none
theorem g_len {pc sid : Nat} {ty : FieldType} {r : String × Nat × List Fi} (hd : decode bytes pc = .ok (.arraylength, 1)) (hs : sh[sid]? = some (some ty, r)) : Good l Z hz sh A O y bytes maxL ret pc (sLenA sid (pc + 1)) :=
  good_one fun F L S D sl ns h => by
    simp only [sLenA] at h
    split at h
    · rename_i k S'
      split at h
      · rename_i o q
        cases hk : (o.1 == sid)
        · rw [hk] at h; cases h
        · rw [hk] at h; cases h
          obtain rfl := beq_iff_eq.mp hk
          refine ⟨_, _, rfl, fun hF p e R s m args below meth c T locs cells slots hA X H target st => ?_⟩
          have ho := H.2.2 k o q
          rw [ObAt.arr hs] at ho
          obtain ⟨cl, Ar, a1, a2, a3⟩ := ho
          refine X.arraylength hA.1 Ar.1 (State.isArrayOf_alike hA.2.1.alike Ar.2.1) (g := frm hz A O m pc (L, (2, .index k) :: S', D, sl)) rfl rfl (hb hA.2.2.1 hd) _ ?_
          have : cl.slots.size = o.2.length := by rw [a1]; simp
          rw [this]; exact st
      · cases h
    · cases h
def sAld (sid nx : Nat) : Stp := fun F cf => match cf.2.1 with
  | (0, j) :: (2, .index k) :: S => (match cv F j with
    | some v => (match cf.2.2.1[k]? with
      | some o => bif (o.1 == sid) && decide (0 ≤ v) then (match o.2[v.toNatClampNeg]? with
        | some x => some [(F, nx, (cf.1, x :: S, cf.2.2))]
        | none => none) else none
      | none => none)
    | none => none)
  | _ => none
theorem sAld_inv {sid nx : Nat} {F : List Cond} {L : List SL} {S : List SV} {D : List Ob} {sl : Nat} {ns : List Nx} (h : sAld sid nx F (L, S, D, sl) = some ns) : ∃ j k S' v xs x, S = (0, j) :: (2, .index k) :: S' ∧ cv F j = some v ∧ D[k]? = some (sid, xs) ∧ ¬ v < 0 ∧ xs[v.toNatClampNeg]? = some x ∧ ns = [(F, nx, (L, x :: S', D, sl))] := by
  simp only [sAld] at h
  split at h
  · rename_i j k S'
    split at h
    · rename_i v q
      split at h
      · rename_i o q2
        obtain ⟨o1, xs⟩ := o
        cases hk : ((o1 == sid) && decide (0 ≤ v))
        · rw [hk] at h; cases h
        · rw [hk] at h
          simp only [Bool.and_eq_true, decide_eq_true_eq, beq_iff_eq] at hk
          obtain ⟨rfl, v1⟩ := hk
          simp only [cond_true] at h
          split at h
          · rename_i x q3; cases h
            exact ⟨j, k, S', v, xs, x, rfl, q, q2, Int32.not_lt.mpr v1, q3, rfl⟩
          · cases h
      · cases h
    · cases h
  · cases h
theorem g_iaload {pc sid : Nat} {r : String × Nat × List Fi} (hd : decode bytes pc = .ok (.iaload, 1)) (hs : sh[sid]? = some (some .int, r)) : Good l Z hz sh A O y bytes maxL ret pc (sAld sid (pc + 1)) :=
  good_one fun F L S D sl ns h => by
    obtain ⟨j, k, S', v, xs, x, rfl, q1, q2, q3, q4, rfl⟩ := sAld_inv h
    refine ⟨_, _, rfl, fun hF p e R s m args below meth c T locs cells slots hA X H target st => ?_⟩
    have ho := H.2.2 k _ q2
    rw [ObAt.arr (o := (sid, xs)) hs] at ho
    obtain ⟨cl, Ar, a1, a2, a3⟩ := ho
    have hlt := (List.getElem?_eq_some_iff.mp q4).1
    have hsz : cl.slots.size = xs.length := by rw [a1]; simp
    have hgs : (frm hz A O m pc (L, (0, j) :: (2, .index k) :: S', D, sl)).stack = .int v :: .ref (hz.size + k) :: S'.map (vv A O hz.size) := by show Value.int (te A j).1 :: _ = _; rw [cv_ok hF q1]; rfl
    exact X.iaload hA.1 Ar.1 (State.isArrayOf_alike hA.2.1.alike Ar.2.1) Ar.2.2 (j := v) (v := vv A O hz.size x) (fun q => q.elim q3 (fun q => by omega)) (by rw [a1]; simp [q4]) (g := frm hz A O m pc (L, (0, j) :: (2, .index k) :: S', D, sl)) rfl hgs (hb hA.2.2.1 hd) _ st
theorem g_laload {pc sid : Nat} {r : String × Nat × List Fi} (hd : decode bytes pc = .ok (.laload, 1)) (hs : sh[sid]? = some (some .long, r)) : Good l Z hz sh A O y bytes maxL ret pc (sAld sid (pc + 1)) :=
  good_one fun F L S D sl ns h => by
    obtain ⟨j, k, S', v, xs, x, rfl, q1, q2, q3, q4, rfl⟩ := sAld_inv h
    refine ⟨_, _, rfl, fun hF p e R s m args below meth c T locs cells slots hA X H target st => ?_⟩
    have ho := H.2.2 k _ q2
    rw [ObAt.arr (o := (sid, xs)) hs] at ho
    obtain ⟨cl, Ar, a1, a2, a3⟩ := ho
    have hlt := (List.getElem?_eq_some_iff.mp q4).1
    have hsz : cl.slots.size = xs.length := by rw [a1]; simp
    have hgs : (frm hz A O m pc (L, (0, j) :: (2, .index k) :: S', D, sl)).stack = .int v :: .ref (hz.size + k) :: S'.map (vv A O hz.size) := by show Value.int (te A j).1 :: _ = _; rw [cv_ok hF q1]; rfl
    exact X.laload hA.1 Ar.1 (State.isArrayOf_alike hA.2.1.alike Ar.2.1) Ar.2.2 (j := v) (v := vv A O hz.size x) (fun q => q.elim q3 (fun q => by omega)) (by rw [a1]; simp [q4]) (g := frm hz A O m pc (L, (0, j) :: (2, .index k) :: S', D, sl)) rfl hgs (hb hA.2.2.1 hd) _ st
theorem g_caload {pc sid : Nat} {r : String × Nat × List Fi} (hd : decode bytes pc = .ok (.caload, 1)) (hs : sh[sid]? = some (some .char, r)) : Good l Z hz sh A O y bytes maxL ret pc (sAld sid (pc + 1)) :=
  good_one fun F L S D sl ns h => by
    obtain ⟨j, k, S', v, xs, x, rfl, q1, q2, q3, q4, rfl⟩ := sAld_inv h
    refine ⟨_, _, rfl, fun hF p e R s m args below meth c T locs cells slots hA X H target st => ?_⟩
    have ho := H.2.2 k _ q2
    rw [ObAt.arr (o := (sid, xs)) hs] at ho
    obtain ⟨cl, Ar, a1, a2, a3⟩ := ho
    have hlt := (List.getElem?_eq_some_iff.mp q4).1
    have hsz : cl.slots.size = xs.length := by rw [a1]; simp
    have hgs : (frm hz A O m pc (L, (0, j) :: (2, .index k) :: S', D, sl)).stack = .int v :: .ref (hz.size + k) :: S'.map (vv A O hz.size) := by show Value.int (te A j).1 :: _ = _; rw [cv_ok hF q1]; rfl
    exact X.caload hA.1 Ar.1 (State.isArrayOf_alike hA.2.1.alike Ar.2.1) Ar.2.2 (j := v) (v := vv A O hz.size x) (fun q => q.elim q3 (fun q => by omega)) (by rw [a1]; simp [q4]) (g := frm hz A O m pc (L, (0, j) :: (2, .index k) :: S', D, sl)) rfl hgs (hb hA.2.2.1 hd) _ st
theorem g_baloadB {pc sid : Nat} {r : String × Nat × List Fi} (hd : decode bytes pc = .ok (.baload, 1)) (hs : sh[sid]? = some (some .byte, r)) : Good l Z hz sh A O y bytes maxL ret pc (sAld sid (pc + 1)) :=
  good_one fun F L S D sl ns h => by
    obtain ⟨j, k, S', v, xs, x, rfl, q1, q2, q3, q4, rfl⟩ := sAld_inv h
    refine ⟨_, _, rfl, fun hF p e R s m args below meth c T locs cells slots hA X H target st => ?_⟩
    have ho := H.2.2 k _ q2
    rw [ObAt.arr (o := (sid, xs)) hs] at ho
    obtain ⟨cl, Ar, a1, a2, a3⟩ := ho
    have hlt := (List.getElem?_eq_some_iff.mp q4).1
    have hsz : cl.slots.size = xs.length := by rw [a1]; simp
    have hgs : (frm hz A O m pc (L, (0, j) :: (2, .index k) :: S', D, sl)).stack = .int v :: .ref (hz.size + k) :: S'.map (vv A O hz.size) := by show Value.int (te A j).1 :: _ = _; rw [cv_ok hF q1]; rfl
    exact X.baloadBytes hA.1 Ar.1 (State.isArrayOf_alike hA.2.1.alike Ar.2.1) Ar.2.2 (j := v) (v := vv A O hz.size x) (fun q => q.elim q3 (fun q => by omega)) (by rw [a1]; simp [q4]) (g := frm hz A O m pc (L, (0, j) :: (2, .index k) :: S', D, sl)) rfl hgs (hb hA.2.2.1 hd) _ st
theorem g_baloadZ {pc sid : Nat} {r : String × Nat × List Fi} (hd : decode bytes pc = .ok (.baload, 1)) (hs : sh[sid]? = some (some .boolean, r)) : Good l Z hz sh A O y bytes maxL ret pc (sAld sid (pc + 1)) :=
  good_one fun F L S D sl ns h => by
    obtain ⟨j, k, S', v, xs, x, rfl, q1, q2, q3, q4, rfl⟩ := sAld_inv h
    refine ⟨_, _, rfl, fun hF p e R s m args below meth c T locs cells slots hA X H target st => ?_⟩
    have ho := H.2.2 k _ q2
    rw [ObAt.arr (o := (sid, xs)) hs] at ho
    obtain ⟨cl, Ar, a1, a2, a3⟩ := ho
    have hlt := (List.getElem?_eq_some_iff.mp q4).1
    have hsz : cl.slots.size = xs.length := by rw [a1]; simp
    have hgs : (frm hz A O m pc (L, (0, j) :: (2, .index k) :: S', D, sl)).stack = .int v :: .ref (hz.size + k) :: S'.map (vv A O hz.size) := by show Value.int (te A j).1 :: _ = _; rw [cv_ok hF q1]; rfl
    exact X.baloadBooleans hA.1 Ar.1 (State.isArrayOf_alike hA.2.1.alike Ar.2.1) Ar.2.2 (j := v) (v := vv A O hz.size x) (fun q => q.elim q3 (fun q => by omega)) (by rw [a1]; simp [q4]) (g := frm hz A O m pc (L, (0, j) :: (2, .index k) :: S', D, sl)) rfl hgs (hb hA.2.2.1 hd) _ st
def nrT (ty : FieldType) (t : Term) : Term := match ty with
  | .boolean => smI (.op2 .iand t (.int 1))
  | .byte => smI (.op1 .i2b t)
  | .char => smI (.op1 .i2c t)
  | .short => smI (.op1 .i2s t)
  | _ => t
def kdOf : FieldType → Nat
  | .long => 1
  | .double => 3
  | .object _ => 2
  | .array _ => 2
  | _ => 0
theorem nrT_ok {ty : FieldType} (hf : ty ≠ .float) (t : Term) : narrow ty (vv A O hz.size (kdOf ty, t)) = vv A O hz.size (kdOf ty, nrT ty t) ∧ fits ty (vv A O hz.size (kdOf ty, nrT ty t)) = true := by
  have rr : ∀ (t : Term), (∀ n, fits (.object n) (rf O hz.size t) = true) ∧ (∀ u, fits (.array u) (rf O hz.size t) = true) := fun t => by
    rcases ref_cases (rf_isRef O hz.size t) with q | ⟨a, q⟩ <;> rw [q] <;> exact ⟨fun _ => rfl, fun _ => rfl⟩
  cases ty with
  | float => exact absurd rfl hf
  | boolean =>
    have e : vv A O hz.size (kdOf .boolean, nrT .boolean t) = .int (nar .boolean (te A t).1) := by show Value.int (te A (smI _)).1 = _; rw [te_smI]; rfl
    rw [e]; exact ⟨rfl, fits_nar_bool _⟩
  | byte =>
    have e : vv A O hz.size (kdOf .byte, nrT .byte t) = .int (nar .byte (te A t).1) := by show Value.int (te A (smI _)).1 = _; rw [te_smI]; rfl
    rw [e]; exact ⟨rfl, fits_nar_byte _⟩
  | char =>
    have e : vv A O hz.size (kdOf .char, nrT .char t) = .int (nar .char (te A t).1) := by show Value.int (te A (smI _)).1 = _; rw [te_smI]; rfl
    rw [e]; exact ⟨rfl, fits_nar_char _⟩
  | short =>
    have e : vv A O hz.size (kdOf .short, nrT .short t) = .int (nar .short (te A t).1) := by show Value.int (te A (smI _)).1 = _; rw [te_smI]; rfl
    rw [e]; exact ⟨rfl, fits_nar_short _⟩
  | int => exact ⟨rfl, rfl⟩
  | long => exact ⟨rfl, rfl⟩
  | double => exact ⟨rfl, rfl⟩
  | object n => exact ⟨by show narrow _ (rf O hz.size t) = rf O hz.size t; rcases ref_cases (rf_isRef O hz.size t) with q | ⟨a, q⟩ <;> rw [q] <;> rfl, (rr t).1 n⟩
  | array u => exact ⟨by show narrow _ (rf O hz.size t) = rf O hz.size t; rcases ref_cases (rf_isRef O hz.size t) with q | ⟨a, q⟩ <;> rw [q] <;> rfl, (rr t).2 u⟩
def sAst (sid : Nat) (ty : FieldType) (nx : Nat) : Stp := fun F cf => match cf.2.1 with
  | x :: (0, j) :: (2, .index k) :: S => (match cv F j with
    | some v => (match cf.2.2.1[k]? with
      | some o => bif (x.1 == kdOf ty) && ((o.1 == sid) && (decide (0 ≤ v) && Nat.blt v.toNatClampNeg o.2.length)) then
          some [(F, nx, (cf.1, S, cf.2.2.1.set k (sid, o.2.set v.toNatClampNeg (kdOf ty, nrT ty x.2)), cf.2.2.2))] else none
      | none => none)
    | none => none)
  | _ => none
theorem sAst_inv {sid nx : Nat} {ty : FieldType} {F : List Cond} {L : List SL} {S : List SV} {D : List Ob} {sl : Nat} {ns : List Nx} (h : sAst sid ty nx F (L, S, D, sl) = some ns) : ∃ t j k S' v xs, S = (kdOf ty, t) :: (0, j) :: (2, .index k) :: S' ∧ cv F j = some v ∧ D[k]? = some (sid, xs) ∧ ¬ v < 0 ∧ v.toNatClampNeg < xs.length ∧ ns = [(F, nx, (L, S', D.set k (sid, xs.set v.toNatClampNeg (kdOf ty, nrT ty t)), sl))] := by
  simp only [sAst] at h
  split at h
  · rename_i x j k S'
    obtain ⟨kx, t⟩ := x
    split at h
    · rename_i v q
      split at h
      · rename_i o q2
        obtain ⟨o1, xs⟩ := o
        cases hk : ((kx == kdOf ty) && ((o1 == sid) && (decide (0 ≤ v) && Nat.blt v.toNatClampNeg xs.length)))
        · rw [hk] at h; cases h
        · rw [hk] at h
          simp only [Bool.and_eq_true, decide_eq_true_eq, beq_iff_eq, Nat.blt_eq] at hk
          obtain ⟨rfl, rfl, v1, v2⟩ := hk
          cases h
          exact ⟨t, j, k, S', v, xs, rfl, q, q2, Int32.not_lt.mpr v1, v2, rfl⟩
      · cases h
    · cases h
  · cases h
theorem g_iastore {pc sid : Nat} {r : String × Nat × List Fi} (hd : decode bytes pc = .ok (.iastore, 1)) (hs : sh[sid]? = some (some .int, r)) : Good l Z hz sh A O y bytes maxL ret pc (sAst sid .int (pc + 1)) := by
  intro F cf ns h hF
  obtain ⟨L, S, D, sl⟩ := cf
  obtain ⟨t, j, k, S', v, xs, rfl, q1, q2, q3, q4, rfl⟩ := sAst_inv h
  refine ⟨_, List.mem_cons_self .., hF, by simp, by simp, ?_⟩
  intro d0 s0 p e R s m args below meth c T locs hd0 hs0 hh hA X H N hc hl hfr hlo
  simp only [List.length_set] at hc hl hd0 hs0 X H ⊢
  have ho := H.2.2 k _ q2
  rw [ObAt.arr (o := (sid, xs)) hs] at ho
  have ho' := ho
  obtain ⟨cl, Ar, a1, a2, a3⟩ := ho
  have hsz : cl.slots.size = xs.length := by rw [a1]; simp
  have hgs : (frm hz A O m pc (L, (kdOf .int, t) :: (0, j) :: (2, .index k) :: S', D, sl)).stack = .int (te A t).1 :: .int v :: .ref (hz.size + k) :: S'.map (vv A O hz.size) := by show _ :: Value.int (te A j).1 :: _ = _; rw [cv_ok hF q1]; rfl
  obtain ⟨T', h', X', e1, W, st⟩ := stI X hA.1 hA.2.1 rfl Ar (j := v) (fun q => q.elim q3 (fun q => by omega)) (g := frm hz A O m pc (L, (kdOf .int, t) :: (0, j) :: (2, .index k) :: S', D, sl)) rfl hgs (hb hA.2.2.1 hd)
  have hval := (nrT_ok (A := A) (O := O) (hz := hz) (ty := .int) (by decide) t).1
  subst e1
  have W' : Wr T.heap T'.heap (hz.size + k) v.toNatClampNeg (vv A O hz.size (kdOf .int, nrT .int t)) := by rw [← hval]; exact W
  refine ⟨T', _, X', ?_, Fr.snoc X' N (Nat.le_add_right _ _), st⟩
  refine H.set q2 W' ?_
  rw [ObAt.arr (o := (sid, _)) hs]
  exact ho'.set W'
theorem g_lastore {pc sid : Nat} {r : String × Nat × List Fi} (hd : decode bytes pc = .ok (.lastore, 1)) (hs : sh[sid]? = some (some .long, r)) : Good l Z hz sh A O y bytes maxL ret pc (sAst sid .long (pc + 1)) := by
  intro F cf ns h hF
  obtain ⟨L, S, D, sl⟩ := cf
  obtain ⟨t, j, k, S', v, xs, rfl, q1, q2, q3, q4, rfl⟩ := sAst_inv h
  refine ⟨_, List.mem_cons_self .., hF, by simp, by simp, ?_⟩
  intro d0 s0 p e R s m args below meth c T locs hd0 hs0 hh hA X H N hc hl hfr hlo
  simp only [List.length_set] at hc hl hd0 hs0 X H ⊢
  have ho := H.2.2 k _ q2
  rw [ObAt.arr (o := (sid, xs)) hs] at ho
  have ho' := ho
  obtain ⟨cl, Ar, a1, a2, a3⟩ := ho
  have hsz : cl.slots.size = xs.length := by rw [a1]; simp
  have hgs : (frm hz A O m pc (L, (kdOf .long, t) :: (0, j) :: (2, .index k) :: S', D, sl)).stack = .long (te A t).2 :: .int v :: .ref (hz.size + k) :: S'.map (vv A O hz.size) := by show _ :: Value.int (te A j).1 :: _ = _; rw [cv_ok hF q1]; rfl
  obtain ⟨T', h', X', e1, W, st⟩ := stJ X hA.1 hA.2.1 rfl Ar (j := v) (fun q => q.elim q3 (fun q => by omega)) (g := frm hz A O m pc (L, (kdOf .long, t) :: (0, j) :: (2, .index k) :: S', D, sl)) rfl hgs (hb hA.2.2.1 hd)
  have hval := (nrT_ok (A := A) (O := O) (hz := hz) (ty := .long) (by decide) t).1
  subst e1
  have W' : Wr T.heap T'.heap (hz.size + k) v.toNatClampNeg (vv A O hz.size (kdOf .long, nrT .long t)) := by rw [← hval]; exact W
  refine ⟨T', _, X', ?_, Fr.snoc X' N (Nat.le_add_right _ _), st⟩
  refine H.set q2 W' ?_
  rw [ObAt.arr (o := (sid, _)) hs]
  exact ho'.set W'
theorem g_castore {pc sid : Nat} {r : String × Nat × List Fi} (hd : decode bytes pc = .ok (.castore, 1)) (hs : sh[sid]? = some (some .char, r)) : Good l Z hz sh A O y bytes maxL ret pc (sAst sid .char (pc + 1)) := by
  intro F cf ns h hF
  obtain ⟨L, S, D, sl⟩ := cf
  obtain ⟨t, j, k, S', v, xs, rfl, q1, q2, q3, q4, rfl⟩ := sAst_inv h
  refine ⟨_, List.mem_cons_self .., hF, by simp, by simp, ?_⟩
  intro d0 s0 p e R s m args below meth c T locs hd0 hs0 hh hA X H N hc hl hfr hlo
  simp only [List.length_set] at hc hl hd0 hs0 X H ⊢
  have ho := H.2.2 k _ q2
  rw [ObAt.arr (o := (sid, xs)) hs] at ho
  have ho' := ho
  obtain ⟨cl, Ar, a1, a2, a3⟩ := ho
  have hsz : cl.slots.size = xs.length := by rw [a1]; simp
  have hgs : (frm hz A O m pc (L, (kdOf .char, t) :: (0, j) :: (2, .index k) :: S', D, sl)).stack = .int (te A t).1 :: .int v :: .ref (hz.size + k) :: S'.map (vv A O hz.size) := by show _ :: Value.int (te A j).1 :: _ = _; rw [cv_ok hF q1]; rfl
  obtain ⟨T', h', X', e1, W, st⟩ := stC X hA.1 hA.2.1 rfl Ar (j := v) (fun q => q.elim q3 (fun q => by omega)) (g := frm hz A O m pc (L, (kdOf .char, t) :: (0, j) :: (2, .index k) :: S', D, sl)) rfl hgs (hb hA.2.2.1 hd)
  have hval := (nrT_ok (A := A) (O := O) (hz := hz) (ty := .char) (by decide) t).1
  subst e1
  have W' : Wr T.heap T'.heap (hz.size + k) v.toNatClampNeg (vv A O hz.size (kdOf .char, nrT .char t)) := by rw [← hval]; exact W
  refine ⟨T', _, X', ?_, Fr.snoc X' N (Nat.le_add_right _ _), st⟩
  refine H.set q2 W' ?_
  rw [ObAt.arr (o := (sid, _)) hs]
  exact ho'.set W'
theorem g_bastoreB {pc sid : Nat} {r : String × Nat × List Fi} (hd : decode bytes pc = .ok (.bastore, 1)) (hs : sh[sid]? = some (some .byte, r)) : Good l Z hz sh A O y bytes maxL ret pc (sAst sid .byte (pc + 1)) := by
  intro F cf ns h hF
  obtain ⟨L, S, D, sl⟩ := cf
  obtain ⟨t, j, k, S', v, xs, rfl, q1, q2, q3, q4, rfl⟩ := sAst_inv h
  refine ⟨_, List.mem_cons_self .., hF, by simp, by simp, ?_⟩
  intro d0 s0 p e R s m args below meth c T locs hd0 hs0 hh hA X H N hc hl hfr hlo
  simp only [List.length_set] at hc hl hd0 hs0 X H ⊢
  have ho := H.2.2 k _ q2
  rw [ObAt.arr (o := (sid, xs)) hs] at ho
  have ho' := ho
  obtain ⟨cl, Ar, a1, a2, a3⟩ := ho
  have hsz : cl.slots.size = xs.length := by rw [a1]; simp
  have hgs : (frm hz A O m pc (L, (kdOf .byte, t) :: (0, j) :: (2, .index k) :: S', D, sl)).stack = .int (te A t).1 :: .int v :: .ref (hz.size + k) :: S'.map (vv A O hz.size) := by show _ :: Value.int (te A j).1 :: _ = _; rw [cv_ok hF q1]; rfl
  obtain ⟨T', h', X', e1, W, st⟩ := stB X hA.1 hA.2.1 rfl Ar (j := v) (fun q => q.elim q3 (fun q => by omega)) (g := frm hz A O m pc (L, (kdOf .byte, t) :: (0, j) :: (2, .index k) :: S', D, sl)) rfl hgs (hb hA.2.2.1 hd)
  have hval := (nrT_ok (A := A) (O := O) (hz := hz) (ty := .byte) (by decide) t).1
  subst e1
  have W' : Wr T.heap T'.heap (hz.size + k) v.toNatClampNeg (vv A O hz.size (kdOf .byte, nrT .byte t)) := by rw [← hval]; exact W
  refine ⟨T', _, X', ?_, Fr.snoc X' N (Nat.le_add_right _ _), st⟩
  refine H.set q2 W' ?_
  rw [ObAt.arr (o := (sid, _)) hs]
  exact ho'.set W'
theorem g_bastoreZ {pc sid : Nat} {r : String × Nat × List Fi} (hd : decode bytes pc = .ok (.bastore, 1)) (hs : sh[sid]? = some (some .boolean, r)) : Good l Z hz sh A O y bytes maxL ret pc (sAst sid .boolean (pc + 1)) := by
  intro F cf ns h hF
  obtain ⟨L, S, D, sl⟩ := cf
  obtain ⟨t, j, k, S', v, xs, rfl, q1, q2, q3, q4, rfl⟩ := sAst_inv h
  refine ⟨_, List.mem_cons_self .., hF, by simp, by simp, ?_⟩
  intro d0 s0 p e R s m args below meth c T locs hd0 hs0 hh hA X H N hc hl hfr hlo
  simp only [List.length_set] at hc hl hd0 hs0 X H ⊢
  have ho := H.2.2 k _ q2
  rw [ObAt.arr (o := (sid, xs)) hs] at ho
  have ho' := ho
  obtain ⟨cl, Ar, a1, a2, a3⟩ := ho
  have hsz : cl.slots.size = xs.length := by rw [a1]; simp
  have hgs : (frm hz A O m pc (L, (kdOf .boolean, t) :: (0, j) :: (2, .index k) :: S', D, sl)).stack = .int (te A t).1 :: .int v :: .ref (hz.size + k) :: S'.map (vv A O hz.size) := by show _ :: Value.int (te A j).1 :: _ = _; rw [cv_ok hF q1]; rfl
  obtain ⟨T', h', X', e1, W, st⟩ := stZ X hA.1 hA.2.1 rfl Ar (j := v) (fun q => q.elim q3 (fun q => by omega)) (g := frm hz A O m pc (L, (kdOf .boolean, t) :: (0, j) :: (2, .index k) :: S', D, sl)) rfl hgs (hb hA.2.2.1 hd)
  have hval := (nrT_ok (A := A) (O := O) (hz := hz) (ty := .boolean) (by decide) t).1
  subst e1
  have W' : Wr T.heap T'.heap (hz.size + k) v.toNatClampNeg (vv A O hz.size (kdOf .boolean, nrT .boolean t)) := by rw [← hval]; exact W
  refine ⟨T', _, X', ?_, Fr.snoc X' N (Nat.le_add_right _ _), st⟩
  refine H.set q2 W' ?_
  rw [ObAt.arr (o := (sid, _)) hs]
  exact ho'.set W'
/-! objects -/
def sNew (sid kk : Nat) (ds : List SV) (nx : Nat) : Stp := fun F cf => some [(F, nx, (cf.1, (2, .index cf.2.2.1.length) :: cf.2.1, cf.2.2.1 ++ [(sid, ds)], cf.2.2.2 + kk))]
theorem g_new {pc sid kk idx : Nat} {C : String} {fs : List Fi} {ds : List SV} {a0 : Array Value} (hd : decode bytes pc = .ok (.new idx, 3)) (hs : sh[sid]? = some (none, C, kk, fs)) (hso : ShOk Z a0 (none, C, kk, fs)) (hfl : ∀ f ∈ fs, f.2.2.2 ≠ .float) (hds : ds = fs.map fun f => dflt f.2.2.2)
    (w : (Cond.classLink y.cls idx C).before a0 Z = true) (wz : (Cond.initialized C).before a0 Z = true) : Good l Z hz sh A O y bytes maxL ret pc (sNew sid kk ds (pc + 3)) := by
  intro F cf ns h hF
  obtain ⟨L, S, D, sl⟩ := cf
  cases h
  refine ⟨_, List.mem_cons_self .., hF, by simp, by simp, ?_⟩
  intro d0 s0 p e R s m args below meth c T locs hd0 hs0 hh hA X H N hc hl hfr hlo
  simp only [List.length_append, List.length_cons, List.length_nil] at hc hl hd0 hs0 X H ⊢
  have hso1 : (Cond.instantiable C kk).before a0 Z = true := (hso rfl).1
  obtain ⟨T', h', X', e1, E, Ex, Df, -, st⟩ := newO X hA.1 hA.2.1 hA.2.2.2.2.1 w hso1 wz rfl (g := frm hz A O m pc (L, S, D, sl)) rfl (hb hA.2.2.1 hd) (by omega) (by omega)
  have hsz : T'.heap.size = T.heap.size + 1 := grown X' hd0 hh H (by rw [e1]; exact Ex.lt)
  have c1 : D.length + (0 + 1) - d0 = D.length - d0 + 1 := by omega
  have c2 : sl + kk - s0 = sl - s0 + kk := by omega
  refine ⟨T', locs, by rw [c1, c2]; exact X', ?_, N, ?_⟩
  · subst e1
    refine H.push E hsz ?_
    rw [ObAt.cls (o := (sid, ds)) hs]
    refine ⟨Ex, by rw [hds, List.length_map], fun i f x hf hx => ?_⟩
    subst hds
    rw [List.getElem?_map, hf] at hx
    cases hx
    have hm := List.mem_of_getElem? hf
    rw [dflt_ok (hfl f hm)]
    exact Df ((hso rfl).2.1 f hm).1 ((hso rfl).2.1 f hm).2
  · intro target k
    refine st target ?_
    have hi : vv A O hz.size (2, .index D.length) = .ref T.heap.size := by show Value.ref (hz.size + D.length) = _; rw [H.1]
    have k' : Steps p.tables e below (T'.setTop (mkF m (pc + 3) (L.map (sl1 A O hz.size)).toArray (vv A O hz.size (2, .index D.length) :: S.map (vv A O hz.size)))) target := k
    rw [hi] at k'; exact k'
def sGetF (sid i nx : Nat) : Stp := fun F cf => match cf.2.1 with
  | (2, .index k) :: S => (match cf.2.2.1[k]? with
    | some o => bif o.1 == sid then (match o.2[i]? with
      | some x => some [(F, nx, (cf.1, x :: S, cf.2.2))]
      | none => none) else none
    | none => none)
  | _ => none
theorem g_getfield {pc sid i kk idx : Nat} {C R0 host : String} {fs : List Fi} {f : Fi} {a0 : Array Value} (hd : decode bytes pc = .ok (.getfield idx, 3)) (hs : sh[sid]? = some (none, C, kk, fs)) (hi : fs[i]? = some f)
    (w : (Cond.fieldLink y.cls idx R0 f.2.1 f.2.2.1).before a0 Z = true ∨ (Cond.fieldLinkNest y.cls idx R0 f.2.1 f.2.2.1 host).before a0 Z = true) (via : Via Z R0 f.1 f.2.1 f.2.2.1) : Good l Z hz sh A O y bytes maxL ret pc (sGetF sid i (pc + 3)) := by
  intro F cf ns h hF
  obtain ⟨L, S, D, sl⟩ := cf
  simp only [sGetF] at h
  split at h
  · rename_i k S'
    split at h
    · rename_i o q
      obtain ⟨o1, xs⟩ := o
      cases hk : (o1 == sid)
      · rw [hk] at h; cases h
      · rw [hk] at h; obtain rfl := beq_iff_eq.mp hk
        simp only [cond_true] at h
        split at h
        · rename_i x q2; cases h
          refine ⟨_, List.mem_cons_self .., hF, by simp, by simp, ?_⟩
          intro d0 s0 p e R s m args below meth c T locs hd0 hs0 hh hA X H N hc hl hfr hlo
          have ho := H.2.2 k _ q
          rw [ObAt.cls (o := (o1, xs)) hs] at ho
          obtain ⟨T', X', e1, st⟩ := getF X hA.1 hA.2.1 hA.2.2.2.2.1 w via rfl (ho.2.2 i f x hi q2) (g := frm hz A O m pc (L, (2, .index k) :: S', D, sl)) rfl rfl (hb hA.2.2.1 hd)
          exact ⟨T', locs, X', by rw [e1]; exact H, N, st⟩
        · cases h
    · cases h
  · cases h
def sPutF (sid i : Nat) (ty : FieldType) (nx : Nat) : Stp := fun F cf => match cf.2.1 with
  | x :: (2, .index k) :: S => (match cf.2.2.1[k]? with
    | some o => bif (o.1 == sid) && (x.1 == kdOf ty) then some [(F, nx, (cf.1, S, cf.2.2.1.set k (sid, o.2.set i (kdOf ty, nrT ty x.2)), cf.2.2.2))] else none
    | none => none)
  | _ => none
theorem g_putfield {pc sid i kk idx : Nat} {C R0 : String} {fs : List Fi} {f : Fi} {a0 : Array Value} (hd : decode bytes pc = .ok (.putfield idx, 3)) (hs : sh[sid]? = some (none, C, kk, fs)) (hso : ShOk Z a0 (none, C, kk, fs)) (hi : fs[i]? = some f) (hfl : f.2.2.2 ≠ .float)
    (w : (Cond.fieldLink y.cls idx R0 f.2.1 f.2.2.1).before a0 Z = true) (via : Via Z R0 f.1 f.2.1 f.2.2.1)
    (wl : (Cond.lays C f.1 f.2.1 f.2.2.1).before a0 Z = true ∨ ((Cond.laysFinal C f.1 f.2.1 f.2.2.1).before a0 Z = true ∧ y.cls = f.1 ∧ y.name = "<init>")) : Good l Z hz sh A O y bytes maxL ret pc (sPutF sid i f.2.2.2 (pc + 3)) := by
  intro F cf ns h hF
  obtain ⟨L, S, D, sl⟩ := cf
  simp only [sPutF] at h
  split at h
  · rename_i x k S'
    obtain ⟨kx, t⟩ := x
    split at h
    · rename_i o q
      obtain ⟨o1, xs⟩ := o
      cases hk : ((o1 == sid) && (kx == kdOf f.2.2.2))
      · rw [hk] at h; cases h
      · rw [hk] at h; cases h
        simp only [Bool.and_eq_true, beq_iff_eq] at hk
        obtain ⟨rfl, rfl⟩ := hk
        refine ⟨_, List.mem_cons_self .., hF, by simp, by simp, ?_⟩
        intro d0 s0 p e R s m args below meth c T locs hd0 hs0 hh hA X H N hc hl hfr hlo
        simp only [List.length_set] at hc hl hd0 hs0 X H ⊢
        have ho := H.2.2 k _ q
        rw [ObAt.cls (o := (o1, xs)) hs] at ho
        have hlt : i < xs.length := by rw [ho.2.1]; exact (List.getElem?_eq_some_iff.mp hi).1
        have hF0 := ho.2.2 i f xs[i] hi (List.getElem?_eq_getElem hlt)
        obtain ⟨n1, n2⟩ := nrT_ok (A := A) (O := O) (hz := hz) hfl t
        obtain ⟨T', h', X', e1, W, st⟩ := putFN X hA.1 hA.2.1 hA.2.2.2.2.1 w via rfl hF0 ho.1 (wl.imp id fun q => ⟨q.1, q.2.1, hA.2.2.2.2.2.1.trans q.2.2⟩) (hso rfl).1 ((hso rfl).2.1 f (List.mem_of_getElem? hi)).2 n1 n2 (g := frm hz A O m pc (L, (kdOf f.2.2.2, t) :: (2, .index k) :: S', D, sl)) rfl rfl (hb hA.2.2.1 hd)
        subst e1
        refine ⟨T', _, X', ?_, Fr.snoc X' N (Nat.le_add_right _ _), st⟩
        refine H.set q W ?_
        rw [ObAt.cls (o := (o1, _)) hs]
        exact ClOk.set hso ho hi W
    · cases h
  · cases h
/-! ### 6. Methods: entry, return, call -/
def fill : List SV → List SL
  | [] => []
  | x :: xs => match cat x with
    | 2 => some (some x) :: some none :: fill xs
    | _ => some (some x) :: fill xs
def entL (xs : List SV) (mx : Nat) : List SL := fill xs ++ List.replicate (mx - (fill xs).length) none
theorem fill_fold (xs : List SV) : ∀ acc : Array Slot, (xs.map (vv A O hz.size)).foldl (fun acc v => if v.category = 2 then (acc.push (.val v)).push .second else acc.push (.val v)) acc = acc ++ ((fill xs).map (sl1 A O hz.size)).toArray := by
  induction xs with
  | nil => intro acc; simp [fill]
  | cons x xs ih =>
    intro acc
    rw [List.map_cons, List.foldl_cons, ih, vv_cat]
    rw [show fill (x :: xs) = (match cat x with | 2 => some (some x) :: some none :: fill xs | _ => some (some x) :: fill xs) from rfl]
    split
    · rename_i h; simp [h, sl1]
    · rename_i h; simp [h, sl1]
theorem ent_ok (m : MethodId) (xs : List SV) (mx : Nat) (r : List Ob × Nat) : entryFrame m (xs.map (vv A O hz.size)).toArray mx = frm hz A O m 0 (entL xs mx, [], r) := by
  have e : argsToLocals (xs.map (vv A O hz.size)).toArray mx = ((entL xs mx).map (sl1 A O hz.size)).toArray := by
    unfold argsToLocals entL
    have h := fill_fold (A := A) (O := O) (hz := hz) xs #[]
    have h' : (xs.map (vv A O hz.size)).toArray.foldl (init := #[]) (fun acc v => if v.category = 2 then (acc.push (.val v)).push .second else acc.push (.val v)) = ((fill xs).map (sl1 A O hz.size)).toArray := by
      rw [List.foldl_toArray]; rw [h]; simp
    simp only [h']
    simp [sl1]
  show ({ method := m, pc := 0, locals := argsToLocals _ mx, stack := [], locked := none } : JFrame) = _
  rw [e]; rfl
/-- the callee's own walk pays its contract -/
theorem met_of_ret {y' : MethodName} {bytes' : ByteArray} {mx : Nat} {ret' : Option FieldType} (hpl : plainFor y' = true) {fr lo : Nat} {xs : List SV} {D D' : List Ob} {sl sl' : Nat} {v : Option SV} {h : Heap} (H : HD Z hz sh A O h D)
    (K : Ret l Z hz sh A O y' bytes' mx ret' fr lo 0 (entL xs mx, [], D, sl) v D' sl') (ws : List Cond) (rm : Room) (hr : rm = { frames := fr, cells := D'.length - D.length, slots := sl' - sl, locals := lo }) :
    MetFree l y' (head1 (Cond.code y' bytes' mx ret' :: ws) rm)
      (fun a U => a = (xs.map (vv A O hz.size)).toArray ∧ Z.Warmed39 U.vm ∧ U.heap = h) (fun _ _ _ _ _ => True)
      (fun _ U o U' => ∃ w L, o = .returned w ∧ (w = v.map (vv A O hz.size) ∧ HD Z hz sh A O U'.heap D' ∧ Fr hz.size L) ∧ FrameEnd U o U' L rm.cells rm.slots) := by
  refine MetFree.of_bodySF hpl hisR ?_
  intro p e s m args below meth c s₁ Bd hml hP hK
  obtain ⟨rfl, hZ, hh⟩ := hP
  obtain ⟨-, -, k3⟩ := K
  have X0 : Stand p l e rm s m _ below meth c s₁ [] 0 0 := Stand.of_body Bd
  have e0 : s₁.heap = h := by rw [← hh, Bd.state]; rfl
  have hsz : s.heap.size = hz.size + D.length := by rw [hh]; exact H.1
  subst hr
  obtain ⟨s₂, L2, k1, k2, k3, k4, k5, k6, k7⟩ := k3 D.length sl p e _ s m _ below meth c s₁ [] (Nat.le_refl _) (Nat.le_refl _) hsz
    ⟨Bd.exec, hZ, Bd.bytes, hml, findClass_of_methodNamed Bd.named, (name_of_methodNamed Bd.named Bd.method).1, Bd.returns, Bd.notSynchronized⟩
    (by simp only [Nat.sub_self]; exact X0) (by rw [e0]; exact H) (Fr.nil _) (Nat.le_refl _) (Nat.le_refl _) (Nat.le_refl _) (Nat.le_refl _)
  refine ⟨s₂, .returned (v.map (vv A O hz.size)), ?_, k2, k3, _, L2, rfl, ⟨rfl, k4, k5⟩, ⟨_, rfl⟩, k6, k7⟩
  rw [ent_ok m xs mx (D, sl)]; exact k1
abbrev Kl := Nat × Nat × Nat × (List SV → List Ob → Bool)
def wt (S : List SV) : Nat := (S.map cat).sum
theorem wt_ok (S : List SV) : ((S.map (vv A O hz.size)).map fun v => v.category).sum = wt S := by
  unfold wt
  rw [List.map_map]
  congr 1
  exact List.map_congr_left fun x _ => vv_cat A O hz.size x
/-- a call of the method cj (its body's maxLocals: mx) with na operands -/
def CallGood (l : Launch) (Z : State) (hz : Heap) (sh : List Sh) (A : En) (O : Nat → Addr) (y : MethodName) (bytes : ByteArray) (maxL : Nat) (ret : Option FieldType) (y' : MethodName) (bytes' : ByteArray) (mx : Nat) (ret' : Option FieldType) (pc na nx : Nat) (ck : List SV → List Ob → Bool) : Prop :=
  ∀ (L : List SL) (S : List SV) (D : List Ob) (sl fr lo : Nat) (v : Option SV) (D' : List Ob) (sl' : Nat), na ≤ S.length → L.length = maxL → ck (S.take na) D = true → 1 ≤ fr → wt (S.drop na) + (mx + 11) ≤ lo →
    Ret l Z hz sh A O y' bytes' mx ret' (fr - 1) (lo - (wt (S.drop na) + (mx + 11))) 0 (entL (S.take na).reverse mx, [], D, sl) v D' sl' →
    Sim l Z hz sh A O y bytes maxL ret fr lo pc (L, S, D, sl) nx (L, v.toList ++ S.drop na, D', sl')
def RetGood (l : Launch) (Z : State) (hz : Heap) (sh : List Sh) (A : En) (O : Nat → Addr) (y : MethodName) (bytes : ByteArray) (maxL : Nat) (ret : Option FieldType) (pc : Nat) (g : List SV → Option (Option SV)) : Prop :=
  ∀ (L : List SL) (S : List SV) (D : List Ob) (sl fr lo : Nat) (v : Option SV), g S = some v → Ret l Z hz sh A O y bytes maxL ret fr lo pc (L, S, D, sl) v D sl
def rVoid : List SV → Option (Option SV)
  | [] => some none
  | _ => none
def rVal (ty : FieldType) : List SV → Option (Option SV)
  | x :: _ => bif x.1 == kdOf ty then some (some (kdOf ty, nrT ty x.2)) else none
  | _ => none
theorem g_return {pc : Nat} (hd : decode bytes pc = .ok (.return_, 1)) : RetGood l Z hz sh A O y bytes maxL none pc rVoid := by
  intro L S D sl fr lo v h
  unfold rVoid at h
  split at h
  · cases h
    refine ⟨Nat.le_refl _, Nat.le_refl _, ?_⟩
    intro d0 s0 p e R s m args below meth c T locs hd0 hs0 hh hA X H N hc hl hfr hlo
    obtain ⟨fs, hr, hrun, hended, hW, hsame⟩ := X.leave (v := none) (fun _ => rfl) hA.2.2.2.2.2.2.2
    exact ⟨_, locs, X.returnOut hA.1 hA.2.2.2.2.2.2.1 (hb hA.2.2.1 hd) hr, hrun, hended, H, N, hW, hsame⟩
  · cases h
theorem g_ret {pc : Nat} {ty : FieldType} {i : Instr} (hd : decode bytes pc = .ok (i, 1)) (hf : ty ≠ .float) (hi : (i = .ireturn ∧ (ty = .int ∨ ty = .boolean ∨ ty = .byte ∨ ty = .char ∨ ty = .short)) ∨ (i = .lreturn ∧ ty = .long) ∨ (i = .dreturn ∧ ty = .double) ∨ (i = .areturn ∧ ty.isReference = true)) :
    RetGood l Z hz sh A O y bytes maxL (some ty) pc (rVal ty) := by
  intro L S D sl fr lo v h
  unfold rVal at h
  split at h
  · rename_i x S'
    obtain ⟨kx, t⟩ := x
    cases hk : (kx == kdOf ty)
    · rw [hk] at h; cases h
    · rw [hk] at h; obtain rfl := beq_iff_eq.mp hk; cases h
      refine ⟨Nat.le_refl _, Nat.le_refl _, ?_⟩
      intro d0 s0 p e R s m args below meth c T locs hd0 hs0 hh hA X H N hc hl hfr hlo
      have hret : meth.sig.returnType = some ty := hA.2.2.2.2.2.2.1
      obtain ⟨n1, n2⟩ := nrT_ok (A := A) (O := O) (hz := hz) hf t
      obtain ⟨fs, hr, hrun, hended, hW, hsame⟩ := X.leave (v := some (vv A O hz.size (kdOf ty, nrT ty t))) (fun h => by rw [hret] at h; cases h) hA.2.2.2.2.2.2.2
      refine ⟨_, locs, ?_, hrun, hended, H, N, hW, hsame⟩
      show Steps p.tables e below (T.setTop (mkF m pc (L.map (sl1 A O hz.size)).toArray (vv A O hz.size (kdOf ty, t) :: S'.map (vv A O hz.size)))) _
      rw [← n1] at hr
      rcases hi with ⟨rfl, hi⟩ | ⟨rfl, rfl⟩ | ⟨rfl, rfl⟩ | ⟨rfl, hi⟩
      · by_cases hq : ty = .boolean ∨ ty = .byte ∨ ty = .char ∨ ty = .short
        · have e1 : vv A O hz.size (kdOf ty, t) = .int (te A t).1 := by rcases hq with rfl | rfl | rfl | rfl <;> rfl
          have e2 : narrow ty (.int (te A t).1) = .int (nar ty (te A t).1) := by rcases hq with rfl | rfl | rfl | rfl <;> rfl
          rw [e1]; rw [e1, e2] at hr
          exact retN X hA.1 (t := ty) hret hq (hb hA.2.2.1 hd) hr
        · have : ty = .int := by
            rcases hi with q | q | q | q | q
            · exact q
            all_goals exact absurd (by simp [q]) hq
          subst this
          exact retOut X hA.1 hret rfl (Or.inl ⟨rfl, Or.inl rfl, _, rfl⟩) (hb hA.2.2.1 hd) hr
      · exact retOut X hA.1 hret rfl (Or.inr (Or.inl ⟨rfl, rfl, _, rfl⟩)) (hb hA.2.2.1 hd) hr
      · exact retOut X hA.1 hret rfl (Or.inr (Or.inr (Or.inl ⟨rfl, rfl, _, rfl⟩))) (hb hA.2.2.1 hd) hr
      · have hkd : kdOf ty = 2 := by cases ty <;> simp [FieldType.isReference] at hi <;> rfl
        have hn : narrow ty (vv A O hz.size (kdOf ty, t)) = vv A O hz.size (kdOf ty, t) := by
          rw [hkd]; show narrow ty (rf O hz.size t) = rf O hz.size t
          cases ty <;> simp [FieldType.isReference] at hi <;> rcases ref_cases (rf_isRef O hz.size t) with q | ⟨a, q⟩ <;> rw [q] <;> rfl
        rw [hn] at hr
        exact retOut X hA.1 hret hn (Or.inr (Or.inr (Or.inr (Or.inr ⟨rfl, hi, by rw [hkd]; exact rf_isRef _ _ _⟩)))) (hb hA.2.2.1 hd) hr
  · cases h
def ckAny : List SV → List Ob → Bool := fun _ _ => true
/-- the receiver (the deepest operand) is a made object of the shape -/
def ckObj (sid : Nat) : List SV → List Ob → Bool := fun a D => match a.getLast? with
  | some (2, .index k) => (match D[k]? with
    | some o => o.1 == sid
    | none => false)
  | _ => false
theorem ckObj_inv {sid : Nat} {a : List SV} {D : List Ob} (h : ckObj sid a D = true) : ∃ a' k xs, a = a' ++ [(2, .index k)] ∧ D[k]? = some (sid, xs) := by
  unfold ckObj at h
  split at h
  · rename_i k q
    split at h
    · rename_i o q2
      obtain ⟨o1, xs⟩ := o
      obtain rfl := beq_iff_eq.mp h
      obtain ⟨a', rfl⟩ := List.getLast?_eq_some_iff.mp q
      exact ⟨a', k, xs, rfl, q2⟩
    · cases h
  · cases h
section Calls
variable {y' : MethodName} {bytes' : ByteArray} {mx : Nat} {ret' : Option FieldType} {a0 : Array Value}
theorem c_static {pc idx na : Nat} {ps : List FieldType} {r : Option FieldType} (hd : decode bytes pc = .ok (.invokestatic idx, 3)) (hpl : plainFor y' = true) (hdesc : parseMethodDescriptor y'.desc = some ⟨ps, r⟩) (hna : ps.length = na) (hy : y'.cls ≠ "java/lang/invoke/MethodHandle" ∧ y'.cls ≠ "java/lang/invoke/VarHandle")
    (w1 : (Cond.methodLink y.cls idx y').before a0 Z = true) (w2 : (Cond.static y').before a0 Z = true) (w3 : (Cond.initialized y'.cls).before a0 Z = true) (w4 : (Cond.code y' bytes' mx ret').before a0 Z = true) :
    CallGood l Z hz sh A O y bytes maxL ret y' bytes' mx ret' pc na (pc + 3) ckAny := by
  intro L S D sl fr lo v D' sl' h1 h2 h3 h4 h5 K
  have kk := K
  obtain ⟨k1, k2, -⟩ := kk
  refine ⟨k1, k2, ?_⟩
  intro d0 s0 p e R s m args below meth c T locs hd0 hs0 hh hA X H N hc hl hfr hlo
  have k1' : D.length ≤ D'.length := k1
  have k2' : sl ≤ sl' := k2
  have hd0' : d0 ≤ D.length := hd0
  have hs0' : s0 ≤ sl := hs0
  have hc' : D'.length - d0 ≤ R.cells := hc
  have hl' : sl' - s0 ≤ R.slots := hl
  have hM := met_of_ret hpl H K [] { frames := fr - 1, cells := D'.length - D.length, slots := sl' - sl, locals := lo - (wt (S.drop na) + (mx + 11)) } rfl
  obtain ⟨w, vm₁, ⟨T', L', k', n'⟩, -, X', ⟨Lc, ⟨rfl, H', N'⟩, l1, y1, z1⟩, st⟩ := Jvm.LawKit.callS X hA.1 (y := y') hA.2.2.2.2.1 (mvT hA.2.1 w1) (mvT hA.2.1 w2) (mvT hA.2.1 w3) (mvT hA.2.1 w4) hy
    (backOf (W := wt (S.drop na)) (rm := { frames := fr - 1, cells := D'.length - D.length, slots := sl' - sl, locals := lo - (wt (S.drop na) + (mx + 11)) }) (Q := fun w h' L => w = v.map (vv A O hz.size) ∧ HD Z hz sh A O h' D' ∧ Fr hz.size L) hM hA.2.1 w4 w3 (by show fr - 1 + 1 ≤ _; omega) (by show _ + (lo - _) ≤ _; omega)) (g := frm hz A O m pc (L, S, D, sl)) rfl (by show (L.map (sl1 A O hz.size)).toArray.size = _; rw [hA.2.2.2.1, ← h2]; simp)
    (argsL := (S.take na).reverse.map (vv A O hz.size)) (rest := (S.drop na).map (vv A O hz.size)) (lenOf hdesc (by rw [List.length_map, List.length_reverse, List.length_take, hna]; omega))
    (by show S.map (vv A O hz.size) = _; rw [← List.map_reverse, List.reverse_reverse, ← List.map_append, List.take_append_drop]) (by show 2 * 0 + _ ≤ _; rw [wt_ok]; omega) (hb hA.2.2.1 hd)
    (fun _ _ => ⟨rfl, rfl, by show D.length - d0 + (D'.length - D.length) ≤ _; omega, by show sl - s0 + (sl' - sl) ≤ _; omega⟩)
  dsimp only [Pt.U, Pt.locs, Pt.cells, Pt.slots] at X' l1 y1 z1 st H'
  subst l1 y1 z1
  have c1 : D.length - d0 + (D'.length - D.length) = D'.length - d0 := by omega
  have c2 : sl - s0 + (sl' - sl) = sl' - s0 := by omega
  refine ⟨T', _, by rw [← c1, ← c2]; exact X', H', N.app N', fun target k => st target ?_⟩
  have e2 : (v.toList ++ S.drop na).map (vv A O hz.size) = (v.map (vv A O hz.size)).toList ++ (S.drop na).map (vv A O hz.size) := by cases v <;> simp
  have k' : Steps p.tables e below (T'.setTop (mkF m (pc + 3) (L.map (sl1 A O hz.size)).toArray ((v.toList ++ S.drop na).map (vv A O hz.size)))) target := k
  rw [e2] at k'; exact k'
theorem c_init {pc idx na sid : Nat} {ps : List FieldType} {r : Option FieldType} (hd : decode bytes pc = .ok (.invokespecial idx, 3)) (hpl : plainFor y' = true) (hdesc : parseMethodDescriptor y'.desc = some ⟨ps, r⟩) (hna : ps.length + 1 = na) (hy : y'.cls ≠ "java/lang/invoke/MethodHandle" ∧ y'.cls ≠ "java/lang/invoke/VarHandle")
    (w1 : (Cond.methodLink y.cls idx y').before a0 Z = true) (w2 : (Cond.instanceMethod y').before a0 Z = true) (w3 : (Cond.initialized y'.cls).before a0 Z = true) (w4 : (Cond.code y' bytes' mx none).before a0 Z = true) (hn : y'.name = "<init>") :
    CallGood l Z hz sh A O y bytes maxL ret y' bytes' mx none pc na (pc + 3) (ckObj sid) := by
  intro L S D sl fr lo v D' sl' h1 h2 h3 h4 h5 K
  have kk := K
  obtain ⟨k1, k2, -⟩ := kk
  refine ⟨k1, k2, ?_⟩
  intro d0 s0 p e R s m args below meth c T locs hd0 hs0 hh hA X H N hc hl hfr hlo
  have k1' : D.length ≤ D'.length := k1
  have k2' : sl ≤ sl' := k2
  have hd0' : d0 ≤ D.length := hd0
  have hs0' : s0 ≤ sl := hs0
  have hc' : D'.length - d0 ≤ R.cells := hc
  have hl' : sl' - s0 ≤ R.slots := hl
  obtain ⟨a', k, xs, ea, ek⟩ := ckObj_inv h3
  have hM := met_of_ret hpl H K [] { frames := fr - 1, cells := D'.length - D.length, slots := sl' - sl, locals := lo - (wt (S.drop na) + (mx + 11)) } rfl
  have er : (S.take na).reverse.map (vv A O hz.size) = .ref (hz.size + k) :: a'.reverse.map (vv A O hz.size) := by rw [ea]; simp [vv, rf]
  have el : (a'.reverse.map (vv A O hz.size)).length = ps.length := by
    have := congrArg List.length ea
    rw [List.length_take, List.length_append] at this
    simp only [List.length_cons, List.length_nil] at this
    rw [List.length_map, List.length_reverse]; omega
  rw [er] at hM
  have es : S.map (vv A O hz.size) = (a'.reverse.map (vv A O hz.size)).reverse ++ .ref (hz.size + k) :: (S.drop na).map (vv A O hz.size) := by
    conv => lhs; rw [← List.take_append_drop na S, ea]
    simp [vv, rf]

  obtain ⟨w, vm₁, ⟨T', L', k', n'⟩, -, X', ⟨Lc, ⟨rfl, H', N'⟩, l1, y1, z1⟩, st⟩ := X.specialBack hA.1 (y := y') hn hA.2.2.2.2.1 (mvT hA.2.1 w1) (mvT hA.2.1 w2) (mvT hA.2.1 w4) hy
    (backOf (W := wt (S.drop na)) (rm := { frames := fr - 1, cells := D'.length - D.length, slots := sl' - sl, locals := lo - (wt (S.drop na) + (mx + 11)) }) (Q := fun w h' L => w = v.map (vv A O hz.size) ∧ HD Z hz sh A O h' D' ∧ Fr hz.size L) hM hA.2.1 w4 w3 (by show fr - 1 + 1 ≤ _; omega) (by show _ + (lo - _) ≤ _; omega)) (g := frm hz A O m pc (L, S, D, sl)) rfl (by show (L.map (sl1 A O hz.size)).toArray.size = _; rw [hA.2.2.2.1, ← h2]; simp) (Steps.refl _) (a := hz.size + k)
    (argsL := a'.reverse.map (vv A O hz.size)) (rest := (S.drop na).map (vv A O hz.size)) (lenOf hdesc el)
    es (by show 2 * 0 + _ ≤ _; rw [wt_ok]; omega) (hb hA.2.2.1 hd)
    (fun _ _ => ⟨rfl, rfl, by show D.length - d0 + (D'.length - D.length) ≤ _; omega, by show sl - s0 + (sl' - sl) ≤ _; omega⟩)
  dsimp only [Pt.U, Pt.locs, Pt.cells, Pt.slots] at X' l1 y1 z1 st H'
  subst l1 y1 z1
  have c1 : D.length - d0 + (D'.length - D.length) = D'.length - d0 := by omega
  have c2 : sl - s0 + (sl' - sl) = sl' - s0 := by omega
  refine ⟨T', _, by rw [← c1, ← c2]; exact X', H', N.app N', fun target kt => st.trans ?_⟩
  have e2 : (v.toList ++ S.drop na).map (vv A O hz.size) = (v.map (vv A O hz.size)).toList ++ (S.drop na).map (vv A O hz.size) := by cases v <;> simp
  have kt' : Steps p.tables e below (T'.setTop (mkF m (pc + 3) (L.map (sl1 A O hz.size)).toArray ((v.toList ++ S.drop na).map (vv A O hz.size)))) target := kt
  rw [e2] at kt'; exact kt'
theorem c_virtual {pc idx na sid : Nat} {ps : List FieldType} {r : Option FieldType} {C : String} {kk : Nat} {fs : List Fi} (hd : decode bytes pc = .ok (.invokevirtual idx, 3)) (hpl : plainFor y' = true) (hdesc : parseMethodDescriptor y'.desc = some ⟨ps, r⟩) (hna : ps.length + 1 = na) (hy : y'.cls ≠ "java/lang/invoke/MethodHandle" ∧ y'.cls ≠ "java/lang/invoke/VarHandle")
    (w1 : (Cond.methodLink y.cls idx y').before a0 Z = true) (w2 : (Cond.instanceMethod y').before a0 Z = true) (w3 : (Cond.initialized y'.cls).before a0 Z = true) (w4 : (Cond.code y' bytes' mx ret').before a0 Z = true) (hs : sh[sid]? = some (none, C, kk, fs)) (w5 : (Cond.declares y').before a0 Z = true) (w6 : (Cond.selects C y' y').before a0 Z = true) :
    CallGood l Z hz sh A O y bytes maxL ret y' bytes' mx ret' pc na (pc + 3) (ckObj sid) := by
  intro L S D sl fr lo v D' sl' h1 h2 h3 h4 h5 K
  have kk := K
  obtain ⟨k1, k2, -⟩ := kk
  refine ⟨k1, k2, ?_⟩
  intro d0 s0 p e R s m args below meth c T locs hd0 hs0 hh hA X H N hc hl hfr hlo
  have k1' : D.length ≤ D'.length := k1
  have k2' : sl ≤ sl' := k2
  have hd0' : d0 ≤ D.length := hd0
  have hs0' : s0 ≤ sl := hs0
  have hc' : D'.length - d0 ≤ R.cells := hc
  have hl' : sl' - s0 ≤ R.slots := hl
  obtain ⟨a', k, xs, ea, ek⟩ := ckObj_inv h3
  have hM := met_of_ret hpl H K [] { frames := fr - 1, cells := D'.length - D.length, slots := sl' - sl, locals := lo - (wt (S.drop na) + (mx + 11)) } rfl
  have er : (S.take na).reverse.map (vv A O hz.size) = .ref (hz.size + k) :: a'.reverse.map (vv A O hz.size) := by rw [ea]; simp [vv, rf]
  have el : (a'.reverse.map (vv A O hz.size)).length = ps.length := by
    have := congrArg List.length ea
    rw [List.length_take, List.length_append] at this
    simp only [List.length_cons, List.length_nil] at this
    rw [List.length_map, List.length_reverse]; omega
  rw [er] at hM
  have es : S.map (vv A O hz.size) = (a'.reverse.map (vv A O hz.size)).reverse ++ .ref (hz.size + k) :: (S.drop na).map (vv A O hz.size) := by
    conv => lhs; rw [← List.take_append_drop na S, ea]
    simp [vv, rf]
  have ho := H.2.2 k _ ek
  rw [ObAt.cls (o := (sid, xs)) hs] at ho
  obtain ⟨cq, kq, qa, qb, qc⟩ := isOf hA.2.1 rfl ho.1
  obtain ⟨w, vm₁, ⟨T', L', k', n'⟩, -, X', ⟨Lc, ⟨rfl, H', N'⟩, l1, y1, z1⟩, st⟩ := X.virtualBack hA.1 (y := y') (z := y') hA.2.2.2.2.1 (mvT hA.2.1 w1) (mvT hA.2.1 w5) (notFace_of_selects (args := #[]) (mvT hA.2.1 w6)) (mvT hA.2.1 w6) (mvT hA.2.1 w2) hy
    (backOf (W := wt (S.drop na)) (rm := { frames := fr - 1, cells := D'.length - D.length, slots := sl' - sl, locals := lo - (wt (S.drop na) + (mx + 11)) }) (Q := fun w h' L => w = v.map (vv A O hz.size) ∧ HD Z hz sh A O h' D' ∧ Fr hz.size L) hM hA.2.1 w4 w3 (by show fr - 1 + 1 ≤ _; omega) (by show _ + (lo - _) ≤ _; omega)) qa qc (g := frm hz A O m pc (L, S, D, sl)) rfl (by show (L.map (sl1 A O hz.size)).toArray.size = _; rw [hA.2.2.2.1, ← h2]; simp) (Steps.refl _) 
    (argsL := a'.reverse.map (vv A O hz.size)) (rest := (S.drop na).map (vv A O hz.size)) (lenOf hdesc el)
    es (by show 2 * 0 + _ ≤ _; rw [wt_ok]; omega) (hb hA.2.2.1 hd)
    (fun _ _ => ⟨rfl, rfl, by show D.length - d0 + (D'.length - D.length) ≤ _; omega, by show sl - s0 + (sl' - sl) ≤ _; omega⟩)
  dsimp only [Pt.U, Pt.locs, Pt.cells, Pt.slots] at X' l1 y1 z1 st H'
  subst l1 y1 z1
  have c1 : D.length - d0 + (D'.length - D.length) = D'.length - d0 := by omega
  have c2 : sl - s0 + (sl' - sl) = sl' - s0 := by omega
  refine ⟨T', _, by rw [← c1, ← c2]; exact X', H', N.app N', fun target kt => st.trans ?_⟩
  have e2 : (v.toList ++ S.drop na).map (vv A O hz.size) = (v.map (vv A O hz.size)).toList ++ (S.drop na).map (vv A O hz.size) := by cases v <;> simp
  have kt' : Steps p.tables e below (T'.setTop (mkF m (pc + 3) (L.map (sl1 A O hz.size)).toArray ((v.toList ++ S.drop na).map (vv A O hz.size)))) target := kt
  rw [e2] at kt'; exact kt'
theorem c_private {pc idx na sid : Nat} {ps : List FieldType} {r : Option FieldType} {C : String} {kk : Nat} {fs : List Fi} (hd : decode bytes pc = .ok (.invokevirtual idx, 3)) (hpl : plainFor y' = true) (hdesc : parseMethodDescriptor y'.desc = some ⟨ps, r⟩) (hna : ps.length + 1 = na) (hy : y'.cls ≠ "java/lang/invoke/MethodHandle" ∧ y'.cls ≠ "java/lang/invoke/VarHandle")
    (w1 : (Cond.methodLink y.cls idx y').before a0 Z = true) (w2 : (Cond.instanceMethod y').before a0 Z = true) (w3 : (Cond.initialized y'.cls).before a0 Z = true) (w4 : (Cond.code y' bytes' mx ret').before a0 Z = true) (hs : sh[sid]? = some (none, C, kk, fs)) (w5 : (Cond.privateMethod y').before a0 Z = true) (w6 : (Cond.selects y'.cls y' y').before a0 Z = true) :
    CallGood l Z hz sh A O y bytes maxL ret y' bytes' mx ret' pc na (pc + 3) (ckObj sid) := by
  intro L S D sl fr lo v D' sl' h1 h2 h3 h4 h5 K
  have kk := K
  obtain ⟨k1, k2, -⟩ := kk
  refine ⟨k1, k2, ?_⟩
  intro d0 s0 p e R s m args below meth c T locs hd0 hs0 hh hA X H N hc hl hfr hlo
  have k1' : D.length ≤ D'.length := k1
  have k2' : sl ≤ sl' := k2
  have hd0' : d0 ≤ D.length := hd0
  have hs0' : s0 ≤ sl := hs0
  have hc' : D'.length - d0 ≤ R.cells := hc
  have hl' : sl' - s0 ≤ R.slots := hl
  obtain ⟨a', k, xs, ea, ek⟩ := ckObj_inv h3
  have hM := met_of_ret hpl H K [] { frames := fr - 1, cells := D'.length - D.length, slots := sl' - sl, locals := lo - (wt (S.drop na) + (mx + 11)) } rfl
  have er : (S.take na).reverse.map (vv A O hz.size) = .ref (hz.size + k) :: a'.reverse.map (vv A O hz.size) := by rw [ea]; simp [vv, rf]
  have el : (a'.reverse.map (vv A O hz.size)).length = ps.length := by
    have := congrArg List.length ea
    rw [List.length_take, List.length_append] at this
    simp only [List.length_cons, List.length_nil] at this
    rw [List.length_map, List.length_reverse]; omega
  rw [er] at hM
  have es : S.map (vv A O hz.size) = (a'.reverse.map (vv A O hz.size)).reverse ++ .ref (hz.size + k) :: (S.drop na).map (vv A O hz.size) := by
    conv => lhs; rw [← List.take_append_drop na S, ea]
    simp [vv, rf]
  have ho := H.2.2 k _ ek
  rw [ObAt.cls (o := (sid, xs)) hs] at ho
  obtain ⟨cq, q1, q2⟩ := ho.1.cell
  obtain ⟨w, vm₁, ⟨T', L', k', n'⟩, -, X', ⟨Lc, ⟨rfl, H', N'⟩, l1, y1, z1⟩, st⟩ := X.privateBack hA.1 (y := y') hA.2.2.2.2.1 (mvT hA.2.1 w1) (mvT hA.2.1 w2) (mvT hA.2.1 w6) (Cond.privateMethod_at (mvP hA.2.1 w5 (args := #[]))) (mvT hA.2.1 w4) hy
    (backOf (W := wt (S.drop na)) (rm := { frames := fr - 1, cells := D'.length - D.length, slots := sl' - sl, locals := lo - (wt (S.drop na) + (mx + 11)) }) (Q := fun w h' L => w = v.map (vv A O hz.size) ∧ HD Z hz sh A O h' D' ∧ Fr hz.size L) hM hA.2.1 w4 w3 (by show fr - 1 + 1 ≤ _; omega) (by show _ + (lo - _) ≤ _; omega)) (g := frm hz A O m pc (L, S, D, sl)) rfl (by show (L.map (sl1 A O hz.size)).toArray.size = _; rw [hA.2.2.2.1, ← h2]; simp) (Steps.refl _) (a := hz.size + k) q1 q2
    (argsL := a'.reverse.map (vv A O hz.size)) (rest := (S.drop na).map (vv A O hz.size)) (lenOf hdesc el)
    es (by show 2 * 0 + _ ≤ _; rw [wt_ok]; omega) (hb hA.2.2.1 hd)
    (fun _ _ => ⟨rfl, rfl, by show D.length - d0 + (D'.length - D.length) ≤ _; omega, by show sl - s0 + (sl' - sl) ≤ _; omega⟩)
  dsimp only [Pt.U, Pt.locs, Pt.cells, Pt.slots] at X' l1 y1 z1 st H'
  subst l1 y1 z1
  have c1 : D.length - d0 + (D'.length - D.length) = D'.length - d0 := by omega
  have c2 : sl - s0 + (sl' - sl) = sl' - s0 := by omega
  refine ⟨T', _, by rw [← c1, ← c2]; exact X', H', N.app N', fun target kt => st.trans ?_⟩
  have e2 : (v.toList ++ S.drop na).map (vv A O hz.size) = (v.map (vv A O hz.size)).toList ++ (S.drop na).map (vv A O hz.size) := by cases v <;> simp
  have kt' : Steps p.tables e below (T'.setTop (mkF m (pc + 3) (L.map (sl1 A O hz.size)).toArray ((v.toList ++ S.drop na).map (vv A O hz.size)))) target := kt
  rw [e2] at kt'; exact kt'
end Calls
/-! ### 7. The run -/
/-- a step that asks for room: a native -/
abbrev Stq := Nat → Nat → Stp
def GoodN (l : Launch) (Z : State) (hz : Heap) (sh : List Sh) (A : En) (O : Nat → Addr) (y : MethodName) (bytes : ByteArray) (maxL : Nat) (ret : Option FieldType) (pc : Nat) (f : Stq) : Prop := ∀ fr lo F cf ns, f fr lo F cf = some ns → holds A F → ∃ n ∈ ns, holds A n.1 ∧ Sim l Z hz sh A O y bytes maxL ret fr lo pc cf n.2.1 n.2.2
/-- Object's constructor -/
def sInitO (mx nx : Nat) : Stq := fun fr lo F cf => match cf.2.1 with
  | (2, .index _) :: S => bif Nat.ble 1 fr && (Nat.ble (wt S + 12) lo && Nat.beq cf.1.length mx) then some [(F, nx, (cf.1, S, cf.2.2))] else none
  | _ => none
theorem g_initO {pc idx : Nat} {a0 : Array Value} (hd : decode bytes pc = .ok (.invokespecial idx, 3)) (w1 : (Cond.methodLink y.cls idx Lib.objectInit).before a0 Z = true) (w2 : (Cond.instanceMethod Lib.objectInit).before a0 Z = true) (w3 : (Cond.code Lib.objectInit ⟨#[0xb1]⟩ 1 none).before a0 Z = true) :
    GoodN l Z hz sh A O y bytes maxL ret pc (sInitO maxL (pc + 3)) := by
  intro fr lo F cf ns h hF
  obtain ⟨L, S, D, sl⟩ := cf
  simp only [sInitO] at h
  split at h
  · rename_i k S'
    cases hk : (Nat.ble 1 fr && (Nat.ble (wt S' + 12) lo && Nat.beq L.length maxL))
    · rw [hk] at h; cases h
    · rw [hk] at h; cases h
      simp only [Bool.and_eq_true] at hk
      have c1 := Nat.le_of_ble_eq_true hk.1
      have c2 := Nat.le_of_ble_eq_true hk.2.1
      have c3 := Nat.eq_of_beq_eq_true hk.2.2
      refine ⟨_, List.mem_cons_self .., hF, Nat.le_refl _, Nat.le_refl _, ?_⟩
      intro d0 s0 p e R s m args below meth c T locs hd0 hs0 hh hA X H N hc hl hfr hlo
      obtain ⟨T', X', e1, st⟩ := initO X hA.1 hA.2.1 hA.2.2.2.2.1 w1 w2 w3 rfl (g := frm hz A O m pc (L, (2, .index k) :: S', D, sl)) rfl (by show (L.map (sl1 A O hz.size)).toArray.size = _; rw [hA.2.2.2.1, ← c3]; simp) (a := hz.size + k) (rest := S'.map (vv A O hz.size)) rfl (hb hA.2.2.1 hd) (by omega) (W := wt S') (by show 2 * 0 + _ ≤ _; rw [wt_ok]; omega) (by omega)
      exact ⟨T', locs, X', by rw [e1]; exact H, N, st⟩
  · cases h
/-- the law's own run from here on returns 1 within the frame's figures -/
def Top (l : Launch) (Z : State) (hz : Heap) (sh : List Sh) (A : En) (O : Nat → Addr) (y : MethodName) (bytes : ByteArray) (maxL : Nat) (ret : Option FieldType) (C N fr lo pc : Nat) (cf : Cf) : Prop :=
  cf.2.2.1.length ≤ C ∧ cf.2.2.2 ≤ N ∧
  ∀ (p : Program) (e : Env) (R : Room) (s : State) (m : MethodId) (args : Array Value) (below : List Frame) (meth : Method) (c : Code) (T : State) (locs : List Loc),
    s.heap.size = hz.size → Act Z y bytes maxL ret p s m meth c → Stand p l e R s m args below meth c T locs cf.2.2.1.length cf.2.2.2 → HD Z hz sh A O T.heap cf.2.2.1 → Fr hz.size locs →
    C ≤ R.cells → N ≤ R.slots → fr ≤ R.frames → lo ≤ R.locals →
    ∃ s₂ locs', Steps p.tables e below (T.setTop (frm hz A O m pc cf)) s₂ ∧ s₂.status = .running ∧ Ended s₂ below (.returned (some (.int 1))) ∧ Fr hz.size locs' ∧
      s.WarmedH s₂.vm ∧ s.sameButNew ({ s₂ with vm := s.vm } : State) locs' C N
theorem Sim.top {fr lo C N pc pc' : Nat} {cf cf' : Cf} (S : Sim l Z hz sh A O y bytes maxL ret fr lo pc cf pc' cf') (K : Top l Z hz sh A O y bytes maxL ret C N fr lo pc' cf') : Top l Z hz sh A O y bytes maxL ret C N fr lo pc cf := by
  obtain ⟨s1, s2, s3⟩ := S
  obtain ⟨k1, k2, k3⟩ := K
  refine ⟨Nat.le_trans s1 k1, Nat.le_trans s2 k2, ?_⟩
  intro p e R s m args below meth c T locs hh hA X H N' hc hl hf hlo
  obtain ⟨T', locs', X', H', N'', st⟩ := s3 0 0 p e R s m args below meth c T locs (Nat.zero_le _) (Nat.zero_le _) hh hA X H N' (by rw [Nat.sub_zero]; omega) (by rw [Nat.sub_zero]; omega) hf hlo
  obtain ⟨s₂, L2, q1, q2⟩ := k3 p e R s m args below meth c T' locs' hh hA X' H' N'' hc hl hf hlo
  exact ⟨s₂, L2, st _ q1, q2⟩
theorem Top.mono {fr lo fr' lo' C N pc : Nat} {cf : Cf} (K : Top l Z hz sh A O y bytes maxL ret C N fr lo pc cf) (h1 : fr ≤ fr') (h2 : lo ≤ lo') : Top l Z hz sh A O y bytes maxL ret C N fr' lo' pc cf := by
  obtain ⟨k1, k2, k3⟩ := K
  refine ⟨k1, k2, ?_⟩
  intro p e R s m args below meth c T locs hh hA X H N' hc hl hf hlo
  exact k3 p e R s m args below meth c T locs hh hA X H N' hc hl (Nat.le_trans h1 hf) (Nat.le_trans h2 hlo)
theorem Ret.top {fr lo C N pc : Nat} {cf : Cf} {v : Option SV} {D' : List Ob} {sl' : Nat} (K : Ret l Z hz sh A O y bytes maxL ret fr lo pc cf v D' sl') (hv : v.map (vv A O hz.size) = some (.int 1)) (h1 : D'.length ≤ C) (h2 : sl' ≤ N) : Top l Z hz sh A O y bytes maxL ret C N fr lo pc cf := by
  obtain ⟨k1, k2, k3⟩ := K
  refine ⟨Nat.le_trans k1 h1, Nat.le_trans k2 h2, ?_⟩
  intro p e R s m args below meth c T locs hh hA X H N' hc hl hf hlo
  obtain ⟨s₂, L2, q1, q2, q3, q4, q5, q6, q7⟩ := k3 0 0 p e R s m args below meth c T locs (Nat.zero_le _) (Nat.zero_le _) hh hA X H N' (by rw [Nat.sub_zero]; omega) (by rw [Nat.sub_zero]; omega) hf hlo
  rw [hv] at q3
  exact ⟨s₂, L2, q1, q2, q3, q5, q6, q7.mono h1 h2⟩
end SimLaws
/-! a cut: the values in some locals are taken for new unknowns -/
def sub (σ : List Term) : Term → Term
  | .arg i => σ.getD i (.arg i)
  | .add a b => .add (sub σ a) (sub σ b)
  | .sub a b => .sub (sub σ a) (sub σ b)
  | .mul a b => .mul (sub σ a) (sub σ b)
  | .div a b => .div (sub σ a) (sub σ b)
  | .rem a b => .rem (sub σ a) (sub σ b)
  | .op2 o a b => .op2 o (sub σ a) (sub σ b)
  | .op1 o a => .op1 o (sub σ a)
  | t => t
def env' (A : En) (σ : List Term) : En := fun i => te A (σ.getD i (.arg i))
theorem te_sub (A : En) (σ : List Term) (t : Term) : te A (sub σ t) = te (env' A σ) t := by
  induction t <;> simp_all [sub, te, env']
def vq (σ : List Term) (x0 x : SV) : Bool := Nat.beq x0.1 x.1 && (match x0.1 with
  | 2 => tq x0.2 x.2
  | _ => tq (sub σ x0.2) x.2)
def vqs (σ : List Term) : List SV → List SV → Bool
  | [], [] => true
  | x :: xs, z :: zs => vq σ x z && vqs σ xs zs
  | _, _ => false
def lqs (σ : List Term) : List SL → List SL → Bool
  | [], [] => true
  | x :: xs, z :: zs => (match x, z with
    | none, none => true
    | some none, some none => true
    | some (some a), some (some b) => vq σ a b
    | _, _ => false) && lqs σ xs zs
  | _, _ => false
def oqs (σ : List Term) : List Ob → List Ob → Bool
  | [], [] => true
  | x :: xs, z :: zs => (Nat.beq x.1 z.1 && vqs σ x.2 z.2) && oqs σ xs zs
  | _, _ => false
def cfq (σ : List Term) (c0 c : Cf) : Bool := lqs σ c0.1 c.1 && (vqs σ c0.2.1 c.2.1 && (oqs σ c0.2.2.1 c.2.2.1 && Nat.beq c0.2.2.2 c.2.2.2))
theorem vq_ok {A : En} {O : Nat → Addr} {n0 : Nat} {σ : List Term} {x0 x : SV} (h : vq σ x0 x = true) : vv A O n0 x = vv (env' A σ) O n0 x0 := by
  obtain ⟨k0, t0⟩ := x0
  obtain ⟨k, t⟩ := x
  simp only [vq, Bool.and_eq_true] at h
  obtain ⟨h1, h2⟩ := h
  obtain rfl := Nat.eq_of_beq_eq_true h1
  by_cases q : k0 = 2
  · subst q
    simp only at h2
    obtain rfl := tq_eq h2; rfl
  · have h3 : sub σ t0 = t := by
      split at h2
      · exact absurd rfl q
      · exact tq_eq h2
    subst h3
    unfold vv
    simp only
    split
    · rw [te_sub]
    · rw [te_sub]
    · exact absurd rfl q
    · rw [te_sub]
theorem vqs_ok {A : En} {O : Nat → Addr} {n0 : Nat} {σ : List Term} : ∀ {xs zs : List SV}, vqs σ xs zs = true → zs.map (vv A O n0) = xs.map (vv (env' A σ) O n0)
  | [], [], _ => rfl
  | x :: xs, z :: zs, h => by
    simp only [vqs, Bool.and_eq_true] at h
    rw [List.map_cons, List.map_cons, vq_ok h.1, vqs_ok h.2]
  | [], _ :: _, h => by cases h
  | _ :: _, [], h => by cases h
theorem lqs_ok {A : En} {O : Nat → Addr} {n0 : Nat} {σ : List Term} : ∀ {xs zs : List SL}, lqs σ xs zs = true → zs.map (sl1 A O n0) = xs.map (sl1 (env' A σ) O n0)
  | [], [], _ => rfl
  | x :: xs, z :: zs, h => by
    simp only [lqs, Bool.and_eq_true] at h
    rw [List.map_cons, List.map_cons, lqs_ok h.2]
    congr 1
    have h1 := h.1
    match x, z, h1 with
    | none, none, _ => rfl
    | some none, some none, _ => rfl
    | some (some a), some (some b), h1 => exact congrArg Slot.val (vq_ok h1)
  | [], _ :: _, h => by cases h
  | _ :: _, [], h => by cases h
theorem oqs_ok {σ : List Term} : ∀ {xs zs : List Ob}, oqs σ xs zs = true → zs.length = xs.length ∧ ∀ (k : Nat) (o : Ob), xs[k]? = some o → ∃ ys, zs[k]? = some (o.1, ys) ∧ vqs σ o.2 ys = true
  | [], [], _ => ⟨rfl, fun k o h => by simp at h⟩
  | x :: xs, z :: zs, h => by
    simp only [oqs, Bool.and_eq_true] at h
    obtain ⟨i1, i2⟩ := oqs_ok h.2
    refine ⟨by simp [i1], fun k o hk => ?_⟩
    cases k with
    | zero =>
      simp only [List.getElem?_cons_zero, Option.some.injEq] at hk ⊢
      subst hk
      exact ⟨z.2, by rw [Nat.eq_of_beq_eq_true h.1.1], h.1.2⟩
    | succ k => simpa using i2 k o (by simpa using hk)
  | [], _ :: _, h => by cases h
  | _ :: _, [], h => by cases h
theorem ObAt.sub {Z : State} {hz : Heap} {sh : List Sh} {A : En} {O : Nat → Addr} {σ : List Term} {h : Heap} {a : Addr} {n : Nat} {xs ys : List SV} (q : vqs σ xs ys = true) (X : ObAt Z hz sh A O h a (n, ys)) : ObAt Z hz sh (env' A σ) O h a (n, xs) := by
  have e := vqs_ok (A := A) (O := O) (n0 := hz.size) q
  have el : ys.length = xs.length := by simpa using congrArg List.length e
  unfold ObAt at X ⊢
  split
  · rename_i q2; rw [q2] at X; obtain ⟨cl, h1, h2, h3, h4⟩ := X; exact ⟨cl, h1, by rw [h2]; simp only; rw [e], by simp only; rw [← el]; exact h3, h4⟩
  · rename_i q2; rw [q2] at X
    obtain ⟨x1, x2, x3⟩ := X
    refine ⟨x1, el.symm.trans x2, fun i f x hf hx => ?_⟩
    simp only at hx x3
    have hi : i < ys.length := by rw [el]; exact (List.getElem?_eq_some_iff.mp hx).1
    have := x3 i f ys[i] hf (List.getElem?_eq_getElem hi)
    have e2 : vv A O hz.size ys[i] = vv (env' A σ) O hz.size x := by
      have := congrArg (fun L => L[i]?) e
      simp only [List.getElem?_map, hx, List.getElem?_eq_getElem hi, Option.map_some] at this
      exact Option.some.inj this
    rw [e2] at this; exact this
  · rename_i q2; rw [q2] at X; exact X
theorem HD.sub {Z : State} {hz : Heap} {sh : List Sh} {A : En} {O : Nat → Addr} {σ : List Term} {h : Heap} {D0 D : List Ob} (q : oqs σ D0 D = true) (H : HD Z hz sh A O h D) : HD Z hz sh (env' A σ) O h D0 := by
  obtain ⟨i1, i2⟩ := oqs_ok q
  refine ⟨by rw [H.1, i1], H.2.1, fun k o hk => ?_⟩
  obtain ⟨ys, e1, e2⟩ := i2 k o hk
  exact ObAt.sub e2 (H.2.2 k _ e1)
theorem Top.sub {l : Launch} {Z : State} {hz : Heap} {sh : List Sh} {A : En} {O : Nat → Addr} {y : MethodName} {bytes : ByteArray} {maxL : Nat} {ret : Option FieldType} {σ : List Term} {C N fr lo pc : Nat} {c0 c : Cf} (q : cfq σ c0 c = true) (K : Top l Z hz sh (env' A σ) O y bytes maxL ret C N fr lo pc c0) : Top l Z hz sh A O y bytes maxL ret C N fr lo pc c := by
  simp only [cfq, Bool.and_eq_true] at q
  obtain ⟨q1, q2, q3, q4⟩ := q
  have e4 := Nat.eq_of_beq_eq_true q4
  have e3 := (oqs_ok q3).1
  obtain ⟨k1, k2, k3⟩ := K
  refine ⟨by rw [e3]; exact k1, by rw [← e4]; exact k2, ?_⟩
  intro p e R s m args below meth cc T locs hh hA X H N' hc hl hf hlo
  have ef : frm hz A O m pc c = frm hz (env' A σ) O m pc c0 := by unfold frm; rw [lqs_ok q1, vqs_ok q2]
  rw [ef]
  exact k3 p e R s m args below meth cc T locs hh hA (by rw [← e3, e4]; exact X) (HD.sub q3 H) N' hc hl hf hlo
/-- the terms that stand in some locals -/
def pick (L : List SL) : List Nat → List Term
  | [] => []
  | k :: ks => (match L[k]? with
    | some (some (some x)) => x.2
    | _ => .null) :: pick L ks
def allDec (F : List Cond) (σ : List Term) : List Cond → Bool
  | [] => true
  | c :: cs => (match c with
    | .eq a b => (match dec F (.eq (sub σ a) (sub σ b)) with
      | some true => true
      | _ => false)
    | .lt a b => (match dec F (.lt (sub σ a) (sub σ b)) with
      | some true => true
      | _ => false)
    | .not (.eq a b) => (match dec F (.eq (sub σ a) (sub σ b)) with
      | some false => true
      | _ => false)
    | .not (.lt a b) => (match dec F (.lt (sub σ a) (sub σ b)) with
      | some false => true
      | _ => false)
    | _ => false) && allDec F σ cs
theorem allDec_ok {A : En} {F : List Cond} {σ : List Term} (hF : holds A F) : ∀ {cs : List Cond}, allDec F σ cs = true → holds (env' A σ) cs
  | [], _ => fun _ h => nomatch h
  | c :: cs, h => by
    simp only [allDec, Bool.and_eq_true] at h
    refine holds_cons ?_ (allDec_ok hF h.2)
    have h1 := h.1
    split at h1
    · rename_i a b
      split at h1
      · rename_i q; have := (dec_ok hF q).mpr rfl; simpa only [hold, te_sub] using this
      · cases h1
    · rename_i a b
      split at h1
      · rename_i q; have := (dec_ok hF q).mpr rfl; simpa only [hold, te_sub] using this
      · cases h1
    · rename_i a b
      split at h1
      · rename_i q; have this : ¬ _ := fun x => nomatch (dec_ok hF q).mp x; simpa only [hold, te_sub] using this
      · cases h1
    · rename_i a b
      split at h1
      · rename_i q; have this : ¬ _ := fun x => nomatch (dec_ok hF q).mp x; simpa only [hold, te_sub] using this
      · cases h1
    · cases h1
/-- a cut: least room, the state there over new unknowns, the locals that name them, the facts asked of them -/
abbrev Ct := Nat × Nat × Cf × List Nat × List Cond
def atCut (k : Ct) (fr lo : Nat) (F : List Cond) (cf : Cf) : Bool := Nat.ble k.1 fr && (Nat.ble k.2.1 lo && (cfq (pick cf.1 k.2.2.2.1) k.2.2.1 cf && allDec F (pick cf.1 k.2.2.2.1) k.2.2.2.2))
abbrev Rt := List SV → Option (Option SV)
abbrev Ki := Stp ⊕ (Kl ⊕ (Rt ⊕ (Stq ⊕ Ct)))
abbrev El := Nat × Ki
abbrev Mt := Nat × List El
abbrev Fm := Nat × List El × List SL × List SV × Nat × Nat
abbrev Pd := List Cond × Option SV
abbrev St := Nat × List El × Cf × List Cond × Nat × Nat × List Fm
def kS (f : Stp) : Ki := .inl f
def kC (cj na nx : Nat) (ck : List SV → List Ob → Bool) : Ki := .inr (.inl (cj, na, nx, ck))
def kR (g : Rt) : Ki := .inr (.inr (.inl g))
def kN (f : Stq) : Ki := .inr (.inr (.inr (.inl f)))
def kX (k : Ct) : Ki := .inr (.inr (.inr (.inr k)))
def seekF : List El → Nat → List El
  | [], _ => []
  | el :: r, pc => bif Nat.beq el.1 pc then el :: r else seekF r pc
def seek (M : List Mt) (j : Nat) (tl : List El) (pc : Nat) : List El := match tl with
  | [] => (match M[j]? with
    | some m => seekF m.2 pc
    | none => [])
  | el :: r => bif Nat.beq el.1 pc then el :: r else (match M[j]? with
    | some m => seekF m.2 pc
    | none => [])
def coll (g : Nx → Option (List Pd)) : List Nx → Option (List Pd)
  | [] => some []
  | [n] => g n
  | n :: ns => match g n with
    | none => none
    | some a => match coll g ns with
      | none => none
      | some b => some (a ++ b)
def isOne : Option SV → Bool
  | some (0, .int x) => x == 1
  | _ => false
def leaf (C N : Nat) (F : List Cond) (v : Option SV) (r : List Ob × Nat) : Option (List Pd) :=
  bif Nat.ble r.1.length C && Nat.ble r.2 N then (bif isOne v then some [] else some [(F, v)]) else none
def body (M : List Mt) (C N : Nat) (ih : St → Option (List Pd)) (st : St) : Option (List Pd) := match st with
  | (j, rem, cf, F, fr, lo, stk) => match rem with
    | [] => none
    | el :: tl => match el.2 with
      | .inl f => (match f F cf with
        | none => some [(F, none)]
        | some ns => coll (fun n => ih (j, seek M j tl n.2.1, n.2.2, n.1, fr, lo, stk)) ns)
      | .inr (.inl k) => (match M[k.1]? with
        | none => none
        | some m => (match M[j]? with
          | none => none
          | some mj => bif Nat.ble k.2.1 cf.2.1.length && (Nat.beq cf.1.length mj.1 && (k.2.2.2 (cf.2.1.take k.2.1) cf.2.2.1 && (Nat.ble 1 fr && Nat.ble (wt (cf.2.1.drop k.2.1) + (m.1 + 11)) lo))) then
              ih (k.1, m.2, (entL (cf.2.1.take k.2.1).reverse m.1, [], cf.2.2), F, fr - 1, lo - (wt (cf.2.1.drop k.2.1) + (m.1 + 11)), (j, seek M j tl k.2.2.1, cf.1, cf.2.1.drop k.2.1, fr, lo) :: stk)
            else some [(F, none)]))
      | .inr (.inr (.inl g)) => (match g cf.2.1 with
        | none => some [(F, none)]
        | some v => (match stk with
          | [] => leaf C N F v cf.2.2
          | fm :: stk' => ih (fm.1, fm.2.1, (fm.2.2.1, v.toList ++ fm.2.2.2.1, cf.2.2), F, fm.2.2.2.2.1, fm.2.2.2.2.2, stk')))
      | .inr (.inr (.inr (.inl f))) => (match f fr lo F cf with
        | none => some [(F, none)]
        | some ns => coll (fun n => ih (j, seek M j tl n.2.1, n.2.2, n.1, fr, lo, stk)) ns)
      | .inr (.inr (.inr (.inr k))) => (match stk with
        | [] => bif atCut k fr lo F cf then some [] else some [(F, none)]
        | _ => some [(F, none)])
def xgo (M : List Mt) (C N : Nat) : Nat → St → Option (List Pd)
  | 0, _ => none
  | n + 1, st => body M C N (xgo M C N n) st
theorem xgo_succ (M : List Mt) (C N n : Nat) (st : St) : xgo M C N (n + 1) st = body M C N (xgo M C N n) st := rfl
def cont (M : List Mt) (C N n : Nat) (stk : List Fm) (F : List Cond) (v : Option SV) (r : List Ob × Nat) : Option (List Pd) := match stk with
  | [] => leaf C N F v r
  | fm :: stk' => xgo M C N n (fm.1, fm.2.1, (fm.2.2.1, v.toList ++ fm.2.2.2.1, r), F, fm.2.2.2.2.1, fm.2.2.2.2.2, stk')
theorem coll_mem {g : Nx → Option (List Pd)} : ∀ {ns : List Nx} {P : List Pd} {n : Nx}, coll g ns = some P → n ∈ ns → ∃ P', g n = some P' ∧ ∀ q ∈ P', q ∈ P
  | [], P, n, _, hn => nomatch hn
  | [m], P, n, h, hn => by
    rcases List.mem_singleton.mp hn with rfl
    exact ⟨P, h, fun _ q => q⟩
  | m :: k :: ns, P, n, h, hn => by
    simp only [coll] at h
    cases hg : g m with
    | none => rw [hg] at h; cases h
    | some a =>
      rw [hg] at h
      simp only at h
      cases hc : coll g (k :: ns) with
      | none => rw [hc] at h; cases h
      | some b =>
        rw [hc] at h; cases h
        rcases List.mem_cons.mp hn with rfl | hn
        · exact ⟨a, hg, fun q hq => List.mem_append_left _ hq⟩
        · obtain ⟨P', h1, h2⟩ := coll_mem hc hn
          exact ⟨P', h1, fun q hq => List.mem_append_right _ (h2 q hq)⟩
theorem seekF_ok {code : List El} {pc : Nat} : (∀ el ∈ seekF code pc, el ∈ code) ∧ ∀ el tl, seekF code pc = el :: tl → el.1 = pc := by
  induction code with
  | nil => exact ⟨fun _ h => h, fun _ _ h => by cases h⟩
  | cons e r ih =>
    unfold seekF
    cases q : Nat.beq e.1 pc
    · exact ⟨fun el h => List.mem_cons_of_mem _ (ih.1 el h), ih.2⟩
    · refine ⟨fun _ h => h, fun el tl h => ?_⟩
      cases h; exact Nat.eq_of_beq_eq_true q
theorem seek_ok {M : List Mt} {j mx pc : Nat} {code tl : List El} (hM : M[j]? = some (mx, code)) (ht : ∀ el ∈ tl, el ∈ code) : (∀ el ∈ seek M j tl pc, el ∈ code) ∧ ∀ el tl', seek M j tl pc = el :: tl' → el.1 = pc := by
  unfold seek
  rw [hM]
  split
  · exact seekF_ok
  · rename_i e r
    cases q : Nat.beq e.1 pc
    · exact seekF_ok
    · refine ⟨ht, fun el tl h => ?_⟩
      cases h; exact Nat.eq_of_beq_eq_true q
section Run
variable {l : Launch} {Z : State} {hz : Heap} {sh : List Sh} {A : En} {O : Nat → Addr}
def ElOk (l : Launch) (Z : State) (hz : Heap) (sh : List Sh) (A : En) (O : Nat → Addr) (C N : Nat) (M : List Mt) (MI : Nat → MethodName × ByteArray × Option FieldType) (j mx : Nat) (el : El) : Prop := match el.2 with
  | .inl f => Good l Z hz sh A O (MI j).1 (MI j).2.1 mx (MI j).2.2 el.1 f
  | .inr (.inl k) => ∀ m, M[k.1]? = some m → CallGood l Z hz sh A O (MI j).1 (MI j).2.1 mx (MI j).2.2 (MI k.1).1 (MI k.1).2.1 m.1 (MI k.1).2.2 el.1 k.2.1 k.2.2.1 k.2.2.2
  | .inr (.inr (.inl g)) => RetGood l Z hz sh A O (MI j).1 (MI j).2.1 mx (MI j).2.2 el.1 g
  | .inr (.inr (.inr (.inl f))) => GoodN l Z hz sh A O (MI j).1 (MI j).2.1 mx (MI j).2.2 el.1 f
  | .inr (.inr (.inr (.inr k))) => ∀ A' : En, holds A' k.2.2.2.2 → Top l Z hz sh A' O (MI j).1 (MI j).2.1 mx (MI j).2.2 C N k.1 k.2.1 el.1 k.2.2.1
def MtOk (l : Launch) (Z : State) (hz : Heap) (sh : List Sh) (A : En) (O : Nat → Addr) (C N : Nat) (M : List Mt) (MI : Nat → MethodName × ByteArray × Option FieldType) : Prop := ∀ j mx code, M[j]? = some (mx, code) → (∀ el ∈ code, ElOk l Z hz sh A O C N M MI j mx el) ∧ ∀ el tl, code = el :: tl → el.1 = 0
theorem run_ok {M : List Mt} {C N : Nat} {MI : Nat → MethodName × ByteArray × Option FieldType} (hM : MtOk l Z hz sh A O C N M MI) : ∀ (n : Nat) (j : Nat) (rem : List El) (cf : Cf) (F : List Cond) (fr lo : Nat) (stk : List Fm) (P : List Pd) (mx : Nat) (code : List El),
    xgo M C N n (j, rem, cf, F, fr, lo, stk) = some P → holds A F → (∀ q ∈ P, q.2 = none → ¬ holds A q.1) → M[j]? = some (mx, code) → (∀ el ∈ rem, el ∈ code) →
    ∃ el tl, rem = el :: tl ∧ ((∃ k, k < n ∧ ∃ F' v D' sl' P', holds A F' ∧ cont M C N k stk F' v (D', sl') = some P' ∧ (∀ q ∈ P', q ∈ P) ∧ Ret l Z hz sh A O (MI j).1 (MI j).2.1 mx (MI j).2.2 fr lo el.1 cf v D' sl')
      ∨ (stk = [] ∧ Top l Z hz sh A O (MI j).1 (MI j).2.1 mx (MI j).2.2 C N fr lo el.1 cf)) := by
  intro n
  induction n using Nat.strongRecOn with
  | ind n IH =>
    intro j rem cf F fr lo stk P mx code h hF hP hj hr
    cases n with
    | zero => cases h
    | succ n =>
      rw [xgo_succ] at h
      unfold body at h
      cases rem with
      | nil => cases h
      | cons el tl =>
        refine ⟨el, tl, rfl, ?_⟩
        have hel := (hM j mx code hj).1 el (hr el (List.mem_cons_self ..))
        have htl : ∀ e ∈ tl, e ∈ code := fun e he => hr e (List.mem_cons_of_mem _ he)
        have step : ∀ (ns : List Nx) (pc : Nat), coll (fun n' => xgo M C N n (j, seek M j tl n'.2.1, n'.2.2, n'.1, fr, lo, stk)) ns = some P → (∃ nx ∈ ns, holds A nx.1 ∧ Sim l Z hz sh A O (MI j).1 (MI j).2.1 mx (MI j).2.2 fr lo pc cf nx.2.1 nx.2.2) →
            ((∃ k, k < n + 1 ∧ ∃ F' v D' sl' P', holds A F' ∧ cont M C N k stk F' v (D', sl') = some P' ∧ (∀ q ∈ P', q ∈ P) ∧ Ret l Z hz sh A O (MI j).1 (MI j).2.1 mx (MI j).2.2 fr lo pc cf v D' sl')
              ∨ (stk = [] ∧ Top l Z hz sh A O (MI j).1 (MI j).2.1 mx (MI j).2.2 C N fr lo pc cf)) := by
          intro ns pc h ⟨nx, hn, hG, hS⟩
          obtain ⟨P1, g1, g2⟩ := coll_mem h hn
          obtain ⟨k1, k2⟩ := seek_ok (pc := nx.2.1) hj htl
          obtain ⟨el', tl', er, a⟩ := IH n (Nat.lt_succ_self n) j _ nx.2.2 nx.1 fr lo stk P1 mx code g1 hG (fun q hq => hP q (g2 q hq)) hj k1
          rw [k2 el' tl' er] at a
          rcases a with ⟨k, hk, F', v, D', sl', P', a1, a2, a3, a4⟩ | ⟨a1, a2⟩
          · exact Or.inl ⟨k, Nat.lt_succ_of_lt hk, F', v, D', sl', P', a1, a2, fun q hq => g2 q (a3 q hq), hS.thenRet a4⟩
          · exact Or.inr ⟨a1, hS.top a2⟩
        obtain ⟨pc, kind⟩ := el
        simp only at h
        cases kind with
        | inl f =>
          simp only at h
          have hgood : Good l Z hz sh A O (MI j).1 (MI j).2.1 mx (MI j).2.2 pc f := hel
          cases hf : f F cf with
          | none =>
            rw [hf] at h; cases h
            exact absurd hF (hP (F, none) (List.mem_cons_self ..) rfl)
          | some ns =>
            rw [hf] at h
            simp only at h
            obtain ⟨nx, hn, hG, hS⟩ := hgood F cf ns hf hF
            exact step ns pc h ⟨nx, hn, hG, hS.mono (Nat.zero_le _) (Nat.zero_le _)⟩
        | inr kind =>
          cases kind with
          | inl kl =>
            simp only at h
            have hcall : ∀ m, M[kl.1]? = some m → CallGood l Z hz sh A O (MI j).1 (MI j).2.1 mx (MI j).2.2 (MI kl.1).1 (MI kl.1).2.1 m.1 (MI kl.1).2.2 pc kl.2.1 kl.2.2.1 kl.2.2.2 := hel
            obtain ⟨cj, na, nx, ck⟩ := kl
            obtain ⟨L, S, D, sl⟩ := cf
            simp only at h hcall
            cases hm : M[cj]? with
            | none => rw [hm] at h; cases h
            | some m =>
              obtain ⟨mx', code'⟩ := m
              rw [hm, hj] at h
              simp only at h
              cases hc : (Nat.ble na S.length && (Nat.beq L.length mx && (ck (S.take na) D && (Nat.ble 1 fr && Nat.ble (wt (S.drop na) + (mx' + 11)) lo))))
              · rw [hc] at h; cases h
                exact absurd hF (hP (F, none) (List.mem_cons_self ..) rfl)
              · rw [hc] at h
                simp only [Bool.and_eq_true] at hc
                obtain ⟨c1, c2, c3, c4, c5⟩ := hc
                have c1 := Nat.le_of_ble_eq_true c1
                have c2 := Nat.eq_of_beq_eq_true c2
                have c4 := Nat.le_of_ble_eq_true c4
                have c5 := Nat.le_of_ble_eq_true c5
                simp only [cond_true] at h
                obtain ⟨el', tl', er, a⟩ := IH n (Nat.lt_succ_self n) cj code' _ F (fr - 1) _ _ P mx' code' h hF hP hm (fun _ q => q)
                rw [(hM cj mx' code' hm).2 el' tl' er] at a
                rcases a with ⟨k, hk, F', v, D', sl', P', a1, a2, a3, a4⟩ | ⟨a1, -⟩
                · have hS := hcall (mx', code') hm L S D sl fr lo v D' sl' c1 c2 c3 c4 c5 a4
                  have a2' : xgo M C N k (j, seek M j tl nx, (L, v.toList ++ S.drop na, (D', sl')), F', fr, lo, stk) = some P' := a2
                  obtain ⟨k1, k2⟩ := seek_ok (pc := nx) hj htl
                  obtain ⟨el2, tl2, er2, b⟩ := IH k (Nat.lt_succ_of_lt hk) j _ _ F' fr lo stk P' mx code a2' a1 (fun q hq => hP q (a3 q hq)) hj k1
                  rw [k2 el2 tl2 er2] at b
                  rcases b with ⟨k', hk', F2, v2, D2, sl2, P2, b1, b2, b3, b4⟩ | ⟨b1, b2⟩
                  · exact Or.inl ⟨k', by omega, F2, v2, D2, sl2, P2, b1, b2, fun q hq => a3 q (b3 q hq), hS.thenRet b4⟩
                  · exact Or.inr ⟨b1, hS.top b2⟩
                · cases a1
          | inr kind =>
            cases kind with
            | inl g =>
              simp only at h
              have hret : RetGood l Z hz sh A O (MI j).1 (MI j).2.1 mx (MI j).2.2 pc g := hel
              obtain ⟨L, S, D, sl⟩ := cf
              simp only at h
              cases hg : g S with
              | none =>
                rw [hg] at h; cases h
                exact absurd hF (hP (F, none) (List.mem_cons_self ..) rfl)
              | some v =>
                rw [hg] at h
                simp only at h
                refine Or.inl ⟨n, Nat.lt_succ_self n, F, v, D, sl, P, hF, ?_, fun _ q => q, hret L S D sl fr lo v hg⟩
                unfold cont
                cases stk with
                | nil => exact h
                | cons fm stk' => exact h
            | inr kind =>
              cases kind with
              | inl f =>
                simp only at h
                have hgood : GoodN l Z hz sh A O (MI j).1 (MI j).2.1 mx (MI j).2.2 pc f := hel
                cases hf : f fr lo F cf with
                | none =>
                  rw [hf] at h; cases h
                  exact absurd hF (hP (F, none) (List.mem_cons_self ..) rfl)
                | some ns =>
                  rw [hf] at h
                  simp only at h
                  exact step ns pc h (hgood fr lo F cf ns hf hF)
              | inr k =>
                simp only at h
                have hcut : ∀ A' : En, holds A' k.2.2.2.2 → Top l Z hz sh A' O (MI j).1 (MI j).2.1 mx (MI j).2.2 C N k.1 k.2.1 pc k.2.2.1 := hel
                cases stk with
                | nil =>
                  simp only at h
                  cases hc : atCut k fr lo F cf
                  · rw [hc] at h; cases h
                    exact absurd hF (hP (F, none) (List.mem_cons_self ..) rfl)
                  · simp only [atCut, Bool.and_eq_true] at hc
                    obtain ⟨c1, c2, c3, c4⟩ := hc
                    exact Or.inr ⟨rfl, Top.sub c3 ((hcut _ (allDec_ok hF c4)).mono (Nat.le_of_ble_eq_true c1) (Nat.le_of_ble_eq_true c2))⟩
                | cons fm stk' =>
                  cases h
                  exact absurd hF (hP (F, none) (List.mem_cons_self ..) rfl)
/-- the run from some pc of the law's own body -/
theorem top_ok {M : List Mt} {C N : Nat} {MI : Nat → MethodName × ByteArray × Option FieldType} (hM : MtOk l Z hz sh A O C N M MI) {n mx pc : Nat} {code : List El} {cf : Cf} {F : List Cond} {fr lo : Nat} {P : List Pd}
    (hj : M[0]? = some (mx, code)) (hg : xgo M C N n (0, seekF code pc, cf, F, fr, lo, []) = some P) (hF : holds A F) (hP : ∀ q ∈ P, holds A q.1 → ∃ t, q.2 = some (0, t) ∧ (te A t).1 = 1) :
    Top l Z hz sh A O (MI 0).1 (MI 0).2.1 mx (MI 0).2.2 C N fr lo pc cf := by
  obtain ⟨el, tl, er, a⟩ := run_ok hM n 0 _ cf F fr lo [] P mx code hg hF (fun q hq h0 h1 => by obtain ⟨t, h2, -⟩ := hP q hq h1; rw [h0] at h2; cases h2) hj (seekF_ok).1
  rw [(seekF_ok).2 el tl er] at a
  rcases a with ⟨k, -, F', v, D', sl', P', a1, a2, a3, a4⟩ | ⟨-, a2⟩
  · have a2' : leaf C N F' v (D', sl') = some P' := a2
    unfold leaf at a2'
    cases hq : (Nat.ble (D', sl').1.length C && Nat.ble (D', sl').2 N)
    · rw [hq] at a2'; cases a2'
    · rw [hq] at a2'
      simp only [Bool.and_eq_true] at hq
      have q1 := Nat.le_of_ble_eq_true hq.1
      have q2 := Nat.le_of_ble_eq_true hq.2
      have q1 : D'.length ≤ C := q1
      have q2 : sl' ≤ N := q2
      have hv : v.map (vv A O hz.size) = some (.int 1) := by
        cases h1 : isOne v
        · rw [h1] at a2'; cases a2'
          obtain ⟨t, h2, h3⟩ := hP (F', v) (a3 _ (List.mem_cons_self ..)) a1
          simp only at h2
          rw [h2]
          show some (Value.int (te A t).1) = _
          rw [h3]
        · unfold isOne at h1
          split at h1
          · rename_i x
            obtain rfl := beq_iff_eq.mp h1; rfl
          · cases h1
      exact a4.top hv q1 q2
  · exact a2
/-- the same tables with a cut laid into the law's own body -/
def xcut (code : List El) (pc : Nat) (k : Ct) : List El := code.map fun el => bif Nat.beq el.1 pc then (el.1, kX k) else el
theorem mt_cut {C N : Nat} {MI : Nat → MethodName × ByteArray × Option FieldType} {mx pc : Nat} {code : List El} {Ms : List Mt} {k : Ct} (hM : MtOk l Z hz sh A O C N ((mx, code) :: Ms) MI)
    (hK : ∀ A' : En, holds A' k.2.2.2.2 → Top l Z hz sh A' O (MI 0).1 (MI 0).2.1 mx (MI 0).2.2 C N k.1 k.2.1 pc k.2.2.1) : MtOk l Z hz sh A O C N ((mx, xcut code pc k) :: Ms) MI := by
  have key : ∀ (j mxj : Nat) (el : El), ElOk l Z hz sh A O C N ((mx, code) :: Ms) MI j mxj el → ElOk l Z hz sh A O C N ((mx, xcut code pc k) :: Ms) MI j mxj el := by
    intro j mxj el h
    obtain ⟨p, kind⟩ := el
    rcases kind with f | kl | g | f | q
    · exact h
    · intro m hm
      have h' : ∀ m, ((mx, code) :: Ms)[kl.1]? = some m → CallGood l Z hz sh A O (MI j).1 (MI j).2.1 mxj (MI j).2.2 (MI kl.1).1 (MI kl.1).2.1 m.1 (MI kl.1).2.2 p kl.2.1 kl.2.2.1 kl.2.2.2 := h
      cases hq : kl.1 with
      | zero =>
        rw [hq] at hm
        have e : m = (mx, xcut code pc k) := by simpa using hm.symm
        subst e
        have := h' (mx, code) (by rw [hq]; rfl)
        simpa [hq] using this
      | succ n =>
        rw [hq] at hm
        have := h' m (by rw [hq]; simpa using hm)
        simpa [hq] using this
    · exact h
    · exact h
    · exact h
  intro j mxj code' hj
  cases j with
  | zero =>
    have e : (mx, xcut code pc k) = (mxj, code') := by simpa using hj
    cases e
    obtain ⟨h1, h2⟩ := hM 0 mx code rfl
    refine ⟨fun el hel => ?_, fun el tl q => ?_⟩
    · obtain ⟨el0, h3, h4⟩ := List.mem_map.mp hel
      cases hb : Nat.beq el0.1 pc
      · rw [hb] at h4; cases h4; exact key 0 mx el0 (h1 el0 h3)
      · rw [hb] at h4; cases h4
        have e2 := Nat.eq_of_beq_eq_true hb
        intro A' hA'
        rw [e2]; exact hK A' hA'
    · unfold xcut at q
      cases code with
      | nil => cases q
      | cons el0 tl0 =>
        rw [List.map_cons] at q
        have := h2 el0 tl0 rfl
        injection q with q1 q2
        rw [← q1]
        cases hb : Nat.beq el0.1 pc
        · exact this
        · exact this
  | succ n =>
    have e : ((mx, code) :: Ms)[n + 1]? = some (mxj, code') := by simpa using hj
    obtain ⟨h1, h2⟩ := hM (n + 1) mxj code' e
    exact ⟨fun el hel => key (n + 1) mxj el (h1 el hel), h2⟩
/-- from the run to the law's contract -/
theorem law_ok {y : MethodName} {bytes : ByteArray} {mx : Nat} {ret : Option FieldType} {C N fr lo : Nat} {xs : List SV} (K : Top l Z hz sh A O y bytes mx ret C N fr lo 0 (entL xs mx, [], [], 0)) (hpl : plainFor y = true) (ws : List Cond) (R : Room) (hR : R = { frames := fr, cells := C, slots := N, locals := lo }) :
    MetFree l y (head1 (Cond.code y bytes mx ret :: ws) R) (fun a U => a = (xs.map (vv A O hz.size)).toArray ∧ Z.Warmed39 U.vm ∧ U.heap = hz) (fun _ _ _ _ _ => True)
      (fun _ U o U' => ∃ v L, o = .returned v ∧ (v = some (.int 1) ∧ Fr hz.size L) ∧ FrameEnd U o U' L C N) := by
  obtain ⟨-, -, k3⟩ := K
  have H0 : HD Z hz sh A O hz [] := ⟨rfl, fun _ _ => rfl, fun k o h => by simp at h⟩
  refine MetFree.of_bodySF hpl hisR ?_
  intro p e s m args below meth c s₁ Bd hml hPp hK
  obtain ⟨rfl, hZ, hh⟩ := hPp
  have X0 : Stand p l e R s m _ below meth c s₁ [] 0 0 := Stand.of_body Bd
  have e0 : s₁.heap = hz := by rw [← hh, Bd.state]; rfl
  subst hR
  obtain ⟨s₂, L2, k1, k2, k3, k5, k6, k7⟩ := k3 p e _ s m _ below meth c s₁ [] (by rw [hh])
    ⟨Bd.exec, hZ, Bd.bytes, hml, findClass_of_methodNamed Bd.named, (name_of_methodNamed Bd.named Bd.method).1, Bd.returns, Bd.notSynchronized⟩
    X0 (by rw [e0]; exact H0) (Fr.nil _) (Nat.le_refl _) (Nat.le_refl _) (Nat.le_refl _) (Nat.le_refl _)
  refine ⟨s₂, .returned (some (.int 1)), ?_, k2, k3, _, L2, rfl, ⟨rfl, k5⟩, ⟨_, rfl⟩, k6, k7⟩
  rw [ent_ok m xs mx ([], 0)]; exact k1
end Run
end Jvm.OwnX

/-! ### 8. More steps -/
namespace Jvm.OwnX
open Sem ClassFile Op Lib Jvm.Stand Jvm.Free Jvm.LawKit Jvm.RoadKit
section More
variable {l : Launch} {Z : State} {hz : Heap} {sh : List Sh} {A : En} {O : Nat → Addr} {y : MethodName} {bytes : ByteArray} {maxL : Nat} {ret : Option FieldType} {a0 : Array Value}
def sDupX2 (nx : Nat) : Stp := fun F cf => match cf.2.1 with
  | x :: z :: w :: S => bif (cat x == 1) && ((cat z == 1) && (cat w == 1)) then some [(F, nx, (cf.1, x :: z :: w :: x :: S, cf.2.2))] else none
  | _ => none
theorem g_dupX2 {pc : Nat} (hd : decode bytes pc = .ok (.dup_x2, 1)) : Good l Z hz sh A O y bytes maxL ret pc (sDupX2 (pc + 1)) :=
  good_one fun F L S D sl ns h => by
    simp only [sDupX2] at h
    split at h
    · rename_i x z w S'
      cases hk : ((cat x == 1) && ((cat z == 1) && (cat w == 1)))
      · rw [hk] at h; cases h
      · rw [hk] at h; cases h
        simp only [Bool.and_eq_true, beq_iff_eq] at hk
        refine ⟨_, _, rfl, fun hF p e R s m args below meth c T locs cells slots hA X H target st => ?_⟩
        have c1 : (vv A O hz.size x).category = 1 := by rw [vv_cat]; exact hk.1
        have c2 : (vv A O hz.size z).category = 1 := by rw [vv_cat]; exact hk.2.1
        have c3 : (vv A O hz.size w).category = 1 := by rw [vv_cat]; exact hk.2.2
        have hdd := hb hA.2.2.1 hd
        show Steps p.tables e below (T.setTop (mkF m pc (L.map (sl1 A O hz.size)).toArray (vv A O hz.size x :: vv A O hz.size z :: vv A O hz.size w :: S'.map (vv A O hz.size)))) target
        have st' : Steps p.tables e below (T.setTop (mkF m (pc + 1) (L.map (sl1 A O hz.size)).toArray (vv A O hz.size x :: vv A O hz.size z :: vv A O hz.size w :: vv A O hz.size x :: S'.map (vv A O hz.size)))) target := st
        revert st'
        generalize vv A O hz.size x = vx at *
        generalize vv A O hz.size z = vz at *
        generalize vv A O hz.size w = vw at *
        intro st'
        jvm_step X.here [X.here.top, hA.1, hdd, c1, c2, c3]
        exact st'
    · cases h
/-- a static field whose value is known -/
theorem g_getstatic {pc idx : Nat} {K n d : String} {x : SV} (hd : decode bytes pc = .ok (.getstatic idx, 3)) (w : (Cond.fieldLink y.cls idx K n d).before a0 Z = true) (hS : Sta Z hz K n d (vv A O hz.size x)) : Good l Z hz sh A O y bytes maxL ret pc (sPush x (pc + 3)) := by
  intro F cf ns h hF
  obtain ⟨L, S, D, sl⟩ := cf
  cases h
  refine ⟨_, List.mem_cons_self .., hF, Nat.le_refl _, Nat.le_refl _, ?_⟩
  intro d0 s0 p e R s m args below meth c T locs hd0 hs0 hh hA X H N hc hl hfr hlo
  obtain ⟨T', X', e1, st⟩ := getS X hA.1 hA.2.1 hA.2.2.2.2.1 w Via.refl (host := "") rfl (hS.ext H.ext) (g := frm hz A O m pc (L, S, D, sl)) rfl (hb hA.2.2.1 hd)
  exact ⟨T', locs, X', by rw [e1]; exact H, N, st⟩
/-! arrays of references -/
def sNewR (sid : Nat) (nx : Nat) : Stp := fun F cf => match cf.2.1 with
  | (0, t) :: S => (match cv F t with
    | some v => bif decide (0 ≤ v) && Nat.ble v.toNatClampNeg 67108864 then some [(F, nx, (cf.1, (2, .index cf.2.2.1.length) :: S, cf.2.2.1 ++ [(sid, List.replicate v.toNatClampNeg (2, .null))], cf.2.2.2 + v.toNatClampNeg))] else none
    | none => none)
  | _ => none
theorem g_anewarray {pc sid idx : Nat} {C : String} {r : String × Nat × List Fi} (hd : decode bytes pc = .ok (.anewarray idx, 3)) (hs : sh[sid]? = some (some (.object C), r)) (w1 : (Cond.classLink y.cls idx C).before a0 Z = true) (w2 : (Cond.arrayOver (.object C)).before a0 Z = true) :
    Good l Z hz sh A O y bytes maxL ret pc (sNewR sid (pc + 3)) := by
  intro F cf ns h hF
  obtain ⟨L, S, D, sl⟩ := cf
  simp only [sNewR] at h
  split at h
  · rename_i t S'
    split at h
    · rename_i v q
      cases hv : (decide (0 ≤ v) && Nat.ble v.toNatClampNeg 67108864)
      · rw [hv] at h; cases h
      · rw [hv] at h; cases h
        simp only [Bool.and_eq_true, decide_eq_true_eq] at hv
        obtain ⟨v1, v2⟩ := hv
        have v2 := Nat.le_of_ble_eq_true v2
        have hv0 : ¬ v < 0 := Int32.not_lt.mpr v1
        have ev := cv_ok hF q
        refine ⟨_, List.mem_cons_self .., hF, by simp, by simp, ?_⟩
        intro d0 s0 p e R s m args below meth c T locs hd0 hs0 hh hA X H N hc hl hfr hlo
        simp only [List.length_append, List.length_cons, List.length_nil] at hc hl hd0 hs0 X H ⊢
        have hgs : (frm hz A O m pc (L, (0, t) :: S', D, sl)).stack = .int v :: S'.map (vv A O hz.size) := by show Value.int (te A t).1 :: _ = _; rw [ev]
        obtain ⟨T', h', cA, X', e1, E, Ar, Ov, st⟩ := newR X hA.1 hA.2.1 hA.2.2.2.2.1 w1 w2 rfl (g := frm hz A O m pc (L, (0, t) :: S', D, sl)) rfl (hb hA.2.2.1 hd) hgs hv0 (cap := v.toNatClampNeg) (Nat.le_refl _) (by omega) (by omega) (by omega)
        have hsz : T'.heap.size = T.heap.size + 1 := grown X' hd0 hh H (by rw [e1]; exact Ar.lt)
        have c1 : D.length + (0 + 1) - d0 = D.length - d0 + 1 := by omega
        have c2 : sl + v.toNatClampNeg - s0 = sl - s0 + v.toNatClampNeg := by omega
        refine ⟨T', locs, by rw [c1, c2]; exact X', ?_, N, ?_⟩
        · subst e1
          refine H.push E hsz ?_
          rw [ObAt.arr (o := (sid, _)) hs]
          refine ⟨_, Ar, ?_, ?_, fun C' q => ?_⟩
          · show Array.replicate _ _ = _
            rw [list_rep]; rfl
          · rw [List.length_replicate]; omega
          · cases q; exact Ov
        · intro target k
          refine st target ?_
          have hi : vv A O hz.size (2, .index D.length) = .ref T.heap.size := by show Value.ref (hz.size + D.length) = _; rw [H.1]
          have k' : Steps p.tables e below (T'.setTop (mkF m (pc + 3) (L.map (sl1 A O hz.size)).toArray (vv A O hz.size (2, .index D.length) :: S'.map (vv A O hz.size)))) target := k
          rw [hi] at k'; exact k'
    · cases h
  · cases h
/-- an old object of a known class goes into an array over that class -/
def sAstOld (sid n nx : Nat) : Stp := fun F cf => match cf.2.1 with
  | (2, .arg i) :: (0, j) :: (2, .index k) :: S => (match cv F j with
    | some v => (match cf.2.2.1[k]? with
      | some o => bif Nat.blt i n && ((o.1 == sid) && (decide (0 ≤ v) && Nat.blt v.toNatClampNeg o.2.length)) then
          some [(F, nx, (cf.1, S, cf.2.2.1.set k (sid, o.2.set v.toNatClampNeg (2, .arg i)), cf.2.2.2))] else none
      | none => none)
    | none => none)
  | _ => none
theorem g_aastoreOld {pc sid n : Nat} {C : String} {r : String × Nat × List Fi} (hd : decode bytes pc = .ok (.aastore, 1)) (hs : sh[sid]? = some (some (.object C), r)) (hE : ∀ i, i < n → Exa Z hz (O i) C) : Good l Z hz sh A O y bytes maxL ret pc (sAstOld sid n (pc + 1)) := by
  intro F cf ns h hF
  obtain ⟨L, S, D, sl⟩ := cf
  simp only [sAstOld] at h
  split at h
  · rename_i i j k S'
    split at h
    · rename_i v q1
      split at h
      · rename_i o q2
        obtain ⟨o1, xs⟩ := o
        cases hk : (Nat.blt i n && ((o1 == sid) && (decide (0 ≤ v) && Nat.blt v.toNatClampNeg xs.length)))
        · rw [hk] at h; cases h
        · rw [hk] at h
          simp only [Bool.and_eq_true, decide_eq_true_eq, beq_iff_eq, Nat.blt_eq] at hk
          obtain ⟨hi, rfl, v1, v2⟩ := hk
          have q3 : ¬ v < 0 := Int32.not_lt.mpr v1
          cases h
          refine ⟨_, List.mem_cons_self .., hF, by simp, by simp, ?_⟩
          intro d0 s0 p e R s m args below meth c T locs hd0 hs0 hh hA X H N hc hl hfr hlo
          simp only [List.length_set] at hc hl hd0 hs0 X H ⊢
          have ho := H.2.2 k _ q2
          rw [ObAt.arr (o := (o1, xs)) hs] at ho
          have ho' := ho
          obtain ⟨cl, Ar, a1, a2, a3⟩ := ho
          have hsz : cl.slots.size = xs.length := by rw [a1]; simp
          have hgs : (frm hz A O m pc (L, (2, .arg i) :: (0, j) :: (2, .index k) :: S', D, sl)).stack = .ref (O i) :: .int v :: .ref (hz.size + k) :: S'.map (vv A O hz.size) := by show _ :: Value.int (te A j).1 :: _ = _; rw [cv_ok hF q1]; rfl
          have hsto : Sto Z T.heap (hz.size + k) (.ref (O i)) := Sto.of Ar (a3 C rfl) (Ins.self ((hE i hi).ext H.ext))
          obtain ⟨T', h', X', e1, W, st⟩ := stR X hA.1 hA.2.1 rfl Ar (j := v) (fun q => q.elim q3 (fun q => by omega)) rfl hsto (g := frm hz A O m pc (L, (2, .arg i) :: (0, j) :: (2, .index k) :: S', D, sl)) rfl hgs (hb hA.2.2.1 hd)
          subst e1
          have W' : Wr T.heap T'.heap (hz.size + k) v.toNatClampNeg (vv A O hz.size (2, .arg i)) := W
          refine ⟨T', _, X', ?_, Fr.snoc X' N (Nat.le_add_right _ _), st⟩
          refine H.set q2 W' ?_
          rw [ObAt.arr (o := (o1, _)) hs]
          exact ho'.set W'
      · cases h
    · cases h
  · cases h
theorem g_aaload {pc sid : Nat} {C : String} {r : String × Nat × List Fi} (hd : decode bytes pc = .ok (.aaload, 1)) (hs : sh[sid]? = some (some (.object C), r)) : Good l Z hz sh A O y bytes maxL ret pc (sAld sid (pc + 1)) :=
  good_one fun F L S D sl ns h => by
    obtain ⟨j, k, S', v, xs, x, rfl, q1, q2, q3, q4, rfl⟩ := sAld_inv h
    refine ⟨_, _, rfl, fun hF p e R s m args below meth c T locs cells slots hA X H target st => ?_⟩
    have ho := H.2.2 k _ q2
    rw [ObAt.arr (o := (sid, xs)) hs] at ho
    obtain ⟨cl, Ar, a1, a2, a3⟩ := ho
    have hlt := (List.getElem?_eq_some_iff.mp q4).1
    have hsz : cl.slots.size = xs.length := by rw [a1]; simp
    have hgs : (frm hz A O m pc (L, (0, j) :: (2, .index k) :: S', D, sl)).stack = .int v :: .ref (hz.size + k) :: S'.map (vv A O hz.size) := by show Value.int (te A j).1 :: _ = _; rw [cv_ok hF q1]; rfl
    exact X.aaload hA.1 Ar.1 (State.isArrayOf_alike hA.2.1.alike Ar.2.1) rfl Ar.2.2 (j := v) (v := vv A O hz.size x) (fun q => q.elim q3 (fun q => by omega)) (by rw [a1]; simp [q4]) (g := frm hz A O m pc (L, (0, j) :: (2, .index k) :: S', D, sl)) rfl hgs (hb hA.2.2.1 hd) _ st
/-- two old objects, by their numbers -/
def sAcmpOld (cd : ClassFile.ACond) (n tg nx : Nat) : Stp := fun F cf => match cf.2.1 with
  | (2, .arg i) :: (2, .arg j) :: S => bif Nat.blt i n && Nat.blt j n then some [(F, bif acV cd (Nat.beq j i) then tg else nx, (cf.1, S, cf.2.2))] else none
  | _ => none
theorem g_acmpOld {pc tg n : Nat} {cd : ClassFile.ACond} {o : Int} (hd : decode bytes pc = .ok (.if_acmp cd o, 3)) (h1 : 0 ≤ (pc : Int) + o) (h2 : ((pc : Int) + o).toNat = tg) (hO : ∀ i j, i < n → j < n → O i = O j → i = j) : Good l Z hz sh A O y bytes maxL ret pc (sAcmpOld cd n tg (pc + 3)) := by
  intro F cf ns h hF
  obtain ⟨L, S, D, sl⟩ := cf
  simp only [sAcmpOld] at h
  split at h
  · rename_i i j S'
    cases hk : (Nat.blt i n && Nat.blt j n)
    · rw [hk] at h; cases h
    · rw [hk] at h; cases h
      simp only [Bool.and_eq_true, Nat.blt_eq] at hk
      refine ⟨_, List.mem_cons_self .., hF, ?_⟩
      refine sim_pure fun p e R s m args below meth c T locs cells slots hA X H target st => ?_
      have hq : decide (Value.ref (O j) = Value.ref (O i)) = Nat.beq j i := by
        cases hb : Nat.beq j i
        · refine decide_eq_false fun q => ?_
          have := hO j i hk.2 hk.1 (Value.ref.inj q)
          subst this
          rw [Nat.beq_refl] at hb; cases hb
        · obtain rfl := Nat.eq_of_beq_eq_true hb; simp
      refine Jvm.RoadKit.acmp (g := frm hz A O m pc (L, (2, .arg i) :: (2, .arg j) :: S', D, sl)) X hA.1 rfl (x := .ref (O j)) (y := .ref (O i)) rfl rfl (pc0 := pc) (pc' := bif acV cd (Nat.beq j i) then tg else pc + 3) rfl (hb hA.2.2.1 hd) rfl hq h1 ?_ st
      rw [h2]
      cases acV cd (Nat.beq j i) <;> rfl
  · cases h
/-- the receiver is an old object -/
def ckOld (n : Nat) : List SV → List Ob → Bool := fun a _ => match a.getLast? with
  | some (2, .arg i) => Nat.blt i n
  | _ => false
theorem ckOld_inv {n : Nat} {a : List SV} {D : List Ob} (h : ckOld n a D = true) : ∃ a' i, a = a' ++ [(2, .arg i)] ∧ i < n := by
  unfold ckOld at h
  split at h
  · rename_i i q
    obtain ⟨a', rfl⟩ := List.getLast?_eq_some_iff.mp q
    exact ⟨a', i, rfl, Nat.blt_eq.mp h⟩
  · cases h
theorem c_virtualOld {y' : MethodName} {bytes' : ByteArray} {mx : Nat} {ret' : Option FieldType} {pc idx na n : Nat} {ps : List FieldType} {r : Option FieldType} {C : String} (hd : decode bytes pc = .ok (.invokevirtual idx, 3)) (hpl : plainFor y' = true) (hdesc : parseMethodDescriptor y'.desc = some ⟨ps, r⟩) (hna : ps.length + 1 = na) (hy : y'.cls ≠ "java/lang/invoke/MethodHandle" ∧ y'.cls ≠ "java/lang/invoke/VarHandle")
    (w1 : (Cond.methodLink y.cls idx y').before a0 Z = true) (w2 : (Cond.instanceMethod y').before a0 Z = true) (w3 : (Cond.initialized y'.cls).before a0 Z = true) (w4 : (Cond.code y' bytes' mx ret').before a0 Z = true) (w5 : (Cond.declares y').before a0 Z = true) (w6 : (Cond.selects C y' y').before a0 Z = true) (hE : ∀ i, i < n → Exa Z hz (O i) C) :
    CallGood l Z hz sh A O y bytes maxL ret y' bytes' mx ret' pc na (pc + 3) (ckOld n) := by
  intro L S D sl fr lo v D' sl' h1 h2 h3 h4 h5 K
  have kk := K
  obtain ⟨k1, k2, -⟩ := kk
  refine ⟨k1, k2, ?_⟩
  intro d0 s0 p e R s m args below meth c T locs hd0 hs0 hh hA X H N hc hl hfr hlo
  have k1' : D.length ≤ D'.length := k1
  have k2' : sl ≤ sl' := k2
  have hd0' : d0 ≤ D.length := hd0
  have hs0' : s0 ≤ sl := hs0
  have hc' : D'.length - d0 ≤ R.cells := hc
  have hl' : sl' - s0 ≤ R.slots := hl
  obtain ⟨a', i, ea, ei⟩ := ckOld_inv h3
  have hM := met_of_ret hpl H K [] { frames := fr - 1, cells := D'.length - D.length, slots := sl' - sl, locals := lo - (wt (S.drop na) + (mx + 11)) } rfl
  have er : (S.take na).reverse.map (vv A O hz.size) = .ref (O i) :: a'.reverse.map (vv A O hz.size) := by rw [ea]; simp [vv, rf]
  have el : (a'.reverse.map (vv A O hz.size)).length = ps.length := by
    have := congrArg List.length ea
    rw [List.length_take, List.length_append] at this
    simp only [List.length_cons, List.length_nil] at this
    rw [List.length_map, List.length_reverse]; omega
  rw [er] at hM
  have es : S.map (vv A O hz.size) = (a'.reverse.map (vv A O hz.size)).reverse ++ .ref (O i) :: (S.drop na).map (vv A O hz.size) := by
    conv => lhs; rw [← List.take_append_drop na S, ea]
    simp [vv, rf]
  obtain ⟨cq, kq, qa, qb, qc⟩ := isOf hA.2.1 rfl ((hE i ei).ext H.ext)
  obtain ⟨w, vm₁, ⟨T', L', k', n'⟩, -, X', ⟨Lc, ⟨rfl, H', N'⟩, l1, y1, z1⟩, st⟩ := X.virtualBack hA.1 (y := y') (z := y') hA.2.2.2.2.1 (mvT hA.2.1 w1) (mvT hA.2.1 w5) (notFace_of_selects (args := #[]) (mvT hA.2.1 w6)) (mvT hA.2.1 w6) (mvT hA.2.1 w2) hy
    (backOf (W := wt (S.drop na)) (rm := { frames := fr - 1, cells := D'.length - D.length, slots := sl' - sl, locals := lo - (wt (S.drop na) + (mx + 11)) }) (Q := fun w h' L => w = v.map (vv A O hz.size) ∧ HD Z hz sh A O h' D' ∧ Fr hz.size L) hM hA.2.1 w4 w3 (by show fr - 1 + 1 ≤ _; omega) (by show _ + (lo - _) ≤ _; omega)) qa qc (g := frm hz A O m pc (L, S, D, sl)) rfl (by show (L.map (sl1 A O hz.size)).toArray.size = _; rw [hA.2.2.2.1, ← h2]; simp) (Steps.refl _)
    (argsL := a'.reverse.map (vv A O hz.size)) (rest := (S.drop na).map (vv A O hz.size)) (lenOf hdesc el)
    es (by show 2 * 0 + _ ≤ _; rw [wt_ok]; omega) (hb hA.2.2.1 hd)
    (fun _ _ => ⟨rfl, rfl, by show D.length - d0 + (D'.length - D.length) ≤ _; omega, by show sl - s0 + (sl' - sl) ≤ _; omega⟩)
  dsimp only [Pt.U, Pt.locs, Pt.cells, Pt.slots] at X' l1 y1 z1 st H'
  subst l1 y1 z1
  have c1 : D.length - d0 + (D'.length - D.length) = D'.length - d0 := by omega
  have c2 : sl - s0 + (sl' - sl) = sl' - s0 := by omega
  refine ⟨T', _, by rw [← c1, ← c2]; exact X', H', N.app N', fun target kt => st.trans ?_⟩
  have e2 : (v.toList ++ S.drop na).map (vv A O hz.size) = (v.map (vv A O hz.size)).toList ++ (S.drop na).map (vv A O hz.size) := by cases v <;> simp
  have kt' : Steps p.tables e below (T'.setTop (mkF m (pc + 3) (L.map (sl1 A O hz.size)).toArray ((v.toList ++ S.drop na).map (vv A O hz.size)))) target := kt
  rw [e2] at kt'; exact kt'
end More
end Jvm.OwnX

namespace Jvm.Pilot.@@N@@
open Jvm Jvm.ClassFile Sem Op Lib Jvm.Free Jvm.Stand Jvm.LawKit Jvm.RoadKit Bundle Jvm.OwnX Jvm.Pilot.@@N@@.Jvm.D
theorem d1_0 : decode prog_66_method_13_code 0 = .ok (.aload_n 0, 1) := by decide +kernel
theorem d1_1 : decode prog_66_method_13_code 1 = .ok (.getstatic 3, 3) := by decide +kernel
theorem d1_4 : decode prog_66_method_13_code 4 = .ok (.if_acmp .eq 14, 3) := by decide +kernel
theorem d1_7 : decode prog_66_method_13_code 7 = .ok (.aload_n 0, 1) := by decide +kernel
theorem d1_8 : decode prog_66_method_13_code 8 = .ok (.getstatic 139, 3) := by decide +kernel
theorem d1_11 : decode prog_66_method_13_code 11 = .ok (.if_acmp .eq 7, 3) := by decide +kernel
theorem d1_14 : decode prog_66_method_13_code 14 = .ok (.iconst 1, 1) := by decide +kernel
theorem d1_15 : decode prog_66_method_13_code 15 = .ok (.goto 4, 3) := by decide +kernel
theorem d1_18 : decode prog_66_method_13_code 18 = .ok (.iconst 0, 1) := by decide +kernel
theorem d1_19 : decode prog_66_method_13_code 19 = .ok (.ireturn, 1) := by decide +kernel
theorem pl_0 : plainFor (⟨"com/example/occurrent/occurrent/xdm/AtomicTypeIsCastTargetPinLaw", "law", "(I)Z"⟩ : MethodName) = true := plainFor_of_name (by first | (simp [plainName, overriddenIn]; done) | decide +kernel)
theorem pd_0 : parseMethodDescriptor "(I)Z" = some ⟨[.int], some .boolean⟩ := by decide +kernel
theorem pl_1 : plainFor (⟨"com/example/occurrent/occurrent/xdm/AtomicType", "isCastTarget", "()Z"⟩ : MethodName) = true := plainFor_of_name (by first | (simp [plainName, overriddenIn]; done) | decide +kernel)
theorem pd_1 : parseMethodDescriptor "()Z" = some ⟨[], some .boolean⟩ := by decide +kernel
def shp : List Sh := [(some (.object "com/example/occurrent/occurrent/xdm/AtomicType"), "", 0, [])]
def cd_0 : List El := [(0, kS (sPush (0, .int 46) 2)),
  (2, kS (sNewR 0 5)),
  (5, kS (sDup 6)),
  (6, kS (sPush (0, .int 0) 7)),
  (7, kS (sPush (2, .arg 0) 10)),
  (10, kS (sAstOld 0 46 11)),
  (11, kS (sDup 12)),
  (12, kS (sPush (0, .int 1) 13)),
  (13, kS (sPush (2, .arg 1) 16)),
  (16, kS (sAstOld 0 46 17)),
  (17, kS (sDup 18)),
  (18, kS (sPush (0, .int 2) 19)),
  (19, kS (sPush (2, .arg 2) 22)),
  (22, kS (sAstOld 0 46 23)),
  (23, kS (sDup 24)),
  (24, kS (sPush (0, .int 3) 25)),
  (25, kS (sPush (2, .arg 3) 28)),
  (28, kS (sAstOld 0 46 29)),
  (29, kS (sDup 30)),
  (30, kS (sPush (0, .int 4) 31)),
  (31, kS (sPush (2, .arg 4) 34)),
  (34, kS (sAstOld 0 46 35)),
  (35, kS (sDup 36)),
  (36, kS (sPush (0, .int 5) 37)),
  (37, kS (sPush (2, .arg 5) 40)),
  (40, kS (sAstOld 0 46 41)),
  (41, kS (sDup 42)),
  (42, kS (sPush (0, .int 6) 44)),
  (44, kS (sPush (2, .arg 6) 47)),
  (47, kS (sAstOld 0 46 48)),
  (48, kS (sDup 49)),
  (49, kS (sPush (0, .int 7) 51)),
  (51, kS (sPush (2, .arg 7) 54)),
  (54, kS (sAstOld 0 46 55)),
  (55, kS (sDup 56)),
  (56, kS (sPush (0, .int 8) 58)),
  (58, kS (sPush (2, .arg 8) 61)),
  (61, kS (sAstOld 0 46 62)),
  (62, kS (sDup 63)),
  (63, kS (sPush (0, .int 9) 65)),
  (65, kS (sPush (2, .arg 9) 68)),
  (68, kS (sAstOld 0 46 69)),
  (69, kS (sDup 70)),
  (70, kS (sPush (0, .int 10) 72)),
  (72, kS (sPush (2, .arg 10) 75)),
  (75, kS (sAstOld 0 46 76)),
  (76, kS (sDup 77)),
  (77, kS (sPush (0, .int 11) 79)),
  (79, kS (sPush (2, .arg 11) 82)),
  (82, kS (sAstOld 0 46 83)),
  (83, kS (sDup 84)),
  (84, kS (sPush (0, .int 12) 86)),
  (86, kS (sPush (2, .arg 12) 89)),
  (89, kS (sAstOld 0 46 90)),
  (90, kS (sDup 91)),
  (91, kS (sPush (0, .int 13) 93)),
  (93, kS (sPush (2, .arg 13) 96)),
  (96, kS (sAstOld 0 46 97)),
  (97, kS (sDup 98)),
  (98, kS (sPush (0, .int 14) 100)),
  (100, kS (sPush (2, .arg 14) 103)),
  (103, kS (sAstOld 0 46 104)),
  (104, kS (sDup 105)),
  (105, kS (sPush (0, .int 15) 107)),
  (107, kS (sPush (2, .arg 15) 110)),
  (110, kS (sAstOld 0 46 111)),
  (111, kS (sDup 112)),
  (112, kS (sPush (0, .int 16) 114)),
  (114, kS (sPush (2, .arg 16) 117)),
  (117, kS (sAstOld 0 46 118)),
  (118, kS (sDup 119)),
  (119, kS (sPush (0, .int 17) 121)),
  (121, kS (sPush (2, .arg 17) 124)),
  (124, kS (sAstOld 0 46 125)),
  (125, kS (sDup 126)),
  (126, kS (sPush (0, .int 18) 128)),
  (128, kS (sPush (2, .arg 18) 131)),
  (131, kS (sAstOld 0 46 132)),
  (132, kS (sDup 133)),
  (133, kS (sPush (0, .int 19) 135)),
  (135, kS (sPush (2, .arg 19) 138)),
  (138, kS (sAstOld 0 46 139)),
  (139, kS (sDup 140)),
  (140, kS (sPush (0, .int 20) 142)),
  (142, kS (sPush (2, .arg 20) 145)),
  (145, kS (sAstOld 0 46 146)),
  (146, kS (sDup 147)),
  (147, kS (sPush (0, .int 21) 149)),
  (149, kS (sPush (2, .arg 21) 152)),
  (152, kS (sAstOld 0 46 153)),
  (153, kS (sDup 154)),
  (154, kS (sPush (0, .int 22) 156)),
  (156, kS (sPush (2, .arg 22) 159)),
  (159, kS (sAstOld 0 46 160)),
  (160, kS (sDup 161)),
  (161, kS (sPush (0, .int 23) 163)),
  (163, kS (sPush (2, .arg 23) 166)),
  (166, kS (sAstOld 0 46 167)),
  (167, kS (sDup 168)),
  (168, kS (sPush (0, .int 24) 170)),
  (170, kS (sPush (2, .arg 24) 173)),
  (173, kS (sAstOld 0 46 174)),
  (174, kS (sDup 175)),
  (175, kS (sPush (0, .int 25) 177)),
  (177, kS (sPush (2, .arg 25) 180)),
  (180, kS (sAstOld 0 46 181)),
  (181, kS (sDup 182)),
  (182, kS (sPush (0, .int 26) 184)),
  (184, kS (sPush (2, .arg 26) 187)),
  (187, kS (sAstOld 0 46 188)),
  (188, kS (sDup 189)),
  (189, kS (sPush (0, .int 27) 191)),
  (191, kS (sPush (2, .arg 27) 194)),
  (194, kS (sAstOld 0 46 195)),
  (195, kS (sDup 196)),
  (196, kS (sPush (0, .int 28) 198)),
  (198, kS (sPush (2, .arg 28) 201)),
  (201, kS (sAstOld 0 46 202)),
  (202, kS (sDup 203)),
  (203, kS (sPush (0, .int 29) 205)),
  (205, kS (sPush (2, .arg 29) 208)),
  (208, kS (sAstOld 0 46 209)),
  (209, kS (sDup 210)),
  (210, kS (sPush (0, .int 30) 212)),
  (212, kS (sPush (2, .arg 30) 215)),
  (215, kS (sAstOld 0 46 216)),
  (216, kS (sDup 217)),
  (217, kS (sPush (0, .int 31) 219)),
  (219, kS (sPush (2, .arg 31) 222)),
  (222, kS (sAstOld 0 46 223)),
  (223, kS (sDup 224)),
  (224, kS (sPush (0, .int 32) 226)),
  (226, kS (sPush (2, .arg 32) 229)),
  (229, kS (sAstOld 0 46 230)),
  (230, kS (sDup 231)),
  (231, kS (sPush (0, .int 33) 233)),
  (233, kS (sPush (2, .arg 33) 236)),
  (236, kS (sAstOld 0 46 237)),
  (237, kS (sDup 238)),
  (238, kS (sPush (0, .int 34) 240)),
  (240, kS (sPush (2, .arg 34) 243)),
  (243, kS (sAstOld 0 46 244)),
  (244, kS (sDup 245)),
  (245, kS (sPush (0, .int 35) 247)),
  (247, kS (sPush (2, .arg 35) 250)),
  (250, kS (sAstOld 0 46 251)),
  (251, kS (sDup 252)),
  (252, kS (sPush (0, .int 36) 254)),
  (254, kS (sPush (2, .arg 36) 257)),
  (257, kS (sAstOld 0 46 258)),
  (258, kS (sDup 259)),
  (259, kS (sPush (0, .int 37) 261)),
  (261, kS (sPush (2, .arg 37) 264)),
  (264, kS (sAstOld 0 46 265)),
  (265, kS (sDup 266)),
  (266, kS (sPush (0, .int 38) 268)),
  (268, kS (sPush (2, .arg 38) 271)),
  (271, kS (sAstOld 0 46 272)),
  (272, kS (sDup 273)),
  (273, kS (sPush (0, .int 39) 275)),
  (275, kS (sPush (2, .arg 39) 278)),
  (278, kS (sAstOld 0 46 279)),
  (279, kS (sDup 280)),
  (280, kS (sPush (0, .int 40) 282)),
  (282, kS (sPush (2, .arg 40) 285)),
  (285, kS (sAstOld 0 46 286)),
  (286, kS (sDup 287)),
  (287, kS (sPush (0, .int 41) 289)),
  (289, kS (sPush (2, .arg 41) 292)),
  (292, kS (sAstOld 0 46 293)),
  (293, kS (sDup 294)),
  (294, kS (sPush (0, .int 42) 296)),
  (296, kS (sPush (2, .arg 42) 299)),
  (299, kS (sAstOld 0 46 300)),
  (300, kS (sDup 301)),
  (301, kS (sPush (0, .int 43) 303)),
  (303, kS (sPush (2, .arg 43) 306)),
  (306, kS (sAstOld 0 46 307)),
  (307, kS (sDup 308)),
  (308, kS (sPush (0, .int 44) 310)),
  (310, kS (sPush (2, .arg 44) 313)),
  (313, kS (sAstOld 0 46 314)),
  (314, kS (sDup 315)),
  (315, kS (sPush (0, .int 45) 317)),
  (317, kS (sPush (2, .arg 45) 320)),
  (320, kS (sAstOld 0 46 321)),
  (321, kS (sStore 2 1 322)),
  (322, kS (sLoad 0 0 323)),
  (323, kS (sPush (0, .int 2147483647) 325)),
  (325, kS (sBin 0 0 0 (jI (Term.op2 .iand)) 326)),
  (326, kS (sPush (0, .int 46) 328)),
  (328, kS (s_irem 329)),
  (329, kS (sStore 0 2 330)),
  (330, kS (sLoad 2 1 331)),
  (331, kS (sLoad 0 2 332)),
  (332, kS (sSplit 332 (sAld 0 333))),
  (333, kS (sStore 2 3 334)),
  (334, kS (sLoad 0 2 335)),
  (335, kS (sIf .eq 348 338)),
  (338, kS (sLoad 0 2 339)),
  (339, kS (sPush (0, .int 45) 341)),
  (341, kS (sIcmp .eq 348 344)),
  (344, kS (sPush (0, .int 1) 345)),
  (345, kS (sGoto 349)),
  (348, kS (sPush (0, .int 0) 349)),
  (349, kS (sStore 0 4 351)),
  (351, kS (sLoad 2 3 352)),
  (352, kC 1 1 355 (ckOld 46)),
  (355, kS (sLoad 0 4 357)),
  (357, kS (sIcmp .ne 364 360)),
  (360, kS (sPush (0, .int 1) 361)),
  (361, kS (sGoto 365)),
  (364, kS (sPush (0, .int 0) 365)),
  (365, kR (rVal .boolean))]
def cd_1 : List El := [(0, kS (sLoad 2 0 1)),
  (1, kS (sPush (2, .arg 0) 4)),
  (4, kS (sAcmpOld .eq 46 18 7)),
  (7, kS (sLoad 2 0 8)),
  (8, kS (sPush (2, .arg 45) 11)),
  (11, kS (sAcmpOld .eq 46 18 14)),
  (14, kS (sPush (0, .int 1) 15)),
  (15, kS (sGoto 19)),
  (18, kS (sPush (0, .int 0) 19)),
  (19, kR (rVal .boolean))]
def mts : List Mt := [(5, cd_0), (1, cd_1)]
def mis : Nat → MethodName × ByteArray × Option FieldType
  | 0 => (x, code, ret)
  | 1 => ((⟨"com/example/occurrent/occurrent/xdm/AtomicType", "isCastTarget", "()Z"⟩ : MethodName), prog_66_method_13_code, some .boolean)
  | _ => (x, code, ret)
def nms : List String := ["ANY_ATOMIC", "UNTYPED_ATOMIC", "STRING", "NORMALIZED_STRING", "TOKEN", "LANGUAGE", "NMTOKEN", "NAME", "NCNAME", "ID", "IDREF", "ENTITY", "BOOLEAN", "DECIMAL", "INTEGER", "NON_POSITIVE_INTEGER", "NEGATIVE_INTEGER", "LONG", "INT", "SHORT", "BYTE", "NON_NEGATIVE_INTEGER", "UNSIGNED_LONG", "UNSIGNED_INT", "UNSIGNED_SHORT", "UNSIGNED_BYTE", "POSITIVE_INTEGER", "FLOAT", "DOUBLE", "NUMERIC", "DURATION", "YEAR_MONTH_DURATION", "DAY_TIME_DURATION", "DATE_TIME", "TIME", "DATE", "G_YEAR_MONTH", "G_YEAR", "G_MONTH_DAY", "G_DAY", "G_MONTH", "HEX_BINARY", "BASE64_BINARY", "ANY_URI", "QNAME", "NOTATION"]
def nm (i : Nat) : String := nms.getD i ""
def flat : Jvm.Cond → List Jvm.Cond
  | .and a b => flat a ++ flat b
  | c => [c]
theorem flat_ok {args : Array Value} {s : State} : ∀ {c : Jvm.Cond}, c.value args s none s [] = some true → ∀ d ∈ flat c, d.value args s none s [] = some true := by
  intro c
  induction c with
  | and a b ia ib =>
    intro h d hd
    obtain ⟨h1, h2⟩ := and_e h
    rcases List.mem_append.mp hd with q | q
    · exact ia h1 d q
    · exact ib h2 d q
  | _ => intro h d hd; cases List.mem_singleton.mp hd; exact h
def stT (i : Nat) : Jvm.Term := .static "com/example/occurrent/occurrent/xdm/AtomicType" (nm i) "Lcom/example/occurrent/occurrent/xdm/AtomicType;"
def exC (i : Nat) : Jvm.Cond := .exactly (stT i) "com/example/occurrent/occurrent/xdm/AtomicType"
def orC (i : Nat) : Jvm.Cond := .eq (.field (stT i) "java/lang/Enum" "ordinal" "I") (.int (Int32.ofNat i))
def laC (i : Nat) : Jvm.Cond := .laysStatic "com/example/occurrent/occurrent/xdm/AtomicType" (nm i) "Lcom/example/occurrent/occurrent/xdm/AtomicType;"
set_option maxRecDepth 65536 in
theorem allIn : (List.range 46).all (fun i => decide (exC i ∈ flat narrow_1) && (decide (orC i ∈ flat narrow_1) && decide (laC i ∈ tables_1))) = true := by decide +kernel
theorem old_ok {s : State} {args : Array Value} (hn : narrow_1.value args s none s [] = some true) (hw : ∀ d ∈ tables_1, d.before args s = true) :
    ∃ O : Nat → Addr, (∀ i, i < 46 → Sta s s.heap "com/example/occurrent/occurrent/xdm/AtomicType" (nm i) "Lcom/example/occurrent/occurrent/xdm/AtomicType;" (.ref (O i))) ∧ (∀ i, i < 46 → Exa s s.heap (O i) "com/example/occurrent/occurrent/xdm/AtomicType") ∧ ∀ i j, i < 46 → j < 46 → O i = O j → i = j := by
  have key : ∀ i, i < 46 → ∃ a : Addr, Sta s s.heap "com/example/occurrent/occurrent/xdm/AtomicType" (nm i) "Lcom/example/occurrent/occurrent/xdm/AtomicType;" (.ref a) ∧ Exa s s.heap a "com/example/occurrent/occurrent/xdm/AtomicType" ∧ s.fieldOf? a "java/lang/Enum" "ordinal" "I" = some (.int (Int32.ofNat i)) := by
    intro i hi
    have h := List.all_eq_true.mp allIn i (List.mem_range.mpr hi)
    simp only [Bool.and_eq_true, decide_eq_true_eq] at h
    obtain ⟨h1, h2, h3⟩ := h
    have e1 := flat_ok hn _ h1
    have e2 := flat_ok hn _ h2
    obtain ⟨a, ea⟩ := exa_v (t := stT i) e1
    refine ⟨a, Sta.start ea (Or.inr ⟨hw _ (List.mem_of_getElem? (i := 3) rfl), hw _ h3⟩), Exa.start ea e1, ?_⟩
    obtain ⟨x, y, f1, f2, -⟩ := cmp_v (Or.inl e2)
    have f3 := fld_at (C := "java/lang/Enum") (n := "ordinal") (dd := "I") ea
    rw [f3] at f1
    cases f2
    have : x = .int (Int32.ofNat i) := by
      have hk : (Term.field (stT i) "java/lang/Enum" "ordinal" "I").eval args s none [] s = some x := f3.trans f1
      have e3 : (Jvm.Cond.eq (.field (stT i) "java/lang/Enum" "ordinal" "I") (.int (Int32.ofNat i))).value args s none s [] = some true := e2
      have hk2 : (Term.int (Int32.ofNat i)).eval args s none [] s = some (.int (Int32.ofNat i)) := rfl
      simp only [Cond.value, hk, hk2] at e3
      cases x with
      | int z => simp at e3; rw [e3]
      | _ => simp at e3
    rw [← this]; exact f1
  refine ⟨fun i => if h : i < 46 then (key i h).choose else 0, fun i hi => ?_, fun i hi => ?_, fun i j hi hj e => ?_⟩
  · simp only [hi, dite_true]; exact (key i hi).choose_spec.1
  · simp only [hi, dite_true]; exact (key i hi).choose_spec.2.1
  · simp only [hi, hj, dite_true] at e
    have a := (key i hi).choose_spec.2.2
    have b := (key j hj).choose_spec.2.2
    rw [e, b] at a
    have := congrArg Int32.toInt (Value.int.inj (Option.some.inj a))
    rw [Int32.toInt_ofNat_of_lt (by omega), Int32.toInt_ofNat_of_lt (by omega)] at this
    omega
section Valid
variable {l : Launch} {Z : State} {hz : Heap} {A : En} {O : Nat → Addr} {a0 : Array Value}
theorem okc_nil {M : List Mt} {MI : Nat → MethodName × ByteArray × Option FieldType} {j mx : Nat} : ∀ el ∈ ([] : List El), ElOk l Z hz shp A O 16 192 M MI j mx el := fun _ h => nomatch h
theorem okc_cons {M : List Mt} {MI : Nat → MethodName × ByteArray × Option FieldType} {j mx : Nat} {el : El} {es : List El} (h : ElOk l Z hz shp A O 16 192 M MI j mx el) (t : ∀ el ∈ es, ElOk l Z hz shp A O 16 192 M MI j mx el) : ∀ e ∈ el :: es, ElOk l Z hz shp A O 16 192 M MI j mx e := fun e he => (List.mem_cons.mp he).elim (fun q => q ▸ h) (t e)
set_option maxRecDepth 65536 in
theorem cok_0 (hw : ∀ d ∈ tables_1, d.before a0 Z = true) (hS : ∀ i, i < 46 → Sta Z hz "com/example/occurrent/occurrent/xdm/AtomicType" (nm i) "Lcom/example/occurrent/occurrent/xdm/AtomicType;" (.ref (O i))) (hE : ∀ i, i < 46 → Exa Z hz (O i) "com/example/occurrent/occurrent/xdm/AtomicType") (hO : ∀ i j, i < 46 → j < 46 → O i = O j → i = j) : ∀ el ∈ cd_0, ElOk l Z hz shp A O 16 192 mts mis 0 5 el := by
  unfold cd_0
  refine okc_cons (show Good l Z hz shp A O x code 5 ret 0 (sPush (0, .int 46) 2) from g_bipush at_0 rfl) ?_
  refine okc_cons (show Good l Z hz shp A O x code 5 ret 2 (sNewR 0 5) from g_anewarray (sid := 0) at_2 rfl (hw _ (List.mem_of_getElem? (i := 0) rfl)) (hw _ (List.mem_of_getElem? (i := 1) rfl))) ?_
  refine okc_cons (show Good l Z hz shp A O x code 5 ret 5 (sDup 6) from g_dup at_5) ?_
  refine okc_cons (show Good l Z hz shp A O x code 5 ret 6 (sPush (0, .int 0) 7) from g_iconst at_6 rfl) ?_
  refine okc_cons (show Good l Z hz shp A O x code 5 ret 7 (sPush (2, .arg 0) 10) from g_getstatic (x := (2, .arg 0)) at_7 (hw _ (List.mem_of_getElem? (i := 2) rfl)) (hS 0 (by decide))) ?_
  refine okc_cons (show Good l Z hz shp A O x code 5 ret 10 (sAstOld 0 46 11) from g_aastoreOld (sid := 0) at_10 rfl hE) ?_
  refine okc_cons (show Good l Z hz shp A O x code 5 ret 11 (sDup 12) from g_dup at_11) ?_
  refine okc_cons (show Good l Z hz shp A O x code 5 ret 12 (sPush (0, .int 1) 13) from g_iconst at_12 rfl) ?_
  refine okc_cons (show Good l Z hz shp A O x code 5 ret 13 (sPush (2, .arg 1) 16) from g_getstatic (x := (2, .arg 1)) at_13 (hw _ (List.mem_of_getElem? (i := 6) rfl)) (hS 1 (by decide))) ?_
  refine okc_cons (show Good l Z hz shp A O x code 5 ret 16 (sAstOld 0 46 17) from g_aastoreOld (sid := 0) at_16 rfl hE) ?_
  refine okc_cons (show Good l Z hz shp A O x code 5 ret 17 (sDup 18) from g_dup at_17) ?_
  refine okc_cons (show Good l Z hz shp A O x code 5 ret 18 (sPush (0, .int 2) 19) from g_iconst at_18 rfl) ?_
  refine okc_cons (show Good l Z hz shp A O x code 5 ret 19 (sPush (2, .arg 2) 22) from g_getstatic (x := (2, .arg 2)) at_19 (hw _ (List.mem_of_getElem? (i := 8) rfl)) (hS 2 (by decide))) ?_
  refine okc_cons (show Good l Z hz shp A O x code 5 ret 22 (sAstOld 0 46 23) from g_aastoreOld (sid := 0) at_22 rfl hE) ?_
  refine okc_cons (show Good l Z hz shp A O x code 5 ret 23 (sDup 24) from g_dup at_23) ?_
  refine okc_cons (show Good l Z hz shp A O x code 5 ret 24 (sPush (0, .int 3) 25) from g_iconst at_24 rfl) ?_
  refine okc_cons (show Good l Z hz shp A O x code 5 ret 25 (sPush (2, .arg 3) 28) from g_getstatic (x := (2, .arg 3)) at_25 (hw _ (List.mem_of_getElem? (i := 10) rfl)) (hS 3 (by decide))) ?_
  refine okc_cons (show Good l Z hz shp A O x code 5 ret 28 (sAstOld 0 46 29) from g_aastoreOld (sid := 0) at_28 rfl hE) ?_
  refine okc_cons (show Good l Z hz shp A O x code 5 ret 29 (sDup 30) from g_dup at_29) ?_
  refine okc_cons (show Good l Z hz shp A O x code 5 ret 30 (sPush (0, .int 4) 31) from g_iconst at_30 rfl) ?_
  refine okc_cons (show Good l Z hz shp A O x code 5 ret 31 (sPush (2, .arg 4) 34) from g_getstatic (x := (2, .arg 4)) at_31 (hw _ (List.mem_of_getElem? (i := 12) rfl)) (hS 4 (by decide))) ?_
  refine okc_cons (show Good l Z hz shp A O x code 5 ret 34 (sAstOld 0 46 35) from g_aastoreOld (sid := 0) at_34 rfl hE) ?_
  refine okc_cons (show Good l Z hz shp A O x code 5 ret 35 (sDup 36) from g_dup at_35) ?_
  refine okc_cons (show Good l Z hz shp A O x code 5 ret 36 (sPush (0, .int 5) 37) from g_iconst at_36 rfl) ?_
  refine okc_cons (show Good l Z hz shp A O x code 5 ret 37 (sPush (2, .arg 5) 40) from g_getstatic (x := (2, .arg 5)) at_37 (hw _ (List.mem_of_getElem? (i := 14) rfl)) (hS 5 (by decide))) ?_
  refine okc_cons (show Good l Z hz shp A O x code 5 ret 40 (sAstOld 0 46 41) from g_aastoreOld (sid := 0) at_40 rfl hE) ?_
  refine okc_cons (show Good l Z hz shp A O x code 5 ret 41 (sDup 42) from g_dup at_41) ?_
  refine okc_cons (show Good l Z hz shp A O x code 5 ret 42 (sPush (0, .int 6) 44) from g_bipush at_42 rfl) ?_
  refine okc_cons (show Good l Z hz shp A O x code 5 ret 44 (sPush (2, .arg 6) 47) from g_getstatic (x := (2, .arg 6)) at_44 (hw _ (List.mem_of_getElem? (i := 16) rfl)) (hS 6 (by decide))) ?_
  refine okc_cons (show Good l Z hz shp A O x code 5 ret 47 (sAstOld 0 46 48) from g_aastoreOld (sid := 0) at_47 rfl hE) ?_
  refine okc_cons (show Good l Z hz shp A O x code 5 ret 48 (sDup 49) from g_dup at_48) ?_
  refine okc_cons (show Good l Z hz shp A O x code 5 ret 49 (sPush (0, .int 7) 51) from g_bipush at_49 rfl) ?_
  refine okc_cons (show Good l Z hz shp A O x code 5 ret 51 (sPush (2, .arg 7) 54) from g_getstatic (x := (2, .arg 7)) at_51 (hw _ (List.mem_of_getElem? (i := 18) rfl)) (hS 7 (by decide))) ?_
  refine okc_cons (show Good l Z hz shp A O x code 5 ret 54 (sAstOld 0 46 55) from g_aastoreOld (sid := 0) at_54 rfl hE) ?_
  refine okc_cons (show Good l Z hz shp A O x code 5 ret 55 (sDup 56) from g_dup at_55) ?_
  refine okc_cons (show Good l Z hz shp A O x code 5 ret 56 (sPush (0, .int 8) 58) from g_bipush at_56 rfl) ?_
  refine okc_cons (show Good l Z hz shp A O x code 5 ret 58 (sPush (2, .arg 8) 61) from g_getstatic (x := (2, .arg 8)) at_58 (hw _ (List.mem_of_getElem? (i := 20) rfl)) (hS 8 (by decide))) ?_
  refine okc_cons (show Good l Z hz shp A O x code 5 ret 61 (sAstOld 0 46 62) from g_aastoreOld (sid := 0) at_61 rfl hE) ?_
  refine okc_cons (show Good l Z hz shp A O x code 5 ret 62 (sDup 63) from g_dup at_62) ?_
  refine okc_cons (show Good l Z hz shp A O x code 5 ret 63 (sPush (0, .int 9) 65) from g_bipush at_63 rfl) ?_
  refine okc_cons (show Good l Z hz shp A O x code 5 ret 65 (sPush (2, .arg 9) 68) from g_getstatic (x := (2, .arg 9)) at_65 (hw _ (List.mem_of_getElem? (i := 22) rfl)) (hS 9 (by decide))) ?_
  refine okc_cons (show Good l Z hz shp A O x code 5 ret 68 (sAstOld 0 46 69) from g_aastoreOld (sid := 0) at_68 rfl hE) ?_
  refine okc_cons (show Good l Z hz shp A O x code 5 ret 69 (sDup 70) from g_dup at_69) ?_
  refine okc_cons (show Good l Z hz shp A O x code 5 ret 70 (sPush (0, .int 10) 72) from g_bipush at_70 rfl) ?_
  refine okc_cons (show Good l Z hz shp A O x code 5 ret 72 (sPush (2, .arg 10) 75) from g_getstatic (x := (2, .arg 10)) at_72 (hw _ (List.mem_of_getElem? (i := 24) rfl)) (hS 10 (by decide))) ?_
  refine okc_cons (show Good l Z hz shp A O x code 5 ret 75 (sAstOld 0 46 76) from g_aastoreOld (sid := 0) at_75 rfl hE) ?_
  refine okc_cons (show Good l Z hz shp A O x code 5 ret 76 (sDup 77) from g_dup at_76) ?_
  refine okc_cons (show Good l Z hz shp A O x code 5 ret 77 (sPush (0, .int 11) 79) from g_bipush at_77 rfl) ?_
  refine okc_cons (show Good l Z hz shp A O x code 5 ret 79 (sPush (2, .arg 11) 82) from g_getstatic (x := (2, .arg 11)) at_79 (hw _ (List.mem_of_getElem? (i := 26) rfl)) (hS 11 (by decide))) ?_
  refine okc_cons (show Good l Z hz shp A O x code 5 ret 82 (sAstOld 0 46 83) from g_aastoreOld (sid := 0) at_82 rfl hE) ?_
  refine okc_cons (show Good l Z hz shp A O x code 5 ret 83 (sDup 84) from g_dup at_83) ?_
  refine okc_cons (show Good l Z hz shp A O x code 5 ret 84 (sPush (0, .int 12) 86) from g_bipush at_84 rfl) ?_
  refine okc_cons (show Good l Z hz shp A O x code 5 ret 86 (sPush (2, .arg 12) 89) from g_getstatic (x := (2, .arg 12)) at_86 (hw _ (List.mem_of_getElem? (i := 28) rfl)) (hS 12 (by decide))) ?_
  refine okc_cons (show Good l Z hz shp A O x code 5 ret 89 (sAstOld 0 46 90) from g_aastoreOld (sid := 0) at_89 rfl hE) ?_
  refine okc_cons (show Good l Z hz shp A O x code 5 ret 90 (sDup 91) from g_dup at_90) ?_
  refine okc_cons (show Good l Z hz shp A O x code 5 ret 91 (sPush (0, .int 13) 93) from g_bipush at_91 rfl) ?_
  refine okc_cons (show Good l Z hz shp A O x code 5 ret 93 (sPush (2, .arg 13) 96) from g_getstatic (x := (2, .arg 13)) at_93 (hw _ (List.mem_of_getElem? (i := 30) rfl)) (hS 13 (by decide))) ?_
  refine okc_cons (show Good l Z hz shp A O x code 5 ret 96 (sAstOld 0 46 97) from g_aastoreOld (sid := 0) at_96 rfl hE) ?_
  refine okc_cons (show Good l Z hz shp A O x code 5 ret 97 (sDup 98) from g_dup at_97) ?_
  refine okc_cons (show Good l Z hz shp A O x code 5 ret 98 (sPush (0, .int 14) 100) from g_bipush at_98 rfl) ?_
  refine okc_cons (show Good l Z hz shp A O x code 5 ret 100 (sPush (2, .arg 14) 103) from g_getstatic (x := (2, .arg 14)) at_100 (hw _ (List.mem_of_getElem? (i := 32) rfl)) (hS 14 (by decide))) ?_
  refine okc_cons (show Good l Z hz shp A O x code 5 ret 103 (sAstOld 0 46 104) from g_aastoreOld (sid := 0) at_103 rfl hE) ?_
  refine okc_cons (show Good l Z hz shp A O x code 5 ret 104 (sDup 105) from g_dup at_104) ?_
  refine okc_cons (show Good l Z hz shp A O x code 5 ret 105 (sPush (0, .int 15) 107) from g_bipush at_105 rfl) ?_
  refine okc_cons (show Good l Z hz shp A O x code 5 ret 107 (sPush (2, .arg 15) 110) from g_getstatic (x := (2, .arg 15)) at_107 (hw _ (List.mem_of_getElem? (i := 34) rfl)) (hS 15 (by decide))) ?_
  refine okc_cons (show Good l Z hz shp A O x code 5 ret 110 (sAstOld 0 46 111) from g_aastoreOld (sid := 0) at_110 rfl hE) ?_
  refine okc_cons (show Good l Z hz shp A O x code 5 ret 111 (sDup 112) from g_dup at_111) ?_
  refine okc_cons (show Good l Z hz shp A O x code 5 ret 112 (sPush (0, .int 16) 114) from g_bipush at_112 rfl) ?_
  refine okc_cons (show Good l Z hz shp A O x code 5 ret 114 (sPush (2, .arg 16) 117) from g_getstatic (x := (2, .arg 16)) at_114 (hw _ (List.mem_of_getElem? (i := 36) rfl)) (hS 16 (by decide))) ?_
  refine okc_cons (show Good l Z hz shp A O x code 5 ret 117 (sAstOld 0 46 118) from g_aastoreOld (sid := 0) at_117 rfl hE) ?_
  refine okc_cons (show Good l Z hz shp A O x code 5 ret 118 (sDup 119) from g_dup at_118) ?_
  refine okc_cons (show Good l Z hz shp A O x code 5 ret 119 (sPush (0, .int 17) 121) from g_bipush at_119 rfl) ?_
  refine okc_cons (show Good l Z hz shp A O x code 5 ret 121 (sPush (2, .arg 17) 124) from g_getstatic (x := (2, .arg 17)) at_121 (hw _ (List.mem_of_getElem? (i := 38) rfl)) (hS 17 (by decide))) ?_
  refine okc_cons (show Good l Z hz shp A O x code 5 ret 124 (sAstOld 0 46 125) from g_aastoreOld (sid := 0) at_124 rfl hE) ?_
  refine okc_cons (show Good l Z hz shp A O x code 5 ret 125 (sDup 126) from g_dup at_125) ?_
  refine okc_cons (show Good l Z hz shp A O x code 5 ret 126 (sPush (0, .int 18) 128) from g_bipush at_126 rfl) ?_
  refine okc_cons (show Good l Z hz shp A O x code 5 ret 128 (sPush (2, .arg 18) 131) from g_getstatic (x := (2, .arg 18)) at_128 (hw _ (List.mem_of_getElem? (i := 40) rfl)) (hS 18 (by decide))) ?_
  refine okc_cons (show Good l Z hz shp A O x code 5 ret 131 (sAstOld 0 46 132) from g_aastoreOld (sid := 0) at_131 rfl hE) ?_
  refine okc_cons (show Good l Z hz shp A O x code 5 ret 132 (sDup 133) from g_dup at_132) ?_
  refine okc_cons (show Good l Z hz shp A O x code 5 ret 133 (sPush (0, .int 19) 135) from g_bipush at_133 rfl) ?_
  refine okc_cons (show Good l Z hz shp A O x code 5 ret 135 (sPush (2, .arg 19) 138) from g_getstatic (x := (2, .arg 19)) at_135 (hw _ (List.mem_of_getElem? (i := 42) rfl)) (hS 19 (by decide))) ?_
  refine okc_cons (show Good l Z hz shp A O x code 5 ret 138 (sAstOld 0 46 139) from g_aastoreOld (sid := 0) at_138 rfl hE) ?_
  refine okc_cons (show Good l Z hz shp A O x code 5 ret 139 (sDup 140) from g_dup at_139) ?_
  refine okc_cons (show Good l Z hz shp A O x code 5 ret 140 (sPush (0, .int 20) 142) from g_bipush at_140 rfl) ?_
  refine okc_cons (show Good l Z hz shp A O x code 5 ret 142 (sPush (2, .arg 20) 145) from g_getstatic (x := (2, .arg 20)) at_142 (hw _ (List.mem_of_getElem? (i := 44) rfl)) (hS 20 (by decide))) ?_
  refine okc_cons (show Good l Z hz shp A O x code 5 ret 145 (sAstOld 0 46 146) from g_aastoreOld (sid := 0) at_145 rfl hE) ?_
  refine okc_cons (show Good l Z hz shp A O x code 5 ret 146 (sDup 147) from g_dup at_146) ?_
  refine okc_cons (show Good l Z hz shp A O x code 5 ret 147 (sPush (0, .int 21) 149) from g_bipush at_147 rfl) ?_
  refine okc_cons (show Good l Z hz shp A O x code 5 ret 149 (sPush (2, .arg 21) 152) from g_getstatic (x := (2, .arg 21)) at_149 (hw _ (List.mem_of_getElem? (i := 46) rfl)) (hS 21 (by decide))) ?_
  refine okc_cons (show Good l Z hz shp A O x code 5 ret 152 (sAstOld 0 46 153) from g_aastoreOld (sid := 0) at_152 rfl hE) ?_
  refine okc_cons (show Good l Z hz shp A O x code 5 ret 153 (sDup 154) from g_dup at_153) ?_
  refine okc_cons (show Good l Z hz shp A O x code 5 ret 154 (sPush (0, .int 22) 156) from g_bipush at_154 rfl) ?_
  refine okc_cons (show Good l Z hz shp A O x code 5 ret 156 (sPush (2, .arg 22) 159) from g_getstatic (x := (2, .arg 22)) at_156 (hw _ (List.mem_of_getElem? (i := 48) rfl)) (hS 22 (by decide))) ?_
  refine okc_cons (show Good l Z hz shp A O x code 5 ret 159 (sAstOld 0 46 160) from g_aastoreOld (sid := 0) at_159 rfl hE) ?_
  refine okc_cons (show Good l Z hz shp A O x code 5 ret 160 (sDup 161) from g_dup at_160) ?_
  refine okc_cons (show Good l Z hz shp A O x code 5 ret 161 (sPush (0, .int 23) 163) from g_bipush at_161 rfl) ?_
  refine okc_cons (show Good l Z hz shp A O x code 5 ret 163 (sPush (2, .arg 23) 166) from g_getstatic (x := (2, .arg 23)) at_163 (hw _ (List.mem_of_getElem? (i := 50) rfl)) (hS 23 (by decide))) ?_
  refine okc_cons (show Good l Z hz shp A O x code 5 ret 166 (sAstOld 0 46 167) from g_aastoreOld (sid := 0) at_166 rfl hE) ?_
  refine okc_cons (show Good l Z hz shp A O x code 5 ret 167 (sDup 168) from g_dup at_167) ?_
  refine okc_cons (show Good l Z hz shp A O x code 5 ret 168 (sPush (0, .int 24) 170) from g_bipush at_168 rfl) ?_
  refine okc_cons (show Good l Z hz shp A O x code 5 ret 170 (sPush (2, .arg 24) 173) from g_getstatic (x := (2, .arg 24)) at_170 (hw _ (List.mem_of_getElem? (i := 52) rfl)) (hS 24 (by decide))) ?_
  refine okc_cons (show Good l Z hz shp A O x code 5 ret 173 (sAstOld 0 46 174) from g_aastoreOld (sid := 0) at_173 rfl hE) ?_
  refine okc_cons (show Good l Z hz shp A O x code 5 ret 174 (sDup 175) from g_dup at_174) ?_
  refine okc_cons (show Good l Z hz shp A O x code 5 ret 175 (sPush (0, .int 25) 177) from g_bipush at_175 rfl) ?_
  refine okc_cons (show Good l Z hz shp A O x code 5 ret 177 (sPush (2, .arg 25) 180) from g_getstatic (x := (2, .arg 25)) at_177 (hw _ (List.mem_of_getElem? (i := 54) rfl)) (hS 25 (by decide))) ?_
  refine okc_cons (show Good l Z hz shp A O x code 5 ret 180 (sAstOld 0 46 181) from g_aastoreOld (sid := 0) at_180 rfl hE) ?_
  refine okc_cons (show Good l Z hz shp A O x code 5 ret 181 (sDup 182) from g_dup at_181) ?_
  refine okc_cons (show Good l Z hz shp A O x code 5 ret 182 (sPush (0, .int 26) 184) from g_bipush at_182 rfl) ?_
  refine okc_cons (show Good l Z hz shp A O x code 5 ret 184 (sPush (2, .arg 26) 187) from g_getstatic (x := (2, .arg 26)) at_184 (hw _ (List.mem_of_getElem? (i := 56) rfl)) (hS 26 (by decide))) ?_
  refine okc_cons (show Good l Z hz shp A O x code 5 ret 187 (sAstOld 0 46 188) from g_aastoreOld (sid := 0) at_187 rfl hE) ?_
  refine okc_cons (show Good l Z hz shp A O x code 5 ret 188 (sDup 189) from g_dup at_188) ?_
  refine okc_cons (show Good l Z hz shp A O x code 5 ret 189 (sPush (0, .int 27) 191) from g_bipush at_189 rfl) ?_
  refine okc_cons (show Good l Z hz shp A O x code 5 ret 191 (sPush (2, .arg 27) 194) from g_getstatic (x := (2, .arg 27)) at_191 (hw _ (List.mem_of_getElem? (i := 58) rfl)) (hS 27 (by decide))) ?_
  refine okc_cons (show Good l Z hz shp A O x code 5 ret 194 (sAstOld 0 46 195) from g_aastoreOld (sid := 0) at_194 rfl hE) ?_
  refine okc_cons (show Good l Z hz shp A O x code 5 ret 195 (sDup 196) from g_dup at_195) ?_
  refine okc_cons (show Good l Z hz shp A O x code 5 ret 196 (sPush (0, .int 28) 198) from g_bipush at_196 rfl) ?_
  refine okc_cons (show Good l Z hz shp A O x code 5 ret 198 (sPush (2, .arg 28) 201) from g_getstatic (x := (2, .arg 28)) at_198 (hw _ (List.mem_of_getElem? (i := 60) rfl)) (hS 28 (by decide))) ?_
  refine okc_cons (show Good l Z hz shp A O x code 5 ret 201 (sAstOld 0 46 202) from g_aastoreOld (sid := 0) at_201 rfl hE) ?_
  refine okc_cons (show Good l Z hz shp A O x code 5 ret 202 (sDup 203) from g_dup at_202) ?_
  refine okc_cons (show Good l Z hz shp A O x code 5 ret 203 (sPush (0, .int 29) 205) from g_bipush at_203 rfl) ?_
  refine okc_cons (show Good l Z hz shp A O x code 5 ret 205 (sPush (2, .arg 29) 208) from g_getstatic (x := (2, .arg 29)) at_205 (hw _ (List.mem_of_getElem? (i := 62) rfl)) (hS 29 (by decide))) ?_
  refine okc_cons (show Good l Z hz shp A O x code 5 ret 208 (sAstOld 0 46 209) from g_aastoreOld (sid := 0) at_208 rfl hE) ?_
  refine okc_cons (show Good l Z hz shp A O x code 5 ret 209 (sDup 210) from g_dup at_209) ?_
  refine okc_cons (show Good l Z hz shp A O x code 5 ret 210 (sPush (0, .int 30) 212) from g_bipush at_210 rfl) ?_
  refine okc_cons (show Good l Z hz shp A O x code 5 ret 212 (sPush (2, .arg 30) 215) from g_getstatic (x := (2, .arg 30)) at_212 (hw _ (List.mem_of_getElem? (i := 64) rfl)) (hS 30 (by decide))) ?_
  refine okc_cons (show Good l Z hz shp A O x code 5 ret 215 (sAstOld 0 46 216) from g_aastoreOld (sid := 0) at_215 rfl hE) ?_
  refine okc_cons (show Good l Z hz shp A O x code 5 ret 216 (sDup 217) from g_dup at_216) ?_
  refine okc_cons (show Good l Z hz shp A O x code 5 ret 217 (sPush (0, .int 31) 219) from g_bipush at_217 rfl) ?_
  refine okc_cons (show Good l Z hz shp A O x code 5 ret 219 (sPush (2, .arg 31) 222) from g_getstatic (x := (2, .arg 31)) at_219 (hw _ (List.mem_of_getElem? (i := 66) rfl)) (hS 31 (by decide))) ?_
  refine okc_cons (show Good l Z hz shp A O x code 5 ret 222 (sAstOld 0 46 223) from g_aastoreOld (sid := 0) at_222 rfl hE) ?_
  refine okc_cons (show Good l Z hz shp A O x code 5 ret 223 (sDup 224) from g_dup at_223) ?_
  refine okc_cons (show Good l Z hz shp A O x code 5 ret 224 (sPush (0, .int 32) 226) from g_bipush at_224 rfl) ?_
  refine okc_cons (show Good l Z hz shp A O x code 5 ret 226 (sPush (2, .arg 32) 229) from g_getstatic (x := (2, .arg 32)) at_226 (hw _ (List.mem_of_getElem? (i := 68) rfl)) (hS 32 (by decide))) ?_
  refine okc_cons (show Good l Z hz shp A O x code 5 ret 229 (sAstOld 0 46 230) from g_aastoreOld (sid := 0) at_229 rfl hE) ?_
  refine okc_cons (show Good l Z hz shp A O x code 5 ret 230 (sDup 231) from g_dup at_230) ?_
  refine okc_cons (show Good l Z hz shp A O x code 5 ret 231 (sPush (0, .int 33) 233) from g_bipush at_231 rfl) ?_
  refine okc_cons (show Good l Z hz shp A O x code 5 ret 233 (sPush (2, .arg 33) 236) from g_getstatic (x := (2, .arg 33)) at_233 (hw _ (List.mem_of_getElem? (i := 70) rfl)) (hS 33 (by decide))) ?_
  refine okc_cons (show Good l Z hz shp A O x code 5 ret 236 (sAstOld 0 46 237) from g_aastoreOld (sid := 0) at_236 rfl hE) ?_
  refine okc_cons (show Good l Z hz shp A O x code 5 ret 237 (sDup 238) from g_dup at_237) ?_
  refine okc_cons (show Good l Z hz shp A O x code 5 ret 238 (sPush (0, .int 34) 240) from g_bipush at_238 rfl) ?_
  refine okc_cons (show Good l Z hz shp A O x code 5 ret 240 (sPush (2, .arg 34) 243) from g_getstatic (x := (2, .arg 34)) at_240 (hw _ (List.mem_of_getElem? (i := 72) rfl)) (hS 34 (by decide))) ?_
  refine okc_cons (show Good l Z hz shp A O x code 5 ret 243 (sAstOld 0 46 244) from g_aastoreOld (sid := 0) at_243 rfl hE) ?_
  refine okc_cons (show Good l Z hz shp A O x code 5 ret 244 (sDup 245) from g_dup at_244) ?_
  refine okc_cons (show Good l Z hz shp A O x code 5 ret 245 (sPush (0, .int 35) 247) from g_bipush at_245 rfl) ?_
  refine okc_cons (show Good l Z hz shp A O x code 5 ret 247 (sPush (2, .arg 35) 250) from g_getstatic (x := (2, .arg 35)) at_247 (hw _ (List.mem_of_getElem? (i := 74) rfl)) (hS 35 (by decide))) ?_
  refine okc_cons (show Good l Z hz shp A O x code 5 ret 250 (sAstOld 0 46 251) from g_aastoreOld (sid := 0) at_250 rfl hE) ?_
  refine okc_cons (show Good l Z hz shp A O x code 5 ret 251 (sDup 252) from g_dup at_251) ?_
  refine okc_cons (show Good l Z hz shp A O x code 5 ret 252 (sPush (0, .int 36) 254) from g_bipush at_252 rfl) ?_
  refine okc_cons (show Good l Z hz shp A O x code 5 ret 254 (sPush (2, .arg 36) 257) from g_getstatic (x := (2, .arg 36)) at_254 (hw _ (List.mem_of_getElem? (i := 76) rfl)) (hS 36 (by decide))) ?_
  refine okc_cons (show Good l Z hz shp A O x code 5 ret 257 (sAstOld 0 46 258) from g_aastoreOld (sid := 0) at_257 rfl hE) ?_
  refine okc_cons (show Good l Z hz shp A O x code 5 ret 258 (sDup 259) from g_dup at_258) ?_
  refine okc_cons (show Good l Z hz shp A O x code 5 ret 259 (sPush (0, .int 37) 261) from g_bipush at_259 rfl) ?_
  refine okc_cons (show Good l Z hz shp A O x code 5 ret 261 (sPush (2, .arg 37) 264) from g_getstatic (x := (2, .arg 37)) at_261 (hw _ (List.mem_of_getElem? (i := 78) rfl)) (hS 37 (by decide))) ?_
  refine okc_cons (show Good l Z hz shp A O x code 5 ret 264 (sAstOld 0 46 265) from g_aastoreOld (sid := 0) at_264 rfl hE) ?_
  refine okc_cons (show Good l Z hz shp A O x code 5 ret 265 (sDup 266) from g_dup at_265) ?_
  refine okc_cons (show Good l Z hz shp A O x code 5 ret 266 (sPush (0, .int 38) 268) from g_bipush at_266 rfl) ?_
  refine okc_cons (show Good l Z hz shp A O x code 5 ret 268 (sPush (2, .arg 38) 271) from g_getstatic (x := (2, .arg 38)) at_268 (hw _ (List.mem_of_getElem? (i := 80) rfl)) (hS 38 (by decide))) ?_
  refine okc_cons (show Good l Z hz shp A O x code 5 ret 271 (sAstOld 0 46 272) from g_aastoreOld (sid := 0) at_271 rfl hE) ?_
  refine okc_cons (show Good l Z hz shp A O x code 5 ret 272 (sDup 273) from g_dup at_272) ?_
  refine okc_cons (show Good l Z hz shp A O x code 5 ret 273 (sPush (0, .int 39) 275) from g_bipush at_273 rfl) ?_
  refine okc_cons (show Good l Z hz shp A O x code 5 ret 275 (sPush (2, .arg 39) 278) from g_getstatic (x := (2, .arg 39)) at_275 (hw _ (List.mem_of_getElem? (i := 82) rfl)) (hS 39 (by decide))) ?_
  refine okc_cons (show Good l Z hz shp A O x code 5 ret 278 (sAstOld 0 46 279) from g_aastoreOld (sid := 0) at_278 rfl hE) ?_
  refine okc_cons (show Good l Z hz shp A O x code 5 ret 279 (sDup 280) from g_dup at_279) ?_
  refine okc_cons (show Good l Z hz shp A O x code 5 ret 280 (sPush (0, .int 40) 282) from g_bipush at_280 rfl) ?_
  refine okc_cons (show Good l Z hz shp A O x code 5 ret 282 (sPush (2, .arg 40) 285) from g_getstatic (x := (2, .arg 40)) at_282 (hw _ (List.mem_of_getElem? (i := 84) rfl)) (hS 40 (by decide))) ?_
  refine okc_cons (show Good l Z hz shp A O x code 5 ret 285 (sAstOld 0 46 286) from g_aastoreOld (sid := 0) at_285 rfl hE) ?_
  refine okc_cons (show Good l Z hz shp A O x code 5 ret 286 (sDup 287) from g_dup at_286) ?_
  refine okc_cons (show Good l Z hz shp A O x code 5 ret 287 (sPush (0, .int 41) 289) from g_bipush at_287 rfl) ?_
  refine okc_cons (show Good l Z hz shp A O x code 5 ret 289 (sPush (2, .arg 41) 292) from g_getstatic (x := (2, .arg 41)) at_289 (hw _ (List.mem_of_getElem? (i := 86) rfl)) (hS 41 (by decide))) ?_
  refine okc_cons (show Good l Z hz shp A O x code 5 ret 292 (sAstOld 0 46 293) from g_aastoreOld (sid := 0) at_292 rfl hE) ?_
  refine okc_cons (show Good l Z hz shp A O x code 5 ret 293 (sDup 294) from g_dup at_293) ?_
  refine okc_cons (show Good l Z hz shp A O x code 5 ret 294 (sPush (0, .int 42) 296) from g_bipush at_294 rfl) ?_
  refine okc_cons (show Good l Z hz shp A O x code 5 ret 296 (sPush (2, .arg 42) 299) from g_getstatic (x := (2, .arg 42)) at_296 (hw _ (List.mem_of_getElem? (i := 88) rfl)) (hS 42 (by decide))) ?_
  refine okc_cons (show Good l Z hz shp A O x code 5 ret 299 (sAstOld 0 46 300) from g_aastoreOld (sid := 0) at_299 rfl hE) ?_
  refine okc_cons (show Good l Z hz shp A O x code 5 ret 300 (sDup 301) from g_dup at_300) ?_
  refine okc_cons (show Good l Z hz shp A O x code 5 ret 301 (sPush (0, .int 43) 303) from g_bipush at_301 rfl) ?_
  refine okc_cons (show Good l Z hz shp A O x code 5 ret 303 (sPush (2, .arg 43) 306) from g_getstatic (x := (2, .arg 43)) at_303 (hw _ (List.mem_of_getElem? (i := 90) rfl)) (hS 43 (by decide))) ?_
  refine okc_cons (show Good l Z hz shp A O x code 5 ret 306 (sAstOld 0 46 307) from g_aastoreOld (sid := 0) at_306 rfl hE) ?_
  refine okc_cons (show Good l Z hz shp A O x code 5 ret 307 (sDup 308) from g_dup at_307) ?_
  refine okc_cons (show Good l Z hz shp A O x code 5 ret 308 (sPush (0, .int 44) 310) from g_bipush at_308 rfl) ?_
  refine okc_cons (show Good l Z hz shp A O x code 5 ret 310 (sPush (2, .arg 44) 313) from g_getstatic (x := (2, .arg 44)) at_310 (hw _ (List.mem_of_getElem? (i := 92) rfl)) (hS 44 (by decide))) ?_
  refine okc_cons (show Good l Z hz shp A O x code 5 ret 313 (sAstOld 0 46 314) from g_aastoreOld (sid := 0) at_313 rfl hE) ?_
  refine okc_cons (show Good l Z hz shp A O x code 5 ret 314 (sDup 315) from g_dup at_314) ?_
  refine okc_cons (show Good l Z hz shp A O x code 5 ret 315 (sPush (0, .int 45) 317) from g_bipush at_315 rfl) ?_
  refine okc_cons (show Good l Z hz shp A O x code 5 ret 317 (sPush (2, .arg 45) 320) from g_getstatic (x := (2, .arg 45)) at_317 (hw _ (List.mem_of_getElem? (i := 94) rfl)) (hS 45 (by decide))) ?_
  refine okc_cons (show Good l Z hz shp A O x code 5 ret 320 (sAstOld 0 46 321) from g_aastoreOld (sid := 0) at_320 rfl hE) ?_
  refine okc_cons (show Good l Z hz shp A O x code 5 ret 321 (sStore 2 1 322) from g_astoreN at_321) ?_
  refine okc_cons (show Good l Z hz shp A O x code 5 ret 322 (sLoad 0 0 323) from g_iloadN at_322) ?_
  refine okc_cons (show Good l Z hz shp A O x code 5 ret 323 (sPush (0, .int 2147483647) 325) from g_ldc (v := 2147483647) at_323 (hw _ (List.mem_of_getElem? (i := 96) rfl))) ?_
  refine okc_cons (show Good l Z hz shp A O x code 5 ret 325 (sBin 0 0 0 (jI (Term.op2 .iand)) 326) from g_iand at_325) ?_
  refine okc_cons (show Good l Z hz shp A O x code 5 ret 326 (sPush (0, .int 46) 328) from g_bipush at_326 rfl) ?_
  refine okc_cons (show Good l Z hz shp A O x code 5 ret 328 (s_irem 329) from g_irem at_328) ?_
  refine okc_cons (show Good l Z hz shp A O x code 5 ret 329 (sStore 0 2 330) from g_istoreN at_329) ?_
  refine okc_cons (show Good l Z hz shp A O x code 5 ret 330 (sLoad 2 1 331) from g_aloadN at_330) ?_
  refine okc_cons (show Good l Z hz shp A O x code 5 ret 331 (sLoad 0 2 332) from g_iloadN at_331) ?_
  refine okc_cons (show Good l Z hz shp A O x code 5 ret 332 (sSplit 332 (sAld 0 333)) from g_split (g_aaload (sid := 0) at_332 rfl)) ?_
  refine okc_cons (show Good l Z hz shp A O x code 5 ret 333 (sStore 2 3 334) from g_astoreN at_333) ?_
  refine okc_cons (show Good l Z hz shp A O x code 5 ret 334 (sLoad 0 2 335) from g_iloadN at_334) ?_
  refine okc_cons (show Good l Z hz shp A O x code 5 ret 335 (sIf .eq 348 338) from g_if at_335 (by decide) (by decide)) ?_
  refine okc_cons (show Good l Z hz shp A O x code 5 ret 338 (sLoad 0 2 339) from g_iloadN at_338) ?_
  refine okc_cons (show Good l Z hz shp A O x code 5 ret 339 (sPush (0, .int 45) 341) from g_bipush at_339 rfl) ?_
  refine okc_cons (show Good l Z hz shp A O x code 5 ret 341 (sIcmp .eq 348 344) from g_icmp at_341 (by decide) (by decide)) ?_
  refine okc_cons (show Good l Z hz shp A O x code 5 ret 344 (sPush (0, .int 1) 345) from g_iconst at_344 rfl) ?_
  refine okc_cons (show Good l Z hz shp A O x code 5 ret 345 (sGoto 349) from g_goto at_345 (by decide) (by decide)) ?_
  refine okc_cons (show Good l Z hz shp A O x code 5 ret 348 (sPush (0, .int 0) 349) from g_iconst at_348 rfl) ?_
  refine okc_cons (show Good l Z hz shp A O x code 5 ret 349 (sStore 0 4 351) from g_istore at_349) ?_
  refine okc_cons (show Good l Z hz shp A O x code 5 ret 351 (sLoad 2 3 352) from g_aloadN at_351) ?_
  refine okc_cons (fun m hm => by
    obtain rfl : m = (1, cd_1) := (Option.some.inj hm).symm
    exact (show CallGood l Z hz shp A O x code 5 ret (⟨"com/example/occurrent/occurrent/xdm/AtomicType", "isCastTarget", "()Z"⟩ : MethodName) prog_66_method_13_code 1 (some .boolean) 352 1 355 (ckOld 46) from c_virtualOld (a0 := a0) (hd := at_352) (hpl := pl_1) (hdesc := pd_1) (hna := rfl) (hy := by decide) (w1 := (hw _ (List.mem_of_getElem? (i := 97) rfl))) (w2 := (hw _ (List.mem_of_getElem? (i := 99) rfl))) (w3 := (hw _ (List.mem_of_getElem? (i := 3) rfl))) (w4 := (hw _ (List.mem_of_getElem? (i := 101) rfl))) (w5 := (hw _ (List.mem_of_getElem? (i := 98) rfl))) (w6 := (hw _ (List.mem_of_getElem? (i := 100) rfl))) (hE := hE))) ?_
  refine okc_cons (show Good l Z hz shp A O x code 5 ret 355 (sLoad 0 4 357) from g_iload at_355) ?_
  refine okc_cons (show Good l Z hz shp A O x code 5 ret 357 (sIcmp .ne 364 360) from g_icmp at_357 (by decide) (by decide)) ?_
  refine okc_cons (show Good l Z hz shp A O x code 5 ret 360 (sPush (0, .int 1) 361) from g_iconst at_360 rfl) ?_
  refine okc_cons (show Good l Z hz shp A O x code 5 ret 361 (sGoto 365) from g_goto at_361 (by decide) (by decide)) ?_
  refine okc_cons (show Good l Z hz shp A O x code 5 ret 364 (sPush (0, .int 0) 365) from g_iconst at_364 rfl) ?_
  refine okc_cons (show RetGood l Z hz shp A O x code 5 ret 365 (rVal .boolean) from g_ret at_365 (by decide) (by simp)) ?_
  exact okc_nil
set_option maxRecDepth 65536 in
theorem cok_1 (hw : ∀ d ∈ tables_1, d.before a0 Z = true) (hS : ∀ i, i < 46 → Sta Z hz "com/example/occurrent/occurrent/xdm/AtomicType" (nm i) "Lcom/example/occurrent/occurrent/xdm/AtomicType;" (.ref (O i))) (hE : ∀ i, i < 46 → Exa Z hz (O i) "com/example/occurrent/occurrent/xdm/AtomicType") (hO : ∀ i j, i < 46 → j < 46 → O i = O j → i = j) : ∀ el ∈ cd_1, ElOk l Z hz shp A O 16 192 mts mis 1 1 el := by
  unfold cd_1
  refine okc_cons (show Good l Z hz shp A O (⟨"com/example/occurrent/occurrent/xdm/AtomicType", "isCastTarget", "()Z"⟩ : MethodName) prog_66_method_13_code 1 (some .boolean) 0 (sLoad 2 0 1) from g_aloadN d1_0) ?_
  refine okc_cons (show Good l Z hz shp A O (⟨"com/example/occurrent/occurrent/xdm/AtomicType", "isCastTarget", "()Z"⟩ : MethodName) prog_66_method_13_code 1 (some .boolean) 1 (sPush (2, .arg 0) 4) from g_getstatic (x := (2, .arg 0)) d1_1 (hw _ (List.mem_of_getElem? (i := 102) rfl)) (hS 0 (by decide))) ?_
  refine okc_cons (show Good l Z hz shp A O (⟨"com/example/occurrent/occurrent/xdm/AtomicType", "isCastTarget", "()Z"⟩ : MethodName) prog_66_method_13_code 1 (some .boolean) 4 (sAcmpOld .eq 46 18 7) from g_acmpOld d1_4 (by decide) (by decide) hO) ?_
  refine okc_cons (show Good l Z hz shp A O (⟨"com/example/occurrent/occurrent/xdm/AtomicType", "isCastTarget", "()Z"⟩ : MethodName) prog_66_method_13_code 1 (some .boolean) 7 (sLoad 2 0 8) from g_aloadN d1_7) ?_
  refine okc_cons (show Good l Z hz shp A O (⟨"com/example/occurrent/occurrent/xdm/AtomicType", "isCastTarget", "()Z"⟩ : MethodName) prog_66_method_13_code 1 (some .boolean) 8 (sPush (2, .arg 45) 11) from g_getstatic (x := (2, .arg 45)) d1_8 (hw _ (List.mem_of_getElem? (i := 103) rfl)) (hS 45 (by decide))) ?_
  refine okc_cons (show Good l Z hz shp A O (⟨"com/example/occurrent/occurrent/xdm/AtomicType", "isCastTarget", "()Z"⟩ : MethodName) prog_66_method_13_code 1 (some .boolean) 11 (sAcmpOld .eq 46 18 14) from g_acmpOld d1_11 (by decide) (by decide) hO) ?_
  refine okc_cons (show Good l Z hz shp A O (⟨"com/example/occurrent/occurrent/xdm/AtomicType", "isCastTarget", "()Z"⟩ : MethodName) prog_66_method_13_code 1 (some .boolean) 14 (sPush (0, .int 1) 15) from g_iconst d1_14 rfl) ?_
  refine okc_cons (show Good l Z hz shp A O (⟨"com/example/occurrent/occurrent/xdm/AtomicType", "isCastTarget", "()Z"⟩ : MethodName) prog_66_method_13_code 1 (some .boolean) 15 (sGoto 19) from g_goto d1_15 (by decide) (by decide)) ?_
  refine okc_cons (show Good l Z hz shp A O (⟨"com/example/occurrent/occurrent/xdm/AtomicType", "isCastTarget", "()Z"⟩ : MethodName) prog_66_method_13_code 1 (some .boolean) 18 (sPush (0, .int 0) 19) from g_iconst d1_18 rfl) ?_
  refine okc_cons (show RetGood l Z hz shp A O (⟨"com/example/occurrent/occurrent/xdm/AtomicType", "isCastTarget", "()Z"⟩ : MethodName) prog_66_method_13_code 1 (some .boolean) 19 (rVal .boolean) from g_ret d1_19 (by decide) (by simp)) ?_
  exact okc_nil
theorem mok (hw : ∀ d ∈ tables_1, d.before a0 Z = true) (hS : ∀ i, i < 46 → Sta Z hz "com/example/occurrent/occurrent/xdm/AtomicType" (nm i) "Lcom/example/occurrent/occurrent/xdm/AtomicType;" (.ref (O i))) (hE : ∀ i, i < 46 → Exa Z hz (O i) "com/example/occurrent/occurrent/xdm/AtomicType") (hO : ∀ i j, i < 46 → j < 46 → O i = O j → i = j) : MtOk l Z hz shp A O 16 192 mts mis := by
  intro j mx code h
  match j, h with
  | 0, h => cases h; exact ⟨cok_0 hw hS hE hO, fun el tl q => by cases q; rfl⟩
  | 1, h => cases h; exact ⟨cok_1 hw hS hE hO, fun el tl q => by cases q; rfl⟩
  | j + 2, h => exact absurd h (by simp [mts])
end Valid

def xs0 : List SV := [(0, .arg 0)]
def env (p0 : Int32) : En
  | 0 => (p0, 0)
  | _ => (0, 0)
def isNil : Option (List Pd) → Bool
  | some [] => true
  | _ => false
theorem isNil_eq {o : Option (List Pd)} (h : isNil o = true) : o = some [] := by
  unfold isNil at h
  split at h
  · rfl
  · cases h
def mts_0 : List Mt := (5, cd_0) :: mts.tail
set_option maxRecDepth 65536 in
theorem ran_0 : xgo mts_0 16 192 1500 (0, seekF cd_0 0, (entL xs0 5, [], [], 0), [], 4, 112, []) = some [] := isNil_eq (by decide +kernel)
theorem top_0 {l : Launch} {Z : State} {hz : Heap} {O : Nat → Addr} {a0 : Array Value} (hw : ∀ d ∈ tables_1, d.before a0 Z = true) (hS : ∀ i, i < 46 → Sta Z hz "com/example/occurrent/occurrent/xdm/AtomicType" (nm i) "Lcom/example/occurrent/occurrent/xdm/AtomicType;" (.ref (O i))) (hE : ∀ i, i < 46 → Exa Z hz (O i) "com/example/occurrent/occurrent/xdm/AtomicType") (hO : ∀ i j, i < 46 → j < 46 → O i = O j → i = j) (A : En) (hF : holds A []) : Top l Z hz shp A O x code 5 ret 16 192 4 112 0 (entL xs0 5, [], [], 0) :=
  top_ok (MI := mis) (M := mts_0) (show MtOk l Z hz shp A O 16 192 mts_0 mis from mok hw hS hE hO) (P := []) rfl ran_0 hF (fun _ h => nomatch h)
theorem rm0 (l : Launch) (Z : State) (a0 : Array Value) (hw : ∀ d ∈ tables_1, d.before a0 Z = true) (ws : List Jvm.Cond) (p0 : Int32) (h0 : Heap) (O : Nat → Addr) (hS : ∀ i, i < 46 → Sta Z h0 "com/example/occurrent/occurrent/xdm/AtomicType" (nm i) "Lcom/example/occurrent/occurrent/xdm/AtomicType;" (.ref (O i))) (hE : ∀ i, i < 46 → Exa Z h0 (O i) "com/example/occurrent/occurrent/xdm/AtomicType") (hO : ∀ i j, i < 46 → j < 46 → O i = O j → i = j) :
    MetFree l x (head1 (Jvm.Cond.code x code maxLocals ret :: ws) room_1) (fun a U => a = #[(.int p0)] ∧ Z.Warmed39 U.vm ∧ U.heap = h0) (fun _ _ _ _ _ => True) (fun _ U o U' => ∃ v L, o = .returned v ∧ (v = some (.int 1) ∧ Fr h0.size L) ∧ FrameEnd U o U' L 16 192) :=
  law_ok (sh := shp) (A := env p0) (O := O) (xs := xs0) (top_0 hw hS hE hO _ (fun _ h => nomatch h)) pl_0 ws room_1 rfl
set_option maxRecDepth 65536 in
set_option maxHeartbeats 4000000 in
theorem comes_1 {Post : Tables → Env → Array Value → State → Outcome → State → Prop} (hpost : ∀ tb e args s v u, (limb_1_1.after args s (.returned v) u = true ∧ limb_1_2.after args s (.returned v) u = true ∧ True) → FrameEnd s (.returned v) u (Jvm.fieldLocs frame_1_writes args s ++ Jvm.arrayLocs frame_1_arrays args s ++ Jvm.staticLocs frame_1_statics s) 16 192 → Post tb e args s (.returned v) u) :
    ArmFor flags0 classFile x code maxLocals ret World_1 tables_1 room_1 Calls_1 rest_1 Pre_1 Post := by
  intro l hfl _ _ p e ha hc hk s m args below hf hA hF happ hP
  obtain ⟨hcalls, hrest, hpre⟩ := hP
  obtain ⟨-, -, -, hnamed, -, -, -, hat⟩ := (Spec.applies_iff hf).mp happ
  obtain ⟨hg, hn⟩ := and_e (Cond.before_iff.mp (show (Jvm.Cond.and given_1 narrow_1).before args s = true from hpre))
  obtain ⟨g1, g2⟩ := and_e hg
  obtain ⟨w0, rfl⟩ : ∃ w0 : Value, args = #[w0] := by
    have hs : args.size = 1 := by simpa [Cond.value, given_1] using g1
    obtain ⟨L⟩ := args
    match L, hs with
    | [w0], _ => exact ⟨w0, rfl⟩
  have hw := fun d (hd : d ∈ tables_1) => atoms_spec (ws := Jvm.Cond.code x code maxLocals ret :: tables_1) hat d (List.mem_cons_of_mem _ hd)
  obtain ⟨i0, ei0⟩ := is_v g2
  obtain rfl : w0 = (.int i0) := Option.some.inj ei0
  obtain ⟨O, hS, hE, hO⟩ := old_ok hn hw
  obtain ⟨n, o, h1, h2, h3, _, L, rfl, ⟨rfl, N⟩, hq⟩ := rm0 l s _ hw tables_1 i0 s.heap O hS hE hO p e ha hc hk s m _ below hf ((Spec.applies_iff_loose hf).mp happ).1 ⟨rfl, State.Warmed39.refl s, rfl⟩ trivial
  refine ⟨n, _, h1, h2, h3, hpost _ _ _ _ _ _ ⟨Cond.after_iff.mpr rfl, Cond.after_iff.mpr (eq_i res_at (Term.int_eval (1)) rfl), trivial⟩ ⟨hq.1, hq.2.1, (hq.2.2.sift fun y hy => Or.inr (N y hy)).mono (by decide) (by decide)⟩⟩
theorem main_1_1 : Claimed_1_1 := comes_1 fun _ _ _ _ _ _ h hF => ⟨h.1, hF⟩
theorem main_1_2 : Claimed_1_2 := comes_1 fun _ _ _ _ _ _ h hF => ⟨h.2.1, hF⟩
end Jvm.Pilot.@@N@@
namespace Jvm.Pilot.@@N@@
open Jvm Jvm.ClassFile Sem Op Lib Jvm.Free Jvm.Stand Jvm.Pilot.@@N@@.Jvm.D
/-! MADE BY PROGRAM (witnessworld.py) out of the Statement's table words and the real class files: 14 classes; the members and pool entries that the words name. The judged class is class 1, her method 1. -/
namespace start1
open Jvm.ClassFile
def u (s : String) : CpInfo := .utf8 (stringToUtf16 s)
/-- a pool by its gaps: so many unusable entries, then the entry; so many at the end -/
def gap : Nat → List CpInfo → List CpInfo
  | 0, r => r
  | n + 1, r => .unusable :: gap n r
def poolList (es : List (Nat × CpInfo)) (last : Nat) : List CpInfo := es.foldr (fun e r => gap e.1 (e.2 :: r)) (gap last [])
def pool (es : List (Nat × CpInfo)) (last : Nat) : Array CpInfo := ⟨poolList es last⟩
def fileOf (pool : Array CpInfo) (this : Nat) (attrs : Array Attribute := #[]) (ms : Array MethodInfo := #[]) (fl : Nat := 33) (sup : Nat := 0) (ifs : Array Nat := #[]) (fds : Array FieldInfo := #[]) : ClassFile where
  minorVersion := 0
  majorVersion := 65
  constantPool := pool
  accessFlags := fl
  thisClass := this
  superClass := sup
  interfaces := ifs
  fields := fds
  methods := ms
  attributes := attrs
def plain (name : String) (sup : Option ClassId) : Class where
  name := name
  kind := .ordinary
  loader := none
  accessFlags := 33
  super := sup
  interfaces := #[]
  cf := none
  fields := #[]
  methods := #[]
  instanceTypes := #[]
  staticTypes := #[]
  resolved := #[]
  callSites := []
  init := .initialized
  statics := none
  mirror := none

def pool0 : Array CpInfo := pool [(5, u "<init>"), (0, u "()V"), (1, .class_ 10), (1, u "java/lang/Object")] 113

def k0m0 : Method := { name := "<init>", desc := "()V", sig := { parameters := [], returnType := none }, accessFlags := 1, code := none }
/-- java/lang/Object -/
def k0 : Class := { plain "java/lang/Object" none with
  accessFlags := 33
  interfaces := #[]
  cf := some (fileOf pool0 8 #[] #[{ accessFlags := 1, nameIndex := 5, descriptorIndex := 6, attributes := #[] }] 33 0 #[] #[])
  fields := #[]
  methods := #[k0m0]
  instanceTypes := #[]
  staticTypes := #[]
  resolved := Array.replicate 124 none
  statics := none }

def pool1 : Array CpInfo := pool [(2, .class_ 4), (1, u "java/lang/Object"), (0, u "<init>"), (0, u "()V"), (0, .class_ 8), (0, u "com/example/occurrent/occurrent/xdm/AtomicType"), (0, .fieldref 7 10), (0, .nameAndType 11 12), (0, u "ANY_ATOMIC"), (0, u "Lcom/example/occurrent/occurrent/xdm/AtomicType;"), (0, .fieldref 7 14), (0, .nameAndType 15 12), (0, u "UNTYPED_ATOMIC"), (0, .fieldref 7 17), (0, .nameAndType 18 12), (0, u "STRING"), (0, .fieldref 7 20), (0, .nameAndType 21 12), (0, u "NORMALIZED_STRING"), (0, .fieldref 7 23), (0, .nameAndType 24 12), (0, u "TOKEN"), (0, .fieldref 7 26), (0, .nameAndType 27 12), (0, u "LANGUAGE"), (0, .fieldref 7 29), (0, .nameAndType 30 12), (0, u "NMTOKEN"), (0, .fieldref 7 32), (0, .nameAndType 33 12), (0, u "NAME"), (0, .fieldref 7 35), (0, .nameAndType 36 12), (0, u "NCNAME"), (0, .fieldref 7 38), (0, .nameAndType 39 12), (0, u "ID"), (0, .fieldref 7 41), (0, .nameAndType 42 12), (0, u "IDREF"), (0, .fieldref 7 44), (0, .nameAndType 45 12), (0, u "ENTITY"), (0, .fieldref 7 47), (0, .nameAndType 48 12), (0, u "BOOLEAN"), (0, .fieldref 7 50), (0, .nameAndType 51 12), (0, u "DECIMAL"), (0, .fieldref 7 53), (0, .nameAndType 54 12), (0, u "INTEGER"), (0, .fieldref 7 56), (0, .nameAndType 57 12), (0, u "NON_POSITIVE_INTEGER"), (0, .fieldref 7 59), (0, .nameAndType 60 12), (0, u "NEGATIVE_INTEGER"), (0, .fieldref 7 62), (0, .nameAndType 63 12), (0, u "LONG"), (0, .fieldref 7 65), (0, .nameAndType 66 12), (0, u "INT"), (0, .fieldref 7 68), (0, .nameAndType 69 12), (0, u "SHORT"), (0, .fieldref 7 71), (0, .nameAndType 72 12), (0, u "BYTE"), (0, .fieldref 7 74), (0, .nameAndType 75 12), (0, u "NON_NEGATIVE_INTEGER"), (0, .fieldref 7 77), (0, .nameAndType 78 12), (0, u "UNSIGNED_LONG"), (0, .fieldref 7 80), (0, .nameAndType 81 12), (0, u "UNSIGNED_INT"), (0, .fieldref 7 83), (0, .nameAndType 84 12), (0, u "UNSIGNED_SHORT"), (0, .fieldref 7 86), (0, .nameAndType 87 12), (0, u "UNSIGNED_BYTE"), (0, .fieldref 7 89), (0, .nameAndType 90 12), (0, u "POSITIVE_INTEGER"), (0, .fieldref 7 92), (0, .nameAndType 93 12), (0, u "FLOAT"), (0, .fieldref 7 95), (0, .nameAndType 96 12), (0, u "DOUBLE"), (0, .fieldref 7 98), (0, .nameAndType 99 12), (0, u "NUMERIC"), (0, .fieldref 7 101), (0, .nameAndType 102 12), (0, u "DURATION"), (0, .fieldref 7 104), (0, .nameAndType 105 12), (0, u "YEAR_MONTH_DURATION"), (0, .fieldref 7 107), (0, .nameAndType 108 12), (0, u "DAY_TIME_DURATION"), (0, .fieldref 7 110), (0, .nameAndType 111 12), (0, u "DATE_TIME"), (0, .fieldref 7 113), (0, .nameAndType 114 12), (0, u "TIME"), (0, .fieldref 7 116), (0, .nameAndType 117 12), (0, u "DATE"), (0, .fieldref 7 119), (0, .nameAndType 120 12), (0, u "G_YEAR_MONTH"), (0, .fieldref 7 122), (0, .nameAndType 123 12), (0, u "G_YEAR"), (0, .fieldref 7 125), (0, .nameAndType 126 12), (0, u "G_MONTH_DAY"), (0, .fieldref 7 128), (0, .nameAndType 129 12), (0, u "G_DAY"), (0, .fieldref 7 131), (0, .nameAndType 132 12), (0, u "G_MONTH"), (0, .fieldref 7 134), (0, .nameAndType 135 12), (0, u "HEX_BINARY"), (0, .fieldref 7 137), (0, .nameAndType 138 12), (0, u "BASE64_BINARY"), (0, .fieldref 7 140), (0, .nameAndType 141 12), (0, u "ANY_URI"), (0, .fieldref 7 143), (0, .nameAndType 144 12), (0, u "QNAME"), (0, .fieldref 7 146), (0, .nameAndType 147 12), (0, u "NOTATION"), (0, .integer 2147483647), (0, .methodref 7 150), (0, .nameAndType 151 152), (0, u "isCastTarget"), (0, u "()Z"), (0, .class_ 154), (0, u "com/example/occurrent/occurrent/xdm/AtomicTypeIsCastTargetPinLaw"), (2, u "law"), (0, u "(I)Z")] 5

def k1m0 : Method := { name := "<init>", desc := "()V", sig := { parameters := [], returnType := none }, accessFlags := 2, code := none }
def k1c1 : Code := { maxStack := 4, maxLocals := 5, code := code, exceptionTable := #[], attributes := #[] }
def k1m1 : Method := { name := "law", desc := "(I)Z", sig := { parameters := [.int], returnType := some .boolean }, accessFlags := 9, code := some k1c1 }
/-- com/example/occurrent/occurrent/xdm/AtomicTypeIsCastTargetPinLaw -/
def k1 : Class := { plain "com/example/occurrent/occurrent/xdm/AtomicTypeIsCastTargetPinLaw" (some 0) with
  accessFlags := 49
  interfaces := #[]
  cf := some (fileOf pool1 153 #[] #[{ accessFlags := 2, nameIndex := 5, descriptorIndex := 6, attributes := #[] }, { accessFlags := 9, nameIndex := 157, descriptorIndex := 158, attributes := #[] }] 49 2 #[] #[])
  fields := #[]
  methods := #[k1m0, k1m1]
  instanceTypes := #[]
  staticTypes := #[]
  resolved := Array.replicate 164 none
  statics := none }

def pool2 : Array CpInfo := pool [(1, .class_ 2), (0, u "java/lang/constant/Constable"), (0, .class_ 4), (0, u "java/lang/Object")] 6

/-- java/lang/constant/Constable -/
def k2 : Class := { plain "java/lang/constant/Constable" (some 0) with
  accessFlags := 1537
  interfaces := #[]
  cf := some (fileOf pool2 1 #[] #[] 1537 3 #[] #[])
  fields := #[]
  methods := #[]
  instanceTypes := #[]
  staticTypes := #[]
  resolved := Array.replicate 11 none
  statics := none }

def pool3 : Array CpInfo := pool [(1, .class_ 2), (0, u "java/lang/Comparable"), (0, .class_ 4), (0, u "java/lang/Object")] 7

/-- java/lang/Comparable -/
def k3 : Class := { plain "java/lang/Comparable" (some 0) with
  accessFlags := 1537
  interfaces := #[]
  cf := some (fileOf pool3 1 #[] #[] 1537 3 #[] #[])
  fields := #[]
  methods := #[]
  instanceTypes := #[]
  staticTypes := #[]
  resolved := Array.replicate 12 none
  statics := none }

def pool4 : Array CpInfo := pool [(1, .class_ 2), (0, u "java/io/Serializable"), (0, .class_ 4), (0, u "java/lang/Object")] 2

/-- java/io/Serializable -/
def k4 : Class := { plain "java/io/Serializable" (some 0) with
  accessFlags := 1537
  interfaces := #[]
  cf := some (fileOf pool4 1 #[] #[] 1537 3 #[] #[])
  fields := #[]
  methods := #[]
  instanceTypes := #[]
  staticTypes := #[]
  resolved := Array.replicate 7 none
  statics := none }

def pool5 : Array CpInfo := pool [(2, .class_ 4), (1, u "java/lang/Enum"), (0, u "name"), (0, u "Ljava/lang/String;"), (2, u "ordinal"), (0, u "I"), (1, .class_ 14), (1, u "java/lang/Object"), (4, u "hash"), (86, .class_ 108), (1, u "java/lang/Enum$EnumDesc"), (2, .class_ 112), (0, u "java/lang/constant/Constable"), (0, .class_ 114), (0, u "java/lang/Comparable"), (0, .class_ 116), (0, u "java/io/Serializable")] 87

/-- java/lang/Enum -/
def k5 : Class := { plain "java/lang/Enum" (some 0) with
  accessFlags := 1057
  interfaces := #[2, 3, 4]
  cf := some (fileOf pool5 2 #[.nestMembers #[106]] #[] 1057 12 #[111, 113, 115] #[{ accessFlags := 18, nameIndex := 5, descriptorIndex := 6, attributes := #[] }, { accessFlags := 18, nameIndex := 9, descriptorIndex := 10, attributes := #[] }, { accessFlags := 2, nameIndex := 19, descriptorIndex := 10, attributes := #[] }])
  fields := #[{ name := "name", type := (.object "java/lang/String"), accessFlags := 18, slot := 0, constantValue := 0 }, { name := "ordinal", type := .int, accessFlags := 18, slot := 1, constantValue := 0 }, { name := "hash", type := .int, accessFlags := 2, slot := 2, constantValue := 0 }]
  methods := #[]
  instanceTypes := #[(.object "java/lang/String"), .int, .int]
  staticTypes := #[]
  resolved := Array.replicate 204 none
  statics := none }

def pool6 : Array CpInfo := pool [(13, .class_ 15), (1, u "com/example/occurrent/occurrent/xdm/ItemType"), (27, .class_ 44), (0, u "java/lang/Object")] 8

/-- com/example/occurrent/occurrent/xdm/ItemType -/
def k6 : Class := { plain "com/example/occurrent/occurrent/xdm/ItemType" (some 0) with
  accessFlags := 1537
  interfaces := #[]
  cf := some (fileOf pool6 13 #[] #[] 1537 43 #[] #[])
  fields := #[]
  methods := #[]
  instanceTypes := #[]
  staticTypes := #[]
  resolved := Array.replicate 53 none
  statics := none }

def pool7 : Array CpInfo := pool [(1, .class_ 2), (0, u "com/example/occurrent/occurrent/xdm/AtomicType"), (0, .fieldref 1 4), (0, .nameAndType 5 6), (0, u "ANY_ATOMIC"), (0, u "Lcom/example/occurrent/occurrent/xdm/AtomicType;"), (2, u "UNTYPED_ATOMIC"), (2, u "STRING"), (2, u "NORMALIZED_STRING"), (2, u "TOKEN"), (2, u "LANGUAGE"), (2, u "NMTOKEN"), (2, u "NAME"), (2, u "NCNAME"), (2, u "ID"), (2, u "IDREF"), (2, u "ENTITY"), (2, u "BOOLEAN"), (2, u "DECIMAL"), (2, u "INTEGER"), (2, u "NON_POSITIVE_INTEGER"), (2, u "NEGATIVE_INTEGER"), (2, u "LONG"), (2, u "INT"), (2, u "SHORT"), (2, u "BYTE"), (2, u "NON_NEGATIVE_INTEGER"), (2, u "UNSIGNED_LONG"), (2, u "UNSIGNED_INT"), (2, u "UNSIGNED_SHORT"), (2, u "UNSIGNED_BYTE"), (2, u "POSITIVE_INTEGER"), (2, u "FLOAT"), (2, u "DOUBLE"), (2, u "NUMERIC"), (2, u "DURATION"), (2, u "YEAR_MONTH_DURATION"), (2, u "DAY_TIME_DURATION"), (2, u "DATE_TIME"), (2, u "TIME"), (2, u "DATE"), (2, u "G_YEAR_MONTH"), (2, u "G_YEAR"), (2, u "G_MONTH_DAY"), (2, u "G_DAY"), (2, u "G_MONTH"), (2, u "HEX_BINARY"), (2, u "BASE64_BINARY"), (2, u "ANY_URI"), (2, u "QNAME"), (0, .fieldref 1 140), (0, .nameAndType 141 6), (0, u "NOTATION"), (2, u "$VALUES"), (0, u "[Lcom/example/occurrent/occurrent/xdm/AtomicType;"), (6, .class_ 154), (1, u "java/lang/Enum"), (7, u "Lcom/example/occurrent/occurrent/xdm/Whitespace;"), (17, u "localName"), (0, u "Ljava/lang/String;"), (2, u "base"), (2, u "whitespace"), (2, u "minInclusive"), (0, u "Ljava/math/BigInteger;"), (2, u "maxInclusive"), (2, u "memberTypes"), (0, u "Ljava/util/List;"), (35, u "()Z"), (214, .class_ 450), (0, u "com/example/occurrent/occurrent/xdm/ItemType"), (17, u "isCastTarget")] 34

def k7c0 : Code := { maxStack := 2, maxLocals := 1, code := prog_66_method_13_code, exceptionTable := #[], attributes := #[] }
def k7m0 : Method := { name := "isCastTarget", desc := "()Z", sig := { parameters := [], returnType := some .boolean }, accessFlags := 1, code := some k7c0 }
/-- com/example/occurrent/occurrent/xdm/AtomicType -/
def k7 : Class := { plain "com/example/occurrent/occurrent/xdm/AtomicType" (some 5) with
  accessFlags := 16433
  interfaces := #[6]
  cf := some (fileOf pool7 1 #[] #[{ accessFlags := 1, nameIndex := 468, descriptorIndex := 234, attributes := #[] }] 16433 152 #[449] #[{ accessFlags := 16409, nameIndex := 5, descriptorIndex := 6, attributes := #[] }, { accessFlags := 16409, nameIndex := 9, descriptorIndex := 6, attributes := #[] }, { accessFlags := 16409, nameIndex := 12, descriptorIndex := 6, attributes := #[] }, { accessFlags := 16409, nameIndex := 15, descriptorIndex := 6, attributes := #[] }, { accessFlags := 16409, nameIndex := 18, descriptorIndex := 6, attributes := #[] }, { accessFlags := 16409, nameIndex := 21, descriptorIndex := 6, attributes := #[] }, { accessFlags := 16409, nameIndex := 24, descriptorIndex := 6, attributes := #[] }, { accessFlags := 16409, nameIndex := 27, descriptorIndex := 6, attributes := #[] }, { accessFlags := 16409, nameIndex := 30, descriptorIndex := 6, attributes := #[] }, { accessFlags := 16409, nameIndex := 33, descriptorIndex := 6, attributes := #[] }, { accessFlags := 16409, nameIndex := 36, descriptorIndex := 6, attributes := #[] }, { accessFlags := 16409, nameIndex := 39, descriptorIndex := 6, attributes := #[] }, { accessFlags := 16409, nameIndex := 42, descriptorIndex := 6, attributes := #[] }, { accessFlags := 16409, nameIndex := 45, descriptorIndex := 6, attributes := #[] }, { accessFlags := 16409, nameIndex := 48, descriptorIndex := 6, attributes := #[] }, { accessFlags := 16409, nameIndex := 51, descriptorIndex := 6, attributes := #[] }, { accessFlags := 16409, nameIndex := 54, descriptorIndex := 6, attributes := #[] }, { accessFlags := 16409, nameIndex := 57, descriptorIndex := 6, attributes := #[] }, { accessFlags := 16409, nameIndex := 60, descriptorIndex := 6, attributes := #[] }, { accessFlags := 16409, nameIndex := 63, descriptorIndex := 6, attributes := #[] }, { accessFlags := 16409, nameIndex := 66, descriptorIndex := 6, attributes := #[] }, { accessFlags := 16409, nameIndex := 69, descriptorIndex := 6, attributes := #[] }, { accessFlags := 16409, nameIndex := 72, descriptorIndex := 6, attributes := #[] }, { accessFlags := 16409, nameIndex := 75, descriptorIndex := 6, attributes := #[] }, { accessFlags := 16409, nameIndex := 78, descriptorIndex := 6, attributes := #[] }, { accessFlags := 16409, nameIndex := 81, descriptorIndex := 6, attributes := #[] }, { accessFlags := 16409, nameIndex := 84, descriptorIndex := 6, attributes := #[] }, { accessFlags := 16409, nameIndex := 87, descriptorIndex := 6, attributes := #[] }, { accessFlags := 16409, nameIndex := 90, descriptorIndex := 6, attributes := #[] }, { accessFlags := 16409, nameIndex := 93, descriptorIndex := 6, attributes := #[] }, { accessFlags := 16409, nameIndex := 96, descriptorIndex := 6, attributes := #[] }, { accessFlags := 16409, nameIndex := 99, descriptorIndex := 6, attributes := #[] }, { accessFlags := 16409, nameIndex := 102, descriptorIndex := 6, attributes := #[] }, { accessFlags := 16409, nameIndex := 105, descriptorIndex := 6, attributes := #[] }, { accessFlags := 16409, nameIndex := 108, descriptorIndex := 6, attributes := #[] }, { accessFlags := 16409, nameIndex := 111, descriptorIndex := 6, attributes := #[] }, { accessFlags := 16409, nameIndex := 114, descriptorIndex := 6, attributes := #[] }, { accessFlags := 16409, nameIndex := 117, descriptorIndex := 6, attributes := #[] }, { accessFlags := 16409, nameIndex := 120, descriptorIndex := 6, attributes := #[] }, { accessFlags := 16409, nameIndex := 123, descriptorIndex := 6, attributes := #[] }, { accessFlags := 16409, nameIndex := 126, descriptorIndex := 6, attributes := #[] }, { accessFlags := 16409, nameIndex := 129, descriptorIndex := 6, attributes := #[] }, { accessFlags := 16409, nameIndex := 132, descriptorIndex := 6, attributes := #[] }, { accessFlags := 16409, nameIndex := 135, descriptorIndex := 6, attributes := #[] }, { accessFlags := 16409, nameIndex := 138, descriptorIndex := 6, attributes := #[] }, { accessFlags := 16409, nameIndex := 141, descriptorIndex := 6, attributes := #[] }, { accessFlags := 18, nameIndex := 180, descriptorIndex := 181, attributes := #[] }, { accessFlags := 18, nameIndex := 184, descriptorIndex := 6, attributes := #[] }, { accessFlags := 18, nameIndex := 187, descriptorIndex := 162, attributes := #[] }, { accessFlags := 18, nameIndex := 190, descriptorIndex := 191, attributes := #[] }, { accessFlags := 18, nameIndex := 194, descriptorIndex := 191, attributes := #[] }, { accessFlags := 18, nameIndex := 197, descriptorIndex := 198, attributes := #[] }, { accessFlags := 4122, nameIndex := 144, descriptorIndex := 145, attributes := #[] }])
  fields := #[{ name := "ANY_ATOMIC", type := (.object "com/example/occurrent/occurrent/xdm/AtomicType"), accessFlags := 16409, slot := 0, constantValue := 0 }, { name := "UNTYPED_ATOMIC", type := (.object "com/example/occurrent/occurrent/xdm/AtomicType"), accessFlags := 16409, slot := 1, constantValue := 0 }, { name := "STRING", type := (.object "com/example/occurrent/occurrent/xdm/AtomicType"), accessFlags := 16409, slot := 2, constantValue := 0 }, { name := "NORMALIZED_STRING", type := (.object "com/example/occurrent/occurrent/xdm/AtomicType"), accessFlags := 16409, slot := 3, constantValue := 0 }, { name := "TOKEN", type := (.object "com/example/occurrent/occurrent/xdm/AtomicType"), accessFlags := 16409, slot := 4, constantValue := 0 }, { name := "LANGUAGE", type := (.object "com/example/occurrent/occurrent/xdm/AtomicType"), accessFlags := 16409, slot := 5, constantValue := 0 }, { name := "NMTOKEN", type := (.object "com/example/occurrent/occurrent/xdm/AtomicType"), accessFlags := 16409, slot := 6, constantValue := 0 }, { name := "NAME", type := (.object "com/example/occurrent/occurrent/xdm/AtomicType"), accessFlags := 16409, slot := 7, constantValue := 0 }, { name := "NCNAME", type := (.object "com/example/occurrent/occurrent/xdm/AtomicType"), accessFlags := 16409, slot := 8, constantValue := 0 }, { name := "ID", type := (.object "com/example/occurrent/occurrent/xdm/AtomicType"), accessFlags := 16409, slot := 9, constantValue := 0 }, { name := "IDREF", type := (.object "com/example/occurrent/occurrent/xdm/AtomicType"), accessFlags := 16409, slot := 10, constantValue := 0 }, { name := "ENTITY", type := (.object "com/example/occurrent/occurrent/xdm/AtomicType"), accessFlags := 16409, slot := 11, constantValue := 0 }, { name := "BOOLEAN", type := (.object "com/example/occurrent/occurrent/xdm/AtomicType"), accessFlags := 16409, slot := 12, constantValue := 0 }, { name := "DECIMAL", type := (.object "com/example/occurrent/occurrent/xdm/AtomicType"), accessFlags := 16409, slot := 13, constantValue := 0 }, { name := "INTEGER", type := (.object "com/example/occurrent/occurrent/xdm/AtomicType"), accessFlags := 16409, slot := 14, constantValue := 0 }, { name := "NON_POSITIVE_INTEGER", type := (.object "com/example/occurrent/occurrent/xdm/AtomicType"), accessFlags := 16409, slot := 15, constantValue := 0 }, { name := "NEGATIVE_INTEGER", type := (.object "com/example/occurrent/occurrent/xdm/AtomicType"), accessFlags := 16409, slot := 16, constantValue := 0 }, { name := "LONG", type := (.object "com/example/occurrent/occurrent/xdm/AtomicType"), accessFlags := 16409, slot := 17, constantValue := 0 }, { name := "INT", type := (.object "com/example/occurrent/occurrent/xdm/AtomicType"), accessFlags := 16409, slot := 18, constantValue := 0 }, { name := "SHORT", type := (.object "com/example/occurrent/occurrent/xdm/AtomicType"), accessFlags := 16409, slot := 19, constantValue := 0 }, { name := "BYTE", type := (.object "com/example/occurrent/occurrent/xdm/AtomicType"), accessFlags := 16409, slot := 20, constantValue := 0 }, { name := "NON_NEGATIVE_INTEGER", type := (.object "com/example/occurrent/occurrent/xdm/AtomicType"), accessFlags := 16409, slot := 21, constantValue := 0 }, { name := "UNSIGNED_LONG", type := (.object "com/example/occurrent/occurrent/xdm/AtomicType"), accessFlags := 16409, slot := 22, constantValue := 0 }, { name := "UNSIGNED_INT", type := (.object "com/example/occurrent/occurrent/xdm/AtomicType"), accessFlags := 16409, slot := 23, constantValue := 0 }, { name := "UNSIGNED_SHORT", type := (.object "com/example/occurrent/occurrent/xdm/AtomicType"), accessFlags := 16409, slot := 24, constantValue := 0 }, { name := "UNSIGNED_BYTE", type := (.object "com/example/occurrent/occurrent/xdm/AtomicType"), accessFlags := 16409, slot := 25, constantValue := 0 }, { name := "POSITIVE_INTEGER", type := (.object "com/example/occurrent/occurrent/xdm/AtomicType"), accessFlags := 16409, slot := 26, constantValue := 0 }, { name := "FLOAT", type := (.object "com/example/occurrent/occurrent/xdm/AtomicType"), accessFlags := 16409, slot := 27, constantValue := 0 }, { name := "DOUBLE", type := (.object "com/example/occurrent/occurrent/xdm/AtomicType"), accessFlags := 16409, slot := 28, constantValue := 0 }, { name := "NUMERIC", type := (.object "com/example/occurrent/occurrent/xdm/AtomicType"), accessFlags := 16409, slot := 29, constantValue := 0 }, { name := "DURATION", type := (.object "com/example/occurrent/occurrent/xdm/AtomicType"), accessFlags := 16409, slot := 30, constantValue := 0 }, { name := "YEAR_MONTH_DURATION", type := (.object "com/example/occurrent/occurrent/xdm/AtomicType"), accessFlags := 16409, slot := 31, constantValue := 0 }, { name := "DAY_TIME_DURATION", type := (.object "com/example/occurrent/occurrent/xdm/AtomicType"), accessFlags := 16409, slot := 32, constantValue := 0 }, { name := "DATE_TIME", type := (.object "com/example/occurrent/occurrent/xdm/AtomicType"), accessFlags := 16409, slot := 33, constantValue := 0 }, { name := "TIME", type := (.object "com/example/occurrent/occurrent/xdm/AtomicType"), accessFlags := 16409, slot := 34, constantValue := 0 }, { name := "DATE", type := (.object "com/example/occurrent/occurrent/xdm/AtomicType"), accessFlags := 16409, slot := 35, constantValue := 0 }, { name := "G_YEAR_MONTH", type := (.object "com/example/occurrent/occurrent/xdm/AtomicType"), accessFlags := 16409, slot := 36, constantValue := 0 }, { name := "G_YEAR", type := (.object "com/example/occurrent/occurrent/xdm/AtomicType"), accessFlags := 16409, slot := 37, constantValue := 0 }, { name := "G_MONTH_DAY", type := (.object "com/example/occurrent/occurrent/xdm/AtomicType"), accessFlags := 16409, slot := 38, constantValue := 0 }, { name := "G_DAY", type := (.object "com/example/occurrent/occurrent/xdm/AtomicType"), accessFlags := 16409, slot := 39, constantValue := 0 }, { name := "G_MONTH", type := (.object "com/example/occurrent/occurrent/xdm/AtomicType"), accessFlags := 16409, slot := 40, constantValue := 0 }, { name := "HEX_BINARY", type := (.object "com/example/occurrent/occurrent/xdm/AtomicType"), accessFlags := 16409, slot := 41, constantValue := 0 }, { name := "BASE64_BINARY", type := (.object "com/example/occurrent/occurrent/xdm/AtomicType"), accessFlags := 16409, slot := 42, constantValue := 0 }, { name := "ANY_URI", type := (.object "com/example/occurrent/occurrent/xdm/AtomicType"), accessFlags := 16409, slot := 43, constantValue := 0 }, { name := "QNAME", type := (.object "com/example/occurrent/occurrent/xdm/AtomicType"), accessFlags := 16409, slot := 44, constantValue := 0 }, { name := "NOTATION", type := (.object "com/example/occurrent/occurrent/xdm/AtomicType"), accessFlags := 16409, slot := 45, constantValue := 0 }, { name := "localName", type := (.object "java/lang/String"), accessFlags := 18, slot := 3, constantValue := 0 }, { name := "base", type := (.object "com/example/occurrent/occurrent/xdm/AtomicType"), accessFlags := 18, slot := 4, constantValue := 0 }, { name := "whitespace", type := (.object "com/example/occurrent/occurrent/xdm/Whitespace"), accessFlags := 18, slot := 5, constantValue := 0 }, { name := "minInclusive", type := (.object "java/math/BigInteger"), accessFlags := 18, slot := 6, constantValue := 0 }, { name := "maxInclusive", type := (.object "java/math/BigInteger"), accessFlags := 18, slot := 7, constantValue := 0 }, { name := "memberTypes", type := (.object "java/util/List"), accessFlags := 18, slot := 8, constantValue := 0 }, { name := "$VALUES", type := (.array (.object "com/example/occurrent/occurrent/xdm/AtomicType")), accessFlags := 4122, slot := 46, constantValue := 0 }]
  methods := #[k7m0]
  instanceTypes := #[(.object "java/lang/String"), .int, .int, (.object "java/lang/String"), (.object "com/example/occurrent/occurrent/xdm/AtomicType"), (.object "com/example/occurrent/occurrent/xdm/Whitespace"), (.object "java/math/BigInteger"), (.object "java/math/BigInteger"), (.object "java/util/List")]
  staticTypes := #[(.object "com/example/occurrent/occurrent/xdm/AtomicType"), (.object "com/example/occurrent/occurrent/xdm/AtomicType"), (.object "com/example/occurrent/occurrent/xdm/AtomicType"), (.object "com/example/occurrent/occurrent/xdm/AtomicType"), (.object "com/example/occurrent/occurrent/xdm/AtomicType"), (.object "com/example/occurrent/occurrent/xdm/AtomicType"), (.object "com/example/occurrent/occurrent/xdm/AtomicType"), (.object "com/example/occurrent/occurrent/xdm/AtomicType"), (.object "com/example/occurrent/occurrent/xdm/AtomicType"), (.object "com/example/occurrent/occurrent/xdm/AtomicType"), (.object "com/example/occurrent/occurrent/xdm/AtomicType"), (.object "com/example/occurrent/occurrent/xdm/AtomicType"), (.object "com/example/occurrent/occurrent/xdm/AtomicType"), (.object "com/example/occurrent/occurrent/xdm/AtomicType"), (.object "com/example/occurrent/occurrent/xdm/AtomicType"), (.object "com/example/occurrent/occurrent/xdm/AtomicType"), (.object "com/example/occurrent/occurrent/xdm/AtomicType"), (.object "com/example/occurrent/occurrent/xdm/AtomicType"), (.object "com/example/occurrent/occurrent/xdm/AtomicType"), (.object "com/example/occurrent/occurrent/xdm/AtomicType"), (.object "com/example/occurrent/occurrent/xdm/AtomicType"), (.object "com/example/occurrent/occurrent/xdm/AtomicType"), (.object "com/example/occurrent/occurrent/xdm/AtomicType"), (.object "com/example/occurrent/occurrent/xdm/AtomicType"), (.object "com/example/occurrent/occurrent/xdm/AtomicType"), (.object "com/example/occurrent/occurrent/xdm/AtomicType"), (.object "com/example/occurrent/occurrent/xdm/AtomicType"), (.object "com/example/occurrent/occurrent/xdm/AtomicType"), (.object "com/example/occurrent/occurrent/xdm/AtomicType"), (.object "com/example/occurrent/occurrent/xdm/AtomicType"), (.object "com/example/occurrent/occurrent/xdm/AtomicType"), (.object "com/example/occurrent/occurrent/xdm/AtomicType"), (.object "com/example/occurrent/occurrent/xdm/AtomicType"), (.object "com/example/occurrent/occurrent/xdm/AtomicType"), (.object "com/example/occurrent/occurrent/xdm/AtomicType"), (.object "com/example/occurrent/occurrent/xdm/AtomicType"), (.object "com/example/occurrent/occurrent/xdm/AtomicType"), (.object "com/example/occurrent/occurrent/xdm/AtomicType"), (.object "com/example/occurrent/occurrent/xdm/AtomicType"), (.object "com/example/occurrent/occurrent/xdm/AtomicType"), (.object "com/example/occurrent/occurrent/xdm/AtomicType"), (.object "com/example/occurrent/occurrent/xdm/AtomicType"), (.object "com/example/occurrent/occurrent/xdm/AtomicType"), (.object "com/example/occurrent/occurrent/xdm/AtomicType"), (.object "com/example/occurrent/occurrent/xdm/AtomicType"), (.object "com/example/occurrent/occurrent/xdm/AtomicType"), (.array (.object "com/example/occurrent/occurrent/xdm/AtomicType"))]
  resolved := Array.replicate 503 none
  statics := some 0 }

def pool8 : Array CpInfo := pool [(1, u "java/lang/Cloneable"), (0, .class_ 1), (0, u "java/lang/Object"), (0, .class_ 3)] 3

/-- java/lang/Cloneable -/
def k8 : Class := { plain "java/lang/Cloneable" (some 0) with
  accessFlags := 1537
  interfaces := #[]
  cf := some (fileOf pool8 2 #[] #[] 1537 4 #[] #[])
  fields := #[]
  methods := #[]
  instanceTypes := #[]
  staticTypes := #[]
  resolved := Array.replicate 8 none
  statics := none }

/-- the primitive byte -/
def k9 : Class := { plain "byte" none with kind := .primitive 'B', accessFlags := 0x411 }
/-- [B -/
def k10 : Class := { plain "[B" (some 0) with kind := .array 9 .byte, interfaces := #[8, 4], accessFlags := 1041 }

/-- the primitive int -/
def k11 : Class := { plain "int" none with kind := .primitive 'I', accessFlags := 0x411 }
/-- [I -/
def k12 : Class := { plain "[I" (some 0) with kind := .array 11 .int, interfaces := #[8, 4], accessFlags := 1041 }

/-- [Lcom/example/occurrent/occurrent/xdm/AtomicType; -/
def k13 : Class := { plain "[Lcom/example/occurrent/occurrent/xdm/AtomicType;" (some 0) with kind := .array 7 (.object "com/example/occurrent/occurrent/xdm/AtomicType"), interfaces := #[8, 4], accessFlags := 1041 }

def heap : Heap := #[{ cls := 7, slots := #[.ref 1, .ref 2, .ref 3, .ref 4, .ref 5, .ref 6, .ref 7, .ref 8, .ref 9, .ref 10, .ref 11, .ref 12, .ref 13, .ref 14, .ref 15, .ref 16, .ref 17, .ref 18, .ref 19, .ref 20, .ref 21, .ref 22, .ref 23, .ref 24, .ref 25, .ref 26, .ref 27, .ref 28, .ref 29, .ref 30, .ref 31, .ref 32, .ref 33, .ref 34, .ref 35, .ref 36, .ref 37, .ref 38, .ref 39, .ref 40, .ref 41, .ref 42, .ref 43, .ref 44, .ref 45, .ref 46, .null], vm := .statics 7 },
  { cls := 7, slots := #[.null, .int 0, .int 0, .null, .null, .null, .null, .null, .null], vm := .none },
  { cls := 7, slots := #[.null, .int 1, .int 0, .null, .null, .null, .null, .null, .null], vm := .none },
  { cls := 7, slots := #[.null, .int 2, .int 0, .null, .null, .null, .null, .null, .null], vm := .none },
  { cls := 7, slots := #[.null, .int 3, .int 0, .null, .null, .null, .null, .null, .null], vm := .none },
  { cls := 7, slots := #[.null, .int 4, .int 0, .null, .null, .null, .null, .null, .null], vm := .none },
  { cls := 7, slots := #[.null, .int 5, .int 0, .null, .null, .null, .null, .null, .null], vm := .none },
  { cls := 7, slots := #[.null, .int 6, .int 0, .null, .null, .null, .null, .null, .null], vm := .none },
  { cls := 7, slots := #[.null, .int 7, .int 0, .null, .null, .null, .null, .null, .null], vm := .none },
  { cls := 7, slots := #[.null, .int 8, .int 0, .null, .null, .null, .null, .null, .null], vm := .none },
  { cls := 7, slots := #[.null, .int 9, .int 0, .null, .null, .null, .null, .null, .null], vm := .none },
  { cls := 7, slots := #[.null, .int 10, .int 0, .null, .null, .null, .null, .null, .null], vm := .none },
  { cls := 7, slots := #[.null, .int 11, .int 0, .null, .null, .null, .null, .null, .null], vm := .none },
  { cls := 7, slots := #[.null, .int 12, .int 0, .null, .null, .null, .null, .null, .null], vm := .none },
  { cls := 7, slots := #[.null, .int 13, .int 0, .null, .null, .null, .null, .null, .null], vm := .none },
  { cls := 7, slots := #[.null, .int 14, .int 0, .null, .null, .null, .null, .null, .null], vm := .none },
  { cls := 7, slots := #[.null, .int 15, .int 0, .null, .null, .null, .null, .null, .null], vm := .none },
  { cls := 7, slots := #[.null, .int 16, .int 0, .null, .null, .null, .null, .null, .null], vm := .none },
  { cls := 7, slots := #[.null, .int 17, .int 0, .null, .null, .null, .null, .null, .null], vm := .none },
  { cls := 7, slots := #[.null, .int 18, .int 0, .null, .null, .null, .null, .null, .null], vm := .none },
  { cls := 7, slots := #[.null, .int 19, .int 0, .null, .null, .null, .null, .null, .null], vm := .none },
  { cls := 7, slots := #[.null, .int 20, .int 0, .null, .null, .null, .null, .null, .null], vm := .none },
  { cls := 7, slots := #[.null, .int 21, .int 0, .null, .null, .null, .null, .null, .null], vm := .none },
  { cls := 7, slots := #[.null, .int 22, .int 0, .null, .null, .null, .null, .null, .null], vm := .none },
  { cls := 7, slots := #[.null, .int 23, .int 0, .null, .null, .null, .null, .null, .null], vm := .none },
  { cls := 7, slots := #[.null, .int 24, .int 0, .null, .null, .null, .null, .null, .null], vm := .none },
  { cls := 7, slots := #[.null, .int 25, .int 0, .null, .null, .null, .null, .null, .null], vm := .none },
  { cls := 7, slots := #[.null, .int 26, .int 0, .null, .null, .null, .null, .null, .null], vm := .none },
  { cls := 7, slots := #[.null, .int 27, .int 0, .null, .null, .null, .null, .null, .null], vm := .none },
  { cls := 7, slots := #[.null, .int 28, .int 0, .null, .null, .null, .null, .null, .null], vm := .none },
  { cls := 7, slots := #[.null, .int 29, .int 0, .null, .null, .null, .null, .null, .null], vm := .none },
  { cls := 7, slots := #[.null, .int 30, .int 0, .null, .null, .null, .null, .null, .null], vm := .none },
  { cls := 7, slots := #[.null, .int 31, .int 0, .null, .null, .null, .null, .null, .null], vm := .none },
  { cls := 7, slots := #[.null, .int 32, .int 0, .null, .null, .null, .null, .null, .null], vm := .none },
  { cls := 7, slots := #[.null, .int 33, .int 0, .null, .null, .null, .null, .null, .null], vm := .none },
  { cls := 7, slots := #[.null, .int 34, .int 0, .null, .null, .null, .null, .null, .null], vm := .none },
  { cls := 7, slots := #[.null, .int 35, .int 0, .null, .null, .null, .null, .null, .null], vm := .none },
  { cls := 7, slots := #[.null, .int 36, .int 0, .null, .null, .null, .null, .null, .null], vm := .none },
  { cls := 7, slots := #[.null, .int 37, .int 0, .null, .null, .null, .null, .null, .null], vm := .none },
  { cls := 7, slots := #[.null, .int 38, .int 0, .null, .null, .null, .null, .null, .null], vm := .none },
  { cls := 7, slots := #[.null, .int 39, .int 0, .null, .null, .null, .null, .null, .null], vm := .none },
  { cls := 7, slots := #[.null, .int 40, .int 0, .null, .null, .null, .null, .null, .null], vm := .none },
  { cls := 7, slots := #[.null, .int 41, .int 0, .null, .null, .null, .null, .null, .null], vm := .none },
  { cls := 7, slots := #[.null, .int 42, .int 0, .null, .null, .null, .null, .null, .null], vm := .none },
  { cls := 7, slots := #[.null, .int 43, .int 0, .null, .null, .null, .null, .null, .null], vm := .none },
  { cls := 7, slots := #[.null, .int 44, .int 0, .null, .null, .null, .null, .null, .null], vm := .none },
  { cls := 7, slots := #[.null, .int 45, .int 0, .null, .null, .null, .null, .null, .null], vm := .none }]
def classes : Array Class := #[k0, k1, k2, k3, k4, k5, k6, k7, k8, k9, k10, k11, k12, k13]
def interned : List (Array UInt16 × Addr) := []
def slotsUsed : Nat := 461
def theMethod : MethodId := ⟨1, 1⟩
def args0 : Array Value := #[.int 5]
def aboutOver (below : List Frame) : State where
  vm := { classes := classes, interned := interned.toArray }
  heap := heap
  slotsUsed := slotsUsed
  threads := #[{ frames := .invoking theMethod args0 :: below }]
def below0 : List Frame := [.native { method := ⟨0, 0⟩, args := #[] }]
def about1 : State := aboutOver below0
def p0 : Program := .bare "" "" ""
def e0 : Env := launch0.env 0 0 0
theorem w_frames : about1.frames = Frame.invoking theMethod args0 :: below0 := rfl
set_option maxRecDepth 65536 in
theorem w_args : argsFit about1.vm theMethod args0 = true := by decide +kernel
set_option maxRecDepth 65536 in
theorem w_heap : heapFits about1 = true := by decide +kernel
set_option maxRecDepth 65536 in
theorem w_runnable : about1.curStatus? = some .runnable := by decide +kernel
set_option maxRecDepth 65536 in
theorem w_alone : about1.alone = true := by decide +kernel
set_option maxRecDepth 65536 in
theorem w_named : about1.methodNamed? x = some theMethod := by decide +kernel
set_option maxRecDepth 65536 in
theorem w_hears : about1.hears theMethod below0 = true := by decide +kernel
set_option maxRecDepth 65536 in
theorem w_ripe : about1.ripe theMethod args0 below0 = true := by decide +kernel
theorem w_running : about1.status = .running := rfl
set_option maxRecDepth 65536 in
theorem w_room : about1.hasRoom e0.platform room_1 = true :=
  launch0.hasRoom_least _ room_1 (by decide +kernel) (by decide +kernel) (by decide +kernel) (by decide +kernel) (by decide +kernel) (by decide +kernel)
theorem allAtoms_all (ts : List Jvm.Cond) (a : Array Jvm.Value) (st : Jvm.State) : (allAtoms ts).before a st = ts.all (fun c => c.before a st) := by
  induction ts with
  | nil => rfl
  | cons c t ih =>
    show (Jvm.Cond.and c (allAtoms t)).before a st = _
    rw [Jvm.Cond.before_and, ih, List.all_cons]
def words1 : List Jvm.Cond := Jvm.Cond.code x code maxLocals ret :: tables_1
/-- a 'code' word, met by the world's own term for the bytes: nothing is compared byte by byte -/
theorem code_word {y : MethodName} {bytes : ByteArray} {mx : Nat} {rt : Option FieldType} {a : Array Value} {s : State} {m : MethodId} {meth : Method} {c : Code} (h1 : s.methodNamed? y = some m) (h2 : s.vm.method? m = some meth) (h3 : meth.code = some c) (h4 : c.code = bytes)
    (h5 : (c.maxLocals == mx && c.exceptionTable.isEmpty && decide (c.maxStack ≤ mostOperands) && decide (meth.sig.returnType = rt) && !meth.locks && decide (parseMethodDescriptor y.desc = some meth.sig)) = true) : (Jvm.Cond.code y bytes mx rt).before a s = true := by
  simp only [Bool.and_eq_true, beq_iff_eq, Bool.not_eq_true', decide_eq_true_eq] at h5
  obtain ⟨⟨⟨⟨⟨g1, g2⟩, g3⟩, g4⟩, g5⟩, g6⟩ := h5
  simp [Cond.before, Cond.holds, Cond.value, h1, h2, h3, h4, g1, g2, g3, g4, g5, g6]
def isCode : Jvm.Cond → Bool
  | .code _ _ _ _ => true
  | _ => false
theorem all_split {L : List Jvm.Cond} {P : Jvm.Cond → Bool} (h1 : L.all (fun c => isCode c || P c) = true) (h2 : ∀ c ∈ L.filter isCode, P c = true) : L.all P = true := by
  refine List.all_eq_true.mpr fun c hc => ?_
  have h := List.all_eq_true.mp h1 c hc
  rcases Bool.eq_false_or_eq_true (isCode c) with hi | hi
  · exact h2 c (List.mem_filter.mpr ⟨hc, hi⟩)
  · simpa [hi] using h
set_option maxRecDepth 65536 in
theorem w_c0 : (Jvm.Cond.code x code maxLocals ret).before args0 about1 = true := code_word (m := ⟨1, 1⟩) (meth := k1m1) (c := k1c1) (by decide +kernel) rfl rfl rfl (by decide +kernel)
set_option maxRecDepth 65536 in
theorem w_c1 : (Jvm.Cond.code ({ cls := "com/example/occurrent/occurrent/xdm/AtomicType", name := "isCastTarget", desc := "()Z" } : Jvm.MethodName) prog_66_method_13_code (1 : Nat) (Option.some Jvm.ClassFile.FieldType.boolean)).before args0 about1 = true := code_word (m := ⟨7, 0⟩) (meth := k7m0) (c := k7c0) (by decide +kernel) rfl rfl rfl (by decide +kernel)
def codes1 : List Jvm.Cond := [Jvm.Cond.code x code maxLocals ret, Jvm.Cond.code ({ cls := "com/example/occurrent/occurrent/xdm/AtomicType", name := "isCastTarget", desc := "()Z" } : Jvm.MethodName) prog_66_method_13_code (1 : Nat) (Option.some Jvm.ClassFile.FieldType.boolean)]
set_option maxRecDepth 65536 in
theorem codes_eq : words1.filter isCode = codes1 := rfl
theorem w_codes : ∀ c ∈ words1.filter isCode, c.before args0 about1 = true := by
  rw [codes_eq]
  intro c hc
  simp only [codes1, List.mem_cons, List.not_mem_nil, or_false] at hc
  rcases hc with rfl | rfl
  · exact w_c0
  · exact w_c1
set_option maxRecDepth 65536 in
theorem w_t1 : (words1.take 24).all (fun c => isCode c || c.before args0 about1) = true := by decide +kernel
set_option maxRecDepth 65536 in
theorem w_t2 : ((words1.drop 24).take 24).all (fun c => isCode c || c.before args0 about1) = true := by decide +kernel
set_option maxRecDepth 65536 in
theorem w_t3 : (((words1.drop 24).drop 24).take 24).all (fun c => isCode c || c.before args0 about1) = true := by decide +kernel
set_option maxRecDepth 65536 in
theorem w_t4 : ((((words1.drop 24).drop 24).drop 24).take 24).all (fun c => isCode c || c.before args0 about1) = true := by decide +kernel
set_option maxRecDepth 65536 in
theorem w_t5 : ((((words1.drop 24).drop 24).drop 24).drop 24).all (fun c => isCode c || c.before args0 about1) = true := by decide +kernel
theorem w_tables : (allAtoms (Jvm.Cond.code x code maxLocals ret :: tables_1)).before args0 about1 = true := by
  rw [allAtoms_all]
  show words1.all (fun c => c.before args0 about1) = true
  refine all_split ?_ w_codes
  rw [← List.take_append_drop 24 words1, List.all_append, w_t1, ← List.take_append_drop 24 (words1.drop 24), List.all_append, w_t2, ← List.take_append_drop 24 ((words1.drop 24).drop 24), List.all_append, w_t3, ← List.take_append_drop 24 (((words1.drop 24).drop 24).drop 24), List.all_append, w_t4, w_t5]
  rfl
set_option maxRecDepth 65536 in
theorem w_case : (Jvm.Cond.and given_1 narrow_1).before args0 about1 = true := by decide +kernel
theorem w_applies : (headSpec (Jvm.Cond.code x code maxLocals ret :: tables_1) room_1).applies x e0.platform about1 = true :=
  (Spec.applies_iff w_frames).mpr ⟨w_running, w_runnable, w_alone, w_named, w_hears, w_ripe, w_room, w_tables⟩
theorem atStart : AtStart classFile x code maxLocals ret World_1 tables_1 room_1 Calls_1 rest_1 Pre_1 launch0 p0 e0 about1 theMethod args0 below0 :=
  ⟨lists_1, trivial, launch0.admits_env _ _ _, launch0.least_env, fairChoices_fair.cas, fairChoices_fair.clock, w_frames, w_args, w_heap, w_applies, trivial, trivial, w_case⟩
end start1
theorem witness_1 : WitnessClaimed_1 := ⟨start1.p0, start1.e0, start1.about1, start1.theMethod, start1.args0, start1.below0, start1.atStart⟩
end Jvm.Pilot.@@N@@
