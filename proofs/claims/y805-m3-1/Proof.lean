import JvmDerived
import JvmDerived.Pilot.@@N@@Statement
import JvmDerived.Pilot.@@N@@Code
set_option linter.unusedVariables false
set_option linter.unusedSimpArgs false
@@BLOCK:NumsL.lean.txt@@
namespace Jvm.Pilot.@@N@@
open Jvm Jvm.ClassFile Sem Op Lib Jvm.Free Jvm.Stand Jvm.LawKit Jvm.RoadKit Bundle Jvm.Pilot.@@N@@.Jvm.D
/-- from here the run comes to its end, and G holds there -/
def Go (p : Program) (e : Env) (below : List Frame) (G : Outcome → State → Prop) (T : State) (g : JFrame) : Prop := ∃ s₂ o, Steps p.tables e below (T.setTop g) s₂ ∧ s₂.status = .running ∧ Ended s₂ below o ∧ G o s₂
theorem Go.on {p : Program} {e : Env} {below : List Frame} {G : Outcome → State → Prop} {T T' : State} {g g' : JFrame} (h : ∀ t, Steps p.tables e below (T'.setTop g') t → Steps p.tables e below (T.setTop g) t) (k : Go p e below G T' g') : Go p e below G T g := by
  obtain ⟨s2, o, k1, k2⟩ := k
  exact ⟨s2, o, h _ k1, k2⟩
/-- a body that writes nothing: what it returns; the heap as it was -/
def Qp (r : Option Value) (h0 : Heap) (n0 : Nat) (v : Option Value) (h : Heap) (L : List Loc) : Prop := v = r ∧ Fr n0 L ∧ h = h0
def Ql (r : Option Value) (n0 : Nat) (v : Option Value) (L : List Loc) : Prop := v = r ∧ Fr n0 L
/-- a body that only makes new cells -/
def Qx (r : Option Value) (F : Heap → Prop) (h0 : Heap) (n0 : Nat) (v : Option Value) (h : Heap) (L : List Loc) : Prop := v = r ∧ Fr n0 L ∧ Ext h0 h ∧ F h
theorem own_ext0 (h : Heap) : Ext h h := ⟨Nat.le_refl _, fun _ _ q => q⟩
theorem own_ext2 {a b c : Heap} (E : Ext a b) (F : Ext b c) : Ext a c := ⟨Nat.le_trans E.1 F.1, fun x y q => F.2 x y (E.2 x y q)⟩
theorem own_extw {h0 h h' : Heap} {a : Addr} {sl : Nat} {v : Value} (E : Ext h0 h) (W : Wr h h' a sl v) (q : h0.size ≤ a) : Ext h0 h' := by
  refine ⟨by rw [W.size]; exact E.1, fun x c hx => ?_⟩
  obtain ⟨c', g1, -, -, -, g5, -⟩ := wr_at W (E.2 x c hx)
  have hne : x ≠ a := Nat.ne_of_lt (Nat.lt_of_lt_of_le (Array.getElem?_eq_some_iff.mp hx).1 q)
  rw [g1, g5 hne]
theorem own_extE {h a b : Heap} (e : a = b) (X : Ext h b) : Ext h a := e ▸ X
theorem own_arrE {Z : State} {a b : Heap} {x : Addr} {c : Cell} {ty : FieldType} (e : a = b) (A : Arr Z b x c ty) : Arr Z a x c ty := e ▸ A
theorem own_ne {Z : State} {h : Heap} {a b : Addr} {C n d : String} {v v' : Value} (F : Fld Z h a C n d v) (G : Fld Z h b C n d v') (hv : v ≠ v') : ¬ (a = b) := by
  rintro rfl
  obtain ⟨cell, cf, k, i, f, h1, h2, -, -, -, -, h7⟩ := F
  obtain ⟨cell', cf', k', i', f', g1, g2, -, -, -, -, g7⟩ := G
  cases h1.symm.trans g1
  cases h2.symm.trans g2
  exact hv (Option.some.inj (h7.symm.trans g7))
theorem own_irrI (x : Int32) : ¬ (x < x) := by simp
theorem own_irrJ (x : Int64) : ¬ (x < x) := by simp
theorem own_eqI {args : Array Value} {s : State} {t : Term} {n : Int32} (h : (Jvm.Cond.eq t (.int n)).value args s none s [] = some true) : t.eval args s none [] s = some (.int n) := by
  exact eqv_i (Term.int_eval n) h
theorem own_len {args : Array Value} {s : State} {t : Term} {n : Int32} {a : Addr} {cl : Cell} {ty : FieldType} {k : Nat} (h : (Term.length t).eval args s none [] s = some (.int n)) (ht : t.eval args s none [] s = some (.ref a)) (A : Arr s s.heap a cl ty) (hk : n.toInt = k) : cl.slots.size = k := by
  have ha := A.fin (U := s) (Vm.Alike.refl _)
  by_cases hl : cl.slots.size < 2 ^ 31
  · have e := (len_f ht ha hl).symm.trans h
    have e2 : cl.slots.size.toInt32 = n := by simpa using e
    have e3 := len_toInt hl
    rw [e2, hk] at e3
    omega
  · simp [Term.eval, ht, ha, hl] at h
theorem own_slots {cl : Cell} {vs : List Value} (h1 : cl.slots.size = vs.length) (h2 : ∀ (i : Nat) (v : Value), vs[i]? = some v → cl.slots[i]? = some v) : cl.slots = vs.toArray := by
  apply Array.ext
  · simp [h1]
  · intro i hi hj
    have hj' : i < vs.length := by simpa using hj
    have q := h2 i vs[i] (by simp [hj'])
    rw [Array.getElem?_eq_getElem hi] at q
    simpa using q
theorem own_eqR {args : Array Value} {s : State} {t u : Term} {a : Addr} (h : (Jvm.Cond.eq t u).value args s none s [] = some true) (hu : u.eval args s none [] s = some (.ref a)) : t.eval args s none [] s = some (.ref a) := by
  obtain ⟨x, y, h1, h2, k1, k2⟩ := cmp_v (Or.inl h)
  cases h2.symm.trans hu
  have q := gotT (eq_R h1 h2 k2.2 rfl) h
  rw [h1, q]
def Qg (P : Option Value → Heap → Prop) (n : Nat) (v : Option Value) (h : Heap) (L : List Loc) : Prop := P v h ∧ Fr n L
theorem own_extK {hB h h' : Heap} {ws : List Addr} (E : Ext hB h) (K : Keep h h' ws) (q : ∀ x ∈ ws, hB.size ≤ x) : Ext hB h' :=
  ⟨Nat.le_trans E.1 K.1, fun x c hx => K.2.1 x c (E.2 x c hx) fun hm => Nat.not_lt.mpr (q x hm) (Array.getElem?_eq_some_iff.mp hx).1⟩
theorem own_arrK {Z : State} {h h' : Heap} {a : Addr} {c : Cell} {ty : FieldType} {ws : List Addr} (A : Arr Z h a c ty) (K : Keep h h' ws) (q : a ∉ ws) : Arr Z h' a c ty := ⟨K.2.1 a c A.1 q, A.2⟩
def own_as (Z : State) (C K : String) : Prop := ∃ c t, Z.vm.findClass C = some c ∧ Z.vm.findClass K = some t ∧ Z.vm.assignable c t = true
theorem own_asYes {Z : State} {h : Heap} {a : Addr} {C K : String} (E : Exa Z h a C) (q : own_as Z C K) : Ins Z h a K true := by
  obtain ⟨cell, k, h1, h2, -, h4, -⟩ := E
  obtain ⟨c, t, g1, g2, g3⟩ := q
  cases h2.symm.trans g1
  exact ⟨cell, t, h1, g2, by simp [h4, g3]⟩
theorem own_asNo {Z : State} {h : Heap} {a0 : Array Value} {a : Addr} {C K own : String} {index : Nat} {d : ClassId} (E : Exa Z h a C) (hd : Z.vm.findClass own = some d) (w : (Jvm.Cond.classLink own index K).before a0 Z = true) (q : ¬ own_as Z C K) : ∃ c t, Z.vm.findClass C = some c ∧ Z.vm.findClass K = some t ∧ Z.vm.assignable c t = false := by
  obtain ⟨cell, k, h1, h2, -, h4, -⟩ := E
  obtain ⟨t, ht, -⟩ := Cond.classLink_spec hd w {} rfl
  refine ⟨_, t, h2, ht, ?_⟩
  cases hq : Z.vm.assignable cell.cls t with
  | false => rfl
  | true => exact absurd ⟨_, t, h2, ht, hq⟩ q
theorem own_cache {Z : State} {args : Array Value} {t : Term} {a : Addr} {c : Cell} {K : String} {q : Jvm.Cond} (et : ∀ idx, t.eval args Z none idx Z = some (.ref a)) (A : Arr Z Z.heap a c (.object K))
    (h : (Jvm.Cond.all t (.and (.exactly (.elem t (.index 0)) K) q)).value args Z none Z [] = some true) (j : Int32) (hj : ¬ (j < 0 ∨ c.slots.size ≤ j.toNatClampNeg)) : ∃ b, c.slots[j.toNatClampNeg]? = some (.ref b) ∧ Exa Z Z.heap b K := by
  have nn : ¬ j < 0 := fun x => hj (Or.inl x)
  obtain ⟨u1, -⟩ := and_e (Cond.all_elim (et []) (A.fin (Vm.Alike.refl _)) h j.toNatClampNeg (Nat.lt_of_not_le fun x => hj (Or.inr x)))
  obtain ⟨box, eb⟩ := exa_v u1
  exact ⟨box, (elem_f (et _) (idx_at nn) (A.fin (Vm.Alike.refl _)) nn).symm.trans eb, exa_at eb u1⟩
theorem own_at {P : Heap → Prop} {a b : Heap} (e : a = b) (q : P b) : P a := e ▸ q
def Pins (Z : State) (h : Heap) (w : Nat → Addr) : Prop :=
  Sta Z h "java/util/ImmutableCollections" "EMPTY_LIST" "Ljava/util/ImmutableCollections$ListN;" (.ref (w 1)) ∧
  Exa Z h (w 1) "java/util/ImmutableCollections$ListN" ∧
  Exa Z h (w 0) "[Ljava/lang/Object;" ∧
  Fld Z h (w 1) "java/util/ImmutableCollections$ListN" "elements" "[Ljava/lang/Object;" (.ref (w 0)) ∧
  Fld Z h (w 1) "java/util/ImmutableCollections$ListN" "allowNulls" "Z" (.int (0 : Int32)) ∧
  (∃ cl : Cell, Arr Z h (w 0) cl (.object "java/lang/Object") ∧ cl.slots = #[] ∧ FitC Z cl) ∧
  True
theorem pin_0 {Z : State} {h : Heap} {w : Nat → Addr} (P : Pins Z h w) : Sta Z h "java/util/ImmutableCollections" "EMPTY_LIST" "Ljava/util/ImmutableCollections$ListN;" (.ref (w 1)) := P.1
theorem pin_1 {Z : State} {h : Heap} {w : Nat → Addr} (P : Pins Z h w) : Exa Z h (w 1) "java/util/ImmutableCollections$ListN" := P.2.1
theorem pin_2 {Z : State} {h : Heap} {w : Nat → Addr} (P : Pins Z h w) : Exa Z h (w 0) "[Ljava/lang/Object;" := P.2.2.1
theorem pin_3 {Z : State} {h : Heap} {w : Nat → Addr} (P : Pins Z h w) : Fld Z h (w 1) "java/util/ImmutableCollections$ListN" "elements" "[Ljava/lang/Object;" (.ref (w 0)) := P.2.2.2.1
theorem pin_4 {Z : State} {h : Heap} {w : Nat → Addr} (P : Pins Z h w) : Fld Z h (w 1) "java/util/ImmutableCollections$ListN" "allowNulls" "Z" (.int (0 : Int32)) := P.2.2.2.2.1
theorem pin_5 {Z : State} {h : Heap} {w : Nat → Addr} (P : Pins Z h w) : (∃ cl : Cell, Arr Z h (w 0) cl (.object "java/lang/Object") ∧ cl.slots = #[] ∧ FitC Z cl) := P.2.2.2.2.2.1
theorem pins_ext {Z : State} {h h' : Heap} {w : Nat → Addr} (E : Ext h h') (P : Pins Z h w) : Pins Z h' w :=
  ⟨(pin_0 P).ext E, (pin_1 P).ext E, (pin_2 P).ext E, (pin_3 P).ext E, (pin_4 P).ext E, (let ⟨c, A, r⟩ := pin_5 P; ⟨c, A.ext E, r⟩), trivial⟩
def own_n1 (x : Int32) : Int32 := if x < (4 : Int32) then (x.toUInt32 >>> ((1 : Int32) &&& 31).toUInt32).toInt32 else (((x.toUInt32 >>> ((2 : Int32) &&& 31).toUInt32).toInt32).toUInt32 >>> ((1 : Int32) &&& 31).toUInt32).toInt32 + 2
def own_n2 (x : Int32) : Int32 := if x < (16 : Int32) then own_n1 x else own_n1 ((x.toUInt32 >>> ((4 : Int32) &&& 31).toUInt32).toInt32) + 4
def own_n3 (x : Int32) : Int32 := if x < (256 : Int32) then own_n2 x else own_n2 ((x.toUInt32 >>> ((8 : Int32) &&& 31).toUInt32).toInt32) + 8
def own_n4 (x : Int32) : Int32 := if x < (65536 : Int32) then own_n3 x else own_n3 ((x.toUInt32 >>> ((16 : Int32) &&& 31).toUInt32).toInt32) + 16
/-- leading zeros of an int -/
def own_nlz (x : Int32) : Int32 := if (0 : Int32) < x then (31 : Int32) - own_n4 x else if x = (0 : Int32) then (32 : Int32) else (0 : Int32)
theorem own_asym {x y : Int32} (h : x < y) : ¬ (y < x) := by
  rw [Int32.lt_iff_toInt_lt] at *; omega
theorem own_sub (a r c : Int32) : a - (r + c) = a - c - r := by grind
theorem own_nlzleaf {x y : Int32} (h : y = x) : x = y := h.symm
/-- r is the place of x's highest bit -/
def own_S (x r : Int32) (K : Nat) : Prop := ∃ k : Nat, k < K ∧ r.toInt = k ∧ (2 : Int) ^ k ≤ x.toInt ∧ x.toInt < (2 : Int) ^ (k + 1)
theorem own_pow {x : Int} {k j : Nat} (h1 : (2 : Int) ^ k ≤ x / 2 ^ j) (h2 : x / 2 ^ j < (2 : Int) ^ (k + 1)) : (2 : Int) ^ (k + j) ≤ x ∧ x < (2 : Int) ^ (k + j + 1) := by
  have hp : (0 : Int) < 2 ^ j := Int.pow_pos (by decide)
  constructor
  · rw [Int.pow_add]; exact (Int.le_ediv_iff_mul_le hp).mp h1
  · rw [show k + j + 1 = (k + 1) + j by omega, Int.pow_add]; exact (Int.ediv_lt_iff_lt_mul hp).mp h2
theorem own_shI {x k : Int32} {j : Nat} (hx : 0 ≤ x.toInt) (hk : ((k &&& 31).toUInt32).toNat = j) (hj : j < 32) : ((x.toUInt32 >>> (k &&& 31).toUInt32).toInt32).toInt = x.toInt / 2 ^ j := Jvm.Kit.i32_iushr (Jvm.Kit.i32_nonneg.mpr hx) hk hj
theorem own_up {x r c s : Int32} {K j : Nat} (hj : j < 32) (hs : s.toInt = x.toInt / 2 ^ j) (hc : c.toInt = j) (hK : K ≤ 32) (h : own_S s r K) : own_S x (r + c) (K + j) := by
  obtain ⟨k, k1, k2, k3, k4⟩ := h
  rw [hs] at k3 k4
  obtain ⟨q1, q2⟩ := own_pow k3 k4
  exact ⟨k + j, by omega, by rw [Jvm.Kit.i32_add (by omega) (by omega), k2, hc]; omega, q1, q2⟩
theorem own_S1 {x : Int32} (h1 : 1 ≤ x.toInt) (h2 : x.toInt < 16) : own_S x (own_n1 x) 4 := by
  have base : ∀ y : Int32, 1 ≤ y.toInt → y.toInt < 4 → own_S y ((y.toUInt32 >>> ((1 : Int32) &&& 31).toUInt32).toInt32) 2 := by
    intro y hy1 hy2
    have e : ((y.toUInt32 >>> ((1 : Int32) &&& 31).toUInt32).toInt32).toInt = y.toInt / 2 ^ 1 := Jvm.Kit.i32_iushr (Jvm.Kit.i32_nonneg.mpr (by omega)) (by decide) (by decide)
    by_cases q : y.toInt < 2
    · exact ⟨0, by decide, by rw [e]; omega, by omega, by omega⟩
    · exact ⟨1, by decide, by rw [e]; omega, by omega, by omega⟩
  have z : (4 : Int32).toInt = 4 := by decide
  unfold own_n1
  by_cases q : x < (4 : Int32)
  · rw [if_pos q]
    rw [Int32.lt_iff_toInt_lt, z] at q
    obtain ⟨k, k1, r⟩ := base x h1 q
    exact ⟨k, by omega, r⟩
  · rw [if_neg q]
    rw [Int32.lt_iff_toInt_lt, z] at q
    have e := own_shI (x := x) (k := 2) (j := 2) (by omega) (by decide) (by decide)
    exact own_up (j := 2) (by decide) e (by decide) (by decide) (base _ (by rw [e]; omega) (by rw [e]; omega))
theorem own_S2 {x : Int32} (h1 : 1 ≤ x.toInt) (h2 : x.toInt < 256) : own_S x (own_n2 x) 8 := by
  have z : (16 : Int32).toInt = 16 := by decide
  unfold own_n2
  by_cases q : x < (16 : Int32)
  · rw [if_pos q]
    rw [Int32.lt_iff_toInt_lt, z] at q
    obtain ⟨k, k1, r⟩ := own_S1 h1 q
    exact ⟨k, by omega, r⟩
  · rw [if_neg q]
    rw [Int32.lt_iff_toInt_lt, z] at q
    have e := own_shI (x := x) (k := 4) (j := 4) (by omega) (by decide) (by decide)
    exact own_up (j := 4) (by decide) e (by decide) (by decide) (own_S1 (by rw [e]; omega) (by rw [e]; omega))
theorem own_S3 {x : Int32} (h1 : 1 ≤ x.toInt) (h2 : x.toInt < 65536) : own_S x (own_n3 x) 16 := by
  have z : (256 : Int32).toInt = 256 := by decide
  unfold own_n3
  by_cases q : x < (256 : Int32)
  · rw [if_pos q]
    rw [Int32.lt_iff_toInt_lt, z] at q
    obtain ⟨k, k1, r⟩ := own_S2 h1 q
    exact ⟨k, by omega, r⟩
  · rw [if_neg q]
    rw [Int32.lt_iff_toInt_lt, z] at q
    have e := own_shI (x := x) (k := 8) (j := 8) (by omega) (by decide) (by decide)
    exact own_up (j := 8) (by decide) e (by decide) (by decide) (own_S2 (by rw [e]; omega) (by rw [e]; omega))
theorem own_S4 {x : Int32} (h1 : 1 ≤ x.toInt) : own_S x (own_n4 x) 32 := by
  have z : (65536 : Int32).toInt = 65536 := by decide
  have hx := x.toInt_lt
  unfold own_n4
  by_cases q : x < (65536 : Int32)
  · rw [if_pos q]
    rw [Int32.lt_iff_toInt_lt, z] at q
    obtain ⟨k, k1, r⟩ := own_S3 h1 q
    exact ⟨k, by omega, r⟩
  · rw [if_neg q]
    rw [Int32.lt_iff_toInt_lt, z] at q
    have e := own_shI (x := x) (k := 16) (j := 16) (by omega) (by decide) (by decide)
    exact own_up (j := 16) (by decide) e (by decide) (by decide) (own_S3 (by rw [e]; omega) (by rw [e]; omega))
theorem own_nlzI (x : Int32) : (x.toInt = 0 ∧ (own_nlz x).toInt = 32) ∨ (x.toInt < 0 ∧ (own_nlz x).toInt = 0) ∨ ∃ k : Nat, k < 31 ∧ (own_nlz x).toInt = 31 - k ∧ (2 : Int) ^ k ≤ x.toInt ∧ x.toInt < (2 : Int) ^ (k + 1) := by
  have z : (0 : Int32).toInt = 0 := by decide
  have hx := x.toInt_lt
  unfold own_nlz
  by_cases q : (0 : Int32) < x
  · rw [if_pos q]
    rw [Int32.lt_iff_toInt_lt, z] at q
    obtain ⟨k, k1, k2, k3, k4⟩ := own_S4 (x := x) (by omega)
    have hk : k < 31 := by
      refine Nat.lt_of_not_le fun hk => ?_
      have : (2 : Int) ^ 31 ≤ 2 ^ k := by exact_mod_cast Nat.pow_le_pow_right (by decide) hk
      omega
    have z31 : (31 : Int32).toInt = 31 := by decide
    refine Or.inr (Or.inr ⟨k, hk, ?_, k3, k4⟩)
    rw [Jvm.Kit.i32_sub (by omega) (by omega), k2, z31]
  · rw [if_neg q]
    rw [Int32.lt_iff_toInt_lt, z] at q
    by_cases q0 : x = (0 : Int32)
    · rw [if_pos q0]; exact Or.inl ⟨by rw [q0]; decide, by decide⟩
    · rw [if_neg q0]
      have : x.toInt ≠ 0 := fun h => q0 (Int32.toInt_inj.mp (h.trans z.symm))
      exact Or.inr (Or.inl ⟨by omega, by decide⟩)
theorem own_shl {B : Int32} (h0 : 0 ≤ B.toInt) (h1 : B.toInt ≤ 32) : ((1 : Int64) <<< (B &&& 0x3f).toInt64).toInt = (2 : Int) ^ B.toInt.toNat := by
  have h : B = (0 : Int32) ∨ B = (1 : Int32) ∨ B = (2 : Int32) ∨ B = (3 : Int32) ∨ B = (4 : Int32) ∨ B = (5 : Int32) ∨ B = (6 : Int32) ∨ B = (7 : Int32) ∨ B = (8 : Int32) ∨ B = (9 : Int32) ∨ B = (10 : Int32) ∨ B = (11 : Int32) ∨ B = (12 : Int32) ∨ B = (13 : Int32) ∨ B = (14 : Int32) ∨ B = (15 : Int32) ∨ B = (16 : Int32) ∨ B = (17 : Int32) ∨ B = (18 : Int32) ∨ B = (19 : Int32) ∨ B = (20 : Int32) ∨ B = (21 : Int32) ∨ B = (22 : Int32) ∨ B = (23 : Int32) ∨ B = (24 : Int32) ∨ B = (25 : Int32) ∨ B = (26 : Int32) ∨ B = (27 : Int32) ∨ B = (28 : Int32) ∨ B = (29 : Int32) ∨ B = (30 : Int32) ∨ B = (31 : Int32) ∨ B = (32 : Int32) := by
    simp only [← Int32.toInt_inj]
    show B.toInt = 0 ∨ B.toInt = 1 ∨ B.toInt = 2 ∨ B.toInt = 3 ∨ B.toInt = 4 ∨ B.toInt = 5 ∨ B.toInt = 6 ∨ B.toInt = 7 ∨ B.toInt = 8 ∨ B.toInt = 9 ∨ B.toInt = 10 ∨ B.toInt = 11 ∨ B.toInt = 12 ∨ B.toInt = 13 ∨ B.toInt = 14 ∨ B.toInt = 15 ∨ B.toInt = 16 ∨ B.toInt = 17 ∨ B.toInt = 18 ∨ B.toInt = 19 ∨ B.toInt = 20 ∨ B.toInt = 21 ∨ B.toInt = 22 ∨ B.toInt = 23 ∨ B.toInt = 24 ∨ B.toInt = 25 ∨ B.toInt = 26 ∨ B.toInt = 27 ∨ B.toInt = 28 ∨ B.toInt = 29 ∨ B.toInt = 30 ∨ B.toInt = 31 ∨ B.toInt = 32
    omega
  rcases h with rfl | rfl | rfl | rfl | rfl | rfl | rfl | rfl | rfl | rfl | rfl | rfl | rfl | rfl | rfl | rfl | rfl | rfl | rfl | rfl | rfl | rfl | rfl | rfl | rfl | rfl | rfl | rfl | rfl | rfl | rfl | rfl | rfl <;> decide
theorem own_bits (a b : Int32) (h : ¬ (b < a)) : (((((((b.toInt64) - (a.toInt64)) + (1 : Int64)) - (1 : Int64)).toUInt64 >>> ((32 : Int32) &&& 0x3f).toInt64.toUInt64).toInt64).toInt32) = (0 : Int32) ∧ ¬ (((64 : Int32) - ((32 : Int32) + (own_nlz (((((b.toInt64) - (a.toInt64)) + (1 : Int64)) - (1 : Int64)).toInt32)))) < (0 : Int32)) ∧ ¬ ((32 : Int32) < ((64 : Int32) - ((32 : Int32) + (own_nlz (((((b.toInt64) - (a.toInt64)) + (1 : Int64)) - (1 : Int64)).toInt32))))) ∧ ¬ ((lcmpW ((1 : Int64) <<< (((64 : Int32) - ((32 : Int32) + (own_nlz (((((b.toInt64) - (a.toInt64)) + (1 : Int64)) - (1 : Int64)).toInt32)))) &&& 0x3f).toInt64) (((b.toInt64) - (a.toInt64)) + (1 : Int64))) < (0 : Int32)) ∧ (¬ (((64 : Int32) - ((32 : Int32) + (own_nlz (((((b.toInt64) - (a.toInt64)) + (1 : Int64)) - (1 : Int64)).toInt32)))) = (0 : Int32)) → (lcmpW ((1 : Int64) <<< ((((64 : Int32) - ((32 : Int32) + (own_nlz (((((b.toInt64) - (a.toInt64)) + (1 : Int64)) - (1 : Int64)).toInt32)))) - (1 : Int32)) &&& 0x3f).toInt64) (((b.toInt64) - (a.toInt64)) + (1 : Int64))) < (0 : Int32)) := by
  have a1 := a.toInt_lt; have a2 := a.le_toInt; have b1 := b.toInt_lt; have b2 := b.le_toInt
  rw [Int32.lt_iff_toInt_lt] at h
  have e1 := Jvm.Kit.i64_of_i32 a; have e2 := Jvm.Kit.i64_of_i32 b
  have o1 : (1 : Int64).toInt = 1 := by decide
  have eN : (((b.toInt64) - (a.toInt64)) + (1 : Int64)).toInt = b.toInt - a.toInt + 1 := by
    rw [Jvm.Kit.i64_add (by rw [Jvm.Kit.i64_sub (by omega) (by omega)]; omega) (by rw [Jvm.Kit.i64_sub (by omega) (by omega)]; omega), Jvm.Kit.i64_sub (by omega) (by omega), e1, e2, o1]
  generalize hN : (((b.toInt64) - (a.toInt64)) + (1 : Int64)) = N at *
  have eJ : (N - (1 : Int64)).toInt = b.toInt - a.toInt := by rw [Jvm.Kit.i64_sub (by omega) (by omega), eN, o1]; omega
  generalize hJ : N - (1 : Int64) = J at *
  have eH : ((J.toUInt64 >>> ((32 : Int32) &&& 0x3f).toInt64.toUInt64).toInt64).toInt = J.toInt / 2 ^ 32 := Jvm.Kit.i64_lushr (Jvm.Kit.i64_nonneg.mpr (by omega)) (by decide) (by decide)
  have z0 : (0 : Int32).toInt = 0 := by decide
  have z32 : (32 : Int32).toInt = 32 := by decide
  have z64 : (64 : Int32).toInt = 64 := by decide
  have z1 : (1 : Int32).toInt = 1 := by decide
  have eX : J.toInt32.toInt = J.toInt.bmod (2 ^ 32) := Int64.toInt_toInt32 J
  have eX' : J.toInt32.toInt = if b.toInt - a.toInt < 2 ^ 31 then b.toInt - a.toInt else b.toInt - a.toInt - 2 ^ 32 := by
    rw [eX, eJ, Int.bmod_def]; split <;> split <;> omega
  have hL : 0 ≤ (own_nlz J.toInt32).toInt ∧ (own_nlz J.toInt32).toInt ≤ 32 := by
    rcases own_nlzI J.toInt32 with ⟨-, q⟩ | ⟨-, q⟩ | ⟨k, k1, q, -⟩ <;> omega
  have eB : ((64 : Int32) - ((32 : Int32) + (own_nlz (J.toInt32)))).toInt = 32 - (own_nlz J.toInt32).toInt := by
    rw [Jvm.Kit.i32_sub (by rw [Jvm.Kit.i32_add (by omega) (by omega)]; omega) (by rw [Jvm.Kit.i32_add (by omega) (by omega)]; omega), Jvm.Kit.i32_add (by omega) (by omega)]; omega
  generalize hB : ((64 : Int32) - ((32 : Int32) + (own_nlz (J.toInt32)))) = B at *
  have c1 := own_shl (B := B) (by omega) (by omega)
  refine ⟨?_, ?_, ?_, ?_, ?_⟩
  · rw [← Int32.toInt_inj, Jvm.Kit.i32_of_i64 (by rw [eH]; omega) (by rw [eH]; omega), eH, z0]; omega
  · rw [Int32.lt_iff_toInt_lt]; omega
  · rw [Int32.lt_iff_toInt_lt]; omega
  · rw [lcW, lc_lt, Int64.lt_iff_toInt_lt, c1, eN]
    rcases own_nlzI J.toInt32 with ⟨p, q⟩ | ⟨p, q⟩ | ⟨k, k1, q, p1, p2⟩
    · rw [show B.toInt.toNat = 0 by omega]; omega
    · rw [show B.toInt.toNat = 32 by omega]; omega
    · rw [show B.toInt.toNat = k + 1 by omega]; omega
  · intro hne
    have hB0 : B.toInt ≠ 0 := fun q => hne (Int32.toInt_inj.mp (q.trans z0.symm))
    have eB1 : (B - (1 : Int32)).toInt = B.toInt - 1 := by rw [Jvm.Kit.i32_sub (by omega) (by omega), z1]
    have c2 := own_shl (B := B - (1 : Int32)) (by omega) (by omega)
    rw [lcW, lc_lt, Int64.lt_iff_toInt_lt, c2, eN, eB1]
    rcases own_nlzI J.toInt32 with ⟨p, q⟩ | ⟨p, q⟩ | ⟨k, k1, q, p1, p2⟩
    · omega
    · rw [show (B.toInt - 1).toNat = 31 by omega]; omega
    · rw [show (B.toInt - 1).toNat = k by omega]; omega
theorem d1_0 : decode jdk_29_method_69_code 0 = .ok (.iload_n 0, 1) := by decide +kernel
theorem d1_1 : decode jdk_29_method_69_code 1 = .ok (.iload_n 1, 1) := by decide +kernel
theorem d1_2 : decode jdk_29_method_69_code 2 = .ok (.if_icmp .gt 7, 3) := by decide +kernel
theorem d1_9 : decode jdk_29_method_69_code 9 = .ok (.iload_n 1, 1) := by decide +kernel
theorem d1_10 : decode jdk_29_method_69_code 10 = .ok (.ireturn, 1) := by decide +kernel
set_option maxRecDepth 65536 in
set_option maxHeartbeats 40000000 in
theorem rm1_0 (l : Launch) (Z : State) (a0 : Array Value) (hw : ∀ d ∈ tables_1, d.before a0 Z = true) (ws : List Jvm.Cond) (w : Nat → Addr) (hB : Heap) (hP : Pins Z hB w) (h0 : Heap) (XB : Ext hB h0) (pa0 : Int32) (pa1 : Int32) (hp0 : pa1 < pa0) :
    MetFree l (⟨"java/lang/Math", "min", "(II)I"⟩ : MethodName) (head1 (Jvm.Cond.code (⟨"java/lang/Math", "min", "(II)I"⟩ : MethodName) jdk_29_method_69_code 2 (some .int) :: ws) ({ frames := 0, cells := 0, slots := 0, locals := 0 } : Room)) (fun a U => a = #[(.int pa0), (.int pa1)] ∧ Z.Warmed39 U.vm ∧ U.heap = h0) (fun _ _ _ _ _ => True) (fun _ U o U' => ∃ v L, o = .returned v ∧ Qg (fun v h => v = (some (.int pa1)) ∧ h = h0) hB.size v U'.heap L ∧ FrameEnd U o U' L ({ frames := 0, cells := 0, slots := 0, locals := 0 } : Room).cells ({ frames := 0, cells := 0, slots := 0, locals := 0 } : Room).slots) := by
  refine MetFree.of_bodySF (Jvm.Free.JP.mathPlain rfl (by decide +kernel)) hisR ?_
  intro p e s m args below meth c s₁ Bd hml0 hP0 hK
  obtain ⟨rfl, hZ, hh⟩ := hP0
  have hx := Bd.exec
  have hby := Bd.bytes
  have hml : c.maxLocals = 2 := hml0
  have hown : s.vm.findClass "java/lang/Math" = some m.cls := findClass_of_methodNamed Bd.named
  have hnm := (name_of_methodNamed Bd.named Bd.method).1
  have X0 : Stand p l e ({ frames := 0, cells := 0, slots := 0, locals := 0 } : Room) s m #[(.int pa0), (.int pa1)] below meth c s₁ [] 0 0 := Stand.of_body Bd
  have e0 : s₁.heap = h0 := by rw [← hh, Bd.state]; rfl
  have N0 := Fr.nil hB.size
  suffices hgo : Go p e below (fun o U' => ∃ v L, o = .returned v ∧ Qg (fun v h => v = (some (.int pa1)) ∧ h = h0) hB.size v U'.heap L ∧ FrameEnd s o U' L ({ frames := 0, cells := 0, slots := 0, locals := 0 } : Room).cells ({ frames := 0, cells := 0, slots := 0, locals := 0 } : Room).slots) s₁ (mkF m 0 #[.val (.int pa0), .val (.int pa1)] []) by
    obtain ⟨s2, o, g1, g2, g3, g4⟩ := hgo
    refine ⟨s2, o, castTop (?_ : entryFrame m #[(.int pa0), (.int pa1)] 2 = _) g1, g2, g3, g4⟩
    first | (simp [entryFrame, mkF, argsToLocals, Value.category]; done) | rfl
  refine Go.on (T' := s₁) (g' := (mkF m 1 #[.val (.int pa0), .val (.int pa1)] [(.int pa0)])) (fun t k => XS.iloadN X0.here hx rfl (hb hby d1_0) rfl k) ?_
  refine Go.on (T' := s₁) (g' := (mkF m 2 #[.val (.int pa0), .val (.int pa1)] [(.int pa1), (.int pa0)])) (fun t k => XS.iloadN X0.here hx rfl (hb hby d1_1) rfl k) ?_
  refine Go.on (T' := s₁) (g' := (mkF m 9 #[.val (.int pa0), .val (.int pa1)] [])) (fun t k => XS.icmpYes X0.here hx rfl (pc0 := 2) (pc' := 9) rfl (hb hby d1_2) rfl (tlt hp0).2.2.1 (by decide) (by decide) k) ?_
  refine Go.on (T' := s₁) (g' := (mkF m 10 #[.val (.int pa0), .val (.int pa1)] [(.int pa1)])) (fun t k => XS.iloadN X0.here hx rfl (hb hby d1_9) rfl k) ?_
  obtain ⟨fs, hr, hrun, hended, hW, hsame⟩ := X0.leave (v := some (.int pa1)) (fun h => by rw [Bd.returns] at h; cases h)
  exact ⟨_, _, retOut X0 hx Bd.returns rfl (Or.inl ⟨rfl, Or.inl rfl, _, rfl⟩) (hb hby d1_10) hr, hrun, hended, _, _, rfl, ⟨⟨rfl, e0⟩, N0⟩, ⟨_, rfl⟩, hW, hsame.mono (by decide) (by decide)⟩
theorem pd_0 : parseMethodDescriptor "(II)I" = some ⟨[.int, .int], some .int⟩ := by decide +kernel
theorem d2_0 : decode jdk_29_method_65_code 0 = .ok (.iload_n 0, 1) := by decide +kernel
theorem d2_1 : decode jdk_29_method_65_code 1 = .ok (.iload_n 1, 1) := by decide +kernel
theorem d2_2 : decode jdk_29_method_65_code 2 = .ok (.if_icmp .lt 7, 3) := by decide +kernel
theorem d2_5 : decode jdk_29_method_65_code 5 = .ok (.iload_n 0, 1) := by decide +kernel
theorem d2_6 : decode jdk_29_method_65_code 6 = .ok (.goto 4, 3) := by decide +kernel
theorem d2_10 : decode jdk_29_method_65_code 10 = .ok (.ireturn, 1) := by decide +kernel
set_option maxRecDepth 65536 in
set_option maxHeartbeats 40000000 in
theorem rm2_0 (l : Launch) (Z : State) (a0 : Array Value) (hw : ∀ d ∈ tables_1, d.before a0 Z = true) (ws : List Jvm.Cond) (w : Nat → Addr) (hB : Heap) (hP : Pins Z hB w) (h0 : Heap) (XB : Ext hB h0) (pa0 : Int32) (pa1 : Int32) (hp0 : ¬ (pa0 < pa1)) :
    MetFree l (⟨"java/lang/Math", "max", "(II)I"⟩ : MethodName) (head1 (Jvm.Cond.code (⟨"java/lang/Math", "max", "(II)I"⟩ : MethodName) jdk_29_method_65_code 2 (some .int) :: ws) ({ frames := 0, cells := 0, slots := 0, locals := 0 } : Room)) (fun a U => a = #[(.int pa0), (.int pa1)] ∧ Z.Warmed39 U.vm ∧ U.heap = h0) (fun _ _ _ _ _ => True) (fun _ U o U' => ∃ v L, o = .returned v ∧ Qg (fun v h => v = (some (.int pa0)) ∧ h = h0) hB.size v U'.heap L ∧ FrameEnd U o U' L ({ frames := 0, cells := 0, slots := 0, locals := 0 } : Room).cells ({ frames := 0, cells := 0, slots := 0, locals := 0 } : Room).slots) := by
  refine MetFree.of_bodySF (Jvm.Free.JP.mathPlain rfl (by decide +kernel)) hisR ?_
  intro p e s m args below meth c s₁ Bd hml0 hP0 hK
  obtain ⟨rfl, hZ, hh⟩ := hP0
  have hx := Bd.exec
  have hby := Bd.bytes
  have hml : c.maxLocals = 2 := hml0
  have hown : s.vm.findClass "java/lang/Math" = some m.cls := findClass_of_methodNamed Bd.named
  have hnm := (name_of_methodNamed Bd.named Bd.method).1
  have X0 : Stand p l e ({ frames := 0, cells := 0, slots := 0, locals := 0 } : Room) s m #[(.int pa0), (.int pa1)] below meth c s₁ [] 0 0 := Stand.of_body Bd
  have e0 : s₁.heap = h0 := by rw [← hh, Bd.state]; rfl
  have N0 := Fr.nil hB.size
  suffices hgo : Go p e below (fun o U' => ∃ v L, o = .returned v ∧ Qg (fun v h => v = (some (.int pa0)) ∧ h = h0) hB.size v U'.heap L ∧ FrameEnd s o U' L ({ frames := 0, cells := 0, slots := 0, locals := 0 } : Room).cells ({ frames := 0, cells := 0, slots := 0, locals := 0 } : Room).slots) s₁ (mkF m 0 #[.val (.int pa0), .val (.int pa1)] []) by
    obtain ⟨s2, o, g1, g2, g3, g4⟩ := hgo
    refine ⟨s2, o, castTop (?_ : entryFrame m #[(.int pa0), (.int pa1)] 2 = _) g1, g2, g3, g4⟩
    first | (simp [entryFrame, mkF, argsToLocals, Value.category]; done) | rfl
  refine Go.on (T' := s₁) (g' := (mkF m 1 #[.val (.int pa0), .val (.int pa1)] [(.int pa0)])) (fun t k => XS.iloadN X0.here hx rfl (hb hby d2_0) rfl k) ?_
  refine Go.on (T' := s₁) (g' := (mkF m 2 #[.val (.int pa0), .val (.int pa1)] [(.int pa1), (.int pa0)])) (fun t k => XS.iloadN X0.here hx rfl (hb hby d2_1) rfl k) ?_
  refine Go.on (T' := s₁) (g' := (mkF m 5 #[.val (.int pa0), .val (.int pa1)] [])) (fun t k => XS.icmpNo X0.here hx rfl (hb hby d2_2) rfl (flt hp0).1 k) ?_
  refine Go.on (T' := s₁) (g' := (mkF m 6 #[.val (.int pa0), .val (.int pa1)] [(.int pa0)])) (fun t k => XS.iloadN X0.here hx rfl (hb hby d2_5) rfl k) ?_
  refine Go.on (T' := s₁) (g' := (mkF m 10 #[.val (.int pa0), .val (.int pa1)] [(.int pa0)])) (fun t k => XS.goto X0.here hx rfl (pc0 := 6) (pc' := 10) rfl (hb hby d2_6) (by decide) (by decide) k) ?_
  obtain ⟨fs, hr, hrun, hended, hW, hsame⟩ := X0.leave (v := some (.int pa0)) (fun h => by rw [Bd.returns] at h; cases h)
  exact ⟨_, _, retOut X0 hx Bd.returns rfl (Or.inl ⟨rfl, Or.inl rfl, _, rfl⟩) (hb hby d2_10) hr, hrun, hended, _, _, rfl, ⟨⟨rfl, e0⟩, N0⟩, ⟨_, rfl⟩, hW, hsame.mono (by decide) (by decide)⟩
theorem d3_0 : decode prog_10_method_2_code 0 = .ok (.new 33, 3) := by decide +kernel
theorem d3_3 : decode prog_10_method_2_code 3 = .ok (.dup, 1) := by decide +kernel
theorem d3_4 : decode prog_10_method_2_code 4 = .ok (.iload_n 0, 1) := by decide +kernel
theorem d3_5 : decode prog_10_method_2_code 5 = .ok (.iload_n 1, 1) := by decide +kernel
theorem d3_6 : decode prog_10_method_2_code 6 = .ok (.invokestatic 45, 3) := by decide +kernel
theorem d4_0 : decode jdk_40_method_36_code 0 = .ok (.getstatic 90, 3) := by decide +kernel
theorem d4_3 : decode jdk_40_method_36_code 3 = .ok (.areturn, 1) := by decide +kernel
theorem pn_1 : plainName "java/util/List" = true := by first | (simp [plainName, overriddenIn]; done) | decide +kernel
set_option maxRecDepth 65536 in
set_option maxHeartbeats 40000000 in
theorem rm4_0 (l : Launch) (Z : State) (a0 : Array Value) (hw : ∀ d ∈ tables_1, d.before a0 Z = true) (ws : List Jvm.Cond) (w : Nat → Addr) (hB : Heap) (hP : Pins Z hB w) (h0 : Heap) (XB : Ext hB h0) :
    MetFree l (⟨"java/util/List", "of", "()Ljava/util/List;"⟩ : MethodName) (head1 (Jvm.Cond.code (⟨"java/util/List", "of", "()Ljava/util/List;"⟩ : MethodName) jdk_40_method_36_code 0 (some (.object "java/util/List")) :: ws) ({ frames := 0, cells := 0, slots := 0, locals := 0 } : Room)) (fun a U => a = #[] ∧ Z.Warmed39 U.vm ∧ U.heap = h0) (fun _ _ _ _ _ => True) (fun _ U o U' => ∃ v L, o = .returned v ∧ Qg (fun v h => v = (some (.ref (w 1))) ∧ h = h0) hB.size v U'.heap L ∧ FrameEnd U o U' L ({ frames := 0, cells := 0, slots := 0, locals := 0 } : Room).cells ({ frames := 0, cells := 0, slots := 0, locals := 0 } : Room).slots) := by
  refine MetFree.of_bodySF (plainFor_of_name pn_1) hisR ?_
  intro p e s m args below meth c s₁ Bd hml0 hP0 hK
  obtain ⟨rfl, hZ, hh⟩ := hP0
  have hx := Bd.exec
  have hby := Bd.bytes
  have hml : c.maxLocals = 0 := hml0
  have hown : s.vm.findClass "java/util/List" = some m.cls := findClass_of_methodNamed Bd.named
  have hnm := (name_of_methodNamed Bd.named Bd.method).1
  have X0 : Stand p l e ({ frames := 0, cells := 0, slots := 0, locals := 0 } : Room) s m #[] below meth c s₁ [] 0 0 := Stand.of_body Bd
  have e0 : s₁.heap = h0 := by rw [← hh, Bd.state]; rfl
  have N0 := Fr.nil hB.size
  suffices hgo : Go p e below (fun o U' => ∃ v L, o = .returned v ∧ Qg (fun v h => v = (some (.ref (w 1))) ∧ h = h0) hB.size v U'.heap L ∧ FrameEnd s o U' L ({ frames := 0, cells := 0, slots := 0, locals := 0 } : Room).cells ({ frames := 0, cells := 0, slots := 0, locals := 0 } : Room).slots) s₁ (mkF m 0 #[] []) by
    obtain ⟨s2, o, g1, g2, g3, g4⟩ := hgo
    refine ⟨s2, o, castTop (?_ : entryFrame m #[] 0 = _) g1, g2, g3, g4⟩
    first | (simp [entryFrame, mkF, argsToLocals, Value.category]; done) | rfl
  obtain ⟨T51, X51, e51, st51⟩ := getS2 X0 hx hZ hown (host := "") (Or.inl (hw _ (List.mem_of_getElem? (i := 17) rfl))) Via.refl e0 (pin_0 (pins_ext XB hP)) (g := (mkF m 0 #[] [])) rfl (hb hby d4_0)
  refine Go.on (T' := T51) (g' := (mkF m 3 #[] [(.ref (w 1))])) st51 ?_
  obtain ⟨fs, hr, hrun, hended, hW, hsame⟩ := X51.leave (v := some (.ref (w 1))) (fun h => by rw [Bd.returns] at h; cases h)
  exact ⟨_, _, retOut X51 hx Bd.returns rfl (Or.inr (Or.inr (Or.inr (Or.inr ⟨rfl, rfl, rfl⟩)))) (hb hby d4_3) hr, hrun, hended, _, _, rfl, ⟨⟨rfl, e51⟩, N0⟩, ⟨_, rfl⟩, hW, hsame.mono (by decide) (by decide)⟩
theorem pd_1 : parseMethodDescriptor "()Ljava/util/List;" = some ⟨[], some (.object "java/util/List")⟩ := by decide +kernel
theorem d3_9 : decode prog_10_method_2_code 9 = .ok (.invokespecial 49, 3) := by decide +kernel
theorem d5_0 : decode prog_10_method_1_code 0 = .ok (.aload_n 0, 1) := by decide +kernel
theorem d5_1 : decode prog_10_method_1_code 1 = .ok (.invokespecial 1, 3) := by decide +kernel
theorem d6_0 : decode jdk_30_method_1_code 0 = .ok (.aload_n 0, 1) := by decide +kernel
theorem d6_1 : decode jdk_30_method_1_code 1 = .ok (.invokespecial 1, 3) := by decide +kernel
theorem d6_4 : decode jdk_30_method_1_code 4 = .ok (.return_, 1) := by decide +kernel
theorem pn_2 : plainName "java/lang/Record" = true := by first | (simp [plainName, overriddenIn]; done) | decide +kernel
set_option maxRecDepth 65536 in
set_option maxHeartbeats 40000000 in
theorem rm6_0 (l : Launch) (Z : State) (a0 : Array Value) (hw : ∀ d ∈ tables_1, d.before a0 Z = true) (ws : List Jvm.Cond) (w : Nat → Addr) (hB : Heap) (hP : Pins Z hB w) (h0 : Heap) (XB : Ext hB h0) (o0 : Addr) (E_o0 : Exa Z h0 o0 "com/example/realizer/realizer/spectra/Domain") (F_o0_from : Fld Z h0 o0 "com/example/realizer/realizer/spectra/Domain" "from" "I" (.int (0 : Int32))) (F_o0_to : Fld Z h0 o0 "com/example/realizer/realizer/spectra/Domain" "to" "I" (.int (0 : Int32))) (F_o0_literals : Fld Z h0 o0 "com/example/realizer/realizer/spectra/Domain" "literals" "Ljava/util/List;" .null) (g_o0 : hB.size ≤ o0) :
    MetFree l (⟨"java/lang/Record", "<init>", "()V"⟩ : MethodName) (head1 (Jvm.Cond.code (⟨"java/lang/Record", "<init>", "()V"⟩ : MethodName) jdk_30_method_1_code 1 none :: ws) ({ frames := 1, cells := 0, slots := 0, locals := 12 } : Room)) (fun a U => a = #[(.ref o0)] ∧ Z.Warmed39 U.vm ∧ U.heap = h0) (fun _ _ _ _ _ => True) (fun _ U o U' => ∃ v L, o = .returned v ∧ Qg (fun v h => v = none ∧ h = h0) hB.size v U'.heap L ∧ FrameEnd U o U' L ({ frames := 1, cells := 0, slots := 0, locals := 12 } : Room).cells ({ frames := 1, cells := 0, slots := 0, locals := 12 } : Room).slots) := by
  refine MetFree.of_bodySF (plainFor_of_name pn_2) hisR ?_
  intro p e s m args below meth c s₁ Bd hml0 hP0 hK
  obtain ⟨rfl, hZ, hh⟩ := hP0
  have hx := Bd.exec
  have hby := Bd.bytes
  have hml : c.maxLocals = 1 := hml0
  have hown : s.vm.findClass "java/lang/Record" = some m.cls := findClass_of_methodNamed Bd.named
  have hnm := (name_of_methodNamed Bd.named Bd.method).1
  have X0 : Stand p l e ({ frames := 1, cells := 0, slots := 0, locals := 12 } : Room) s m #[(.ref o0)] below meth c s₁ [] 0 0 := Stand.of_body Bd
  have e0 : s₁.heap = h0 := by rw [← hh, Bd.state]; rfl
  have N0 := Fr.nil hB.size
  suffices hgo : Go p e below (fun o U' => ∃ v L, o = .returned v ∧ Qg (fun v h => v = none ∧ h = h0) hB.size v U'.heap L ∧ FrameEnd s o U' L ({ frames := 1, cells := 0, slots := 0, locals := 12 } : Room).cells ({ frames := 1, cells := 0, slots := 0, locals := 12 } : Room).slots) s₁ (mkF m 0 #[.val (.ref o0)] []) by
    obtain ⟨s2, o, g1, g2, g3, g4⟩ := hgo
    refine ⟨s2, o, castTop (?_ : entryFrame m #[(.ref o0)] 1 = _) g1, g2, g3, g4⟩
    first | (simp [entryFrame, mkF, argsToLocals, Value.category]; done) | rfl
  refine Go.on (T' := s₁) (g' := (mkF m 1 #[.val (.ref o0)] [(.ref o0)])) (fun t k => XS.aloadN X0.here hx rfl (hb hby d6_0) rfl rfl k) ?_
  obtain ⟨T53, X53, e53, st53⟩ := initO X0 hx hZ hown (hw _ (List.mem_of_getElem? (i := 27) rfl)) (hw _ (List.mem_of_getElem? (i := 28) rfl)) (hw _ (List.mem_of_getElem? (i := 29) rfl)) e0 (g := (mkF m 1 #[.val (.ref o0)] [(.ref o0)])) rfl (by rw [hml]; rfl) rfl (hb hby d6_1) (by decide) (W := 0) (by show 2 * 0 + _ ≤ _; exact Nat.le_of_eq rfl) (by decide)
  refine Go.on (T' := T53) (g' := (mkF m 4 #[.val (.ref o0)] [])) st53 ?_
  obtain ⟨fs, hr, hrun, hended, hW, hsame⟩ := X53.leave (v := none) (fun _ => rfl)
  exact ⟨_, _, X53.returnOut hx Bd.returns (hb hby d6_4) hr, hrun, hended, _, _, rfl, ⟨⟨rfl, e53⟩, N0⟩, ⟨_, rfl⟩, hW, hsame.mono (by decide) (by decide)⟩
theorem pd_2 : parseMethodDescriptor "()V" = some ⟨[], none⟩ := by decide +kernel
theorem d5_4 : decode prog_10_method_1_code 4 = .ok (.iload_n 2, 1) := by decide +kernel
theorem d5_5 : decode prog_10_method_1_code 5 = .ok (.iload_n 1, 1) := by decide +kernel
theorem d5_6 : decode prog_10_method_1_code 6 = .ok (.if_icmp .ge 18, 3) := by decide +kernel
theorem d5_24 : decode prog_10_method_1_code 24 = .ok (.aload_n 3, 1) := by decide +kernel
theorem d5_25 : decode prog_10_method_1_code 25 = .ok (.invokestatic 16, 3) := by decide +kernel
theorem d8_0 : decode jdk_40_method_48_code 0 = .ok (.aload_n 0, 1) := by decide +kernel
theorem d8_1 : decode jdk_40_method_48_code 1 = .ok (.invokestatic 112, 3) := by decide +kernel
theorem d9_0 : decode jdk_56_method_3_code 0 = .ok (.aload_n 0, 1) := by decide +kernel
theorem d9_1 : decode jdk_56_method_3_code 1 = .ok (.instanceof 10, 3) := by decide +kernel
theorem d9_4 : decode jdk_56_method_3_code 4 = .ok (.ifCond .ne 22, 3) := by decide +kernel
theorem d9_26 : decode jdk_56_method_3_code 26 = .ok (.aload_n 0, 1) := by decide +kernel
theorem d9_27 : decode jdk_56_method_3_code 27 = .ok (.checkcast 18, 3) := by decide +kernel
theorem d9_30 : decode jdk_56_method_3_code 30 = .ok (.areturn, 1) := by decide +kernel
theorem pn_3 : plainName "java/util/ImmutableCollections" = true := by first | (simp [plainName, overriddenIn]; done) | decide +kernel
set_option maxRecDepth 65536 in
set_option maxHeartbeats 40000000 in
theorem rm9_0 (l : Launch) (Z : State) (a0 : Array Value) (hw : ∀ d ∈ tables_1, d.before a0 Z = true) (ws : List Jvm.Cond) (w : Nat → Addr) (hB : Heap) (hP : Pins Z hB w) (h0 : Heap) (XB : Ext hB h0) (hp0 : own_as Z "java/util/ImmutableCollections$ListN" "java/util/ImmutableCollections$List12") :
    MetFree l (⟨"java/util/ImmutableCollections", "listCopy", "(Ljava/util/Collection;)Ljava/util/List;"⟩ : MethodName) (head1 (Jvm.Cond.code (⟨"java/util/ImmutableCollections", "listCopy", "(Ljava/util/Collection;)Ljava/util/List;"⟩ : MethodName) jdk_56_method_3_code 2 (some (.object "java/util/List")) :: ws) ({ frames := 0, cells := 0, slots := 0, locals := 0 } : Room)) (fun a U => a = #[(.ref (w 1))] ∧ Z.Warmed39 U.vm ∧ U.heap = h0) (fun _ _ _ _ _ => True) (fun _ U o U' => ∃ v L, o = .returned v ∧ Qg (fun v h => v = (some (.ref (w 1))) ∧ h = h0) hB.size v U'.heap L ∧ FrameEnd U o U' L ({ frames := 0, cells := 0, slots := 0, locals := 0 } : Room).cells ({ frames := 0, cells := 0, slots := 0, locals := 0 } : Room).slots) := by
  refine MetFree.of_bodySF (plainFor_of_name pn_3) hisR ?_
  intro p e s m args below meth c s₁ Bd hml0 hP0 hK
  obtain ⟨rfl, hZ, hh⟩ := hP0
  have hx := Bd.exec
  have hby := Bd.bytes
  have hml : c.maxLocals = 2 := hml0
  have hown : s.vm.findClass "java/util/ImmutableCollections" = some m.cls := findClass_of_methodNamed Bd.named
  have hnm := (name_of_methodNamed Bd.named Bd.method).1
  have X0 : Stand p l e ({ frames := 0, cells := 0, slots := 0, locals := 0 } : Room) s m #[(.ref (w 1))] below meth c s₁ [] 0 0 := Stand.of_body Bd
  have e0 : s₁.heap = h0 := by rw [← hh, Bd.state]; rfl
  have N0 := Fr.nil hB.size
  suffices hgo : Go p e below (fun o U' => ∃ v L, o = .returned v ∧ Qg (fun v h => v = (some (.ref (w 1))) ∧ h = h0) hB.size v U'.heap L ∧ FrameEnd s o U' L ({ frames := 0, cells := 0, slots := 0, locals := 0 } : Room).cells ({ frames := 0, cells := 0, slots := 0, locals := 0 } : Room).slots) s₁ (mkF m 0 #[.val (.ref (w 1)), .unset] []) by
    obtain ⟨s2, o, g1, g2, g3, g4⟩ := hgo
    refine ⟨s2, o, castTop (?_ : entryFrame m #[(.ref (w 1))] 2 = _) g1, g2, g3, g4⟩
    first | (simp [entryFrame, mkF, argsToLocals, Value.category]; done) | rfl
  refine Go.on (T' := s₁) (g' := (mkF m 1 #[.val (.ref (w 1)), .unset] [(.ref (w 1))])) (fun t k => XS.aloadN X0.here hx rfl (hb hby d9_0) rfl rfl k) ?_
  obtain ⟨T55, X55, e55, st55⟩ := instY X0 hx hZ hown (hw _ (List.mem_of_getElem? (i := 36) rfl)) e0 (own_asYes (pin_1 (pins_ext XB hP)) hp0) (g := (mkF m 1 #[.val (.ref (w 1)), .unset] [(.ref (w 1))])) rfl rfl (hb hby d9_1)
  refine Go.on (T' := T55) (g' := (mkF m 4 #[.val (.ref (w 1)), .unset] [(.int (1 : Int32))])) st55 ?_
  refine Go.on (T' := T55) (g' := (mkF m 26 #[.val (.ref (w 1)), .unset] [])) (fun t k => XS.ifYes X55.here hx rfl (pc0 := 4) (pc' := 26) rfl (hb hby d9_4) rfl ((if0 _ _).trans (feq (by decide : ¬ ((1 : Int32) = (0 : Int32)))).2) (by decide) (by decide) k) ?_
  refine Go.on (T' := T55) (g' := (mkF m 27 #[.val (.ref (w 1)), .unset] [(.ref (w 1))])) (fun t k => XS.aloadN X55.here hx rfl (hb hby d9_26) rfl rfl k) ?_
  obtain ⟨T56, X56, e56, st56⟩ := castY X55 hx hZ hown (hw _ (List.mem_of_getElem? (i := 46) rfl)) e55 (Ins.of_exa (pin_1 (pins_ext XB hP)) (hw _ (List.mem_of_getElem? (i := 47) rfl))) (g := (mkF m 27 #[.val (.ref (w 1)), .unset] [(.ref (w 1))])) rfl rfl (hb hby d9_27)
  refine Go.on (T' := T56) (g' := (mkF m 30 #[.val (.ref (w 1)), .unset] [(.ref (w 1))])) st56 ?_
  obtain ⟨fs, hr, hrun, hended, hW, hsame⟩ := X56.leave (v := some (.ref (w 1))) (fun h => by rw [Bd.returns] at h; cases h)
  exact ⟨_, _, retOut X56 hx Bd.returns rfl (Or.inr (Or.inr (Or.inr (Or.inr ⟨rfl, rfl, rfl⟩)))) (hb hby d9_30) hr, hrun, hended, _, _, rfl, ⟨⟨rfl, e56⟩, N0⟩, ⟨_, rfl⟩, hW, hsame.mono (by decide) (by decide)⟩
theorem pd_3 : parseMethodDescriptor "(Ljava/util/Collection;)Ljava/util/List;" = some ⟨[(.object "java/util/Collection")], some (.object "java/util/List")⟩ := by decide +kernel
theorem d8_4 : decode jdk_40_method_48_code 4 = .ok (.areturn, 1) := by decide +kernel
set_option maxRecDepth 65536 in
set_option maxHeartbeats 40000000 in
theorem rm8_0 (l : Launch) (Z : State) (a0 : Array Value) (hw : ∀ d ∈ tables_1, d.before a0 Z = true) (ws : List Jvm.Cond) (w : Nat → Addr) (hB : Heap) (hP : Pins Z hB w) (h0 : Heap) (XB : Ext hB h0) (hp0 : own_as Z "java/util/ImmutableCollections$ListN" "java/util/ImmutableCollections$List12") :
    MetFree l (⟨"java/util/List", "copyOf", "(Ljava/util/Collection;)Ljava/util/List;"⟩ : MethodName) (head1 (Jvm.Cond.code (⟨"java/util/List", "copyOf", "(Ljava/util/Collection;)Ljava/util/List;"⟩ : MethodName) jdk_40_method_48_code 1 (some (.object "java/util/List")) :: ws) ({ frames := 1, cells := 0, slots := 0, locals := 13 } : Room)) (fun a U => a = #[(.ref (w 1))] ∧ Z.Warmed39 U.vm ∧ U.heap = h0) (fun _ _ _ _ _ => True) (fun _ U o U' => ∃ v L, o = .returned v ∧ Qg (fun v h => v = (some (.ref (w 1))) ∧ h = h0) hB.size v U'.heap L ∧ FrameEnd U o U' L ({ frames := 1, cells := 0, slots := 0, locals := 13 } : Room).cells ({ frames := 1, cells := 0, slots := 0, locals := 13 } : Room).slots) := by
  refine MetFree.of_bodySF (plainFor_of_name pn_1) hisR ?_
  intro p e s m args below meth c s₁ Bd hml0 hP0 hK
  obtain ⟨rfl, hZ, hh⟩ := hP0
  have hx := Bd.exec
  have hby := Bd.bytes
  have hml : c.maxLocals = 1 := hml0
  have hown : s.vm.findClass "java/util/List" = some m.cls := findClass_of_methodNamed Bd.named
  have hnm := (name_of_methodNamed Bd.named Bd.method).1
  have X0 : Stand p l e ({ frames := 1, cells := 0, slots := 0, locals := 13 } : Room) s m #[(.ref (w 1))] below meth c s₁ [] 0 0 := Stand.of_body Bd
  have e0 : s₁.heap = h0 := by rw [← hh, Bd.state]; rfl
  have N0 := Fr.nil hB.size
  suffices hgo : Go p e below (fun o U' => ∃ v L, o = .returned v ∧ Qg (fun v h => v = (some (.ref (w 1))) ∧ h = h0) hB.size v U'.heap L ∧ FrameEnd s o U' L ({ frames := 1, cells := 0, slots := 0, locals := 13 } : Room).cells ({ frames := 1, cells := 0, slots := 0, locals := 13 } : Room).slots) s₁ (mkF m 0 #[.val (.ref (w 1))] []) by
    obtain ⟨s2, o, g1, g2, g3, g4⟩ := hgo
    refine ⟨s2, o, castTop (?_ : entryFrame m #[(.ref (w 1))] 1 = _) g1, g2, g3, g4⟩
    first | (simp [entryFrame, mkF, argsToLocals, Value.category]; done) | rfl
  refine Go.on (T' := s₁) (g' := (mkF m 1 #[.val (.ref (w 1))] [(.ref (w 1))])) (fun t k => XS.aloadN X0.here hx rfl (hb hby d8_0) rfl rfl k) ?_
  obtain ⟨_, _, ⟨T57, L57, k57, n57⟩, -, X57, ⟨Lc57, hQ57, l57, y57, z57⟩, st57⟩ := Jvm.LawKit.callS X0 hx (y := (⟨"java/util/ImmutableCollections", "listCopy", "(Ljava/util/Collection;)Ljava/util/List;"⟩ : MethodName)) hown (mvT hZ (hw _ (List.mem_of_getElem? (i := 33) rfl))) (mvT hZ (hw _ (List.mem_of_getElem? (i := 34) rfl))) (mvT hZ (hw _ (List.mem_of_getElem? (i := 18) rfl))) (mvT hZ (hw _ (List.mem_of_getElem? (i := 35) rfl))) (by decide) (backOf (W := 0) (rm9_0 l Z a0 hw [] w hB hP h0 XB hp0) hZ (hw _ (List.mem_of_getElem? (i := 35) rfl)) (hw _ (List.mem_of_getElem? (i := 18) rfl)) (by decide) (by decide)) (g := (mkF m 1 #[.val (.ref (w 1))] [(.ref (w 1))])) rfl (by rw [hml]; rfl) (argsL := [(.ref (w 1))]) (rest := []) (lenOf pd_3 rfl) rfl (by show 2 * 0 + _ ≤ _; exact Nat.le_of_eq rfl) (hb hby d8_1) (fun _ _ => ⟨rfl, e0, (by decide : 0 + 0 ≤ _), (by decide : 0 + 0 ≤ _)⟩)
  dsimp only [Pt.U, Pt.locs, Pt.cells, Pt.slots] at X57 l57 y57 z57 st57 hQ57
  subst l57 y57 z57
  obtain ⟨⟨rfl, e57⟩, N57q⟩ := hQ57
  have N57 := Fr.app N0 N57q
  refine Go.on (T' := T57) (g' := (mkF m 4 #[.val (.ref (w 1))] [(.ref (w 1))])) st57 ?_
  obtain ⟨fs, hr, hrun, hended, hW, hsame⟩ := X57.leave (v := some (.ref (w 1))) (fun h => by rw [Bd.returns] at h; cases h)
  exact ⟨_, _, retOut X57 hx Bd.returns rfl (Or.inr (Or.inr (Or.inr (Or.inr ⟨rfl, rfl, rfl⟩)))) (hb hby d8_4) hr, hrun, hended, _, _, rfl, ⟨⟨rfl, e57⟩, N57⟩, ⟨_, rfl⟩, hW, hsame.mono (by decide) (by decide)⟩
theorem d5_28 : decode prog_10_method_1_code 28 = .ok (.astore_n 3, 1) := by decide +kernel
theorem d5_29 : decode prog_10_method_1_code 29 = .ok (.aload_n 3, 1) := by decide +kernel
theorem d5_30 : decode prog_10_method_1_code 30 = .ok (.invokeinterface 22 1, 5) := by decide +kernel
theorem d10_0 : decode jdk_45_method_2_code 0 = .ok (.aload_n 0, 1) := by decide +kernel
theorem d10_1 : decode jdk_45_method_2_code 1 = .ok (.getfield 7, 3) := by decide +kernel
theorem d10_4 : decode jdk_45_method_2_code 4 = .ok (.arraylength, 1) := by decide +kernel
theorem d10_5 : decode jdk_45_method_2_code 5 = .ok (.ifCond .ne 7, 3) := by decide +kernel
theorem d10_8 : decode jdk_45_method_2_code 8 = .ok (.iconst 1, 1) := by decide +kernel
theorem d10_9 : decode jdk_45_method_2_code 9 = .ok (.goto 4, 3) := by decide +kernel
theorem d10_13 : decode jdk_45_method_2_code 13 = .ok (.ireturn, 1) := by decide +kernel
theorem pn_4 : plainName "java/util/ImmutableCollections$ListN" = true := by first | (simp [plainName, overriddenIn]; done) | decide +kernel
set_option maxRecDepth 65536 in
set_option maxHeartbeats 40000000 in
theorem rm10_0 (l : Launch) (Z : State) (a0 : Array Value) (hw : ∀ d ∈ tables_1, d.before a0 Z = true) (ws : List Jvm.Cond) (w : Nat → Addr) (hB : Heap) (hP : Pins Z hB w) (h0 : Heap) (XB : Ext hB h0) :
    MetFree l (⟨"java/util/ImmutableCollections$ListN", "isEmpty", "()Z"⟩ : MethodName) (head1 (Jvm.Cond.code (⟨"java/util/ImmutableCollections$ListN", "isEmpty", "()Z"⟩ : MethodName) jdk_45_method_2_code 1 (some .boolean) :: ws) ({ frames := 0, cells := 0, slots := 0, locals := 0 } : Room)) (fun a U => a = #[(.ref (w 1))] ∧ Z.Warmed39 U.vm ∧ U.heap = h0) (fun _ _ _ _ _ => True) (fun _ U o U' => ∃ v L, o = .returned v ∧ Qg (fun v h => v = (some (.int (1 : Int32))) ∧ h = h0) hB.size v U'.heap L ∧ FrameEnd U o U' L ({ frames := 0, cells := 0, slots := 0, locals := 0 } : Room).cells ({ frames := 0, cells := 0, slots := 0, locals := 0 } : Room).slots) := by
  refine MetFree.of_bodySF (plainFor_of_name pn_4) hisR ?_
  intro p e s m args below meth c s₁ Bd hml0 hP0 hK
  obtain ⟨rfl, hZ, hh⟩ := hP0
  have hx := Bd.exec
  have hby := Bd.bytes
  have hml : c.maxLocals = 1 := hml0
  have hown : s.vm.findClass "java/util/ImmutableCollections$ListN" = some m.cls := findClass_of_methodNamed Bd.named
  have hnm := (name_of_methodNamed Bd.named Bd.method).1
  have X0 : Stand p l e ({ frames := 0, cells := 0, slots := 0, locals := 0 } : Room) s m #[(.ref (w 1))] below meth c s₁ [] 0 0 := Stand.of_body Bd
  have e0 : s₁.heap = h0 := by rw [← hh, Bd.state]; rfl
  have N0 := Fr.nil hB.size
  suffices hgo : Go p e below (fun o U' => ∃ v L, o = .returned v ∧ Qg (fun v h => v = (some (.int (1 : Int32))) ∧ h = h0) hB.size v U'.heap L ∧ FrameEnd s o U' L ({ frames := 0, cells := 0, slots := 0, locals := 0 } : Room).cells ({ frames := 0, cells := 0, slots := 0, locals := 0 } : Room).slots) s₁ (mkF m 0 #[.val (.ref (w 1))] []) by
    obtain ⟨s2, o, g1, g2, g3, g4⟩ := hgo
    refine ⟨s2, o, castTop (?_ : entryFrame m #[(.ref (w 1))] 1 = _) g1, g2, g3, g4⟩
    first | (simp [entryFrame, mkF, argsToLocals, Value.category]; done) | rfl
  refine Go.on (T' := s₁) (g' := (mkF m 1 #[.val (.ref (w 1))] [(.ref (w 1))])) (fun t k => XS.aloadN X0.here hx rfl (hb hby d10_0) rfl rfl k) ?_
  obtain ⟨T59, X59, e59, st59⟩ := getF X0 hx hZ hown (host := "") (Or.inl (hw _ (List.mem_of_getElem? (i := 57) rfl))) Via.refl e0 (pin_3 (pins_ext XB hP)) (g := (mkF m 1 #[.val (.ref (w 1))] [(.ref (w 1))])) rfl rfl (hb hby d10_1)
  refine Go.on (T' := T59) (g' := (mkF m 4 #[.val (.ref (w 1))] [(.ref (w 0))])) st59 ?_
  obtain ⟨cl60, Aq60, sq60, -⟩ := (pin_5 (pins_ext XB hP))
  have hz60 : cl60.slots.size.toInt32 = (0 : Int32) := by rw [sq60]; rfl
  refine Go.on (T' := T59) (g' := (mkF m 5 #[.val (.ref (w 1))] [(.int (0 : Int32))])) (fun t k => X59.arraylength hx (by rw [e59]; exact Aq60.1) (State.isArrayOf_alike hZ.alike Aq60.2.1) (g := (mkF m 4 #[.val (.ref (w 1))] [(.ref (w 0))])) rfl rfl (hb hby d10_4) t (by rw [hz60]; exact k)) ?_
  refine Go.on (T' := T59) (g' := (mkF m 8 #[.val (.ref (w 1))] [])) (fun t k => XS.ifNo X59.here hx rfl (hb hby d10_5) rfl ((if0 _ _).trans (teq (by decide : (0 : Int32) = (0 : Int32))).2) k) ?_
  refine Go.on (T' := T59) (g' := (mkF m 9 #[.val (.ref (w 1))] [(.int (1 : Int32))])) (fun t k => XS.iconst X59.here hx rfl (hb hby d10_8) k) ?_
  refine Go.on (T' := T59) (g' := (mkF m 13 #[.val (.ref (w 1))] [(.int (1 : Int32))])) (fun t k => XS.goto X59.here hx rfl (pc0 := 9) (pc' := 13) rfl (hb hby d10_9) (by decide) (by decide) k) ?_
  obtain ⟨fs, hr, hrun, hended, hW, hsame⟩ := X59.leave (v := some (.int (1 : Int32))) (fun h => by rw [Bd.returns] at h; cases h)
  exact ⟨_, _, retN X59 hx (t := .boolean) Bd.returns (by simp) (hb hby d10_13) hr, hrun, hended, _, _, rfl, ⟨⟨rfl, e59⟩, N0⟩, ⟨_, rfl⟩, hW, hsame.mono (by decide) (by decide)⟩
theorem pd_4 : parseMethodDescriptor "()Z" = some ⟨[], some .boolean⟩ := by decide +kernel
theorem d5_35 : decode prog_10_method_1_code 35 = .ok (.ifCond .ne 29, 3) := by decide +kernel
theorem d5_64 : decode prog_10_method_1_code 64 = .ok (.aload_n 0, 1) := by decide +kernel
theorem d5_65 : decode prog_10_method_1_code 65 = .ok (.iload_n 1, 1) := by decide +kernel
theorem d5_66 : decode prog_10_method_1_code 66 = .ok (.putfield 32, 3) := by decide +kernel
theorem d5_69 : decode prog_10_method_1_code 69 = .ok (.aload_n 0, 1) := by decide +kernel
theorem d5_70 : decode prog_10_method_1_code 70 = .ok (.iload_n 2, 1) := by decide +kernel
theorem d5_71 : decode prog_10_method_1_code 71 = .ok (.putfield 38, 3) := by decide +kernel
theorem d5_74 : decode prog_10_method_1_code 74 = .ok (.aload_n 0, 1) := by decide +kernel
theorem d5_75 : decode prog_10_method_1_code 75 = .ok (.aload_n 3, 1) := by decide +kernel
theorem d5_76 : decode prog_10_method_1_code 76 = .ok (.putfield 41, 3) := by decide +kernel
theorem d5_79 : decode prog_10_method_1_code 79 = .ok (.return_, 1) := by decide +kernel
theorem pn_5 : plainName "com/example/realizer/realizer/spectra/Domain" = true := by first | (simp [plainName, overriddenIn]; done) | decide +kernel
set_option maxRecDepth 65536 in
set_option maxHeartbeats 40000000 in
theorem rm5_0 (l : Launch) (Z : State) (a0 : Array Value) (hw : ∀ d ∈ tables_1, d.before a0 Z = true) (ws : List Jvm.Cond) (w : Nat → Addr) (hB : Heap) (hP : Pins Z hB w) (h0 : Heap) (XB : Ext hB h0) (pa1 : Int32) (pa2 : Int32) (o0 : Addr) (E_o0 : Exa Z h0 o0 "com/example/realizer/realizer/spectra/Domain") (F_o0_from : Fld Z h0 o0 "com/example/realizer/realizer/spectra/Domain" "from" "I" (.int (0 : Int32))) (F_o0_to : Fld Z h0 o0 "com/example/realizer/realizer/spectra/Domain" "to" "I" (.int (0 : Int32))) (F_o0_literals : Fld Z h0 o0 "com/example/realizer/realizer/spectra/Domain" "literals" "Ljava/util/List;" .null) (g_o0 : hB.size ≤ o0) (hp0 : ¬ (pa2 < pa1)) (hp1 : own_as Z "java/util/ImmutableCollections$ListN" "java/util/ImmutableCollections$List12") :
    MetFree l (⟨"com/example/realizer/realizer/spectra/Domain", "<init>", "(IILjava/util/List;)V"⟩ : MethodName) (head1 (Jvm.Cond.code (⟨"com/example/realizer/realizer/spectra/Domain", "<init>", "(IILjava/util/List;)V"⟩ : MethodName) prog_10_method_1_code 4 none :: ws) ({ frames := 2, cells := 0, slots := 0, locals := 25 } : Room)) (fun a U => a = #[(.ref o0), (.int pa1), (.int pa2), (.ref (w 1))] ∧ Z.Warmed39 U.vm ∧ U.heap = h0) (fun _ _ _ _ _ => True) (fun _ U o U' => ∃ v L, o = .returned v ∧ Qg (fun v h => v = none ∧ (Keep h0 h [o0] ∧ Exa Z h o0 "com/example/realizer/realizer/spectra/Domain" ∧ Fld Z h o0 "com/example/realizer/realizer/spectra/Domain" "from" "I" (.int pa1) ∧ Fld Z h o0 "com/example/realizer/realizer/spectra/Domain" "to" "I" (.int pa2) ∧ Fld Z h o0 "com/example/realizer/realizer/spectra/Domain" "literals" "Ljava/util/List;" (.ref (w 1)) ∧ True)) hB.size v U'.heap L ∧ FrameEnd U o U' L ({ frames := 2, cells := 0, slots := 0, locals := 25 } : Room).cells ({ frames := 2, cells := 0, slots := 0, locals := 25 } : Room).slots) := by
  refine MetFree.of_bodySF (plainFor_of_name pn_5) hisR ?_
  intro p e s m args below meth c s₁ Bd hml0 hP0 hK
  obtain ⟨rfl, hZ, hh⟩ := hP0
  have hx := Bd.exec
  have hby := Bd.bytes
  have hml : c.maxLocals = 4 := hml0
  have hown : s.vm.findClass "com/example/realizer/realizer/spectra/Domain" = some m.cls := findClass_of_methodNamed Bd.named
  have hnm := (name_of_methodNamed Bd.named Bd.method).1
  have X0 : Stand p l e ({ frames := 2, cells := 0, slots := 0, locals := 25 } : Room) s m #[(.ref o0), (.int pa1), (.int pa2), (.ref (w 1))] below meth c s₁ [] 0 0 := Stand.of_body Bd
  have e0 : s₁.heap = h0 := by rw [← hh, Bd.state]; rfl
  have N0 := Fr.nil hB.size
  suffices hgo : Go p e below (fun o U' => ∃ v L, o = .returned v ∧ Qg (fun v h => v = none ∧ (Keep h0 h [o0] ∧ Exa Z h o0 "com/example/realizer/realizer/spectra/Domain" ∧ Fld Z h o0 "com/example/realizer/realizer/spectra/Domain" "from" "I" (.int pa1) ∧ Fld Z h o0 "com/example/realizer/realizer/spectra/Domain" "to" "I" (.int pa2) ∧ Fld Z h o0 "com/example/realizer/realizer/spectra/Domain" "literals" "Ljava/util/List;" (.ref (w 1)) ∧ True)) hB.size v U'.heap L ∧ FrameEnd s o U' L ({ frames := 2, cells := 0, slots := 0, locals := 25 } : Room).cells ({ frames := 2, cells := 0, slots := 0, locals := 25 } : Room).slots) s₁ (mkF m 0 #[.val (.ref o0), .val (.int pa1), .val (.int pa2), .val (.ref (w 1))] []) by
    obtain ⟨s2, o, g1, g2, g3, g4⟩ := hgo
    refine ⟨s2, o, castTop (?_ : entryFrame m #[(.ref o0), (.int pa1), (.int pa2), (.ref (w 1))] 4 = _) g1, g2, g3, g4⟩
    first | (simp [entryFrame, mkF, argsToLocals, Value.category]; done) | rfl
  refine Go.on (T' := s₁) (g' := (mkF m 1 #[.val (.ref o0), .val (.int pa1), .val (.int pa2), .val (.ref (w 1))] [(.ref o0)])) (fun t k => XS.aloadN X0.here hx rfl (hb hby d5_0) rfl rfl k) ?_
  obtain ⟨_, _, ⟨T54, L54, k54, n54⟩, -, X54, ⟨Lc54, hQ54, l54, y54, z54⟩, st54⟩ := X0.specialBack hx (y := (⟨"java/lang/Record", "<init>", "()V"⟩ : MethodName)) rfl hown (mvT hZ (hw _ (List.mem_of_getElem? (i := 22) rfl))) (mvT hZ (hw _ (List.mem_of_getElem? (i := 23) rfl))) (mvT hZ (hw _ (List.mem_of_getElem? (i := 26) rfl))) (by decide) (backOf (W := 0) (rm6_0 l Z a0 hw [] w hB hP h0 XB o0 E_o0 F_o0_from F_o0_to F_o0_literals g_o0) hZ (hw _ (List.mem_of_getElem? (i := 26) rfl)) (hw _ (List.mem_of_getElem? (i := 25) rfl)) (by decide) (by decide)) (g := (mkF m 1 #[.val (.ref o0), .val (.int pa1), .val (.int pa2), .val (.ref (w 1))] [(.ref o0)])) rfl (by rw [hml]; rfl) (Steps.refl _) (a := o0) (argsL := []) (rest := []) (lenOf pd_2 rfl) rfl (by show 2 * 0 + _ ≤ _; exact Nat.le_of_eq rfl) (hb hby d5_1) (fun _ _ => ⟨rfl, e0, (by decide : 0 + 0 ≤ _), (by decide : 0 + 0 ≤ _)⟩)
  dsimp only [Pt.U, Pt.locs, Pt.cells, Pt.slots] at X54 l54 y54 z54 st54 hQ54
  subst l54 y54 z54
  obtain ⟨⟨rfl, e54⟩, N54q⟩ := hQ54
  have N54 := Fr.app N0 N54q
  refine Go.on (T' := T54) (g' := (mkF m 4 #[.val (.ref o0), .val (.int pa1), .val (.int pa2), .val (.ref (w 1))] [])) (fun t k => st54.trans k) ?_
  refine Go.on (T' := T54) (g' := (mkF m 5 #[.val (.ref o0), .val (.int pa1), .val (.int pa2), .val (.ref (w 1))] [(.int pa2)])) (fun t k => XS.iloadN X54.here hx rfl (hb hby d5_4) rfl k) ?_
  refine Go.on (T' := T54) (g' := (mkF m 6 #[.val (.ref o0), .val (.int pa1), .val (.int pa2), .val (.ref (w 1))] [(.int pa1), (.int pa2)])) (fun t k => XS.iloadN X54.here hx rfl (hb hby d5_5) rfl k) ?_
  refine Go.on (T' := T54) (g' := (mkF m 24 #[.val (.ref o0), .val (.int pa1), .val (.int pa2), .val (.ref (w 1))] [])) (fun t k => XS.icmpYes X54.here hx rfl (pc0 := 6) (pc' := 24) rfl (hb hby d5_6) rfl (flt hp0).2.1 (by decide) (by decide) k) ?_
  refine Go.on (T' := T54) (g' := (mkF m 25 #[.val (.ref o0), .val (.int pa1), .val (.int pa2), .val (.ref (w 1))] [(.ref (w 1))])) (fun t k => XS.aloadN X54.here hx rfl (hb hby d5_24) rfl rfl k) ?_
  obtain ⟨_, _, ⟨T58, L58, k58, n58⟩, -, X58, ⟨Lc58, hQ58, l58, y58, z58⟩, st58⟩ := Jvm.LawKit.callS X54 hx (y := (⟨"java/util/List", "copyOf", "(Ljava/util/Collection;)Ljava/util/List;"⟩ : MethodName)) hown (mvT hZ (hw _ (List.mem_of_getElem? (i := 30) rfl))) (mvT hZ (hw _ (List.mem_of_getElem? (i := 31) rfl))) (mvT hZ (hw _ (List.mem_of_getElem? (i := 15) rfl))) (mvT hZ (hw _ (List.mem_of_getElem? (i := 32) rfl))) (by decide) (backOf (W := 0) (rm8_0 l Z a0 hw [] w hB hP h0 XB hp1) hZ (hw _ (List.mem_of_getElem? (i := 32) rfl)) (hw _ (List.mem_of_getElem? (i := 15) rfl)) (by decide) (by decide)) (g := (mkF m 25 #[.val (.ref o0), .val (.int pa1), .val (.int pa2), .val (.ref (w 1))] [(.ref (w 1))])) rfl (by rw [hml]; rfl) (argsL := [(.ref (w 1))]) (rest := []) (lenOf pd_3 rfl) rfl (by show 2 * 0 + _ ≤ _; exact Nat.le_of_eq rfl) (hb hby d5_25) (fun _ _ => ⟨rfl, e54, (by decide : 0 + 0 ≤ _), (by decide : 0 + 0 ≤ _)⟩)
  dsimp only [Pt.U, Pt.locs, Pt.cells, Pt.slots] at X58 l58 y58 z58 st58 hQ58
  subst l58 y58 z58
  obtain ⟨⟨rfl, e58⟩, N58q⟩ := hQ58
  have N58 := Fr.app N54 N58q
  refine Go.on (T' := T58) (g' := (mkF m 28 #[.val (.ref o0), .val (.int pa1), .val (.int pa2), .val (.ref (w 1))] [(.ref (w 1))])) st58 ?_
  refine Go.on (T' := T58) (g' := (mkF m 29 #[.val (.ref o0), .val (.int pa1), .val (.int pa2), .val (.ref (w 1))] [])) (fun t k => XS.astoreN X58.here hx rfl (hb hby d5_28) rfl rfl (l' := #[.val (.ref o0), .val (.int pa1), .val (.int pa2), .val (.ref (w 1))]) rfl k) ?_
  refine Go.on (T' := T58) (g' := (mkF m 30 #[.val (.ref o0), .val (.int pa1), .val (.int pa2), .val (.ref (w 1))] [(.ref (w 1))])) (fun t k => XS.aloadN X58.here hx rfl (hb hby d5_29) rfl rfl k) ?_
  obtain ⟨cq61, kq61, q61a, q61b, q61c⟩ := isOf hZ e58 (pin_1 (pins_ext XB hP))
  obtain ⟨_, _, ⟨T61, L61, k61, n61⟩, -, X61, ⟨Lc61, hQ61, l61, y61, z61⟩, st61⟩ := X58.interfaceBack hx (xi := (⟨"java/util/List", "isEmpty", "()Z"⟩ : MethodName)) (y := (⟨"java/util/ImmutableCollections$ListN", "isEmpty", "()Z"⟩ : MethodName)) hown (mvT hZ (hw _ (List.mem_of_getElem? (i := 48) rfl))) (mvT hZ (hw _ (List.mem_of_getElem? (i := 49) rfl))) (mvT hZ (hw _ (List.mem_of_getElem? (i := 50) rfl))) (mvT hZ (hw _ (List.mem_of_getElem? (i := 51) rfl))) (mvT hZ (hw _ (List.mem_of_getElem? (i := 52) rfl))) (mvT hZ (hw _ (List.mem_of_getElem? (i := 53) rfl))) (mvT hZ (hw _ (List.mem_of_getElem? (i := 54) rfl))) (mvT hZ (hw _ (List.mem_of_getElem? (i := 47) rfl))) (by decide) (backOf (W := 0) (rm10_0 l Z a0 hw [] w hB hP h0 XB) hZ (hw _ (List.mem_of_getElem? (i := 56) rfl)) (hw _ (List.mem_of_getElem? (i := 55) rfl)) (by decide) (by decide)) q61a q61b q61c (g := (mkF m 30 #[.val (.ref o0), .val (.int pa1), .val (.int pa2), .val (.ref (w 1))] [(.ref (w 1))])) rfl (by rw [hml]; rfl) (Steps.refl _) (argsL := []) (rest := []) (lenOf pd_4 rfl) rfl (by show 2 * 0 + _ ≤ _; exact Nat.le_of_eq rfl) (hb hby d5_30) (fun _ _ => ⟨rfl, e58, (by decide : 0 + 0 ≤ _), (by decide : 0 + 0 ≤ _)⟩)
  dsimp only [Pt.U, Pt.locs, Pt.cells, Pt.slots] at X61 l61 y61 z61 st61 hQ61
  subst l61 y61 z61
  obtain ⟨⟨rfl, e61⟩, N61q⟩ := hQ61
  have N61 := Fr.app N58 N61q
  refine Go.on (T' := T61) (g' := (mkF m 35 #[.val (.ref o0), .val (.int pa1), .val (.int pa2), .val (.ref (w 1))] [(.int (1 : Int32))])) (fun t k => st61.trans k) ?_
  refine Go.on (T' := T61) (g' := (mkF m 64 #[.val (.ref o0), .val (.int pa1), .val (.int pa2), .val (.ref (w 1))] [])) (fun t k => XS.ifYes X61.here hx rfl (pc0 := 35) (pc' := 64) rfl (hb hby d5_35) rfl ((if0 _ _).trans (feq (by decide : ¬ ((1 : Int32) = (0 : Int32)))).2) (by decide) (by decide) k) ?_
  refine Go.on (T' := T61) (g' := (mkF m 65 #[.val (.ref o0), .val (.int pa1), .val (.int pa2), .val (.ref (w 1))] [(.ref o0)])) (fun t k => XS.aloadN X61.here hx rfl (hb hby d5_64) rfl rfl k) ?_
  refine Go.on (T' := T61) (g' := (mkF m 66 #[.val (.ref o0), .val (.int pa1), .val (.int pa2), .val (.ref (w 1))] [(.int pa1), (.ref o0)])) (fun t k => XS.iloadN X61.here hx rfl (hb hby d5_65) rfl k) ?_
  obtain ⟨T62, h62, X62, e62, W62, st62⟩ := putF X61 hx hZ hown (host := "") (Or.inl (hw _ (List.mem_of_getElem? (i := 59) rfl))) Via.refl e61 F_o0_from E_o0 (Or.inr ⟨(hw _ (List.mem_of_getElem? (i := 60) rfl)), rfl, hnm⟩) (hw _ (List.mem_of_getElem? (i := 12) rfl)) (ty := .int) (by decide) rfl rfl (g := (mkF m 66 #[.val (.ref o0), .val (.int pa1), .val (.int pa2), .val (.ref (w 1))] [(.int pa1), (.ref o0)])) rfl rfl (hb hby d5_66)
  have N62 := Fr.snoc X62 N61 g_o0
  have XT62 : Ext hB h62 := own_extw XB W62 g_o0
  have KC62 : Keep h0 h62 [o0] := (Keep.refl h0 [o0]).wr W62 (Or.inl (List.mem_of_getElem? (i := 0) rfl))
  have Fw62 : Fld Z h62 o0 "com/example/realizer/realizer/spectra/Domain" "from" "I" (.int pa1) := F_o0_from.same W62
  refine Go.on (T' := T62) (g' := (mkF m 69 #[.val (.ref o0), .val (.int pa1), .val (.int pa2), .val (.ref (w 1))] [])) st62 ?_
  refine Go.on (T' := T62) (g' := (mkF m 70 #[.val (.ref o0), .val (.int pa1), .val (.int pa2), .val (.ref (w 1))] [(.ref o0)])) (fun t k => XS.aloadN X62.here hx rfl (hb hby d5_69) rfl rfl k) ?_
  refine Go.on (T' := T62) (g' := (mkF m 71 #[.val (.ref o0), .val (.int pa1), .val (.int pa2), .val (.ref (w 1))] [(.int pa2), (.ref o0)])) (fun t k => XS.iloadN X62.here hx rfl (hb hby d5_70) rfl k) ?_
  have f64 : Fld Z h62 o0 "com/example/realizer/realizer/spectra/Domain" "to" "I" (.int (0 : Int32)) := (F_o0_to.other W62 (Or.inr (slot_ne (Or.inr (hw _ (List.mem_of_getElem? (i := 62) rfl))) (Or.inr (hw _ (List.mem_of_getElem? (i := 60) rfl))) (by decide) (t := .int) (t' := .int) (by decide) (by decide))))
  have f65 : Exa Z h62 o0 "com/example/realizer/realizer/spectra/Domain" := (E_o0.wr W62)
  obtain ⟨T63, h63, X63, e63, W63, st63⟩ := putF X62 hx hZ hown (host := "") (Or.inl (hw _ (List.mem_of_getElem? (i := 61) rfl))) Via.refl e62 f64 f65 (Or.inr ⟨(hw _ (List.mem_of_getElem? (i := 62) rfl)), rfl, hnm⟩) (hw _ (List.mem_of_getElem? (i := 12) rfl)) (ty := .int) (by decide) rfl rfl (g := (mkF m 71 #[.val (.ref o0), .val (.int pa1), .val (.int pa2), .val (.ref (w 1))] [(.int pa2), (.ref o0)])) rfl rfl (hb hby d5_71)
  have N63 := Fr.snoc X63 N62 g_o0
  have XT63 : Ext hB h63 := own_extw XT62 W63 g_o0
  have KC63 : Keep h0 h63 [o0] := KC62.wr W63 (Or.inl (List.mem_of_getElem? (i := 0) rfl))
  have Fw63 : Fld Z h63 o0 "com/example/realizer/realizer/spectra/Domain" "to" "I" (.int pa2) := f64.same W63
  refine Go.on (T' := T63) (g' := (mkF m 74 #[.val (.ref o0), .val (.int pa1), .val (.int pa2), .val (.ref (w 1))] [])) st63 ?_
  refine Go.on (T' := T63) (g' := (mkF m 75 #[.val (.ref o0), .val (.int pa1), .val (.int pa2), .val (.ref (w 1))] [(.ref o0)])) (fun t k => XS.aloadN X63.here hx rfl (hb hby d5_74) rfl rfl k) ?_
  refine Go.on (T' := T63) (g' := (mkF m 76 #[.val (.ref o0), .val (.int pa1), .val (.int pa2), .val (.ref (w 1))] [(.ref (w 1)), (.ref o0)])) (fun t k => XS.aloadN X63.here hx rfl (hb hby d5_75) rfl rfl k) ?_
  have f67 : Fld Z h63 o0 "com/example/realizer/realizer/spectra/Domain" "literals" "Ljava/util/List;" .null := ((F_o0_literals.other W62 (Or.inr (slot_ne (Or.inr (hw _ (List.mem_of_getElem? (i := 64) rfl))) (Or.inr (hw _ (List.mem_of_getElem? (i := 60) rfl))) (by decide) (t := (.object "java/util/List")) (t' := .int) (by decide) (by decide)))).other W63 (Or.inr (slot_ne (Or.inr (hw _ (List.mem_of_getElem? (i := 64) rfl))) (Or.inr (hw _ (List.mem_of_getElem? (i := 62) rfl))) (by decide) (t := (.object "java/util/List")) (t' := .int) (by decide) (by decide))))
  have f68 : Exa Z h63 o0 "com/example/realizer/realizer/spectra/Domain" := (f65.wr W63)
  obtain ⟨T66, h66, X66, e66, W66, st66⟩ := putF X63 hx hZ hown (host := "") (Or.inl (hw _ (List.mem_of_getElem? (i := 63) rfl))) Via.refl e63 f67 f68 (Or.inr ⟨(hw _ (List.mem_of_getElem? (i := 64) rfl)), rfl, hnm⟩) (hw _ (List.mem_of_getElem? (i := 12) rfl)) (ty := (.object "java/util/List")) (by decide) rfl rfl (g := (mkF m 76 #[.val (.ref o0), .val (.int pa1), .val (.int pa2), .val (.ref (w 1))] [(.ref (w 1)), (.ref o0)])) rfl rfl (hb hby d5_76)
  have N66 := Fr.snoc X66 N63 g_o0
  have XT66 : Ext hB h66 := own_extw XT63 W66 g_o0
  have KC66 : Keep h0 h66 [o0] := KC63.wr W66 (Or.inl (List.mem_of_getElem? (i := 0) rfl))
  have Fw66 : Fld Z h66 o0 "com/example/realizer/realizer/spectra/Domain" "literals" "Ljava/util/List;" (.ref (w 1)) := f67.same W66
  refine Go.on (T' := T66) (g' := (mkF m 79 #[.val (.ref o0), .val (.int pa1), .val (.int pa2), .val (.ref (w 1))] [])) st66 ?_
  have f69 : Exa Z h66 o0 "com/example/realizer/realizer/spectra/Domain" := (f68.wr W66)
  have f70 : Fld Z h66 o0 "com/example/realizer/realizer/spectra/Domain" "from" "I" (.int pa1) := ((Fw62.other W63 (Or.inr (slot_ne (Or.inr (hw _ (List.mem_of_getElem? (i := 60) rfl))) (Or.inr (hw _ (List.mem_of_getElem? (i := 62) rfl))) (by decide) (t := .int) (t' := .int) (by decide) (by decide)))).other W66 (Or.inr (slot_ne (Or.inr (hw _ (List.mem_of_getElem? (i := 60) rfl))) (Or.inr (hw _ (List.mem_of_getElem? (i := 64) rfl))) (by decide) (t := .int) (t' := (.object "java/util/List")) (by decide) (by decide))))
  have f71 : Fld Z h66 o0 "com/example/realizer/realizer/spectra/Domain" "to" "I" (.int pa2) := (Fw63.other W66 (Or.inr (slot_ne (Or.inr (hw _ (List.mem_of_getElem? (i := 62) rfl))) (Or.inr (hw _ (List.mem_of_getElem? (i := 64) rfl))) (by decide) (t := .int) (t' := (.object "java/util/List")) (by decide) (by decide))))
  obtain ⟨fs, hr, hrun, hended, hW, hsame⟩ := X66.leave (v := none) (fun _ => rfl)
  exact ⟨_, _, X66.returnOut hx Bd.returns (hb hby d5_79) hr, hrun, hended, _, _, rfl, ⟨⟨rfl, own_at (P := fun h => Keep h0 h [o0] ∧ Exa Z h o0 "com/example/realizer/realizer/spectra/Domain" ∧ Fld Z h o0 "com/example/realizer/realizer/spectra/Domain" "from" "I" (.int pa1) ∧ Fld Z h o0 "com/example/realizer/realizer/spectra/Domain" "to" "I" (.int pa2) ∧ Fld Z h o0 "com/example/realizer/realizer/spectra/Domain" "literals" "Ljava/util/List;" (.ref (w 1)) ∧ True) e66 ⟨KC66, f69, f70, f71, Fw66, trivial⟩⟩, N66⟩, ⟨_, rfl⟩, hW, hsame.mono (by decide) (by decide)⟩
theorem pd_5 : parseMethodDescriptor "(IILjava/util/List;)V" = some ⟨[.int, .int, (.object "java/util/List")], none⟩ := by decide +kernel
theorem d3_12 : decode prog_10_method_2_code 12 = .ok (.areturn, 1) := by decide +kernel
set_option maxRecDepth 65536 in
set_option maxHeartbeats 40000000 in
theorem rm3_0 (l : Launch) (Z : State) (a0 : Array Value) (hw : ∀ d ∈ tables_1, d.before a0 Z = true) (ws : List Jvm.Cond) (w : Nat → Addr) (hB : Heap) (hP : Pins Z hB w) (h0 : Heap) (XB : Ext hB h0) (pa0 : Int32) (pa1 : Int32) (hp0 : ¬ (pa1 < pa0)) (hp1 : own_as Z "java/util/ImmutableCollections$ListN" "java/util/ImmutableCollections$List12") :
    MetFree l (⟨"com/example/realizer/realizer/spectra/Domain", "range", "(II)Lcom/example/realizer/realizer/spectra/Domain;"⟩ : MethodName) (head1 (Jvm.Cond.code (⟨"com/example/realizer/realizer/spectra/Domain", "range", "(II)Lcom/example/realizer/realizer/spectra/Domain;"⟩ : MethodName) prog_10_method_2_code 2 (some (.object "com/example/realizer/realizer/spectra/Domain")) :: ws) ({ frames := 3, cells := 1, slots := 3, locals := 41 } : Room)) (fun a U => a = #[(.int pa0), (.int pa1)] ∧ Z.Warmed39 U.vm ∧ U.heap = h0) (fun _ _ _ _ _ => True) (fun _ U o U' => ∃ v L, o = .returned v ∧ Qg (fun v h => ∃ (c0 : Addr), v = (some (.ref c0)) ∧ (Keep h0 h [] ∧ h0.size ≤ c0 ∧ Exa Z h c0 "com/example/realizer/realizer/spectra/Domain" ∧ Fld Z h c0 "com/example/realizer/realizer/spectra/Domain" "from" "I" (.int pa0) ∧ Fld Z h c0 "com/example/realizer/realizer/spectra/Domain" "to" "I" (.int pa1) ∧ Fld Z h c0 "com/example/realizer/realizer/spectra/Domain" "literals" "Ljava/util/List;" (.ref (w 1)) ∧ True)) hB.size v U'.heap L ∧ FrameEnd U o U' L ({ frames := 3, cells := 1, slots := 3, locals := 41 } : Room).cells ({ frames := 3, cells := 1, slots := 3, locals := 41 } : Room).slots) := by
  refine MetFree.of_bodySF (plainFor_of_name pn_5) hisR ?_
  intro p e s m args below meth c s₁ Bd hml0 hP0 hK
  obtain ⟨rfl, hZ, hh⟩ := hP0
  have hx := Bd.exec
  have hby := Bd.bytes
  have hml : c.maxLocals = 2 := hml0
  have hown : s.vm.findClass "com/example/realizer/realizer/spectra/Domain" = some m.cls := findClass_of_methodNamed Bd.named
  have hnm := (name_of_methodNamed Bd.named Bd.method).1
  have X0 : Stand p l e ({ frames := 3, cells := 1, slots := 3, locals := 41 } : Room) s m #[(.int pa0), (.int pa1)] below meth c s₁ [] 0 0 := Stand.of_body Bd
  have e0 : s₁.heap = h0 := by rw [← hh, Bd.state]; rfl
  have N0 := Fr.nil hB.size
  suffices hgo : Go p e below (fun o U' => ∃ v L, o = .returned v ∧ Qg (fun v h => ∃ (c0 : Addr), v = (some (.ref c0)) ∧ (Keep h0 h [] ∧ h0.size ≤ c0 ∧ Exa Z h c0 "com/example/realizer/realizer/spectra/Domain" ∧ Fld Z h c0 "com/example/realizer/realizer/spectra/Domain" "from" "I" (.int pa0) ∧ Fld Z h c0 "com/example/realizer/realizer/spectra/Domain" "to" "I" (.int pa1) ∧ Fld Z h c0 "com/example/realizer/realizer/spectra/Domain" "literals" "Ljava/util/List;" (.ref (w 1)) ∧ True)) hB.size v U'.heap L ∧ FrameEnd s o U' L ({ frames := 3, cells := 1, slots := 3, locals := 41 } : Room).cells ({ frames := 3, cells := 1, slots := 3, locals := 41 } : Room).slots) s₁ (mkF m 0 #[.val (.int pa0), .val (.int pa1)] []) by
    obtain ⟨s2, o, g1, g2, g3, g4⟩ := hgo
    refine ⟨s2, o, castTop (?_ : entryFrame m #[(.int pa0), (.int pa1)] 2 = _) g1, g2, g3, g4⟩
    first | (simp [entryFrame, mkF, argsToLocals, Value.category]; done) | rfl
  obtain ⟨T50, h50, X50, e50, E50, A50, D50, -, st50⟩ := newO X0 hx hZ hown (hw _ (List.mem_of_getElem? (i := 11) rfl)) (hw _ (List.mem_of_getElem? (i := 12) rfl)) (hw _ (List.mem_of_getElem? (i := 9) rfl)) e0 (g := (mkF m 0 #[.val (.int pa0), .val (.int pa1)] [])) rfl (hb hby d3_0) (by decide) (by decide)
  obtain ⟨b50, g50⟩ : ∃ z, z = h0.size := ⟨_, rfl⟩
  rw [← g50] at A50 D50 st50
  have gb50 : hB.size ≤ b50 := Nat.le_trans XB.1 (Nat.le_of_eq g50.symm)
  have s050 : h0.size ≤ b50 := Nat.le_trans (Keep.refl h0 []).1 (Nat.le_of_eq g50.symm)
  have KC50 : Keep h0 h50 [] := (Keep.refl h0 []).ext E50
  have XT50 := own_ext2 XB E50
  refine Go.on (T' := T50) (g' := (mkF m 3 #[.val (.int pa0), .val (.int pa1)] [(.ref b50)])) st50 ?_
  refine Go.on (T' := T50) (g' := (mkF m 4 #[.val (.int pa0), .val (.int pa1)] [(.ref b50), (.ref b50)])) (fun t k => XS.dup X50.here hx rfl (hb hby d3_3) rfl rfl k) ?_
  refine Go.on (T' := T50) (g' := (mkF m 5 #[.val (.int pa0), .val (.int pa1)] [(.int pa0), (.ref b50), (.ref b50)])) (fun t k => XS.iloadN X50.here hx rfl (hb hby d3_4) rfl k) ?_
  refine Go.on (T' := T50) (g' := (mkF m 6 #[.val (.int pa0), .val (.int pa1)] [(.int pa1), (.int pa0), (.ref b50), (.ref b50)])) (fun t k => XS.iloadN X50.here hx rfl (hb hby d3_5) rfl k) ?_
  obtain ⟨_, _, ⟨T52, L52, k52, n52⟩, -, X52, ⟨Lc52, hQ52, l52, y52, z52⟩, st52⟩ := Jvm.LawKit.callS X50 hx (y := (⟨"java/util/List", "of", "()Ljava/util/List;"⟩ : MethodName)) hown (mvT hZ (hw _ (List.mem_of_getElem? (i := 13) rfl))) (mvT hZ (hw _ (List.mem_of_getElem? (i := 14) rfl))) (mvT hZ (hw _ (List.mem_of_getElem? (i := 15) rfl))) (mvT hZ (hw _ (List.mem_of_getElem? (i := 16) rfl))) (by decide) (backOf (W := 4) (rm4_0 l Z a0 hw [] w hB hP h50 XT50) hZ (hw _ (List.mem_of_getElem? (i := 16) rfl)) (hw _ (List.mem_of_getElem? (i := 15) rfl)) (by decide) (by decide)) (g := (mkF m 6 #[.val (.int pa0), .val (.int pa1)] [(.int pa1), (.int pa0), (.ref b50), (.ref b50)])) rfl (by rw [hml]; rfl) (argsL := []) (rest := [(.int pa1), (.int pa0), (.ref b50), (.ref b50)]) (lenOf pd_1 rfl) rfl (by show 2 * 0 + _ ≤ _; exact Nat.le_of_eq rfl) (hb hby d3_6) (fun _ _ => ⟨rfl, e50, (by decide : 1 + 0 ≤ _), (by decide : 3 + 0 ≤ _)⟩)
  dsimp only [Pt.U, Pt.locs, Pt.cells, Pt.slots] at X52 l52 y52 z52 st52 hQ52
  subst l52 y52 z52
  obtain ⟨⟨rfl, e52⟩, N52q⟩ := hQ52
  have N52 := Fr.app N0 N52q
  refine Go.on (T' := T52) (g' := (mkF m 9 #[.val (.int pa0), .val (.int pa1)] [(.ref (w 1)), (.int pa1), (.int pa0), (.ref b50), (.ref b50)])) st52 ?_
  obtain ⟨_, _, ⟨T72, L72, k72, n72⟩, -, X72, ⟨Lc72, hQ72, l72, y72, z72⟩, st72⟩ := X52.specialBack hx (y := (⟨"com/example/realizer/realizer/spectra/Domain", "<init>", "(IILjava/util/List;)V"⟩ : MethodName)) rfl hown (mvT hZ (hw _ (List.mem_of_getElem? (i := 19) rfl))) (mvT hZ (hw _ (List.mem_of_getElem? (i := 20) rfl))) (mvT hZ (hw _ (List.mem_of_getElem? (i := 21) rfl))) (by decide) (backOf (W := 1) (rm5_0 l Z a0 hw [] w hB hP h50 XT50 pa0 pa1 b50 A50 (D50 (Or.inr (hw _ (List.mem_of_getElem? (i := 60) rfl))) (ty := .int) (by decide)) (D50 (Or.inr (hw _ (List.mem_of_getElem? (i := 62) rfl))) (ty := .int) (by decide)) (D50 (Or.inr (hw _ (List.mem_of_getElem? (i := 64) rfl))) (ty := (.object "java/util/List")) (by decide)) gb50 hp0 hp1) hZ (hw _ (List.mem_of_getElem? (i := 21) rfl)) (hw _ (List.mem_of_getElem? (i := 9) rfl)) (by decide) (by decide)) (g := (mkF m 9 #[.val (.int pa0), .val (.int pa1)] [(.ref (w 1)), (.int pa1), (.int pa0), (.ref b50), (.ref b50)])) rfl (by rw [hml]; rfl) (Steps.refl _) (a := b50) (argsL := [(.int pa0), (.int pa1), (.ref (w 1))]) (rest := [(.ref b50)]) (lenOf pd_5 rfl) rfl (by show 2 * 0 + _ ≤ _; exact Nat.le_of_eq rfl) (hb hby d3_9) (fun _ _ => ⟨rfl, e52, (by decide : 1 + 0 ≤ _), (by decide : 3 + 0 ≤ _)⟩)
  dsimp only [Pt.U, Pt.locs, Pt.cells, Pt.slots] at X72 l72 y72 z72 st72 hQ72
  subst l72 y72 z72
  obtain ⟨⟨rfl, K72, fq72_0, fq72_1, fq72_2, fq72_3, -⟩, N72q⟩ := hQ72
  have e72 : T72.heap = T72.heap := rfl
  have N72 := Fr.app N52 N72q
  have XT72 : Ext hB T72.heap := own_extK XT50 K72 (allS gb50 all0)
  have KC72 : Keep h0 T72.heap [] := KC50.trans K72 (allS (Or.inr s050) all0)
  refine Go.on (T' := T72) (g' := (mkF m 12 #[.val (.int pa0), .val (.int pa1)] [(.ref b50)])) (fun t k => st72.trans k) ?_
  obtain ⟨fs, hr, hrun, hended, hW, hsame⟩ := X72.leave (v := some (.ref b50)) (fun h => by rw [Bd.returns] at h; cases h)
  exact ⟨_, _, retOut X72 hx Bd.returns rfl (Or.inr (Or.inr (Or.inr (Or.inr ⟨rfl, rfl, rfl⟩)))) (hb hby d3_12) hr, hrun, hended, _, _, rfl, ⟨⟨b50, rfl, own_at (P := fun h => Keep h0 h [] ∧ h0.size ≤ b50 ∧ Exa Z h b50 "com/example/realizer/realizer/spectra/Domain" ∧ Fld Z h b50 "com/example/realizer/realizer/spectra/Domain" "from" "I" (.int pa0) ∧ Fld Z h b50 "com/example/realizer/realizer/spectra/Domain" "to" "I" (.int pa1) ∧ Fld Z h b50 "com/example/realizer/realizer/spectra/Domain" "literals" "Ljava/util/List;" (.ref (w 1)) ∧ True) e72 ⟨KC72, s050, fq72_0, fq72_1, fq72_2, fq72_3, trivial⟩⟩, N72⟩, ⟨_, rfl⟩, hW, hsame.mono (by decide) (by decide)⟩
theorem pd_6 : parseMethodDescriptor "(II)Lcom/example/realizer/realizer/spectra/Domain;" = some ⟨[.int, .int], some (.object "com/example/realizer/realizer/spectra/Domain")⟩ := by decide +kernel
theorem d11_0 : decode prog_74_method_4_code 0 = .ok (.aload_n 0, 1) := by decide +kernel
theorem d11_1 : decode prog_74_method_4_code 1 = .ok (.ifnonnull 7, 3) := by decide +kernel
theorem d11_8 : decode prog_74_method_4_code 8 = .ok (.bipush 64, 2) := by decide +kernel
theorem d11_10 : decode prog_74_method_4_code 10 = .ok (.aload_n 0, 1) := by decide +kernel
theorem d11_11 : decode prog_74_method_4_code 11 = .ok (.invokevirtual 32, 3) := by decide +kernel
theorem d12_0 : decode prog_10_method_5_code 0 = .ok (.aload_n 0, 1) := by decide +kernel
theorem d12_1 : decode prog_10_method_5_code 1 = .ok (.getfield 38, 3) := by decide +kernel
theorem d12_4 : decode prog_10_method_5_code 4 = .ok (.i2l, 1) := by decide +kernel
theorem d12_5 : decode prog_10_method_5_code 5 = .ok (.aload_n 0, 1) := by decide +kernel
theorem d12_6 : decode prog_10_method_5_code 6 = .ok (.getfield 32, 3) := by decide +kernel
theorem d12_9 : decode prog_10_method_5_code 9 = .ok (.i2l, 1) := by decide +kernel
theorem d12_10 : decode prog_10_method_5_code 10 = .ok (.lsub, 1) := by decide +kernel
theorem d12_11 : decode prog_10_method_5_code 11 = .ok (.lconst 1, 1) := by decide +kernel
theorem d12_12 : decode prog_10_method_5_code 12 = .ok (.ladd, 1) := by decide +kernel
theorem d12_13 : decode prog_10_method_5_code 13 = .ok (.lreturn, 1) := by decide +kernel
set_option maxRecDepth 65536 in
set_option maxHeartbeats 40000000 in
theorem rm12_0 (l : Launch) (Z : State) (a0 : Array Value) (hw : ∀ d ∈ tables_1, d.before a0 Z = true) (ws : List Jvm.Cond) (w : Nat → Addr) (hB : Heap) (hP : Pins Z hB w) (h0 : Heap) (XB : Ext hB h0) (o0 : Addr) (fo0_from : Int32) (fo0_to : Int32) (E_o0 : Exa Z h0 o0 "com/example/realizer/realizer/spectra/Domain") (F_o0_from : Fld Z h0 o0 "com/example/realizer/realizer/spectra/Domain" "from" "I" (.int fo0_from)) (F_o0_to : Fld Z h0 o0 "com/example/realizer/realizer/spectra/Domain" "to" "I" (.int fo0_to)) (F_o0_literals : Fld Z h0 o0 "com/example/realizer/realizer/spectra/Domain" "literals" "Ljava/util/List;" (.ref (w 1))) (g_o0 : hB.size ≤ o0) :
    MetFree l (⟨"com/example/realizer/realizer/spectra/Domain", "size", "()J"⟩ : MethodName) (head1 (Jvm.Cond.code (⟨"com/example/realizer/realizer/spectra/Domain", "size", "()J"⟩ : MethodName) prog_10_method_5_code 1 (some .long) :: ws) ({ frames := 0, cells := 0, slots := 0, locals := 0 } : Room)) (fun a U => a = #[(.ref o0)] ∧ Z.Warmed39 U.vm ∧ U.heap = h0) (fun _ _ _ _ _ => True) (fun _ U o U' => ∃ v L, o = .returned v ∧ Qg (fun v h => v = (some (.long (((fo0_to.toInt64) - (fo0_from.toInt64)) + (1 : Int64)))) ∧ h = h0) hB.size v U'.heap L ∧ FrameEnd U o U' L ({ frames := 0, cells := 0, slots := 0, locals := 0 } : Room).cells ({ frames := 0, cells := 0, slots := 0, locals := 0 } : Room).slots) := by
  refine MetFree.of_bodySF (plainFor_of_name pn_5) hisR ?_
  intro p e s m args below meth c s₁ Bd hml0 hP0 hK
  obtain ⟨rfl, hZ, hh⟩ := hP0
  have hx := Bd.exec
  have hby := Bd.bytes
  have hml : c.maxLocals = 1 := hml0
  have hown : s.vm.findClass "com/example/realizer/realizer/spectra/Domain" = some m.cls := findClass_of_methodNamed Bd.named
  have hnm := (name_of_methodNamed Bd.named Bd.method).1
  have X0 : Stand p l e ({ frames := 0, cells := 0, slots := 0, locals := 0 } : Room) s m #[(.ref o0)] below meth c s₁ [] 0 0 := Stand.of_body Bd
  have e0 : s₁.heap = h0 := by rw [← hh, Bd.state]; rfl
  have N0 := Fr.nil hB.size
  suffices hgo : Go p e below (fun o U' => ∃ v L, o = .returned v ∧ Qg (fun v h => v = (some (.long (((fo0_to.toInt64) - (fo0_from.toInt64)) + (1 : Int64)))) ∧ h = h0) hB.size v U'.heap L ∧ FrameEnd s o U' L ({ frames := 0, cells := 0, slots := 0, locals := 0 } : Room).cells ({ frames := 0, cells := 0, slots := 0, locals := 0 } : Room).slots) s₁ (mkF m 0 #[.val (.ref o0)] []) by
    obtain ⟨s2, o, g1, g2, g3, g4⟩ := hgo
    refine ⟨s2, o, castTop (?_ : entryFrame m #[(.ref o0)] 1 = _) g1, g2, g3, g4⟩
    first | (simp [entryFrame, mkF, argsToLocals, Value.category]; done) | rfl
  refine Go.on (T' := s₁) (g' := (mkF m 1 #[.val (.ref o0)] [(.ref o0)])) (fun t k => XS.aloadN X0.here hx rfl (hb hby d12_0) rfl rfl k) ?_
  obtain ⟨T84, X84, e84, st84⟩ := getF X0 hx hZ hown (host := "") (Or.inl (hw _ (List.mem_of_getElem? (i := 61) rfl))) Via.refl e0 F_o0_to (g := (mkF m 1 #[.val (.ref o0)] [(.ref o0)])) rfl rfl (hb hby d12_1)
  refine Go.on (T' := T84) (g' := (mkF m 4 #[.val (.ref o0)] [(.int fo0_to)])) st84 ?_
  refine Go.on (T' := T84) (g' := (mkF m 5 #[.val (.ref o0)] [(.long (fo0_to.toInt64))])) (fun t k => XS.i2l X84.here hx rfl (hb hby d12_4) rfl k) ?_
  refine Go.on (T' := T84) (g' := (mkF m 6 #[.val (.ref o0)] [(.ref o0), (.long (fo0_to.toInt64))])) (fun t k => XS.aloadN X84.here hx rfl (hb hby d12_5) rfl rfl k) ?_
  obtain ⟨T85, X85, e85, st85⟩ := getF X84 hx hZ hown (host := "") (Or.inl (hw _ (List.mem_of_getElem? (i := 59) rfl))) Via.refl e84 F_o0_from (g := (mkF m 6 #[.val (.ref o0)] [(.ref o0), (.long (fo0_to.toInt64))])) rfl rfl (hb hby d12_6)
  refine Go.on (T' := T85) (g' := (mkF m 9 #[.val (.ref o0)] [(.int fo0_from), (.long (fo0_to.toInt64))])) st85 ?_
  refine Go.on (T' := T85) (g' := (mkF m 10 #[.val (.ref o0)] [(.long (fo0_from.toInt64)), (.long (fo0_to.toInt64))])) (fun t k => XS.i2l X85.here hx rfl (hb hby d12_9) rfl k) ?_
  refine Go.on (T' := T85) (g' := (mkF m 11 #[.val (.ref o0)] [(.long ((fo0_to.toInt64) - (fo0_from.toInt64)))])) (fun t k => XS.lsub X85.here hx rfl (hb hby d12_10) rfl k) ?_
  refine Go.on (T' := T85) (g' := (mkF m 12 #[.val (.ref o0)] [(.long (1 : Int64)), (.long ((fo0_to.toInt64) - (fo0_from.toInt64)))])) (fun t k => XS.lconst X85.here hx rfl (hb hby d12_11) k) ?_
  refine Go.on (T' := T85) (g' := (mkF m 13 #[.val (.ref o0)] [(.long (((fo0_to.toInt64) - (fo0_from.toInt64)) + (1 : Int64)))])) (fun t k => XS.ladd X85.here hx rfl (hb hby d12_12) rfl k) ?_
  obtain ⟨fs, hr, hrun, hended, hW, hsame⟩ := X85.leave (v := some (.long (((fo0_to.toInt64) - (fo0_from.toInt64)) + (1 : Int64)))) (fun h => by rw [Bd.returns] at h; cases h)
  exact ⟨_, _, retOut X85 hx Bd.returns rfl (Or.inr (Or.inl ⟨rfl, rfl, _, rfl⟩)) (hb hby d12_13) hr, hrun, hended, _, _, rfl, ⟨⟨rfl, e85⟩, N0⟩, ⟨_, rfl⟩, hW, hsame.mono (by decide) (by decide)⟩
theorem pd_7 : parseMethodDescriptor "()J" = some ⟨[], some .long⟩ := by decide +kernel
theorem d11_14 : decode prog_74_method_4_code 14 = .ok (.lconst 1, 1) := by decide +kernel
theorem d11_15 : decode prog_74_method_4_code 15 = .ok (.lsub, 1) := by decide +kernel
theorem d11_16 : decode prog_74_method_4_code 16 = .ok (.invokestatic 38, 3) := by decide +kernel
theorem d13_0 : decode jdk_35_method_48_code 0 = .ok (.lload_n 0, 1) := by decide +kernel
theorem d13_1 : decode jdk_35_method_48_code 1 = .ok (.bipush 32, 2) := by decide +kernel
theorem d13_3 : decode jdk_35_method_48_code 3 = .ok (.lushr, 1) := by decide +kernel
theorem d13_4 : decode jdk_35_method_48_code 4 = .ok (.l2i, 1) := by decide +kernel
theorem d13_5 : decode jdk_35_method_48_code 5 = .ok (.istore_n 2, 1) := by decide +kernel
theorem d13_6 : decode jdk_35_method_48_code 6 = .ok (.iload_n 2, 1) := by decide +kernel
theorem d13_7 : decode jdk_35_method_48_code 7 = .ok (.ifCond .ne 14, 3) := by decide +kernel
theorem d13_10 : decode jdk_35_method_48_code 10 = .ok (.bipush 32, 2) := by decide +kernel
theorem d13_12 : decode jdk_35_method_48_code 12 = .ok (.lload_n 0, 1) := by decide +kernel
theorem d13_13 : decode jdk_35_method_48_code 13 = .ok (.l2i, 1) := by decide +kernel
theorem d13_14 : decode jdk_35_method_48_code 14 = .ok (.invokestatic 308, 3) := by decide +kernel
theorem d14_0 : decode jdk_33_method_47_code 0 = .ok (.iload_n 0, 1) := by decide +kernel
theorem d14_1 : decode jdk_33_method_47_code 1 = .ok (.ifCond .gt 14, 3) := by decide +kernel
theorem d14_15 : decode jdk_33_method_47_code 15 = .ok (.bipush 31, 2) := by decide +kernel
theorem d14_17 : decode jdk_33_method_47_code 17 = .ok (.istore_n 1, 1) := by decide +kernel
theorem d14_18 : decode jdk_33_method_47_code 18 = .ok (.iload_n 0, 1) := by decide +kernel
theorem d14_19 : decode jdk_33_method_47_code 19 = .ok (.ldc_w 264, 3) := by decide +kernel
theorem d14_22 : decode jdk_33_method_47_code 22 = .ok (.if_icmp .lt 11, 3) := by decide +kernel
theorem d14_33 : decode jdk_33_method_47_code 33 = .ok (.iload_n 0, 1) := by decide +kernel
theorem d14_34 : decode jdk_33_method_47_code 34 = .ok (.sipush 256, 3) := by decide +kernel
theorem d14_37 : decode jdk_33_method_47_code 37 = .ok (.if_icmp .lt 11, 3) := by decide +kernel
theorem d14_48 : decode jdk_33_method_47_code 48 = .ok (.iload_n 0, 1) := by decide +kernel
theorem d14_49 : decode jdk_33_method_47_code 49 = .ok (.bipush 16, 2) := by decide +kernel
theorem d14_51 : decode jdk_33_method_47_code 51 = .ok (.if_icmp .lt 10, 3) := by decide +kernel
theorem d14_61 : decode jdk_33_method_47_code 61 = .ok (.iload_n 0, 1) := by decide +kernel
theorem d14_62 : decode jdk_33_method_47_code 62 = .ok (.iconst 4, 1) := by decide +kernel
theorem d14_63 : decode jdk_33_method_47_code 63 = .ok (.if_icmp .lt 10, 3) := by decide +kernel
theorem d14_73 : decode jdk_33_method_47_code 73 = .ok (.iload_n 1, 1) := by decide +kernel
theorem d14_74 : decode jdk_33_method_47_code 74 = .ok (.iload_n 0, 1) := by decide +kernel
theorem d14_75 : decode jdk_33_method_47_code 75 = .ok (.iconst 1, 1) := by decide +kernel
theorem d14_76 : decode jdk_33_method_47_code 76 = .ok (.iushr, 1) := by decide +kernel
theorem d14_77 : decode jdk_33_method_47_code 77 = .ok (.isub, 1) := by decide +kernel
theorem d14_78 : decode jdk_33_method_47_code 78 = .ok (.ireturn, 1) := by decide +kernel
theorem d14_66 : decode jdk_33_method_47_code 66 = .ok (.iinc 1 (-2), 3) := by decide +kernel
theorem d14_69 : decode jdk_33_method_47_code 69 = .ok (.iload_n 0, 1) := by decide +kernel
theorem d14_70 : decode jdk_33_method_47_code 70 = .ok (.iconst 2, 1) := by decide +kernel
theorem d14_71 : decode jdk_33_method_47_code 71 = .ok (.iushr, 1) := by decide +kernel
theorem d14_72 : decode jdk_33_method_47_code 72 = .ok (.istore_n 0, 1) := by decide +kernel
theorem d14_54 : decode jdk_33_method_47_code 54 = .ok (.iinc 1 (-4), 3) := by decide +kernel
theorem d14_57 : decode jdk_33_method_47_code 57 = .ok (.iload_n 0, 1) := by decide +kernel
theorem d14_58 : decode jdk_33_method_47_code 58 = .ok (.iconst 4, 1) := by decide +kernel
theorem d14_59 : decode jdk_33_method_47_code 59 = .ok (.iushr, 1) := by decide +kernel
theorem d14_60 : decode jdk_33_method_47_code 60 = .ok (.istore_n 0, 1) := by decide +kernel
theorem d14_40 : decode jdk_33_method_47_code 40 = .ok (.iinc 1 (-8), 3) := by decide +kernel
theorem d14_43 : decode jdk_33_method_47_code 43 = .ok (.iload_n 0, 1) := by decide +kernel
theorem d14_44 : decode jdk_33_method_47_code 44 = .ok (.bipush 8, 2) := by decide +kernel
theorem d14_46 : decode jdk_33_method_47_code 46 = .ok (.iushr, 1) := by decide +kernel
theorem d14_47 : decode jdk_33_method_47_code 47 = .ok (.istore_n 0, 1) := by decide +kernel
theorem d14_25 : decode jdk_33_method_47_code 25 = .ok (.iinc 1 (-16), 3) := by decide +kernel
theorem d14_28 : decode jdk_33_method_47_code 28 = .ok (.iload_n 0, 1) := by decide +kernel
theorem d14_29 : decode jdk_33_method_47_code 29 = .ok (.bipush 16, 2) := by decide +kernel
theorem d14_31 : decode jdk_33_method_47_code 31 = .ok (.iushr, 1) := by decide +kernel
theorem d14_32 : decode jdk_33_method_47_code 32 = .ok (.istore_n 0, 1) := by decide +kernel
theorem d14_4 : decode jdk_33_method_47_code 4 = .ok (.iload_n 0, 1) := by decide +kernel
theorem d14_5 : decode jdk_33_method_47_code 5 = .ok (.ifCond .ne 8, 3) := by decide +kernel
theorem d14_8 : decode jdk_33_method_47_code 8 = .ok (.bipush 32, 2) := by decide +kernel
theorem d14_10 : decode jdk_33_method_47_code 10 = .ok (.goto 4, 3) := by decide +kernel
theorem d14_14 : decode jdk_33_method_47_code 14 = .ok (.ireturn, 1) := by decide +kernel
theorem d14_13 : decode jdk_33_method_47_code 13 = .ok (.iconst 0, 1) := by decide +kernel
theorem pn_6 : plainName "java/lang/Integer" = true := by first | (simp [plainName, overriddenIn]; done) | decide +kernel
set_option maxRecDepth 65536 in
set_option maxHeartbeats 40000000 in
theorem rm14_0 (l : Launch) (Z : State) (a0 : Array Value) (hw : ∀ d ∈ tables_1, d.before a0 Z = true) (ws : List Jvm.Cond) (w : Nat → Addr) (hB : Heap) (hP : Pins Z hB w) (h0 : Heap) (XB : Ext hB h0) (pa0 : Int32) :
    MetFree l (⟨"java/lang/Integer", "numberOfLeadingZeros", "(I)I"⟩ : MethodName) (head1 (Jvm.Cond.code (⟨"java/lang/Integer", "numberOfLeadingZeros", "(I)I"⟩ : MethodName) jdk_33_method_47_code 2 (some .int) :: ws) ({ frames := 0, cells := 0, slots := 0, locals := 0 } : Room)) (fun a U => a = #[(.int pa0)] ∧ Z.Warmed39 U.vm ∧ U.heap = h0) (fun _ _ _ _ _ => True) (fun _ U o U' => ∃ v L, o = .returned v ∧ Qg (fun v h => v = (some (.int (own_nlz pa0))) ∧ h = h0) hB.size v U'.heap L ∧ FrameEnd U o U' L ({ frames := 0, cells := 0, slots := 0, locals := 0 } : Room).cells ({ frames := 0, cells := 0, slots := 0, locals := 0 } : Room).slots) := by
  refine MetFree.of_bodySF (plainFor_of_name pn_6) hisR ?_
  intro p e s m args below meth c s₁ Bd hml0 hP0 hK
  obtain ⟨rfl, hZ, hh⟩ := hP0
  have hx := Bd.exec
  have hby := Bd.bytes
  have hml : c.maxLocals = 2 := hml0
  have hown : s.vm.findClass "java/lang/Integer" = some m.cls := findClass_of_methodNamed Bd.named
  have hnm := (name_of_methodNamed Bd.named Bd.method).1
  have X0 : Stand p l e ({ frames := 0, cells := 0, slots := 0, locals := 0 } : Room) s m #[(.int pa0)] below meth c s₁ [] 0 0 := Stand.of_body Bd
  have e0 : s₁.heap = h0 := by rw [← hh, Bd.state]; rfl
  have N0 := Fr.nil hB.size
  suffices hgo : Go p e below (fun o U' => ∃ v L, o = .returned v ∧ Qg (fun v h => v = (some (.int (own_nlz pa0))) ∧ h = h0) hB.size v U'.heap L ∧ FrameEnd s o U' L ({ frames := 0, cells := 0, slots := 0, locals := 0 } : Room).cells ({ frames := 0, cells := 0, slots := 0, locals := 0 } : Room).slots) s₁ (mkF m 0 #[.val (.int pa0), .unset] []) by
    obtain ⟨s2, o, g1, g2, g3, g4⟩ := hgo
    refine ⟨s2, o, castTop (?_ : entryFrame m #[(.int pa0)] 2 = _) g1, g2, g3, g4⟩
    first | (simp [entryFrame, mkF, argsToLocals, Value.category]; done) | rfl
  refine Go.on (T' := s₁) (g' := (mkF m 1 #[.val (.int pa0), .unset] [(.int pa0)])) (fun t k => XS.iloadN X0.here hx rfl (hb hby d14_0) rfl k) ?_
  by_cases h87 : (0 : Int32) < pa0
  · skip
    refine Go.on (T' := s₁) (g' := (mkF m 15 #[.val (.int pa0), .unset] [])) (fun t k => XS.ifYes X0.here hx rfl (pc0 := 1) (pc' := 15) rfl (hb hby d14_1) rfl ((if0 _ _).trans (tlt h87).2.2.1) (by decide) (by decide) k) ?_
    refine Go.on (T' := s₁) (g' := (mkF m 17 #[.val (.int pa0), .unset] [(.int (31 : Int32))])) (fun t k => XS.bipush X0.here hx rfl (hb hby d14_15) k) ?_
    refine Go.on (T' := s₁) (g' := (mkF m 18 #[.val (.int pa0), .val (.int (31 : Int32))] [])) (fun t k => XS.istoreN X0.here hx rfl (hb hby d14_17) rfl (l' := #[.val (.int pa0), .val (.int (31 : Int32))]) rfl k) ?_
    refine Go.on (T' := s₁) (g' := (mkF m 19 #[.val (.int pa0), .val (.int (31 : Int32))] [(.int pa0)])) (fun t k => XS.iloadN X0.here hx rfl (hb hby d14_18) rfl k) ?_
    refine Go.on (T' := s₁) (g' := (mkF m 22 #[.val (.int pa0), .val (.int (31 : Int32))] [(.int (65536 : Int32)), (.int pa0)])) (X0.ldcwInt hx hown (mvT hZ (hw _ (List.mem_of_getElem? (i := 82) rfl))) (g := (mkF m 19 #[.val (.int pa0), .val (.int (31 : Int32))] [(.int pa0)])) rfl (hb hby d14_19)) ?_
    by_cases h88 : pa0 < (65536 : Int32)
    · skip
      refine Go.on (T' := s₁) (g' := (mkF m 33 #[.val (.int pa0), .val (.int (31 : Int32))] [])) (fun t k => XS.icmpYes X0.here hx rfl (pc0 := 22) (pc' := 33) rfl (hb hby d14_22) rfl (tlt h88).1 (by decide) (by decide) k) ?_
      refine Go.on (T' := s₁) (g' := (mkF m 34 #[.val (.int pa0), .val (.int (31 : Int32))] [(.int pa0)])) (fun t k => XS.iloadN X0.here hx rfl (hb hby d14_33) rfl k) ?_
      refine Go.on (T' := s₁) (g' := (mkF m 37 #[.val (.int pa0), .val (.int (31 : Int32))] [(.int (256 : Int32)), (.int pa0)])) (fun t k => XS.sipush X0.here hx rfl (hb hby d14_34) k) ?_
      by_cases h89 : pa0 < (256 : Int32)
      · skip
        refine Go.on (T' := s₁) (g' := (mkF m 48 #[.val (.int pa0), .val (.int (31 : Int32))] [])) (fun t k => XS.icmpYes X0.here hx rfl (pc0 := 37) (pc' := 48) rfl (hb hby d14_37) rfl (tlt h89).1 (by decide) (by decide) k) ?_
        refine Go.on (T' := s₁) (g' := (mkF m 49 #[.val (.int pa0), .val (.int (31 : Int32))] [(.int pa0)])) (fun t k => XS.iloadN X0.here hx rfl (hb hby d14_48) rfl k) ?_
        refine Go.on (T' := s₁) (g' := (mkF m 51 #[.val (.int pa0), .val (.int (31 : Int32))] [(.int (16 : Int32)), (.int pa0)])) (fun t k => XS.bipush X0.here hx rfl (hb hby d14_49) k) ?_
        by_cases h90 : pa0 < (16 : Int32)
        · skip
          refine Go.on (T' := s₁) (g' := (mkF m 61 #[.val (.int pa0), .val (.int (31 : Int32))] [])) (fun t k => XS.icmpYes X0.here hx rfl (pc0 := 51) (pc' := 61) rfl (hb hby d14_51) rfl (tlt h90).1 (by decide) (by decide) k) ?_
          refine Go.on (T' := s₁) (g' := (mkF m 62 #[.val (.int pa0), .val (.int (31 : Int32))] [(.int pa0)])) (fun t k => XS.iloadN X0.here hx rfl (hb hby d14_61) rfl k) ?_
          refine Go.on (T' := s₁) (g' := (mkF m 63 #[.val (.int pa0), .val (.int (31 : Int32))] [(.int (4 : Int32)), (.int pa0)])) (fun t k => XS.iconst X0.here hx rfl (hb hby d14_62) k) ?_
          by_cases h91 : pa0 < (4 : Int32)
          · skip
            refine Go.on (T' := s₁) (g' := (mkF m 73 #[.val (.int pa0), .val (.int (31 : Int32))] [])) (fun t k => XS.icmpYes X0.here hx rfl (pc0 := 63) (pc' := 73) rfl (hb hby d14_63) rfl (tlt h91).1 (by decide) (by decide) k) ?_
            refine Go.on (T' := s₁) (g' := (mkF m 74 #[.val (.int pa0), .val (.int (31 : Int32))] [(.int (31 : Int32))])) (fun t k => XS.iloadN X0.here hx rfl (hb hby d14_73) rfl k) ?_
            refine Go.on (T' := s₁) (g' := (mkF m 75 #[.val (.int pa0), .val (.int (31 : Int32))] [(.int pa0), (.int (31 : Int32))])) (fun t k => XS.iloadN X0.here hx rfl (hb hby d14_74) rfl k) ?_
            refine Go.on (T' := s₁) (g' := (mkF m 76 #[.val (.int pa0), .val (.int (31 : Int32))] [(.int (1 : Int32)), (.int pa0), (.int (31 : Int32))])) (fun t k => XS.iconst X0.here hx rfl (hb hby d14_75) k) ?_
            refine Go.on (T' := s₁) (g' := (mkF m 77 #[.val (.int pa0), .val (.int (31 : Int32))] [(.int ((pa0.toUInt32 >>> ((1 : Int32) &&& 31).toUInt32).toInt32)), (.int (31 : Int32))])) (fun t k => XS.iushr X0.here hx rfl (hb hby d14_76) rfl k) ?_
            refine Go.on (T' := s₁) (g' := (mkF m 78 #[.val (.int pa0), .val (.int (31 : Int32))] [(.int ((31 : Int32) - ((pa0.toUInt32 >>> ((1 : Int32) &&& 31).toUInt32).toInt32)))])) (fun t k => XS.isub X0.here hx rfl (hb hby d14_77) rfl k) ?_
            obtain ⟨fs, hr, hrun, hended, hW, hsame⟩ := X0.leave (v := some (.int ((31 : Int32) - ((pa0.toUInt32 >>> ((1 : Int32) &&& 31).toUInt32).toInt32)))) (fun h => by rw [Bd.returns] at h; cases h)
            exact ⟨_, _, retOut X0 hx Bd.returns rfl (Or.inl ⟨rfl, Or.inl rfl, _, rfl⟩) (hb hby d14_78) hr, hrun, hended, _, _, rfl, ⟨⟨(congrArg (fun z => some (Value.int z)) (own_nlzleaf (by simp only [own_nlz, own_n4, own_n3, own_n2, own_n1, own_sub, if_pos h87, if_pos h88, if_pos h89, if_pos h90, if_pos h91] <;> rfl))), e0⟩, N0⟩, ⟨_, rfl⟩, hW, hsame.mono (by decide) (by decide)⟩
          · skip
            refine Go.on (T' := s₁) (g' := (mkF m 66 #[.val (.int pa0), .val (.int (31 : Int32))] [])) (fun t k => XS.icmpNo X0.here hx rfl (hb hby d14_63) rfl (flt h91).1 k) ?_
            refine Go.on (T' := s₁) (g' := (mkF m 69 #[.val (.int pa0), .val (.int (29 : Int32))] [])) (fun t k => XS.iinc X0.here hx rfl (hb hby d14_66) rfl (l' := #[.val (.int pa0), .val (.int (29 : Int32))]) rfl k) ?_
            refine Go.on (T' := s₁) (g' := (mkF m 70 #[.val (.int pa0), .val (.int (29 : Int32))] [(.int pa0)])) (fun t k => XS.iloadN X0.here hx rfl (hb hby d14_69) rfl k) ?_
            refine Go.on (T' := s₁) (g' := (mkF m 71 #[.val (.int pa0), .val (.int (29 : Int32))] [(.int (2 : Int32)), (.int pa0)])) (fun t k => XS.iconst X0.here hx rfl (hb hby d14_70) k) ?_
            refine Go.on (T' := s₁) (g' := (mkF m 72 #[.val (.int pa0), .val (.int (29 : Int32))] [(.int ((pa0.toUInt32 >>> ((2 : Int32) &&& 31).toUInt32).toInt32))])) (fun t k => XS.iushr X0.here hx rfl (hb hby d14_71) rfl k) ?_
            refine Go.on (T' := s₁) (g' := (mkF m 73 #[.val (.int ((pa0.toUInt32 >>> ((2 : Int32) &&& 31).toUInt32).toInt32)), .val (.int (29 : Int32))] [])) (fun t k => XS.istoreN X0.here hx rfl (hb hby d14_72) rfl (l' := #[.val (.int ((pa0.toUInt32 >>> ((2 : Int32) &&& 31).toUInt32).toInt32)), .val (.int (29 : Int32))]) rfl k) ?_
            refine Go.on (T' := s₁) (g' := (mkF m 74 #[.val (.int ((pa0.toUInt32 >>> ((2 : Int32) &&& 31).toUInt32).toInt32)), .val (.int (29 : Int32))] [(.int (29 : Int32))])) (fun t k => XS.iloadN X0.here hx rfl (hb hby d14_73) rfl k) ?_
            refine Go.on (T' := s₁) (g' := (mkF m 75 #[.val (.int ((pa0.toUInt32 >>> ((2 : Int32) &&& 31).toUInt32).toInt32)), .val (.int (29 : Int32))] [(.int ((pa0.toUInt32 >>> ((2 : Int32) &&& 31).toUInt32).toInt32)), (.int (29 : Int32))])) (fun t k => XS.iloadN X0.here hx rfl (hb hby d14_74) rfl k) ?_
            refine Go.on (T' := s₁) (g' := (mkF m 76 #[.val (.int ((pa0.toUInt32 >>> ((2 : Int32) &&& 31).toUInt32).toInt32)), .val (.int (29 : Int32))] [(.int (1 : Int32)), (.int ((pa0.toUInt32 >>> ((2 : Int32) &&& 31).toUInt32).toInt32)), (.int (29 : Int32))])) (fun t k => XS.iconst X0.here hx rfl (hb hby d14_75) k) ?_
            refine Go.on (T' := s₁) (g' := (mkF m 77 #[.val (.int ((pa0.toUInt32 >>> ((2 : Int32) &&& 31).toUInt32).toInt32)), .val (.int (29 : Int32))] [(.int ((((pa0.toUInt32 >>> ((2 : Int32) &&& 31).toUInt32).toInt32).toUInt32 >>> ((1 : Int32) &&& 31).toUInt32).toInt32)), (.int (29 : Int32))])) (fun t k => XS.iushr X0.here hx rfl (hb hby d14_76) rfl k) ?_
            refine Go.on (T' := s₁) (g' := (mkF m 78 #[.val (.int ((pa0.toUInt32 >>> ((2 : Int32) &&& 31).toUInt32).toInt32)), .val (.int (29 : Int32))] [(.int ((29 : Int32) - ((((pa0.toUInt32 >>> ((2 : Int32) &&& 31).toUInt32).toInt32).toUInt32 >>> ((1 : Int32) &&& 31).toUInt32).toInt32)))])) (fun t k => XS.isub X0.here hx rfl (hb hby d14_77) rfl k) ?_
            obtain ⟨fs, hr, hrun, hended, hW, hsame⟩ := X0.leave (v := some (.int ((29 : Int32) - ((((pa0.toUInt32 >>> ((2 : Int32) &&& 31).toUInt32).toInt32).toUInt32 >>> ((1 : Int32) &&& 31).toUInt32).toInt32)))) (fun h => by rw [Bd.returns] at h; cases h)
            exact ⟨_, _, retOut X0 hx Bd.returns rfl (Or.inl ⟨rfl, Or.inl rfl, _, rfl⟩) (hb hby d14_78) hr, hrun, hended, _, _, rfl, ⟨⟨(congrArg (fun z => some (Value.int z)) (own_nlzleaf (by simp only [own_nlz, own_n4, own_n3, own_n2, own_n1, own_sub, if_pos h87, if_pos h88, if_pos h89, if_pos h90, if_neg h91] <;> rfl))), e0⟩, N0⟩, ⟨_, rfl⟩, hW, hsame.mono (by decide) (by decide)⟩
        · skip
          refine Go.on (T' := s₁) (g' := (mkF m 54 #[.val (.int pa0), .val (.int (31 : Int32))] [])) (fun t k => XS.icmpNo X0.here hx rfl (hb hby d14_51) rfl (flt h90).1 k) ?_
          refine Go.on (T' := s₁) (g' := (mkF m 57 #[.val (.int pa0), .val (.int (27 : Int32))] [])) (fun t k => XS.iinc X0.here hx rfl (hb hby d14_54) rfl (l' := #[.val (.int pa0), .val (.int (27 : Int32))]) rfl k) ?_
          refine Go.on (T' := s₁) (g' := (mkF m 58 #[.val (.int pa0), .val (.int (27 : Int32))] [(.int pa0)])) (fun t k => XS.iloadN X0.here hx rfl (hb hby d14_57) rfl k) ?_
          refine Go.on (T' := s₁) (g' := (mkF m 59 #[.val (.int pa0), .val (.int (27 : Int32))] [(.int (4 : Int32)), (.int pa0)])) (fun t k => XS.iconst X0.here hx rfl (hb hby d14_58) k) ?_
          refine Go.on (T' := s₁) (g' := (mkF m 60 #[.val (.int pa0), .val (.int (27 : Int32))] [(.int ((pa0.toUInt32 >>> ((4 : Int32) &&& 31).toUInt32).toInt32))])) (fun t k => XS.iushr X0.here hx rfl (hb hby d14_59) rfl k) ?_
          refine Go.on (T' := s₁) (g' := (mkF m 61 #[.val (.int ((pa0.toUInt32 >>> ((4 : Int32) &&& 31).toUInt32).toInt32)), .val (.int (27 : Int32))] [])) (fun t k => XS.istoreN X0.here hx rfl (hb hby d14_60) rfl (l' := #[.val (.int ((pa0.toUInt32 >>> ((4 : Int32) &&& 31).toUInt32).toInt32)), .val (.int (27 : Int32))]) rfl k) ?_
          refine Go.on (T' := s₁) (g' := (mkF m 62 #[.val (.int ((pa0.toUInt32 >>> ((4 : Int32) &&& 31).toUInt32).toInt32)), .val (.int (27 : Int32))] [(.int ((pa0.toUInt32 >>> ((4 : Int32) &&& 31).toUInt32).toInt32))])) (fun t k => XS.iloadN X0.here hx rfl (hb hby d14_61) rfl k) ?_
          refine Go.on (T' := s₁) (g' := (mkF m 63 #[.val (.int ((pa0.toUInt32 >>> ((4 : Int32) &&& 31).toUInt32).toInt32)), .val (.int (27 : Int32))] [(.int (4 : Int32)), (.int ((pa0.toUInt32 >>> ((4 : Int32) &&& 31).toUInt32).toInt32))])) (fun t k => XS.iconst X0.here hx rfl (hb hby d14_62) k) ?_
          by_cases h92 : ((pa0.toUInt32 >>> ((4 : Int32) &&& 31).toUInt32).toInt32) < (4 : Int32)
          · skip
            refine Go.on (T' := s₁) (g' := (mkF m 73 #[.val (.int ((pa0.toUInt32 >>> ((4 : Int32) &&& 31).toUInt32).toInt32)), .val (.int (27 : Int32))] [])) (fun t k => XS.icmpYes X0.here hx rfl (pc0 := 63) (pc' := 73) rfl (hb hby d14_63) rfl (tlt h92).1 (by decide) (by decide) k) ?_
            refine Go.on (T' := s₁) (g' := (mkF m 74 #[.val (.int ((pa0.toUInt32 >>> ((4 : Int32) &&& 31).toUInt32).toInt32)), .val (.int (27 : Int32))] [(.int (27 : Int32))])) (fun t k => XS.iloadN X0.here hx rfl (hb hby d14_73) rfl k) ?_
            refine Go.on (T' := s₁) (g' := (mkF m 75 #[.val (.int ((pa0.toUInt32 >>> ((4 : Int32) &&& 31).toUInt32).toInt32)), .val (.int (27 : Int32))] [(.int ((pa0.toUInt32 >>> ((4 : Int32) &&& 31).toUInt32).toInt32)), (.int (27 : Int32))])) (fun t k => XS.iloadN X0.here hx rfl (hb hby d14_74) rfl k) ?_
            refine Go.on (T' := s₁) (g' := (mkF m 76 #[.val (.int ((pa0.toUInt32 >>> ((4 : Int32) &&& 31).toUInt32).toInt32)), .val (.int (27 : Int32))] [(.int (1 : Int32)), (.int ((pa0.toUInt32 >>> ((4 : Int32) &&& 31).toUInt32).toInt32)), (.int (27 : Int32))])) (fun t k => XS.iconst X0.here hx rfl (hb hby d14_75) k) ?_
            refine Go.on (T' := s₁) (g' := (mkF m 77 #[.val (.int ((pa0.toUInt32 >>> ((4 : Int32) &&& 31).toUInt32).toInt32)), .val (.int (27 : Int32))] [(.int ((((pa0.toUInt32 >>> ((4 : Int32) &&& 31).toUInt32).toInt32).toUInt32 >>> ((1 : Int32) &&& 31).toUInt32).toInt32)), (.int (27 : Int32))])) (fun t k => XS.iushr X0.here hx rfl (hb hby d14_76) rfl k) ?_
            refine Go.on (T' := s₁) (g' := (mkF m 78 #[.val (.int ((pa0.toUInt32 >>> ((4 : Int32) &&& 31).toUInt32).toInt32)), .val (.int (27 : Int32))] [(.int ((27 : Int32) - ((((pa0.toUInt32 >>> ((4 : Int32) &&& 31).toUInt32).toInt32).toUInt32 >>> ((1 : Int32) &&& 31).toUInt32).toInt32)))])) (fun t k => XS.isub X0.here hx rfl (hb hby d14_77) rfl k) ?_
            obtain ⟨fs, hr, hrun, hended, hW, hsame⟩ := X0.leave (v := some (.int ((27 : Int32) - ((((pa0.toUInt32 >>> ((4 : Int32) &&& 31).toUInt32).toInt32).toUInt32 >>> ((1 : Int32) &&& 31).toUInt32).toInt32)))) (fun h => by rw [Bd.returns] at h; cases h)
            exact ⟨_, _, retOut X0 hx Bd.returns rfl (Or.inl ⟨rfl, Or.inl rfl, _, rfl⟩) (hb hby d14_78) hr, hrun, hended, _, _, rfl, ⟨⟨(congrArg (fun z => some (Value.int z)) (own_nlzleaf (by simp only [own_nlz, own_n4, own_n3, own_n2, own_n1, own_sub, if_pos h87, if_pos h88, if_pos h89, if_neg h90, if_pos h92] <;> rfl))), e0⟩, N0⟩, ⟨_, rfl⟩, hW, hsame.mono (by decide) (by decide)⟩
          · skip
            refine Go.on (T' := s₁) (g' := (mkF m 66 #[.val (.int ((pa0.toUInt32 >>> ((4 : Int32) &&& 31).toUInt32).toInt32)), .val (.int (27 : Int32))] [])) (fun t k => XS.icmpNo X0.here hx rfl (hb hby d14_63) rfl (flt h92).1 k) ?_
            refine Go.on (T' := s₁) (g' := (mkF m 69 #[.val (.int ((pa0.toUInt32 >>> ((4 : Int32) &&& 31).toUInt32).toInt32)), .val (.int (25 : Int32))] [])) (fun t k => XS.iinc X0.here hx rfl (hb hby d14_66) rfl (l' := #[.val (.int ((pa0.toUInt32 >>> ((4 : Int32) &&& 31).toUInt32).toInt32)), .val (.int (25 : Int32))]) rfl k) ?_
            refine Go.on (T' := s₁) (g' := (mkF m 70 #[.val (.int ((pa0.toUInt32 >>> ((4 : Int32) &&& 31).toUInt32).toInt32)), .val (.int (25 : Int32))] [(.int ((pa0.toUInt32 >>> ((4 : Int32) &&& 31).toUInt32).toInt32))])) (fun t k => XS.iloadN X0.here hx rfl (hb hby d14_69) rfl k) ?_
            refine Go.on (T' := s₁) (g' := (mkF m 71 #[.val (.int ((pa0.toUInt32 >>> ((4 : Int32) &&& 31).toUInt32).toInt32)), .val (.int (25 : Int32))] [(.int (2 : Int32)), (.int ((pa0.toUInt32 >>> ((4 : Int32) &&& 31).toUInt32).toInt32))])) (fun t k => XS.iconst X0.here hx rfl (hb hby d14_70) k) ?_
            refine Go.on (T' := s₁) (g' := (mkF m 72 #[.val (.int ((pa0.toUInt32 >>> ((4 : Int32) &&& 31).toUInt32).toInt32)), .val (.int (25 : Int32))] [(.int ((((pa0.toUInt32 >>> ((4 : Int32) &&& 31).toUInt32).toInt32).toUInt32 >>> ((2 : Int32) &&& 31).toUInt32).toInt32))])) (fun t k => XS.iushr X0.here hx rfl (hb hby d14_71) rfl k) ?_
            refine Go.on (T' := s₁) (g' := (mkF m 73 #[.val (.int ((((pa0.toUInt32 >>> ((4 : Int32) &&& 31).toUInt32).toInt32).toUInt32 >>> ((2 : Int32) &&& 31).toUInt32).toInt32)), .val (.int (25 : Int32))] [])) (fun t k => XS.istoreN X0.here hx rfl (hb hby d14_72) rfl (l' := #[.val (.int ((((pa0.toUInt32 >>> ((4 : Int32) &&& 31).toUInt32).toInt32).toUInt32 >>> ((2 : Int32) &&& 31).toUInt32).toInt32)), .val (.int (25 : Int32))]) rfl k) ?_
            refine Go.on (T' := s₁) (g' := (mkF m 74 #[.val (.int ((((pa0.toUInt32 >>> ((4 : Int32) &&& 31).toUInt32).toInt32).toUInt32 >>> ((2 : Int32) &&& 31).toUInt32).toInt32)), .val (.int (25 : Int32))] [(.int (25 : Int32))])) (fun t k => XS.iloadN X0.here hx rfl (hb hby d14_73) rfl k) ?_
            refine Go.on (T' := s₁) (g' := (mkF m 75 #[.val (.int ((((pa0.toUInt32 >>> ((4 : Int32) &&& 31).toUInt32).toInt32).toUInt32 >>> ((2 : Int32) &&& 31).toUInt32).toInt32)), .val (.int (25 : Int32))] [(.int ((((pa0.toUInt32 >>> ((4 : Int32) &&& 31).toUInt32).toInt32).toUInt32 >>> ((2 : Int32) &&& 31).toUInt32).toInt32)), (.int (25 : Int32))])) (fun t k => XS.iloadN X0.here hx rfl (hb hby d14_74) rfl k) ?_
            refine Go.on (T' := s₁) (g' := (mkF m 76 #[.val (.int ((((pa0.toUInt32 >>> ((4 : Int32) &&& 31).toUInt32).toInt32).toUInt32 >>> ((2 : Int32) &&& 31).toUInt32).toInt32)), .val (.int (25 : Int32))] [(.int (1 : Int32)), (.int ((((pa0.toUInt32 >>> ((4 : Int32) &&& 31).toUInt32).toInt32).toUInt32 >>> ((2 : Int32) &&& 31).toUInt32).toInt32)), (.int (25 : Int32))])) (fun t k => XS.iconst X0.here hx rfl (hb hby d14_75) k) ?_
            refine Go.on (T' := s₁) (g' := (mkF m 77 #[.val (.int ((((pa0.toUInt32 >>> ((4 : Int32) &&& 31).toUInt32).toInt32).toUInt32 >>> ((2 : Int32) &&& 31).toUInt32).toInt32)), .val (.int (25 : Int32))] [(.int ((((((pa0.toUInt32 >>> ((4 : Int32) &&& 31).toUInt32).toInt32).toUInt32 >>> ((2 : Int32) &&& 31).toUInt32).toInt32).toUInt32 >>> ((1 : Int32) &&& 31).toUInt32).toInt32)), (.int (25 : Int32))])) (fun t k => XS.iushr X0.here hx rfl (hb hby d14_76) rfl k) ?_
            refine Go.on (T' := s₁) (g' := (mkF m 78 #[.val (.int ((((pa0.toUInt32 >>> ((4 : Int32) &&& 31).toUInt32).toInt32).toUInt32 >>> ((2 : Int32) &&& 31).toUInt32).toInt32)), .val (.int (25 : Int32))] [(.int ((25 : Int32) - ((((((pa0.toUInt32 >>> ((4 : Int32) &&& 31).toUInt32).toInt32).toUInt32 >>> ((2 : Int32) &&& 31).toUInt32).toInt32).toUInt32 >>> ((1 : Int32) &&& 31).toUInt32).toInt32)))])) (fun t k => XS.isub X0.here hx rfl (hb hby d14_77) rfl k) ?_
            obtain ⟨fs, hr, hrun, hended, hW, hsame⟩ := X0.leave (v := some (.int ((25 : Int32) - ((((((pa0.toUInt32 >>> ((4 : Int32) &&& 31).toUInt32).toInt32).toUInt32 >>> ((2 : Int32) &&& 31).toUInt32).toInt32).toUInt32 >>> ((1 : Int32) &&& 31).toUInt32).toInt32)))) (fun h => by rw [Bd.returns] at h; cases h)
            exact ⟨_, _, retOut X0 hx Bd.returns rfl (Or.inl ⟨rfl, Or.inl rfl, _, rfl⟩) (hb hby d14_78) hr, hrun, hended, _, _, rfl, ⟨⟨(congrArg (fun z => some (Value.int z)) (own_nlzleaf (by simp only [own_nlz, own_n4, own_n3, own_n2, own_n1, own_sub, if_pos h87, if_pos h88, if_pos h89, if_neg h90, if_neg h92] <;> rfl))), e0⟩, N0⟩, ⟨_, rfl⟩, hW, hsame.mono (by decide) (by decide)⟩
      · skip
        refine Go.on (T' := s₁) (g' := (mkF m 40 #[.val (.int pa0), .val (.int (31 : Int32))] [])) (fun t k => XS.icmpNo X0.here hx rfl (hb hby d14_37) rfl (flt h89).1 k) ?_
        refine Go.on (T' := s₁) (g' := (mkF m 43 #[.val (.int pa0), .val (.int (23 : Int32))] [])) (fun t k => XS.iinc X0.here hx rfl (hb hby d14_40) rfl (l' := #[.val (.int pa0), .val (.int (23 : Int32))]) rfl k) ?_
        refine Go.on (T' := s₁) (g' := (mkF m 44 #[.val (.int pa0), .val (.int (23 : Int32))] [(.int pa0)])) (fun t k => XS.iloadN X0.here hx rfl (hb hby d14_43) rfl k) ?_
        refine Go.on (T' := s₁) (g' := (mkF m 46 #[.val (.int pa0), .val (.int (23 : Int32))] [(.int (8 : Int32)), (.int pa0)])) (fun t k => XS.bipush X0.here hx rfl (hb hby d14_44) k) ?_
        refine Go.on (T' := s₁) (g' := (mkF m 47 #[.val (.int pa0), .val (.int (23 : Int32))] [(.int ((pa0.toUInt32 >>> ((8 : Int32) &&& 31).toUInt32).toInt32))])) (fun t k => XS.iushr X0.here hx rfl (hb hby d14_46) rfl k) ?_
        refine Go.on (T' := s₁) (g' := (mkF m 48 #[.val (.int ((pa0.toUInt32 >>> ((8 : Int32) &&& 31).toUInt32).toInt32)), .val (.int (23 : Int32))] [])) (fun t k => XS.istoreN X0.here hx rfl (hb hby d14_47) rfl (l' := #[.val (.int ((pa0.toUInt32 >>> ((8 : Int32) &&& 31).toUInt32).toInt32)), .val (.int (23 : Int32))]) rfl k) ?_
        refine Go.on (T' := s₁) (g' := (mkF m 49 #[.val (.int ((pa0.toUInt32 >>> ((8 : Int32) &&& 31).toUInt32).toInt32)), .val (.int (23 : Int32))] [(.int ((pa0.toUInt32 >>> ((8 : Int32) &&& 31).toUInt32).toInt32))])) (fun t k => XS.iloadN X0.here hx rfl (hb hby d14_48) rfl k) ?_
        refine Go.on (T' := s₁) (g' := (mkF m 51 #[.val (.int ((pa0.toUInt32 >>> ((8 : Int32) &&& 31).toUInt32).toInt32)), .val (.int (23 : Int32))] [(.int (16 : Int32)), (.int ((pa0.toUInt32 >>> ((8 : Int32) &&& 31).toUInt32).toInt32))])) (fun t k => XS.bipush X0.here hx rfl (hb hby d14_49) k) ?_
        by_cases h93 : ((pa0.toUInt32 >>> ((8 : Int32) &&& 31).toUInt32).toInt32) < (16 : Int32)
        · skip
          refine Go.on (T' := s₁) (g' := (mkF m 61 #[.val (.int ((pa0.toUInt32 >>> ((8 : Int32) &&& 31).toUInt32).toInt32)), .val (.int (23 : Int32))] [])) (fun t k => XS.icmpYes X0.here hx rfl (pc0 := 51) (pc' := 61) rfl (hb hby d14_51) rfl (tlt h93).1 (by decide) (by decide) k) ?_
          refine Go.on (T' := s₁) (g' := (mkF m 62 #[.val (.int ((pa0.toUInt32 >>> ((8 : Int32) &&& 31).toUInt32).toInt32)), .val (.int (23 : Int32))] [(.int ((pa0.toUInt32 >>> ((8 : Int32) &&& 31).toUInt32).toInt32))])) (fun t k => XS.iloadN X0.here hx rfl (hb hby d14_61) rfl k) ?_
          refine Go.on (T' := s₁) (g' := (mkF m 63 #[.val (.int ((pa0.toUInt32 >>> ((8 : Int32) &&& 31).toUInt32).toInt32)), .val (.int (23 : Int32))] [(.int (4 : Int32)), (.int ((pa0.toUInt32 >>> ((8 : Int32) &&& 31).toUInt32).toInt32))])) (fun t k => XS.iconst X0.here hx rfl (hb hby d14_62) k) ?_
          by_cases h94 : ((pa0.toUInt32 >>> ((8 : Int32) &&& 31).toUInt32).toInt32) < (4 : Int32)
          · skip
            refine Go.on (T' := s₁) (g' := (mkF m 73 #[.val (.int ((pa0.toUInt32 >>> ((8 : Int32) &&& 31).toUInt32).toInt32)), .val (.int (23 : Int32))] [])) (fun t k => XS.icmpYes X0.here hx rfl (pc0 := 63) (pc' := 73) rfl (hb hby d14_63) rfl (tlt h94).1 (by decide) (by decide) k) ?_
            refine Go.on (T' := s₁) (g' := (mkF m 74 #[.val (.int ((pa0.toUInt32 >>> ((8 : Int32) &&& 31).toUInt32).toInt32)), .val (.int (23 : Int32))] [(.int (23 : Int32))])) (fun t k => XS.iloadN X0.here hx rfl (hb hby d14_73) rfl k) ?_
            refine Go.on (T' := s₁) (g' := (mkF m 75 #[.val (.int ((pa0.toUInt32 >>> ((8 : Int32) &&& 31).toUInt32).toInt32)), .val (.int (23 : Int32))] [(.int ((pa0.toUInt32 >>> ((8 : Int32) &&& 31).toUInt32).toInt32)), (.int (23 : Int32))])) (fun t k => XS.iloadN X0.here hx rfl (hb hby d14_74) rfl k) ?_
            refine Go.on (T' := s₁) (g' := (mkF m 76 #[.val (.int ((pa0.toUInt32 >>> ((8 : Int32) &&& 31).toUInt32).toInt32)), .val (.int (23 : Int32))] [(.int (1 : Int32)), (.int ((pa0.toUInt32 >>> ((8 : Int32) &&& 31).toUInt32).toInt32)), (.int (23 : Int32))])) (fun t k => XS.iconst X0.here hx rfl (hb hby d14_75) k) ?_
            refine Go.on (T' := s₁) (g' := (mkF m 77 #[.val (.int ((pa0.toUInt32 >>> ((8 : Int32) &&& 31).toUInt32).toInt32)), .val (.int (23 : Int32))] [(.int ((((pa0.toUInt32 >>> ((8 : Int32) &&& 31).toUInt32).toInt32).toUInt32 >>> ((1 : Int32) &&& 31).toUInt32).toInt32)), (.int (23 : Int32))])) (fun t k => XS.iushr X0.here hx rfl (hb hby d14_76) rfl k) ?_
            refine Go.on (T' := s₁) (g' := (mkF m 78 #[.val (.int ((pa0.toUInt32 >>> ((8 : Int32) &&& 31).toUInt32).toInt32)), .val (.int (23 : Int32))] [(.int ((23 : Int32) - ((((pa0.toUInt32 >>> ((8 : Int32) &&& 31).toUInt32).toInt32).toUInt32 >>> ((1 : Int32) &&& 31).toUInt32).toInt32)))])) (fun t k => XS.isub X0.here hx rfl (hb hby d14_77) rfl k) ?_
            obtain ⟨fs, hr, hrun, hended, hW, hsame⟩ := X0.leave (v := some (.int ((23 : Int32) - ((((pa0.toUInt32 >>> ((8 : Int32) &&& 31).toUInt32).toInt32).toUInt32 >>> ((1 : Int32) &&& 31).toUInt32).toInt32)))) (fun h => by rw [Bd.returns] at h; cases h)
            exact ⟨_, _, retOut X0 hx Bd.returns rfl (Or.inl ⟨rfl, Or.inl rfl, _, rfl⟩) (hb hby d14_78) hr, hrun, hended, _, _, rfl, ⟨⟨(congrArg (fun z => some (Value.int z)) (own_nlzleaf (by simp only [own_nlz, own_n4, own_n3, own_n2, own_n1, own_sub, if_pos h87, if_pos h88, if_neg h89, if_pos h93, if_pos h94] <;> rfl))), e0⟩, N0⟩, ⟨_, rfl⟩, hW, hsame.mono (by decide) (by decide)⟩
          · skip
            refine Go.on (T' := s₁) (g' := (mkF m 66 #[.val (.int ((pa0.toUInt32 >>> ((8 : Int32) &&& 31).toUInt32).toInt32)), .val (.int (23 : Int32))] [])) (fun t k => XS.icmpNo X0.here hx rfl (hb hby d14_63) rfl (flt h94).1 k) ?_
            refine Go.on (T' := s₁) (g' := (mkF m 69 #[.val (.int ((pa0.toUInt32 >>> ((8 : Int32) &&& 31).toUInt32).toInt32)), .val (.int (21 : Int32))] [])) (fun t k => XS.iinc X0.here hx rfl (hb hby d14_66) rfl (l' := #[.val (.int ((pa0.toUInt32 >>> ((8 : Int32) &&& 31).toUInt32).toInt32)), .val (.int (21 : Int32))]) rfl k) ?_
            refine Go.on (T' := s₁) (g' := (mkF m 70 #[.val (.int ((pa0.toUInt32 >>> ((8 : Int32) &&& 31).toUInt32).toInt32)), .val (.int (21 : Int32))] [(.int ((pa0.toUInt32 >>> ((8 : Int32) &&& 31).toUInt32).toInt32))])) (fun t k => XS.iloadN X0.here hx rfl (hb hby d14_69) rfl k) ?_
            refine Go.on (T' := s₁) (g' := (mkF m 71 #[.val (.int ((pa0.toUInt32 >>> ((8 : Int32) &&& 31).toUInt32).toInt32)), .val (.int (21 : Int32))] [(.int (2 : Int32)), (.int ((pa0.toUInt32 >>> ((8 : Int32) &&& 31).toUInt32).toInt32))])) (fun t k => XS.iconst X0.here hx rfl (hb hby d14_70) k) ?_
            refine Go.on (T' := s₁) (g' := (mkF m 72 #[.val (.int ((pa0.toUInt32 >>> ((8 : Int32) &&& 31).toUInt32).toInt32)), .val (.int (21 : Int32))] [(.int ((((pa0.toUInt32 >>> ((8 : Int32) &&& 31).toUInt32).toInt32).toUInt32 >>> ((2 : Int32) &&& 31).toUInt32).toInt32))])) (fun t k => XS.iushr X0.here hx rfl (hb hby d14_71) rfl k) ?_
            refine Go.on (T' := s₁) (g' := (mkF m 73 #[.val (.int ((((pa0.toUInt32 >>> ((8 : Int32) &&& 31).toUInt32).toInt32).toUInt32 >>> ((2 : Int32) &&& 31).toUInt32).toInt32)), .val (.int (21 : Int32))] [])) (fun t k => XS.istoreN X0.here hx rfl (hb hby d14_72) rfl (l' := #[.val (.int ((((pa0.toUInt32 >>> ((8 : Int32) &&& 31).toUInt32).toInt32).toUInt32 >>> ((2 : Int32) &&& 31).toUInt32).toInt32)), .val (.int (21 : Int32))]) rfl k) ?_
            refine Go.on (T' := s₁) (g' := (mkF m 74 #[.val (.int ((((pa0.toUInt32 >>> ((8 : Int32) &&& 31).toUInt32).toInt32).toUInt32 >>> ((2 : Int32) &&& 31).toUInt32).toInt32)), .val (.int (21 : Int32))] [(.int (21 : Int32))])) (fun t k => XS.iloadN X0.here hx rfl (hb hby d14_73) rfl k) ?_
            refine Go.on (T' := s₁) (g' := (mkF m 75 #[.val (.int ((((pa0.toUInt32 >>> ((8 : Int32) &&& 31).toUInt32).toInt32).toUInt32 >>> ((2 : Int32) &&& 31).toUInt32).toInt32)), .val (.int (21 : Int32))] [(.int ((((pa0.toUInt32 >>> ((8 : Int32) &&& 31).toUInt32).toInt32).toUInt32 >>> ((2 : Int32) &&& 31).toUInt32).toInt32)), (.int (21 : Int32))])) (fun t k => XS.iloadN X0.here hx rfl (hb hby d14_74) rfl k) ?_
            refine Go.on (T' := s₁) (g' := (mkF m 76 #[.val (.int ((((pa0.toUInt32 >>> ((8 : Int32) &&& 31).toUInt32).toInt32).toUInt32 >>> ((2 : Int32) &&& 31).toUInt32).toInt32)), .val (.int (21 : Int32))] [(.int (1 : Int32)), (.int ((((pa0.toUInt32 >>> ((8 : Int32) &&& 31).toUInt32).toInt32).toUInt32 >>> ((2 : Int32) &&& 31).toUInt32).toInt32)), (.int (21 : Int32))])) (fun t k => XS.iconst X0.here hx rfl (hb hby d14_75) k) ?_
            refine Go.on (T' := s₁) (g' := (mkF m 77 #[.val (.int ((((pa0.toUInt32 >>> ((8 : Int32) &&& 31).toUInt32).toInt32).toUInt32 >>> ((2 : Int32) &&& 31).toUInt32).toInt32)), .val (.int (21 : Int32))] [(.int ((((((pa0.toUInt32 >>> ((8 : Int32) &&& 31).toUInt32).toInt32).toUInt32 >>> ((2 : Int32) &&& 31).toUInt32).toInt32).toUInt32 >>> ((1 : Int32) &&& 31).toUInt32).toInt32)), (.int (21 : Int32))])) (fun t k => XS.iushr X0.here hx rfl (hb hby d14_76) rfl k) ?_
            refine Go.on (T' := s₁) (g' := (mkF m 78 #[.val (.int ((((pa0.toUInt32 >>> ((8 : Int32) &&& 31).toUInt32).toInt32).toUInt32 >>> ((2 : Int32) &&& 31).toUInt32).toInt32)), .val (.int (21 : Int32))] [(.int ((21 : Int32) - ((((((pa0.toUInt32 >>> ((8 : Int32) &&& 31).toUInt32).toInt32).toUInt32 >>> ((2 : Int32) &&& 31).toUInt32).toInt32).toUInt32 >>> ((1 : Int32) &&& 31).toUInt32).toInt32)))])) (fun t k => XS.isub X0.here hx rfl (hb hby d14_77) rfl k) ?_
            obtain ⟨fs, hr, hrun, hended, hW, hsame⟩ := X0.leave (v := some (.int ((21 : Int32) - ((((((pa0.toUInt32 >>> ((8 : Int32) &&& 31).toUInt32).toInt32).toUInt32 >>> ((2 : Int32) &&& 31).toUInt32).toInt32).toUInt32 >>> ((1 : Int32) &&& 31).toUInt32).toInt32)))) (fun h => by rw [Bd.returns] at h; cases h)
            exact ⟨_, _, retOut X0 hx Bd.returns rfl (Or.inl ⟨rfl, Or.inl rfl, _, rfl⟩) (hb hby d14_78) hr, hrun, hended, _, _, rfl, ⟨⟨(congrArg (fun z => some (Value.int z)) (own_nlzleaf (by simp only [own_nlz, own_n4, own_n3, own_n2, own_n1, own_sub, if_pos h87, if_pos h88, if_neg h89, if_pos h93, if_neg h94] <;> rfl))), e0⟩, N0⟩, ⟨_, rfl⟩, hW, hsame.mono (by decide) (by decide)⟩
        · skip
          refine Go.on (T' := s₁) (g' := (mkF m 54 #[.val (.int ((pa0.toUInt32 >>> ((8 : Int32) &&& 31).toUInt32).toInt32)), .val (.int (23 : Int32))] [])) (fun t k => XS.icmpNo X0.here hx rfl (hb hby d14_51) rfl (flt h93).1 k) ?_
          refine Go.on (T' := s₁) (g' := (mkF m 57 #[.val (.int ((pa0.toUInt32 >>> ((8 : Int32) &&& 31).toUInt32).toInt32)), .val (.int (19 : Int32))] [])) (fun t k => XS.iinc X0.here hx rfl (hb hby d14_54) rfl (l' := #[.val (.int ((pa0.toUInt32 >>> ((8 : Int32) &&& 31).toUInt32).toInt32)), .val (.int (19 : Int32))]) rfl k) ?_
          refine Go.on (T' := s₁) (g' := (mkF m 58 #[.val (.int ((pa0.toUInt32 >>> ((8 : Int32) &&& 31).toUInt32).toInt32)), .val (.int (19 : Int32))] [(.int ((pa0.toUInt32 >>> ((8 : Int32) &&& 31).toUInt32).toInt32))])) (fun t k => XS.iloadN X0.here hx rfl (hb hby d14_57) rfl k) ?_
          refine Go.on (T' := s₁) (g' := (mkF m 59 #[.val (.int ((pa0.toUInt32 >>> ((8 : Int32) &&& 31).toUInt32).toInt32)), .val (.int (19 : Int32))] [(.int (4 : Int32)), (.int ((pa0.toUInt32 >>> ((8 : Int32) &&& 31).toUInt32).toInt32))])) (fun t k => XS.iconst X0.here hx rfl (hb hby d14_58) k) ?_
          refine Go.on (T' := s₁) (g' := (mkF m 60 #[.val (.int ((pa0.toUInt32 >>> ((8 : Int32) &&& 31).toUInt32).toInt32)), .val (.int (19 : Int32))] [(.int ((((pa0.toUInt32 >>> ((8 : Int32) &&& 31).toUInt32).toInt32).toUInt32 >>> ((4 : Int32) &&& 31).toUInt32).toInt32))])) (fun t k => XS.iushr X0.here hx rfl (hb hby d14_59) rfl k) ?_
          refine Go.on (T' := s₁) (g' := (mkF m 61 #[.val (.int ((((pa0.toUInt32 >>> ((8 : Int32) &&& 31).toUInt32).toInt32).toUInt32 >>> ((4 : Int32) &&& 31).toUInt32).toInt32)), .val (.int (19 : Int32))] [])) (fun t k => XS.istoreN X0.here hx rfl (hb hby d14_60) rfl (l' := #[.val (.int ((((pa0.toUInt32 >>> ((8 : Int32) &&& 31).toUInt32).toInt32).toUInt32 >>> ((4 : Int32) &&& 31).toUInt32).toInt32)), .val (.int (19 : Int32))]) rfl k) ?_
          refine Go.on (T' := s₁) (g' := (mkF m 62 #[.val (.int ((((pa0.toUInt32 >>> ((8 : Int32) &&& 31).toUInt32).toInt32).toUInt32 >>> ((4 : Int32) &&& 31).toUInt32).toInt32)), .val (.int (19 : Int32))] [(.int ((((pa0.toUInt32 >>> ((8 : Int32) &&& 31).toUInt32).toInt32).toUInt32 >>> ((4 : Int32) &&& 31).toUInt32).toInt32))])) (fun t k => XS.iloadN X0.here hx rfl (hb hby d14_61) rfl k) ?_
          refine Go.on (T' := s₁) (g' := (mkF m 63 #[.val (.int ((((pa0.toUInt32 >>> ((8 : Int32) &&& 31).toUInt32).toInt32).toUInt32 >>> ((4 : Int32) &&& 31).toUInt32).toInt32)), .val (.int (19 : Int32))] [(.int (4 : Int32)), (.int ((((pa0.toUInt32 >>> ((8 : Int32) &&& 31).toUInt32).toInt32).toUInt32 >>> ((4 : Int32) &&& 31).toUInt32).toInt32))])) (fun t k => XS.iconst X0.here hx rfl (hb hby d14_62) k) ?_
          by_cases h95 : ((((pa0.toUInt32 >>> ((8 : Int32) &&& 31).toUInt32).toInt32).toUInt32 >>> ((4 : Int32) &&& 31).toUInt32).toInt32) < (4 : Int32)
          · skip
            refine Go.on (T' := s₁) (g' := (mkF m 73 #[.val (.int ((((pa0.toUInt32 >>> ((8 : Int32) &&& 31).toUInt32).toInt32).toUInt32 >>> ((4 : Int32) &&& 31).toUInt32).toInt32)), .val (.int (19 : Int32))] [])) (fun t k => XS.icmpYes X0.here hx rfl (pc0 := 63) (pc' := 73) rfl (hb hby d14_63) rfl (tlt h95).1 (by decide) (by decide) k) ?_
            refine Go.on (T' := s₁) (g' := (mkF m 74 #[.val (.int ((((pa0.toUInt32 >>> ((8 : Int32) &&& 31).toUInt32).toInt32).toUInt32 >>> ((4 : Int32) &&& 31).toUInt32).toInt32)), .val (.int (19 : Int32))] [(.int (19 : Int32))])) (fun t k => XS.iloadN X0.here hx rfl (hb hby d14_73) rfl k) ?_
            refine Go.on (T' := s₁) (g' := (mkF m 75 #[.val (.int ((((pa0.toUInt32 >>> ((8 : Int32) &&& 31).toUInt32).toInt32).toUInt32 >>> ((4 : Int32) &&& 31).toUInt32).toInt32)), .val (.int (19 : Int32))] [(.int ((((pa0.toUInt32 >>> ((8 : Int32) &&& 31).toUInt32).toInt32).toUInt32 >>> ((4 : Int32) &&& 31).toUInt32).toInt32)), (.int (19 : Int32))])) (fun t k => XS.iloadN X0.here hx rfl (hb hby d14_74) rfl k) ?_
            refine Go.on (T' := s₁) (g' := (mkF m 76 #[.val (.int ((((pa0.toUInt32 >>> ((8 : Int32) &&& 31).toUInt32).toInt32).toUInt32 >>> ((4 : Int32) &&& 31).toUInt32).toInt32)), .val (.int (19 : Int32))] [(.int (1 : Int32)), (.int ((((pa0.toUInt32 >>> ((8 : Int32) &&& 31).toUInt32).toInt32).toUInt32 >>> ((4 : Int32) &&& 31).toUInt32).toInt32)), (.int (19 : Int32))])) (fun t k => XS.iconst X0.here hx rfl (hb hby d14_75) k) ?_
            refine Go.on (T' := s₁) (g' := (mkF m 77 #[.val (.int ((((pa0.toUInt32 >>> ((8 : Int32) &&& 31).toUInt32).toInt32).toUInt32 >>> ((4 : Int32) &&& 31).toUInt32).toInt32)), .val (.int (19 : Int32))] [(.int ((((((pa0.toUInt32 >>> ((8 : Int32) &&& 31).toUInt32).toInt32).toUInt32 >>> ((4 : Int32) &&& 31).toUInt32).toInt32).toUInt32 >>> ((1 : Int32) &&& 31).toUInt32).toInt32)), (.int (19 : Int32))])) (fun t k => XS.iushr X0.here hx rfl (hb hby d14_76) rfl k) ?_
            refine Go.on (T' := s₁) (g' := (mkF m 78 #[.val (.int ((((pa0.toUInt32 >>> ((8 : Int32) &&& 31).toUInt32).toInt32).toUInt32 >>> ((4 : Int32) &&& 31).toUInt32).toInt32)), .val (.int (19 : Int32))] [(.int ((19 : Int32) - ((((((pa0.toUInt32 >>> ((8 : Int32) &&& 31).toUInt32).toInt32).toUInt32 >>> ((4 : Int32) &&& 31).toUInt32).toInt32).toUInt32 >>> ((1 : Int32) &&& 31).toUInt32).toInt32)))])) (fun t k => XS.isub X0.here hx rfl (hb hby d14_77) rfl k) ?_
            obtain ⟨fs, hr, hrun, hended, hW, hsame⟩ := X0.leave (v := some (.int ((19 : Int32) - ((((((pa0.toUInt32 >>> ((8 : Int32) &&& 31).toUInt32).toInt32).toUInt32 >>> ((4 : Int32) &&& 31).toUInt32).toInt32).toUInt32 >>> ((1 : Int32) &&& 31).toUInt32).toInt32)))) (fun h => by rw [Bd.returns] at h; cases h)
            exact ⟨_, _, retOut X0 hx Bd.returns rfl (Or.inl ⟨rfl, Or.inl rfl, _, rfl⟩) (hb hby d14_78) hr, hrun, hended, _, _, rfl, ⟨⟨(congrArg (fun z => some (Value.int z)) (own_nlzleaf (by simp only [own_nlz, own_n4, own_n3, own_n2, own_n1, own_sub, if_pos h87, if_pos h88, if_neg h89, if_neg h93, if_pos h95] <;> rfl))), e0⟩, N0⟩, ⟨_, rfl⟩, hW, hsame.mono (by decide) (by decide)⟩
          · skip
            refine Go.on (T' := s₁) (g' := (mkF m 66 #[.val (.int ((((pa0.toUInt32 >>> ((8 : Int32) &&& 31).toUInt32).toInt32).toUInt32 >>> ((4 : Int32) &&& 31).toUInt32).toInt32)), .val (.int (19 : Int32))] [])) (fun t k => XS.icmpNo X0.here hx rfl (hb hby d14_63) rfl (flt h95).1 k) ?_
            refine Go.on (T' := s₁) (g' := (mkF m 69 #[.val (.int ((((pa0.toUInt32 >>> ((8 : Int32) &&& 31).toUInt32).toInt32).toUInt32 >>> ((4 : Int32) &&& 31).toUInt32).toInt32)), .val (.int (17 : Int32))] [])) (fun t k => XS.iinc X0.here hx rfl (hb hby d14_66) rfl (l' := #[.val (.int ((((pa0.toUInt32 >>> ((8 : Int32) &&& 31).toUInt32).toInt32).toUInt32 >>> ((4 : Int32) &&& 31).toUInt32).toInt32)), .val (.int (17 : Int32))]) rfl k) ?_
            refine Go.on (T' := s₁) (g' := (mkF m 70 #[.val (.int ((((pa0.toUInt32 >>> ((8 : Int32) &&& 31).toUInt32).toInt32).toUInt32 >>> ((4 : Int32) &&& 31).toUInt32).toInt32)), .val (.int (17 : Int32))] [(.int ((((pa0.toUInt32 >>> ((8 : Int32) &&& 31).toUInt32).toInt32).toUInt32 >>> ((4 : Int32) &&& 31).toUInt32).toInt32))])) (fun t k => XS.iloadN X0.here hx rfl (hb hby d14_69) rfl k) ?_
            refine Go.on (T' := s₁) (g' := (mkF m 71 #[.val (.int ((((pa0.toUInt32 >>> ((8 : Int32) &&& 31).toUInt32).toInt32).toUInt32 >>> ((4 : Int32) &&& 31).toUInt32).toInt32)), .val (.int (17 : Int32))] [(.int (2 : Int32)), (.int ((((pa0.toUInt32 >>> ((8 : Int32) &&& 31).toUInt32).toInt32).toUInt32 >>> ((4 : Int32) &&& 31).toUInt32).toInt32))])) (fun t k => XS.iconst X0.here hx rfl (hb hby d14_70) k) ?_
            refine Go.on (T' := s₁) (g' := (mkF m 72 #[.val (.int ((((pa0.toUInt32 >>> ((8 : Int32) &&& 31).toUInt32).toInt32).toUInt32 >>> ((4 : Int32) &&& 31).toUInt32).toInt32)), .val (.int (17 : Int32))] [(.int ((((((pa0.toUInt32 >>> ((8 : Int32) &&& 31).toUInt32).toInt32).toUInt32 >>> ((4 : Int32) &&& 31).toUInt32).toInt32).toUInt32 >>> ((2 : Int32) &&& 31).toUInt32).toInt32))])) (fun t k => XS.iushr X0.here hx rfl (hb hby d14_71) rfl k) ?_
            refine Go.on (T' := s₁) (g' := (mkF m 73 #[.val (.int ((((((pa0.toUInt32 >>> ((8 : Int32) &&& 31).toUInt32).toInt32).toUInt32 >>> ((4 : Int32) &&& 31).toUInt32).toInt32).toUInt32 >>> ((2 : Int32) &&& 31).toUInt32).toInt32)), .val (.int (17 : Int32))] [])) (fun t k => XS.istoreN X0.here hx rfl (hb hby d14_72) rfl (l' := #[.val (.int ((((((pa0.toUInt32 >>> ((8 : Int32) &&& 31).toUInt32).toInt32).toUInt32 >>> ((4 : Int32) &&& 31).toUInt32).toInt32).toUInt32 >>> ((2 : Int32) &&& 31).toUInt32).toInt32)), .val (.int (17 : Int32))]) rfl k) ?_
            refine Go.on (T' := s₁) (g' := (mkF m 74 #[.val (.int ((((((pa0.toUInt32 >>> ((8 : Int32) &&& 31).toUInt32).toInt32).toUInt32 >>> ((4 : Int32) &&& 31).toUInt32).toInt32).toUInt32 >>> ((2 : Int32) &&& 31).toUInt32).toInt32)), .val (.int (17 : Int32))] [(.int (17 : Int32))])) (fun t k => XS.iloadN X0.here hx rfl (hb hby d14_73) rfl k) ?_
            refine Go.on (T' := s₁) (g' := (mkF m 75 #[.val (.int ((((((pa0.toUInt32 >>> ((8 : Int32) &&& 31).toUInt32).toInt32).toUInt32 >>> ((4 : Int32) &&& 31).toUInt32).toInt32).toUInt32 >>> ((2 : Int32) &&& 31).toUInt32).toInt32)), .val (.int (17 : Int32))] [(.int ((((((pa0.toUInt32 >>> ((8 : Int32) &&& 31).toUInt32).toInt32).toUInt32 >>> ((4 : Int32) &&& 31).toUInt32).toInt32).toUInt32 >>> ((2 : Int32) &&& 31).toUInt32).toInt32)), (.int (17 : Int32))])) (fun t k => XS.iloadN X0.here hx rfl (hb hby d14_74) rfl k) ?_
            refine Go.on (T' := s₁) (g' := (mkF m 76 #[.val (.int ((((((pa0.toUInt32 >>> ((8 : Int32) &&& 31).toUInt32).toInt32).toUInt32 >>> ((4 : Int32) &&& 31).toUInt32).toInt32).toUInt32 >>> ((2 : Int32) &&& 31).toUInt32).toInt32)), .val (.int (17 : Int32))] [(.int (1 : Int32)), (.int ((((((pa0.toUInt32 >>> ((8 : Int32) &&& 31).toUInt32).toInt32).toUInt32 >>> ((4 : Int32) &&& 31).toUInt32).toInt32).toUInt32 >>> ((2 : Int32) &&& 31).toUInt32).toInt32)), (.int (17 : Int32))])) (fun t k => XS.iconst X0.here hx rfl (hb hby d14_75) k) ?_
            refine Go.on (T' := s₁) (g' := (mkF m 77 #[.val (.int ((((((pa0.toUInt32 >>> ((8 : Int32) &&& 31).toUInt32).toInt32).toUInt32 >>> ((4 : Int32) &&& 31).toUInt32).toInt32).toUInt32 >>> ((2 : Int32) &&& 31).toUInt32).toInt32)), .val (.int (17 : Int32))] [(.int ((((((((pa0.toUInt32 >>> ((8 : Int32) &&& 31).toUInt32).toInt32).toUInt32 >>> ((4 : Int32) &&& 31).toUInt32).toInt32).toUInt32 >>> ((2 : Int32) &&& 31).toUInt32).toInt32).toUInt32 >>> ((1 : Int32) &&& 31).toUInt32).toInt32)), (.int (17 : Int32))])) (fun t k => XS.iushr X0.here hx rfl (hb hby d14_76) rfl k) ?_
            refine Go.on (T' := s₁) (g' := (mkF m 78 #[.val (.int ((((((pa0.toUInt32 >>> ((8 : Int32) &&& 31).toUInt32).toInt32).toUInt32 >>> ((4 : Int32) &&& 31).toUInt32).toInt32).toUInt32 >>> ((2 : Int32) &&& 31).toUInt32).toInt32)), .val (.int (17 : Int32))] [(.int ((17 : Int32) - ((((((((pa0.toUInt32 >>> ((8 : Int32) &&& 31).toUInt32).toInt32).toUInt32 >>> ((4 : Int32) &&& 31).toUInt32).toInt32).toUInt32 >>> ((2 : Int32) &&& 31).toUInt32).toInt32).toUInt32 >>> ((1 : Int32) &&& 31).toUInt32).toInt32)))])) (fun t k => XS.isub X0.here hx rfl (hb hby d14_77) rfl k) ?_
            obtain ⟨fs, hr, hrun, hended, hW, hsame⟩ := X0.leave (v := some (.int ((17 : Int32) - ((((((((pa0.toUInt32 >>> ((8 : Int32) &&& 31).toUInt32).toInt32).toUInt32 >>> ((4 : Int32) &&& 31).toUInt32).toInt32).toUInt32 >>> ((2 : Int32) &&& 31).toUInt32).toInt32).toUInt32 >>> ((1 : Int32) &&& 31).toUInt32).toInt32)))) (fun h => by rw [Bd.returns] at h; cases h)
            exact ⟨_, _, retOut X0 hx Bd.returns rfl (Or.inl ⟨rfl, Or.inl rfl, _, rfl⟩) (hb hby d14_78) hr, hrun, hended, _, _, rfl, ⟨⟨(congrArg (fun z => some (Value.int z)) (own_nlzleaf (by simp only [own_nlz, own_n4, own_n3, own_n2, own_n1, own_sub, if_pos h87, if_pos h88, if_neg h89, if_neg h93, if_neg h95] <;> rfl))), e0⟩, N0⟩, ⟨_, rfl⟩, hW, hsame.mono (by decide) (by decide)⟩
    · skip
      refine Go.on (T' := s₁) (g' := (mkF m 25 #[.val (.int pa0), .val (.int (31 : Int32))] [])) (fun t k => XS.icmpNo X0.here hx rfl (hb hby d14_22) rfl (flt h88).1 k) ?_
      refine Go.on (T' := s₁) (g' := (mkF m 28 #[.val (.int pa0), .val (.int (15 : Int32))] [])) (fun t k => XS.iinc X0.here hx rfl (hb hby d14_25) rfl (l' := #[.val (.int pa0), .val (.int (15 : Int32))]) rfl k) ?_
      refine Go.on (T' := s₁) (g' := (mkF m 29 #[.val (.int pa0), .val (.int (15 : Int32))] [(.int pa0)])) (fun t k => XS.iloadN X0.here hx rfl (hb hby d14_28) rfl k) ?_
      refine Go.on (T' := s₁) (g' := (mkF m 31 #[.val (.int pa0), .val (.int (15 : Int32))] [(.int (16 : Int32)), (.int pa0)])) (fun t k => XS.bipush X0.here hx rfl (hb hby d14_29) k) ?_
      refine Go.on (T' := s₁) (g' := (mkF m 32 #[.val (.int pa0), .val (.int (15 : Int32))] [(.int ((pa0.toUInt32 >>> ((16 : Int32) &&& 31).toUInt32).toInt32))])) (fun t k => XS.iushr X0.here hx rfl (hb hby d14_31) rfl k) ?_
      refine Go.on (T' := s₁) (g' := (mkF m 33 #[.val (.int ((pa0.toUInt32 >>> ((16 : Int32) &&& 31).toUInt32).toInt32)), .val (.int (15 : Int32))] [])) (fun t k => XS.istoreN X0.here hx rfl (hb hby d14_32) rfl (l' := #[.val (.int ((pa0.toUInt32 >>> ((16 : Int32) &&& 31).toUInt32).toInt32)), .val (.int (15 : Int32))]) rfl k) ?_
      refine Go.on (T' := s₁) (g' := (mkF m 34 #[.val (.int ((pa0.toUInt32 >>> ((16 : Int32) &&& 31).toUInt32).toInt32)), .val (.int (15 : Int32))] [(.int ((pa0.toUInt32 >>> ((16 : Int32) &&& 31).toUInt32).toInt32))])) (fun t k => XS.iloadN X0.here hx rfl (hb hby d14_33) rfl k) ?_
      refine Go.on (T' := s₁) (g' := (mkF m 37 #[.val (.int ((pa0.toUInt32 >>> ((16 : Int32) &&& 31).toUInt32).toInt32)), .val (.int (15 : Int32))] [(.int (256 : Int32)), (.int ((pa0.toUInt32 >>> ((16 : Int32) &&& 31).toUInt32).toInt32))])) (fun t k => XS.sipush X0.here hx rfl (hb hby d14_34) k) ?_
      by_cases h96 : ((pa0.toUInt32 >>> ((16 : Int32) &&& 31).toUInt32).toInt32) < (256 : Int32)
      · skip
        refine Go.on (T' := s₁) (g' := (mkF m 48 #[.val (.int ((pa0.toUInt32 >>> ((16 : Int32) &&& 31).toUInt32).toInt32)), .val (.int (15 : Int32))] [])) (fun t k => XS.icmpYes X0.here hx rfl (pc0 := 37) (pc' := 48) rfl (hb hby d14_37) rfl (tlt h96).1 (by decide) (by decide) k) ?_
        refine Go.on (T' := s₁) (g' := (mkF m 49 #[.val (.int ((pa0.toUInt32 >>> ((16 : Int32) &&& 31).toUInt32).toInt32)), .val (.int (15 : Int32))] [(.int ((pa0.toUInt32 >>> ((16 : Int32) &&& 31).toUInt32).toInt32))])) (fun t k => XS.iloadN X0.here hx rfl (hb hby d14_48) rfl k) ?_
        refine Go.on (T' := s₁) (g' := (mkF m 51 #[.val (.int ((pa0.toUInt32 >>> ((16 : Int32) &&& 31).toUInt32).toInt32)), .val (.int (15 : Int32))] [(.int (16 : Int32)), (.int ((pa0.toUInt32 >>> ((16 : Int32) &&& 31).toUInt32).toInt32))])) (fun t k => XS.bipush X0.here hx rfl (hb hby d14_49) k) ?_
        by_cases h97 : ((pa0.toUInt32 >>> ((16 : Int32) &&& 31).toUInt32).toInt32) < (16 : Int32)
        · skip
          refine Go.on (T' := s₁) (g' := (mkF m 61 #[.val (.int ((pa0.toUInt32 >>> ((16 : Int32) &&& 31).toUInt32).toInt32)), .val (.int (15 : Int32))] [])) (fun t k => XS.icmpYes X0.here hx rfl (pc0 := 51) (pc' := 61) rfl (hb hby d14_51) rfl (tlt h97).1 (by decide) (by decide) k) ?_
          refine Go.on (T' := s₁) (g' := (mkF m 62 #[.val (.int ((pa0.toUInt32 >>> ((16 : Int32) &&& 31).toUInt32).toInt32)), .val (.int (15 : Int32))] [(.int ((pa0.toUInt32 >>> ((16 : Int32) &&& 31).toUInt32).toInt32))])) (fun t k => XS.iloadN X0.here hx rfl (hb hby d14_61) rfl k) ?_
          refine Go.on (T' := s₁) (g' := (mkF m 63 #[.val (.int ((pa0.toUInt32 >>> ((16 : Int32) &&& 31).toUInt32).toInt32)), .val (.int (15 : Int32))] [(.int (4 : Int32)), (.int ((pa0.toUInt32 >>> ((16 : Int32) &&& 31).toUInt32).toInt32))])) (fun t k => XS.iconst X0.here hx rfl (hb hby d14_62) k) ?_
          by_cases h98 : ((pa0.toUInt32 >>> ((16 : Int32) &&& 31).toUInt32).toInt32) < (4 : Int32)
          · skip
            refine Go.on (T' := s₁) (g' := (mkF m 73 #[.val (.int ((pa0.toUInt32 >>> ((16 : Int32) &&& 31).toUInt32).toInt32)), .val (.int (15 : Int32))] [])) (fun t k => XS.icmpYes X0.here hx rfl (pc0 := 63) (pc' := 73) rfl (hb hby d14_63) rfl (tlt h98).1 (by decide) (by decide) k) ?_
            refine Go.on (T' := s₁) (g' := (mkF m 74 #[.val (.int ((pa0.toUInt32 >>> ((16 : Int32) &&& 31).toUInt32).toInt32)), .val (.int (15 : Int32))] [(.int (15 : Int32))])) (fun t k => XS.iloadN X0.here hx rfl (hb hby d14_73) rfl k) ?_
            refine Go.on (T' := s₁) (g' := (mkF m 75 #[.val (.int ((pa0.toUInt32 >>> ((16 : Int32) &&& 31).toUInt32).toInt32)), .val (.int (15 : Int32))] [(.int ((pa0.toUInt32 >>> ((16 : Int32) &&& 31).toUInt32).toInt32)), (.int (15 : Int32))])) (fun t k => XS.iloadN X0.here hx rfl (hb hby d14_74) rfl k) ?_
            refine Go.on (T' := s₁) (g' := (mkF m 76 #[.val (.int ((pa0.toUInt32 >>> ((16 : Int32) &&& 31).toUInt32).toInt32)), .val (.int (15 : Int32))] [(.int (1 : Int32)), (.int ((pa0.toUInt32 >>> ((16 : Int32) &&& 31).toUInt32).toInt32)), (.int (15 : Int32))])) (fun t k => XS.iconst X0.here hx rfl (hb hby d14_75) k) ?_
            refine Go.on (T' := s₁) (g' := (mkF m 77 #[.val (.int ((pa0.toUInt32 >>> ((16 : Int32) &&& 31).toUInt32).toInt32)), .val (.int (15 : Int32))] [(.int ((((pa0.toUInt32 >>> ((16 : Int32) &&& 31).toUInt32).toInt32).toUInt32 >>> ((1 : Int32) &&& 31).toUInt32).toInt32)), (.int (15 : Int32))])) (fun t k => XS.iushr X0.here hx rfl (hb hby d14_76) rfl k) ?_
            refine Go.on (T' := s₁) (g' := (mkF m 78 #[.val (.int ((pa0.toUInt32 >>> ((16 : Int32) &&& 31).toUInt32).toInt32)), .val (.int (15 : Int32))] [(.int ((15 : Int32) - ((((pa0.toUInt32 >>> ((16 : Int32) &&& 31).toUInt32).toInt32).toUInt32 >>> ((1 : Int32) &&& 31).toUInt32).toInt32)))])) (fun t k => XS.isub X0.here hx rfl (hb hby d14_77) rfl k) ?_
            obtain ⟨fs, hr, hrun, hended, hW, hsame⟩ := X0.leave (v := some (.int ((15 : Int32) - ((((pa0.toUInt32 >>> ((16 : Int32) &&& 31).toUInt32).toInt32).toUInt32 >>> ((1 : Int32) &&& 31).toUInt32).toInt32)))) (fun h => by rw [Bd.returns] at h; cases h)
            exact ⟨_, _, retOut X0 hx Bd.returns rfl (Or.inl ⟨rfl, Or.inl rfl, _, rfl⟩) (hb hby d14_78) hr, hrun, hended, _, _, rfl, ⟨⟨(congrArg (fun z => some (Value.int z)) (own_nlzleaf (by simp only [own_nlz, own_n4, own_n3, own_n2, own_n1, own_sub, if_pos h87, if_neg h88, if_pos h96, if_pos h97, if_pos h98] <;> rfl))), e0⟩, N0⟩, ⟨_, rfl⟩, hW, hsame.mono (by decide) (by decide)⟩
          · skip
            refine Go.on (T' := s₁) (g' := (mkF m 66 #[.val (.int ((pa0.toUInt32 >>> ((16 : Int32) &&& 31).toUInt32).toInt32)), .val (.int (15 : Int32))] [])) (fun t k => XS.icmpNo X0.here hx rfl (hb hby d14_63) rfl (flt h98).1 k) ?_
            refine Go.on (T' := s₁) (g' := (mkF m 69 #[.val (.int ((pa0.toUInt32 >>> ((16 : Int32) &&& 31).toUInt32).toInt32)), .val (.int (13 : Int32))] [])) (fun t k => XS.iinc X0.here hx rfl (hb hby d14_66) rfl (l' := #[.val (.int ((pa0.toUInt32 >>> ((16 : Int32) &&& 31).toUInt32).toInt32)), .val (.int (13 : Int32))]) rfl k) ?_
            refine Go.on (T' := s₁) (g' := (mkF m 70 #[.val (.int ((pa0.toUInt32 >>> ((16 : Int32) &&& 31).toUInt32).toInt32)), .val (.int (13 : Int32))] [(.int ((pa0.toUInt32 >>> ((16 : Int32) &&& 31).toUInt32).toInt32))])) (fun t k => XS.iloadN X0.here hx rfl (hb hby d14_69) rfl k) ?_
            refine Go.on (T' := s₁) (g' := (mkF m 71 #[.val (.int ((pa0.toUInt32 >>> ((16 : Int32) &&& 31).toUInt32).toInt32)), .val (.int (13 : Int32))] [(.int (2 : Int32)), (.int ((pa0.toUInt32 >>> ((16 : Int32) &&& 31).toUInt32).toInt32))])) (fun t k => XS.iconst X0.here hx rfl (hb hby d14_70) k) ?_
            refine Go.on (T' := s₁) (g' := (mkF m 72 #[.val (.int ((pa0.toUInt32 >>> ((16 : Int32) &&& 31).toUInt32).toInt32)), .val (.int (13 : Int32))] [(.int ((((pa0.toUInt32 >>> ((16 : Int32) &&& 31).toUInt32).toInt32).toUInt32 >>> ((2 : Int32) &&& 31).toUInt32).toInt32))])) (fun t k => XS.iushr X0.here hx rfl (hb hby d14_71) rfl k) ?_
            refine Go.on (T' := s₁) (g' := (mkF m 73 #[.val (.int ((((pa0.toUInt32 >>> ((16 : Int32) &&& 31).toUInt32).toInt32).toUInt32 >>> ((2 : Int32) &&& 31).toUInt32).toInt32)), .val (.int (13 : Int32))] [])) (fun t k => XS.istoreN X0.here hx rfl (hb hby d14_72) rfl (l' := #[.val (.int ((((pa0.toUInt32 >>> ((16 : Int32) &&& 31).toUInt32).toInt32).toUInt32 >>> ((2 : Int32) &&& 31).toUInt32).toInt32)), .val (.int (13 : Int32))]) rfl k) ?_
            refine Go.on (T' := s₁) (g' := (mkF m 74 #[.val (.int ((((pa0.toUInt32 >>> ((16 : Int32) &&& 31).toUInt32).toInt32).toUInt32 >>> ((2 : Int32) &&& 31).toUInt32).toInt32)), .val (.int (13 : Int32))] [(.int (13 : Int32))])) (fun t k => XS.iloadN X0.here hx rfl (hb hby d14_73) rfl k) ?_
            refine Go.on (T' := s₁) (g' := (mkF m 75 #[.val (.int ((((pa0.toUInt32 >>> ((16 : Int32) &&& 31).toUInt32).toInt32).toUInt32 >>> ((2 : Int32) &&& 31).toUInt32).toInt32)), .val (.int (13 : Int32))] [(.int ((((pa0.toUInt32 >>> ((16 : Int32) &&& 31).toUInt32).toInt32).toUInt32 >>> ((2 : Int32) &&& 31).toUInt32).toInt32)), (.int (13 : Int32))])) (fun t k => XS.iloadN X0.here hx rfl (hb hby d14_74) rfl k) ?_
            refine Go.on (T' := s₁) (g' := (mkF m 76 #[.val (.int ((((pa0.toUInt32 >>> ((16 : Int32) &&& 31).toUInt32).toInt32).toUInt32 >>> ((2 : Int32) &&& 31).toUInt32).toInt32)), .val (.int (13 : Int32))] [(.int (1 : Int32)), (.int ((((pa0.toUInt32 >>> ((16 : Int32) &&& 31).toUInt32).toInt32).toUInt32 >>> ((2 : Int32) &&& 31).toUInt32).toInt32)), (.int (13 : Int32))])) (fun t k => XS.iconst X0.here hx rfl (hb hby d14_75) k) ?_
            refine Go.on (T' := s₁) (g' := (mkF m 77 #[.val (.int ((((pa0.toUInt32 >>> ((16 : Int32) &&& 31).toUInt32).toInt32).toUInt32 >>> ((2 : Int32) &&& 31).toUInt32).toInt32)), .val (.int (13 : Int32))] [(.int ((((((pa0.toUInt32 >>> ((16 : Int32) &&& 31).toUInt32).toInt32).toUInt32 >>> ((2 : Int32) &&& 31).toUInt32).toInt32).toUInt32 >>> ((1 : Int32) &&& 31).toUInt32).toInt32)), (.int (13 : Int32))])) (fun t k => XS.iushr X0.here hx rfl (hb hby d14_76) rfl k) ?_
            refine Go.on (T' := s₁) (g' := (mkF m 78 #[.val (.int ((((pa0.toUInt32 >>> ((16 : Int32) &&& 31).toUInt32).toInt32).toUInt32 >>> ((2 : Int32) &&& 31).toUInt32).toInt32)), .val (.int (13 : Int32))] [(.int ((13 : Int32) - ((((((pa0.toUInt32 >>> ((16 : Int32) &&& 31).toUInt32).toInt32).toUInt32 >>> ((2 : Int32) &&& 31).toUInt32).toInt32).toUInt32 >>> ((1 : Int32) &&& 31).toUInt32).toInt32)))])) (fun t k => XS.isub X0.here hx rfl (hb hby d14_77) rfl k) ?_
            obtain ⟨fs, hr, hrun, hended, hW, hsame⟩ := X0.leave (v := some (.int ((13 : Int32) - ((((((pa0.toUInt32 >>> ((16 : Int32) &&& 31).toUInt32).toInt32).toUInt32 >>> ((2 : Int32) &&& 31).toUInt32).toInt32).toUInt32 >>> ((1 : Int32) &&& 31).toUInt32).toInt32)))) (fun h => by rw [Bd.returns] at h; cases h)
            exact ⟨_, _, retOut X0 hx Bd.returns rfl (Or.inl ⟨rfl, Or.inl rfl, _, rfl⟩) (hb hby d14_78) hr, hrun, hended, _, _, rfl, ⟨⟨(congrArg (fun z => some (Value.int z)) (own_nlzleaf (by simp only [own_nlz, own_n4, own_n3, own_n2, own_n1, own_sub, if_pos h87, if_neg h88, if_pos h96, if_pos h97, if_neg h98] <;> rfl))), e0⟩, N0⟩, ⟨_, rfl⟩, hW, hsame.mono (by decide) (by decide)⟩
        · skip
          refine Go.on (T' := s₁) (g' := (mkF m 54 #[.val (.int ((pa0.toUInt32 >>> ((16 : Int32) &&& 31).toUInt32).toInt32)), .val (.int (15 : Int32))] [])) (fun t k => XS.icmpNo X0.here hx rfl (hb hby d14_51) rfl (flt h97).1 k) ?_
          refine Go.on (T' := s₁) (g' := (mkF m 57 #[.val (.int ((pa0.toUInt32 >>> ((16 : Int32) &&& 31).toUInt32).toInt32)), .val (.int (11 : Int32))] [])) (fun t k => XS.iinc X0.here hx rfl (hb hby d14_54) rfl (l' := #[.val (.int ((pa0.toUInt32 >>> ((16 : Int32) &&& 31).toUInt32).toInt32)), .val (.int (11 : Int32))]) rfl k) ?_
          refine Go.on (T' := s₁) (g' := (mkF m 58 #[.val (.int ((pa0.toUInt32 >>> ((16 : Int32) &&& 31).toUInt32).toInt32)), .val (.int (11 : Int32))] [(.int ((pa0.toUInt32 >>> ((16 : Int32) &&& 31).toUInt32).toInt32))])) (fun t k => XS.iloadN X0.here hx rfl (hb hby d14_57) rfl k) ?_
          refine Go.on (T' := s₁) (g' := (mkF m 59 #[.val (.int ((pa0.toUInt32 >>> ((16 : Int32) &&& 31).toUInt32).toInt32)), .val (.int (11 : Int32))] [(.int (4 : Int32)), (.int ((pa0.toUInt32 >>> ((16 : Int32) &&& 31).toUInt32).toInt32))])) (fun t k => XS.iconst X0.here hx rfl (hb hby d14_58) k) ?_
          refine Go.on (T' := s₁) (g' := (mkF m 60 #[.val (.int ((pa0.toUInt32 >>> ((16 : Int32) &&& 31).toUInt32).toInt32)), .val (.int (11 : Int32))] [(.int ((((pa0.toUInt32 >>> ((16 : Int32) &&& 31).toUInt32).toInt32).toUInt32 >>> ((4 : Int32) &&& 31).toUInt32).toInt32))])) (fun t k => XS.iushr X0.here hx rfl (hb hby d14_59) rfl k) ?_
          refine Go.on (T' := s₁) (g' := (mkF m 61 #[.val (.int ((((pa0.toUInt32 >>> ((16 : Int32) &&& 31).toUInt32).toInt32).toUInt32 >>> ((4 : Int32) &&& 31).toUInt32).toInt32)), .val (.int (11 : Int32))] [])) (fun t k => XS.istoreN X0.here hx rfl (hb hby d14_60) rfl (l' := #[.val (.int ((((pa0.toUInt32 >>> ((16 : Int32) &&& 31).toUInt32).toInt32).toUInt32 >>> ((4 : Int32) &&& 31).toUInt32).toInt32)), .val (.int (11 : Int32))]) rfl k) ?_
          refine Go.on (T' := s₁) (g' := (mkF m 62 #[.val (.int ((((pa0.toUInt32 >>> ((16 : Int32) &&& 31).toUInt32).toInt32).toUInt32 >>> ((4 : Int32) &&& 31).toUInt32).toInt32)), .val (.int (11 : Int32))] [(.int ((((pa0.toUInt32 >>> ((16 : Int32) &&& 31).toUInt32).toInt32).toUInt32 >>> ((4 : Int32) &&& 31).toUInt32).toInt32))])) (fun t k => XS.iloadN X0.here hx rfl (hb hby d14_61) rfl k) ?_
          refine Go.on (T' := s₁) (g' := (mkF m 63 #[.val (.int ((((pa0.toUInt32 >>> ((16 : Int32) &&& 31).toUInt32).toInt32).toUInt32 >>> ((4 : Int32) &&& 31).toUInt32).toInt32)), .val (.int (11 : Int32))] [(.int (4 : Int32)), (.int ((((pa0.toUInt32 >>> ((16 : Int32) &&& 31).toUInt32).toInt32).toUInt32 >>> ((4 : Int32) &&& 31).toUInt32).toInt32))])) (fun t k => XS.iconst X0.here hx rfl (hb hby d14_62) k) ?_
          by_cases h99 : ((((pa0.toUInt32 >>> ((16 : Int32) &&& 31).toUInt32).toInt32).toUInt32 >>> ((4 : Int32) &&& 31).toUInt32).toInt32) < (4 : Int32)
          · skip
            refine Go.on (T' := s₁) (g' := (mkF m 73 #[.val (.int ((((pa0.toUInt32 >>> ((16 : Int32) &&& 31).toUInt32).toInt32).toUInt32 >>> ((4 : Int32) &&& 31).toUInt32).toInt32)), .val (.int (11 : Int32))] [])) (fun t k => XS.icmpYes X0.here hx rfl (pc0 := 63) (pc' := 73) rfl (hb hby d14_63) rfl (tlt h99).1 (by decide) (by decide) k) ?_
            refine Go.on (T' := s₁) (g' := (mkF m 74 #[.val (.int ((((pa0.toUInt32 >>> ((16 : Int32) &&& 31).toUInt32).toInt32).toUInt32 >>> ((4 : Int32) &&& 31).toUInt32).toInt32)), .val (.int (11 : Int32))] [(.int (11 : Int32))])) (fun t k => XS.iloadN X0.here hx rfl (hb hby d14_73) rfl k) ?_
            refine Go.on (T' := s₁) (g' := (mkF m 75 #[.val (.int ((((pa0.toUInt32 >>> ((16 : Int32) &&& 31).toUInt32).toInt32).toUInt32 >>> ((4 : Int32) &&& 31).toUInt32).toInt32)), .val (.int (11 : Int32))] [(.int ((((pa0.toUInt32 >>> ((16 : Int32) &&& 31).toUInt32).toInt32).toUInt32 >>> ((4 : Int32) &&& 31).toUInt32).toInt32)), (.int (11 : Int32))])) (fun t k => XS.iloadN X0.here hx rfl (hb hby d14_74) rfl k) ?_
            refine Go.on (T' := s₁) (g' := (mkF m 76 #[.val (.int ((((pa0.toUInt32 >>> ((16 : Int32) &&& 31).toUInt32).toInt32).toUInt32 >>> ((4 : Int32) &&& 31).toUInt32).toInt32)), .val (.int (11 : Int32))] [(.int (1 : Int32)), (.int ((((pa0.toUInt32 >>> ((16 : Int32) &&& 31).toUInt32).toInt32).toUInt32 >>> ((4 : Int32) &&& 31).toUInt32).toInt32)), (.int (11 : Int32))])) (fun t k => XS.iconst X0.here hx rfl (hb hby d14_75) k) ?_
            refine Go.on (T' := s₁) (g' := (mkF m 77 #[.val (.int ((((pa0.toUInt32 >>> ((16 : Int32) &&& 31).toUInt32).toInt32).toUInt32 >>> ((4 : Int32) &&& 31).toUInt32).toInt32)), .val (.int (11 : Int32))] [(.int ((((((pa0.toUInt32 >>> ((16 : Int32) &&& 31).toUInt32).toInt32).toUInt32 >>> ((4 : Int32) &&& 31).toUInt32).toInt32).toUInt32 >>> ((1 : Int32) &&& 31).toUInt32).toInt32)), (.int (11 : Int32))])) (fun t k => XS.iushr X0.here hx rfl (hb hby d14_76) rfl k) ?_
            refine Go.on (T' := s₁) (g' := (mkF m 78 #[.val (.int ((((pa0.toUInt32 >>> ((16 : Int32) &&& 31).toUInt32).toInt32).toUInt32 >>> ((4 : Int32) &&& 31).toUInt32).toInt32)), .val (.int (11 : Int32))] [(.int ((11 : Int32) - ((((((pa0.toUInt32 >>> ((16 : Int32) &&& 31).toUInt32).toInt32).toUInt32 >>> ((4 : Int32) &&& 31).toUInt32).toInt32).toUInt32 >>> ((1 : Int32) &&& 31).toUInt32).toInt32)))])) (fun t k => XS.isub X0.here hx rfl (hb hby d14_77) rfl k) ?_
            obtain ⟨fs, hr, hrun, hended, hW, hsame⟩ := X0.leave (v := some (.int ((11 : Int32) - ((((((pa0.toUInt32 >>> ((16 : Int32) &&& 31).toUInt32).toInt32).toUInt32 >>> ((4 : Int32) &&& 31).toUInt32).toInt32).toUInt32 >>> ((1 : Int32) &&& 31).toUInt32).toInt32)))) (fun h => by rw [Bd.returns] at h; cases h)
            exact ⟨_, _, retOut X0 hx Bd.returns rfl (Or.inl ⟨rfl, Or.inl rfl, _, rfl⟩) (hb hby d14_78) hr, hrun, hended, _, _, rfl, ⟨⟨(congrArg (fun z => some (Value.int z)) (own_nlzleaf (by simp only [own_nlz, own_n4, own_n3, own_n2, own_n1, own_sub, if_pos h87, if_neg h88, if_pos h96, if_neg h97, if_pos h99] <;> rfl))), e0⟩, N0⟩, ⟨_, rfl⟩, hW, hsame.mono (by decide) (by decide)⟩
          · skip
            refine Go.on (T' := s₁) (g' := (mkF m 66 #[.val (.int ((((pa0.toUInt32 >>> ((16 : Int32) &&& 31).toUInt32).toInt32).toUInt32 >>> ((4 : Int32) &&& 31).toUInt32).toInt32)), .val (.int (11 : Int32))] [])) (fun t k => XS.icmpNo X0.here hx rfl (hb hby d14_63) rfl (flt h99).1 k) ?_
            refine Go.on (T' := s₁) (g' := (mkF m 69 #[.val (.int ((((pa0.toUInt32 >>> ((16 : Int32) &&& 31).toUInt32).toInt32).toUInt32 >>> ((4 : Int32) &&& 31).toUInt32).toInt32)), .val (.int (9 : Int32))] [])) (fun t k => XS.iinc X0.here hx rfl (hb hby d14_66) rfl (l' := #[.val (.int ((((pa0.toUInt32 >>> ((16 : Int32) &&& 31).toUInt32).toInt32).toUInt32 >>> ((4 : Int32) &&& 31).toUInt32).toInt32)), .val (.int (9 : Int32))]) rfl k) ?_
            refine Go.on (T' := s₁) (g' := (mkF m 70 #[.val (.int ((((pa0.toUInt32 >>> ((16 : Int32) &&& 31).toUInt32).toInt32).toUInt32 >>> ((4 : Int32) &&& 31).toUInt32).toInt32)), .val (.int (9 : Int32))] [(.int ((((pa0.toUInt32 >>> ((16 : Int32) &&& 31).toUInt32).toInt32).toUInt32 >>> ((4 : Int32) &&& 31).toUInt32).toInt32))])) (fun t k => XS.iloadN X0.here hx rfl (hb hby d14_69) rfl k) ?_
            refine Go.on (T' := s₁) (g' := (mkF m 71 #[.val (.int ((((pa0.toUInt32 >>> ((16 : Int32) &&& 31).toUInt32).toInt32).toUInt32 >>> ((4 : Int32) &&& 31).toUInt32).toInt32)), .val (.int (9 : Int32))] [(.int (2 : Int32)), (.int ((((pa0.toUInt32 >>> ((16 : Int32) &&& 31).toUInt32).toInt32).toUInt32 >>> ((4 : Int32) &&& 31).toUInt32).toInt32))])) (fun t k => XS.iconst X0.here hx rfl (hb hby d14_70) k) ?_
            refine Go.on (T' := s₁) (g' := (mkF m 72 #[.val (.int ((((pa0.toUInt32 >>> ((16 : Int32) &&& 31).toUInt32).toInt32).toUInt32 >>> ((4 : Int32) &&& 31).toUInt32).toInt32)), .val (.int (9 : Int32))] [(.int ((((((pa0.toUInt32 >>> ((16 : Int32) &&& 31).toUInt32).toInt32).toUInt32 >>> ((4 : Int32) &&& 31).toUInt32).toInt32).toUInt32 >>> ((2 : Int32) &&& 31).toUInt32).toInt32))])) (fun t k => XS.iushr X0.here hx rfl (hb hby d14_71) rfl k) ?_
            refine Go.on (T' := s₁) (g' := (mkF m 73 #[.val (.int ((((((pa0.toUInt32 >>> ((16 : Int32) &&& 31).toUInt32).toInt32).toUInt32 >>> ((4 : Int32) &&& 31).toUInt32).toInt32).toUInt32 >>> ((2 : Int32) &&& 31).toUInt32).toInt32)), .val (.int (9 : Int32))] [])) (fun t k => XS.istoreN X0.here hx rfl (hb hby d14_72) rfl (l' := #[.val (.int ((((((pa0.toUInt32 >>> ((16 : Int32) &&& 31).toUInt32).toInt32).toUInt32 >>> ((4 : Int32) &&& 31).toUInt32).toInt32).toUInt32 >>> ((2 : Int32) &&& 31).toUInt32).toInt32)), .val (.int (9 : Int32))]) rfl k) ?_
            refine Go.on (T' := s₁) (g' := (mkF m 74 #[.val (.int ((((((pa0.toUInt32 >>> ((16 : Int32) &&& 31).toUInt32).toInt32).toUInt32 >>> ((4 : Int32) &&& 31).toUInt32).toInt32).toUInt32 >>> ((2 : Int32) &&& 31).toUInt32).toInt32)), .val (.int (9 : Int32))] [(.int (9 : Int32))])) (fun t k => XS.iloadN X0.here hx rfl (hb hby d14_73) rfl k) ?_
            refine Go.on (T' := s₁) (g' := (mkF m 75 #[.val (.int ((((((pa0.toUInt32 >>> ((16 : Int32) &&& 31).toUInt32).toInt32).toUInt32 >>> ((4 : Int32) &&& 31).toUInt32).toInt32).toUInt32 >>> ((2 : Int32) &&& 31).toUInt32).toInt32)), .val (.int (9 : Int32))] [(.int ((((((pa0.toUInt32 >>> ((16 : Int32) &&& 31).toUInt32).toInt32).toUInt32 >>> ((4 : Int32) &&& 31).toUInt32).toInt32).toUInt32 >>> ((2 : Int32) &&& 31).toUInt32).toInt32)), (.int (9 : Int32))])) (fun t k => XS.iloadN X0.here hx rfl (hb hby d14_74) rfl k) ?_
            refine Go.on (T' := s₁) (g' := (mkF m 76 #[.val (.int ((((((pa0.toUInt32 >>> ((16 : Int32) &&& 31).toUInt32).toInt32).toUInt32 >>> ((4 : Int32) &&& 31).toUInt32).toInt32).toUInt32 >>> ((2 : Int32) &&& 31).toUInt32).toInt32)), .val (.int (9 : Int32))] [(.int (1 : Int32)), (.int ((((((pa0.toUInt32 >>> ((16 : Int32) &&& 31).toUInt32).toInt32).toUInt32 >>> ((4 : Int32) &&& 31).toUInt32).toInt32).toUInt32 >>> ((2 : Int32) &&& 31).toUInt32).toInt32)), (.int (9 : Int32))])) (fun t k => XS.iconst X0.here hx rfl (hb hby d14_75) k) ?_
            refine Go.on (T' := s₁) (g' := (mkF m 77 #[.val (.int ((((((pa0.toUInt32 >>> ((16 : Int32) &&& 31).toUInt32).toInt32).toUInt32 >>> ((4 : Int32) &&& 31).toUInt32).toInt32).toUInt32 >>> ((2 : Int32) &&& 31).toUInt32).toInt32)), .val (.int (9 : Int32))] [(.int ((((((((pa0.toUInt32 >>> ((16 : Int32) &&& 31).toUInt32).toInt32).toUInt32 >>> ((4 : Int32) &&& 31).toUInt32).toInt32).toUInt32 >>> ((2 : Int32) &&& 31).toUInt32).toInt32).toUInt32 >>> ((1 : Int32) &&& 31).toUInt32).toInt32)), (.int (9 : Int32))])) (fun t k => XS.iushr X0.here hx rfl (hb hby d14_76) rfl k) ?_
            refine Go.on (T' := s₁) (g' := (mkF m 78 #[.val (.int ((((((pa0.toUInt32 >>> ((16 : Int32) &&& 31).toUInt32).toInt32).toUInt32 >>> ((4 : Int32) &&& 31).toUInt32).toInt32).toUInt32 >>> ((2 : Int32) &&& 31).toUInt32).toInt32)), .val (.int (9 : Int32))] [(.int ((9 : Int32) - ((((((((pa0.toUInt32 >>> ((16 : Int32) &&& 31).toUInt32).toInt32).toUInt32 >>> ((4 : Int32) &&& 31).toUInt32).toInt32).toUInt32 >>> ((2 : Int32) &&& 31).toUInt32).toInt32).toUInt32 >>> ((1 : Int32) &&& 31).toUInt32).toInt32)))])) (fun t k => XS.isub X0.here hx rfl (hb hby d14_77) rfl k) ?_
            obtain ⟨fs, hr, hrun, hended, hW, hsame⟩ := X0.leave (v := some (.int ((9 : Int32) - ((((((((pa0.toUInt32 >>> ((16 : Int32) &&& 31).toUInt32).toInt32).toUInt32 >>> ((4 : Int32) &&& 31).toUInt32).toInt32).toUInt32 >>> ((2 : Int32) &&& 31).toUInt32).toInt32).toUInt32 >>> ((1 : Int32) &&& 31).toUInt32).toInt32)))) (fun h => by rw [Bd.returns] at h; cases h)
            exact ⟨_, _, retOut X0 hx Bd.returns rfl (Or.inl ⟨rfl, Or.inl rfl, _, rfl⟩) (hb hby d14_78) hr, hrun, hended, _, _, rfl, ⟨⟨(congrArg (fun z => some (Value.int z)) (own_nlzleaf (by simp only [own_nlz, own_n4, own_n3, own_n2, own_n1, own_sub, if_pos h87, if_neg h88, if_pos h96, if_neg h97, if_neg h99] <;> rfl))), e0⟩, N0⟩, ⟨_, rfl⟩, hW, hsame.mono (by decide) (by decide)⟩
      · skip
        refine Go.on (T' := s₁) (g' := (mkF m 40 #[.val (.int ((pa0.toUInt32 >>> ((16 : Int32) &&& 31).toUInt32).toInt32)), .val (.int (15 : Int32))] [])) (fun t k => XS.icmpNo X0.here hx rfl (hb hby d14_37) rfl (flt h96).1 k) ?_
        refine Go.on (T' := s₁) (g' := (mkF m 43 #[.val (.int ((pa0.toUInt32 >>> ((16 : Int32) &&& 31).toUInt32).toInt32)), .val (.int (7 : Int32))] [])) (fun t k => XS.iinc X0.here hx rfl (hb hby d14_40) rfl (l' := #[.val (.int ((pa0.toUInt32 >>> ((16 : Int32) &&& 31).toUInt32).toInt32)), .val (.int (7 : Int32))]) rfl k) ?_
        refine Go.on (T' := s₁) (g' := (mkF m 44 #[.val (.int ((pa0.toUInt32 >>> ((16 : Int32) &&& 31).toUInt32).toInt32)), .val (.int (7 : Int32))] [(.int ((pa0.toUInt32 >>> ((16 : Int32) &&& 31).toUInt32).toInt32))])) (fun t k => XS.iloadN X0.here hx rfl (hb hby d14_43) rfl k) ?_
        refine Go.on (T' := s₁) (g' := (mkF m 46 #[.val (.int ((pa0.toUInt32 >>> ((16 : Int32) &&& 31).toUInt32).toInt32)), .val (.int (7 : Int32))] [(.int (8 : Int32)), (.int ((pa0.toUInt32 >>> ((16 : Int32) &&& 31).toUInt32).toInt32))])) (fun t k => XS.bipush X0.here hx rfl (hb hby d14_44) k) ?_
        refine Go.on (T' := s₁) (g' := (mkF m 47 #[.val (.int ((pa0.toUInt32 >>> ((16 : Int32) &&& 31).toUInt32).toInt32)), .val (.int (7 : Int32))] [(.int ((((pa0.toUInt32 >>> ((16 : Int32) &&& 31).toUInt32).toInt32).toUInt32 >>> ((8 : Int32) &&& 31).toUInt32).toInt32))])) (fun t k => XS.iushr X0.here hx rfl (hb hby d14_46) rfl k) ?_
        refine Go.on (T' := s₁) (g' := (mkF m 48 #[.val (.int ((((pa0.toUInt32 >>> ((16 : Int32) &&& 31).toUInt32).toInt32).toUInt32 >>> ((8 : Int32) &&& 31).toUInt32).toInt32)), .val (.int (7 : Int32))] [])) (fun t k => XS.istoreN X0.here hx rfl (hb hby d14_47) rfl (l' := #[.val (.int ((((pa0.toUInt32 >>> ((16 : Int32) &&& 31).toUInt32).toInt32).toUInt32 >>> ((8 : Int32) &&& 31).toUInt32).toInt32)), .val (.int (7 : Int32))]) rfl k) ?_
        refine Go.on (T' := s₁) (g' := (mkF m 49 #[.val (.int ((((pa0.toUInt32 >>> ((16 : Int32) &&& 31).toUInt32).toInt32).toUInt32 >>> ((8 : Int32) &&& 31).toUInt32).toInt32)), .val (.int (7 : Int32))] [(.int ((((pa0.toUInt32 >>> ((16 : Int32) &&& 31).toUInt32).toInt32).toUInt32 >>> ((8 : Int32) &&& 31).toUInt32).toInt32))])) (fun t k => XS.iloadN X0.here hx rfl (hb hby d14_48) rfl k) ?_
        refine Go.on (T' := s₁) (g' := (mkF m 51 #[.val (.int ((((pa0.toUInt32 >>> ((16 : Int32) &&& 31).toUInt32).toInt32).toUInt32 >>> ((8 : Int32) &&& 31).toUInt32).toInt32)), .val (.int (7 : Int32))] [(.int (16 : Int32)), (.int ((((pa0.toUInt32 >>> ((16 : Int32) &&& 31).toUInt32).toInt32).toUInt32 >>> ((8 : Int32) &&& 31).toUInt32).toInt32))])) (fun t k => XS.bipush X0.here hx rfl (hb hby d14_49) k) ?_
        by_cases h100 : ((((pa0.toUInt32 >>> ((16 : Int32) &&& 31).toUInt32).toInt32).toUInt32 >>> ((8 : Int32) &&& 31).toUInt32).toInt32) < (16 : Int32)
        · skip
          refine Go.on (T' := s₁) (g' := (mkF m 61 #[.val (.int ((((pa0.toUInt32 >>> ((16 : Int32) &&& 31).toUInt32).toInt32).toUInt32 >>> ((8 : Int32) &&& 31).toUInt32).toInt32)), .val (.int (7 : Int32))] [])) (fun t k => XS.icmpYes X0.here hx rfl (pc0 := 51) (pc' := 61) rfl (hb hby d14_51) rfl (tlt h100).1 (by decide) (by decide) k) ?_
          refine Go.on (T' := s₁) (g' := (mkF m 62 #[.val (.int ((((pa0.toUInt32 >>> ((16 : Int32) &&& 31).toUInt32).toInt32).toUInt32 >>> ((8 : Int32) &&& 31).toUInt32).toInt32)), .val (.int (7 : Int32))] [(.int ((((pa0.toUInt32 >>> ((16 : Int32) &&& 31).toUInt32).toInt32).toUInt32 >>> ((8 : Int32) &&& 31).toUInt32).toInt32))])) (fun t k => XS.iloadN X0.here hx rfl (hb hby d14_61) rfl k) ?_
          refine Go.on (T' := s₁) (g' := (mkF m 63 #[.val (.int ((((pa0.toUInt32 >>> ((16 : Int32) &&& 31).toUInt32).toInt32).toUInt32 >>> ((8 : Int32) &&& 31).toUInt32).toInt32)), .val (.int (7 : Int32))] [(.int (4 : Int32)), (.int ((((pa0.toUInt32 >>> ((16 : Int32) &&& 31).toUInt32).toInt32).toUInt32 >>> ((8 : Int32) &&& 31).toUInt32).toInt32))])) (fun t k => XS.iconst X0.here hx rfl (hb hby d14_62) k) ?_
          by_cases h101 : ((((pa0.toUInt32 >>> ((16 : Int32) &&& 31).toUInt32).toInt32).toUInt32 >>> ((8 : Int32) &&& 31).toUInt32).toInt32) < (4 : Int32)
          · skip
            refine Go.on (T' := s₁) (g' := (mkF m 73 #[.val (.int ((((pa0.toUInt32 >>> ((16 : Int32) &&& 31).toUInt32).toInt32).toUInt32 >>> ((8 : Int32) &&& 31).toUInt32).toInt32)), .val (.int (7 : Int32))] [])) (fun t k => XS.icmpYes X0.here hx rfl (pc0 := 63) (pc' := 73) rfl (hb hby d14_63) rfl (tlt h101).1 (by decide) (by decide) k) ?_
            refine Go.on (T' := s₁) (g' := (mkF m 74 #[.val (.int ((((pa0.toUInt32 >>> ((16 : Int32) &&& 31).toUInt32).toInt32).toUInt32 >>> ((8 : Int32) &&& 31).toUInt32).toInt32)), .val (.int (7 : Int32))] [(.int (7 : Int32))])) (fun t k => XS.iloadN X0.here hx rfl (hb hby d14_73) rfl k) ?_
            refine Go.on (T' := s₁) (g' := (mkF m 75 #[.val (.int ((((pa0.toUInt32 >>> ((16 : Int32) &&& 31).toUInt32).toInt32).toUInt32 >>> ((8 : Int32) &&& 31).toUInt32).toInt32)), .val (.int (7 : Int32))] [(.int ((((pa0.toUInt32 >>> ((16 : Int32) &&& 31).toUInt32).toInt32).toUInt32 >>> ((8 : Int32) &&& 31).toUInt32).toInt32)), (.int (7 : Int32))])) (fun t k => XS.iloadN X0.here hx rfl (hb hby d14_74) rfl k) ?_
            refine Go.on (T' := s₁) (g' := (mkF m 76 #[.val (.int ((((pa0.toUInt32 >>> ((16 : Int32) &&& 31).toUInt32).toInt32).toUInt32 >>> ((8 : Int32) &&& 31).toUInt32).toInt32)), .val (.int (7 : Int32))] [(.int (1 : Int32)), (.int ((((pa0.toUInt32 >>> ((16 : Int32) &&& 31).toUInt32).toInt32).toUInt32 >>> ((8 : Int32) &&& 31).toUInt32).toInt32)), (.int (7 : Int32))])) (fun t k => XS.iconst X0.here hx rfl (hb hby d14_75) k) ?_
            refine Go.on (T' := s₁) (g' := (mkF m 77 #[.val (.int ((((pa0.toUInt32 >>> ((16 : Int32) &&& 31).toUInt32).toInt32).toUInt32 >>> ((8 : Int32) &&& 31).toUInt32).toInt32)), .val (.int (7 : Int32))] [(.int ((((((pa0.toUInt32 >>> ((16 : Int32) &&& 31).toUInt32).toInt32).toUInt32 >>> ((8 : Int32) &&& 31).toUInt32).toInt32).toUInt32 >>> ((1 : Int32) &&& 31).toUInt32).toInt32)), (.int (7 : Int32))])) (fun t k => XS.iushr X0.here hx rfl (hb hby d14_76) rfl k) ?_
            refine Go.on (T' := s₁) (g' := (mkF m 78 #[.val (.int ((((pa0.toUInt32 >>> ((16 : Int32) &&& 31).toUInt32).toInt32).toUInt32 >>> ((8 : Int32) &&& 31).toUInt32).toInt32)), .val (.int (7 : Int32))] [(.int ((7 : Int32) - ((((((pa0.toUInt32 >>> ((16 : Int32) &&& 31).toUInt32).toInt32).toUInt32 >>> ((8 : Int32) &&& 31).toUInt32).toInt32).toUInt32 >>> ((1 : Int32) &&& 31).toUInt32).toInt32)))])) (fun t k => XS.isub X0.here hx rfl (hb hby d14_77) rfl k) ?_
            obtain ⟨fs, hr, hrun, hended, hW, hsame⟩ := X0.leave (v := some (.int ((7 : Int32) - ((((((pa0.toUInt32 >>> ((16 : Int32) &&& 31).toUInt32).toInt32).toUInt32 >>> ((8 : Int32) &&& 31).toUInt32).toInt32).toUInt32 >>> ((1 : Int32) &&& 31).toUInt32).toInt32)))) (fun h => by rw [Bd.returns] at h; cases h)
            exact ⟨_, _, retOut X0 hx Bd.returns rfl (Or.inl ⟨rfl, Or.inl rfl, _, rfl⟩) (hb hby d14_78) hr, hrun, hended, _, _, rfl, ⟨⟨(congrArg (fun z => some (Value.int z)) (own_nlzleaf (by simp only [own_nlz, own_n4, own_n3, own_n2, own_n1, own_sub, if_pos h87, if_neg h88, if_neg h96, if_pos h100, if_pos h101] <;> rfl))), e0⟩, N0⟩, ⟨_, rfl⟩, hW, hsame.mono (by decide) (by decide)⟩
          · skip
            refine Go.on (T' := s₁) (g' := (mkF m 66 #[.val (.int ((((pa0.toUInt32 >>> ((16 : Int32) &&& 31).toUInt32).toInt32).toUInt32 >>> ((8 : Int32) &&& 31).toUInt32).toInt32)), .val (.int (7 : Int32))] [])) (fun t k => XS.icmpNo X0.here hx rfl (hb hby d14_63) rfl (flt h101).1 k) ?_
            refine Go.on (T' := s₁) (g' := (mkF m 69 #[.val (.int ((((pa0.toUInt32 >>> ((16 : Int32) &&& 31).toUInt32).toInt32).toUInt32 >>> ((8 : Int32) &&& 31).toUInt32).toInt32)), .val (.int (5 : Int32))] [])) (fun t k => XS.iinc X0.here hx rfl (hb hby d14_66) rfl (l' := #[.val (.int ((((pa0.toUInt32 >>> ((16 : Int32) &&& 31).toUInt32).toInt32).toUInt32 >>> ((8 : Int32) &&& 31).toUInt32).toInt32)), .val (.int (5 : Int32))]) rfl k) ?_
            refine Go.on (T' := s₁) (g' := (mkF m 70 #[.val (.int ((((pa0.toUInt32 >>> ((16 : Int32) &&& 31).toUInt32).toInt32).toUInt32 >>> ((8 : Int32) &&& 31).toUInt32).toInt32)), .val (.int (5 : Int32))] [(.int ((((pa0.toUInt32 >>> ((16 : Int32) &&& 31).toUInt32).toInt32).toUInt32 >>> ((8 : Int32) &&& 31).toUInt32).toInt32))])) (fun t k => XS.iloadN X0.here hx rfl (hb hby d14_69) rfl k) ?_
            refine Go.on (T' := s₁) (g' := (mkF m 71 #[.val (.int ((((pa0.toUInt32 >>> ((16 : Int32) &&& 31).toUInt32).toInt32).toUInt32 >>> ((8 : Int32) &&& 31).toUInt32).toInt32)), .val (.int (5 : Int32))] [(.int (2 : Int32)), (.int ((((pa0.toUInt32 >>> ((16 : Int32) &&& 31).toUInt32).toInt32).toUInt32 >>> ((8 : Int32) &&& 31).toUInt32).toInt32))])) (fun t k => XS.iconst X0.here hx rfl (hb hby d14_70) k) ?_
            refine Go.on (T' := s₁) (g' := (mkF m 72 #[.val (.int ((((pa0.toUInt32 >>> ((16 : Int32) &&& 31).toUInt32).toInt32).toUInt32 >>> ((8 : Int32) &&& 31).toUInt32).toInt32)), .val (.int (5 : Int32))] [(.int ((((((pa0.toUInt32 >>> ((16 : Int32) &&& 31).toUInt32).toInt32).toUInt32 >>> ((8 : Int32) &&& 31).toUInt32).toInt32).toUInt32 >>> ((2 : Int32) &&& 31).toUInt32).toInt32))])) (fun t k => XS.iushr X0.here hx rfl (hb hby d14_71) rfl k) ?_
            refine Go.on (T' := s₁) (g' := (mkF m 73 #[.val (.int ((((((pa0.toUInt32 >>> ((16 : Int32) &&& 31).toUInt32).toInt32).toUInt32 >>> ((8 : Int32) &&& 31).toUInt32).toInt32).toUInt32 >>> ((2 : Int32) &&& 31).toUInt32).toInt32)), .val (.int (5 : Int32))] [])) (fun t k => XS.istoreN X0.here hx rfl (hb hby d14_72) rfl (l' := #[.val (.int ((((((pa0.toUInt32 >>> ((16 : Int32) &&& 31).toUInt32).toInt32).toUInt32 >>> ((8 : Int32) &&& 31).toUInt32).toInt32).toUInt32 >>> ((2 : Int32) &&& 31).toUInt32).toInt32)), .val (.int (5 : Int32))]) rfl k) ?_
            refine Go.on (T' := s₁) (g' := (mkF m 74 #[.val (.int ((((((pa0.toUInt32 >>> ((16 : Int32) &&& 31).toUInt32).toInt32).toUInt32 >>> ((8 : Int32) &&& 31).toUInt32).toInt32).toUInt32 >>> ((2 : Int32) &&& 31).toUInt32).toInt32)), .val (.int (5 : Int32))] [(.int (5 : Int32))])) (fun t k => XS.iloadN X0.here hx rfl (hb hby d14_73) rfl k) ?_
            refine Go.on (T' := s₁) (g' := (mkF m 75 #[.val (.int ((((((pa0.toUInt32 >>> ((16 : Int32) &&& 31).toUInt32).toInt32).toUInt32 >>> ((8 : Int32) &&& 31).toUInt32).toInt32).toUInt32 >>> ((2 : Int32) &&& 31).toUInt32).toInt32)), .val (.int (5 : Int32))] [(.int ((((((pa0.toUInt32 >>> ((16 : Int32) &&& 31).toUInt32).toInt32).toUInt32 >>> ((8 : Int32) &&& 31).toUInt32).toInt32).toUInt32 >>> ((2 : Int32) &&& 31).toUInt32).toInt32)), (.int (5 : Int32))])) (fun t k => XS.iloadN X0.here hx rfl (hb hby d14_74) rfl k) ?_
            refine Go.on (T' := s₁) (g' := (mkF m 76 #[.val (.int ((((((pa0.toUInt32 >>> ((16 : Int32) &&& 31).toUInt32).toInt32).toUInt32 >>> ((8 : Int32) &&& 31).toUInt32).toInt32).toUInt32 >>> ((2 : Int32) &&& 31).toUInt32).toInt32)), .val (.int (5 : Int32))] [(.int (1 : Int32)), (.int ((((((pa0.toUInt32 >>> ((16 : Int32) &&& 31).toUInt32).toInt32).toUInt32 >>> ((8 : Int32) &&& 31).toUInt32).toInt32).toUInt32 >>> ((2 : Int32) &&& 31).toUInt32).toInt32)), (.int (5 : Int32))])) (fun t k => XS.iconst X0.here hx rfl (hb hby d14_75) k) ?_
            refine Go.on (T' := s₁) (g' := (mkF m 77 #[.val (.int ((((((pa0.toUInt32 >>> ((16 : Int32) &&& 31).toUInt32).toInt32).toUInt32 >>> ((8 : Int32) &&& 31).toUInt32).toInt32).toUInt32 >>> ((2 : Int32) &&& 31).toUInt32).toInt32)), .val (.int (5 : Int32))] [(.int ((((((((pa0.toUInt32 >>> ((16 : Int32) &&& 31).toUInt32).toInt32).toUInt32 >>> ((8 : Int32) &&& 31).toUInt32).toInt32).toUInt32 >>> ((2 : Int32) &&& 31).toUInt32).toInt32).toUInt32 >>> ((1 : Int32) &&& 31).toUInt32).toInt32)), (.int (5 : Int32))])) (fun t k => XS.iushr X0.here hx rfl (hb hby d14_76) rfl k) ?_
            refine Go.on (T' := s₁) (g' := (mkF m 78 #[.val (.int ((((((pa0.toUInt32 >>> ((16 : Int32) &&& 31).toUInt32).toInt32).toUInt32 >>> ((8 : Int32) &&& 31).toUInt32).toInt32).toUInt32 >>> ((2 : Int32) &&& 31).toUInt32).toInt32)), .val (.int (5 : Int32))] [(.int ((5 : Int32) - ((((((((pa0.toUInt32 >>> ((16 : Int32) &&& 31).toUInt32).toInt32).toUInt32 >>> ((8 : Int32) &&& 31).toUInt32).toInt32).toUInt32 >>> ((2 : Int32) &&& 31).toUInt32).toInt32).toUInt32 >>> ((1 : Int32) &&& 31).toUInt32).toInt32)))])) (fun t k => XS.isub X0.here hx rfl (hb hby d14_77) rfl k) ?_
            obtain ⟨fs, hr, hrun, hended, hW, hsame⟩ := X0.leave (v := some (.int ((5 : Int32) - ((((((((pa0.toUInt32 >>> ((16 : Int32) &&& 31).toUInt32).toInt32).toUInt32 >>> ((8 : Int32) &&& 31).toUInt32).toInt32).toUInt32 >>> ((2 : Int32) &&& 31).toUInt32).toInt32).toUInt32 >>> ((1 : Int32) &&& 31).toUInt32).toInt32)))) (fun h => by rw [Bd.returns] at h; cases h)
            exact ⟨_, _, retOut X0 hx Bd.returns rfl (Or.inl ⟨rfl, Or.inl rfl, _, rfl⟩) (hb hby d14_78) hr, hrun, hended, _, _, rfl, ⟨⟨(congrArg (fun z => some (Value.int z)) (own_nlzleaf (by simp only [own_nlz, own_n4, own_n3, own_n2, own_n1, own_sub, if_pos h87, if_neg h88, if_neg h96, if_pos h100, if_neg h101] <;> rfl))), e0⟩, N0⟩, ⟨_, rfl⟩, hW, hsame.mono (by decide) (by decide)⟩
        · skip
          refine Go.on (T' := s₁) (g' := (mkF m 54 #[.val (.int ((((pa0.toUInt32 >>> ((16 : Int32) &&& 31).toUInt32).toInt32).toUInt32 >>> ((8 : Int32) &&& 31).toUInt32).toInt32)), .val (.int (7 : Int32))] [])) (fun t k => XS.icmpNo X0.here hx rfl (hb hby d14_51) rfl (flt h100).1 k) ?_
          refine Go.on (T' := s₁) (g' := (mkF m 57 #[.val (.int ((((pa0.toUInt32 >>> ((16 : Int32) &&& 31).toUInt32).toInt32).toUInt32 >>> ((8 : Int32) &&& 31).toUInt32).toInt32)), .val (.int (3 : Int32))] [])) (fun t k => XS.iinc X0.here hx rfl (hb hby d14_54) rfl (l' := #[.val (.int ((((pa0.toUInt32 >>> ((16 : Int32) &&& 31).toUInt32).toInt32).toUInt32 >>> ((8 : Int32) &&& 31).toUInt32).toInt32)), .val (.int (3 : Int32))]) rfl k) ?_
          refine Go.on (T' := s₁) (g' := (mkF m 58 #[.val (.int ((((pa0.toUInt32 >>> ((16 : Int32) &&& 31).toUInt32).toInt32).toUInt32 >>> ((8 : Int32) &&& 31).toUInt32).toInt32)), .val (.int (3 : Int32))] [(.int ((((pa0.toUInt32 >>> ((16 : Int32) &&& 31).toUInt32).toInt32).toUInt32 >>> ((8 : Int32) &&& 31).toUInt32).toInt32))])) (fun t k => XS.iloadN X0.here hx rfl (hb hby d14_57) rfl k) ?_
          refine Go.on (T' := s₁) (g' := (mkF m 59 #[.val (.int ((((pa0.toUInt32 >>> ((16 : Int32) &&& 31).toUInt32).toInt32).toUInt32 >>> ((8 : Int32) &&& 31).toUInt32).toInt32)), .val (.int (3 : Int32))] [(.int (4 : Int32)), (.int ((((pa0.toUInt32 >>> ((16 : Int32) &&& 31).toUInt32).toInt32).toUInt32 >>> ((8 : Int32) &&& 31).toUInt32).toInt32))])) (fun t k => XS.iconst X0.here hx rfl (hb hby d14_58) k) ?_
          refine Go.on (T' := s₁) (g' := (mkF m 60 #[.val (.int ((((pa0.toUInt32 >>> ((16 : Int32) &&& 31).toUInt32).toInt32).toUInt32 >>> ((8 : Int32) &&& 31).toUInt32).toInt32)), .val (.int (3 : Int32))] [(.int ((((((pa0.toUInt32 >>> ((16 : Int32) &&& 31).toUInt32).toInt32).toUInt32 >>> ((8 : Int32) &&& 31).toUInt32).toInt32).toUInt32 >>> ((4 : Int32) &&& 31).toUInt32).toInt32))])) (fun t k => XS.iushr X0.here hx rfl (hb hby d14_59) rfl k) ?_
          refine Go.on (T' := s₁) (g' := (mkF m 61 #[.val (.int ((((((pa0.toUInt32 >>> ((16 : Int32) &&& 31).toUInt32).toInt32).toUInt32 >>> ((8 : Int32) &&& 31).toUInt32).toInt32).toUInt32 >>> ((4 : Int32) &&& 31).toUInt32).toInt32)), .val (.int (3 : Int32))] [])) (fun t k => XS.istoreN X0.here hx rfl (hb hby d14_60) rfl (l' := #[.val (.int ((((((pa0.toUInt32 >>> ((16 : Int32) &&& 31).toUInt32).toInt32).toUInt32 >>> ((8 : Int32) &&& 31).toUInt32).toInt32).toUInt32 >>> ((4 : Int32) &&& 31).toUInt32).toInt32)), .val (.int (3 : Int32))]) rfl k) ?_
          refine Go.on (T' := s₁) (g' := (mkF m 62 #[.val (.int ((((((pa0.toUInt32 >>> ((16 : Int32) &&& 31).toUInt32).toInt32).toUInt32 >>> ((8 : Int32) &&& 31).toUInt32).toInt32).toUInt32 >>> ((4 : Int32) &&& 31).toUInt32).toInt32)), .val (.int (3 : Int32))] [(.int ((((((pa0.toUInt32 >>> ((16 : Int32) &&& 31).toUInt32).toInt32).toUInt32 >>> ((8 : Int32) &&& 31).toUInt32).toInt32).toUInt32 >>> ((4 : Int32) &&& 31).toUInt32).toInt32))])) (fun t k => XS.iloadN X0.here hx rfl (hb hby d14_61) rfl k) ?_
          refine Go.on (T' := s₁) (g' := (mkF m 63 #[.val (.int ((((((pa0.toUInt32 >>> ((16 : Int32) &&& 31).toUInt32).toInt32).toUInt32 >>> ((8 : Int32) &&& 31).toUInt32).toInt32).toUInt32 >>> ((4 : Int32) &&& 31).toUInt32).toInt32)), .val (.int (3 : Int32))] [(.int (4 : Int32)), (.int ((((((pa0.toUInt32 >>> ((16 : Int32) &&& 31).toUInt32).toInt32).toUInt32 >>> ((8 : Int32) &&& 31).toUInt32).toInt32).toUInt32 >>> ((4 : Int32) &&& 31).toUInt32).toInt32))])) (fun t k => XS.iconst X0.here hx rfl (hb hby d14_62) k) ?_
          by_cases h102 : ((((((pa0.toUInt32 >>> ((16 : Int32) &&& 31).toUInt32).toInt32).toUInt32 >>> ((8 : Int32) &&& 31).toUInt32).toInt32).toUInt32 >>> ((4 : Int32) &&& 31).toUInt32).toInt32) < (4 : Int32)
          · skip
            refine Go.on (T' := s₁) (g' := (mkF m 73 #[.val (.int ((((((pa0.toUInt32 >>> ((16 : Int32) &&& 31).toUInt32).toInt32).toUInt32 >>> ((8 : Int32) &&& 31).toUInt32).toInt32).toUInt32 >>> ((4 : Int32) &&& 31).toUInt32).toInt32)), .val (.int (3 : Int32))] [])) (fun t k => XS.icmpYes X0.here hx rfl (pc0 := 63) (pc' := 73) rfl (hb hby d14_63) rfl (tlt h102).1 (by decide) (by decide) k) ?_
            refine Go.on (T' := s₁) (g' := (mkF m 74 #[.val (.int ((((((pa0.toUInt32 >>> ((16 : Int32) &&& 31).toUInt32).toInt32).toUInt32 >>> ((8 : Int32) &&& 31).toUInt32).toInt32).toUInt32 >>> ((4 : Int32) &&& 31).toUInt32).toInt32)), .val (.int (3 : Int32))] [(.int (3 : Int32))])) (fun t k => XS.iloadN X0.here hx rfl (hb hby d14_73) rfl k) ?_
            refine Go.on (T' := s₁) (g' := (mkF m 75 #[.val (.int ((((((pa0.toUInt32 >>> ((16 : Int32) &&& 31).toUInt32).toInt32).toUInt32 >>> ((8 : Int32) &&& 31).toUInt32).toInt32).toUInt32 >>> ((4 : Int32) &&& 31).toUInt32).toInt32)), .val (.int (3 : Int32))] [(.int ((((((pa0.toUInt32 >>> ((16 : Int32) &&& 31).toUInt32).toInt32).toUInt32 >>> ((8 : Int32) &&& 31).toUInt32).toInt32).toUInt32 >>> ((4 : Int32) &&& 31).toUInt32).toInt32)), (.int (3 : Int32))])) (fun t k => XS.iloadN X0.here hx rfl (hb hby d14_74) rfl k) ?_
            refine Go.on (T' := s₁) (g' := (mkF m 76 #[.val (.int ((((((pa0.toUInt32 >>> ((16 : Int32) &&& 31).toUInt32).toInt32).toUInt32 >>> ((8 : Int32) &&& 31).toUInt32).toInt32).toUInt32 >>> ((4 : Int32) &&& 31).toUInt32).toInt32)), .val (.int (3 : Int32))] [(.int (1 : Int32)), (.int ((((((pa0.toUInt32 >>> ((16 : Int32) &&& 31).toUInt32).toInt32).toUInt32 >>> ((8 : Int32) &&& 31).toUInt32).toInt32).toUInt32 >>> ((4 : Int32) &&& 31).toUInt32).toInt32)), (.int (3 : Int32))])) (fun t k => XS.iconst X0.here hx rfl (hb hby d14_75) k) ?_
            refine Go.on (T' := s₁) (g' := (mkF m 77 #[.val (.int ((((((pa0.toUInt32 >>> ((16 : Int32) &&& 31).toUInt32).toInt32).toUInt32 >>> ((8 : Int32) &&& 31).toUInt32).toInt32).toUInt32 >>> ((4 : Int32) &&& 31).toUInt32).toInt32)), .val (.int (3 : Int32))] [(.int ((((((((pa0.toUInt32 >>> ((16 : Int32) &&& 31).toUInt32).toInt32).toUInt32 >>> ((8 : Int32) &&& 31).toUInt32).toInt32).toUInt32 >>> ((4 : Int32) &&& 31).toUInt32).toInt32).toUInt32 >>> ((1 : Int32) &&& 31).toUInt32).toInt32)), (.int (3 : Int32))])) (fun t k => XS.iushr X0.here hx rfl (hb hby d14_76) rfl k) ?_
            refine Go.on (T' := s₁) (g' := (mkF m 78 #[.val (.int ((((((pa0.toUInt32 >>> ((16 : Int32) &&& 31).toUInt32).toInt32).toUInt32 >>> ((8 : Int32) &&& 31).toUInt32).toInt32).toUInt32 >>> ((4 : Int32) &&& 31).toUInt32).toInt32)), .val (.int (3 : Int32))] [(.int ((3 : Int32) - ((((((((pa0.toUInt32 >>> ((16 : Int32) &&& 31).toUInt32).toInt32).toUInt32 >>> ((8 : Int32) &&& 31).toUInt32).toInt32).toUInt32 >>> ((4 : Int32) &&& 31).toUInt32).toInt32).toUInt32 >>> ((1 : Int32) &&& 31).toUInt32).toInt32)))])) (fun t k => XS.isub X0.here hx rfl (hb hby d14_77) rfl k) ?_
            obtain ⟨fs, hr, hrun, hended, hW, hsame⟩ := X0.leave (v := some (.int ((3 : Int32) - ((((((((pa0.toUInt32 >>> ((16 : Int32) &&& 31).toUInt32).toInt32).toUInt32 >>> ((8 : Int32) &&& 31).toUInt32).toInt32).toUInt32 >>> ((4 : Int32) &&& 31).toUInt32).toInt32).toUInt32 >>> ((1 : Int32) &&& 31).toUInt32).toInt32)))) (fun h => by rw [Bd.returns] at h; cases h)
            exact ⟨_, _, retOut X0 hx Bd.returns rfl (Or.inl ⟨rfl, Or.inl rfl, _, rfl⟩) (hb hby d14_78) hr, hrun, hended, _, _, rfl, ⟨⟨(congrArg (fun z => some (Value.int z)) (own_nlzleaf (by simp only [own_nlz, own_n4, own_n3, own_n2, own_n1, own_sub, if_pos h87, if_neg h88, if_neg h96, if_neg h100, if_pos h102] <;> rfl))), e0⟩, N0⟩, ⟨_, rfl⟩, hW, hsame.mono (by decide) (by decide)⟩
          · skip
            refine Go.on (T' := s₁) (g' := (mkF m 66 #[.val (.int ((((((pa0.toUInt32 >>> ((16 : Int32) &&& 31).toUInt32).toInt32).toUInt32 >>> ((8 : Int32) &&& 31).toUInt32).toInt32).toUInt32 >>> ((4 : Int32) &&& 31).toUInt32).toInt32)), .val (.int (3 : Int32))] [])) (fun t k => XS.icmpNo X0.here hx rfl (hb hby d14_63) rfl (flt h102).1 k) ?_
            refine Go.on (T' := s₁) (g' := (mkF m 69 #[.val (.int ((((((pa0.toUInt32 >>> ((16 : Int32) &&& 31).toUInt32).toInt32).toUInt32 >>> ((8 : Int32) &&& 31).toUInt32).toInt32).toUInt32 >>> ((4 : Int32) &&& 31).toUInt32).toInt32)), .val (.int (1 : Int32))] [])) (fun t k => XS.iinc X0.here hx rfl (hb hby d14_66) rfl (l' := #[.val (.int ((((((pa0.toUInt32 >>> ((16 : Int32) &&& 31).toUInt32).toInt32).toUInt32 >>> ((8 : Int32) &&& 31).toUInt32).toInt32).toUInt32 >>> ((4 : Int32) &&& 31).toUInt32).toInt32)), .val (.int (1 : Int32))]) rfl k) ?_
            refine Go.on (T' := s₁) (g' := (mkF m 70 #[.val (.int ((((((pa0.toUInt32 >>> ((16 : Int32) &&& 31).toUInt32).toInt32).toUInt32 >>> ((8 : Int32) &&& 31).toUInt32).toInt32).toUInt32 >>> ((4 : Int32) &&& 31).toUInt32).toInt32)), .val (.int (1 : Int32))] [(.int ((((((pa0.toUInt32 >>> ((16 : Int32) &&& 31).toUInt32).toInt32).toUInt32 >>> ((8 : Int32) &&& 31).toUInt32).toInt32).toUInt32 >>> ((4 : Int32) &&& 31).toUInt32).toInt32))])) (fun t k => XS.iloadN X0.here hx rfl (hb hby d14_69) rfl k) ?_
            refine Go.on (T' := s₁) (g' := (mkF m 71 #[.val (.int ((((((pa0.toUInt32 >>> ((16 : Int32) &&& 31).toUInt32).toInt32).toUInt32 >>> ((8 : Int32) &&& 31).toUInt32).toInt32).toUInt32 >>> ((4 : Int32) &&& 31).toUInt32).toInt32)), .val (.int (1 : Int32))] [(.int (2 : Int32)), (.int ((((((pa0.toUInt32 >>> ((16 : Int32) &&& 31).toUInt32).toInt32).toUInt32 >>> ((8 : Int32) &&& 31).toUInt32).toInt32).toUInt32 >>> ((4 : Int32) &&& 31).toUInt32).toInt32))])) (fun t k => XS.iconst X0.here hx rfl (hb hby d14_70) k) ?_
            refine Go.on (T' := s₁) (g' := (mkF m 72 #[.val (.int ((((((pa0.toUInt32 >>> ((16 : Int32) &&& 31).toUInt32).toInt32).toUInt32 >>> ((8 : Int32) &&& 31).toUInt32).toInt32).toUInt32 >>> ((4 : Int32) &&& 31).toUInt32).toInt32)), .val (.int (1 : Int32))] [(.int ((((((((pa0.toUInt32 >>> ((16 : Int32) &&& 31).toUInt32).toInt32).toUInt32 >>> ((8 : Int32) &&& 31).toUInt32).toInt32).toUInt32 >>> ((4 : Int32) &&& 31).toUInt32).toInt32).toUInt32 >>> ((2 : Int32) &&& 31).toUInt32).toInt32))])) (fun t k => XS.iushr X0.here hx rfl (hb hby d14_71) rfl k) ?_
            refine Go.on (T' := s₁) (g' := (mkF m 73 #[.val (.int ((((((((pa0.toUInt32 >>> ((16 : Int32) &&& 31).toUInt32).toInt32).toUInt32 >>> ((8 : Int32) &&& 31).toUInt32).toInt32).toUInt32 >>> ((4 : Int32) &&& 31).toUInt32).toInt32).toUInt32 >>> ((2 : Int32) &&& 31).toUInt32).toInt32)), .val (.int (1 : Int32))] [])) (fun t k => XS.istoreN X0.here hx rfl (hb hby d14_72) rfl (l' := #[.val (.int ((((((((pa0.toUInt32 >>> ((16 : Int32) &&& 31).toUInt32).toInt32).toUInt32 >>> ((8 : Int32) &&& 31).toUInt32).toInt32).toUInt32 >>> ((4 : Int32) &&& 31).toUInt32).toInt32).toUInt32 >>> ((2 : Int32) &&& 31).toUInt32).toInt32)), .val (.int (1 : Int32))]) rfl k) ?_
            refine Go.on (T' := s₁) (g' := (mkF m 74 #[.val (.int ((((((((pa0.toUInt32 >>> ((16 : Int32) &&& 31).toUInt32).toInt32).toUInt32 >>> ((8 : Int32) &&& 31).toUInt32).toInt32).toUInt32 >>> ((4 : Int32) &&& 31).toUInt32).toInt32).toUInt32 >>> ((2 : Int32) &&& 31).toUInt32).toInt32)), .val (.int (1 : Int32))] [(.int (1 : Int32))])) (fun t k => XS.iloadN X0.here hx rfl (hb hby d14_73) rfl k) ?_
            refine Go.on (T' := s₁) (g' := (mkF m 75 #[.val (.int ((((((((pa0.toUInt32 >>> ((16 : Int32) &&& 31).toUInt32).toInt32).toUInt32 >>> ((8 : Int32) &&& 31).toUInt32).toInt32).toUInt32 >>> ((4 : Int32) &&& 31).toUInt32).toInt32).toUInt32 >>> ((2 : Int32) &&& 31).toUInt32).toInt32)), .val (.int (1 : Int32))] [(.int ((((((((pa0.toUInt32 >>> ((16 : Int32) &&& 31).toUInt32).toInt32).toUInt32 >>> ((8 : Int32) &&& 31).toUInt32).toInt32).toUInt32 >>> ((4 : Int32) &&& 31).toUInt32).toInt32).toUInt32 >>> ((2 : Int32) &&& 31).toUInt32).toInt32)), (.int (1 : Int32))])) (fun t k => XS.iloadN X0.here hx rfl (hb hby d14_74) rfl k) ?_
            refine Go.on (T' := s₁) (g' := (mkF m 76 #[.val (.int ((((((((pa0.toUInt32 >>> ((16 : Int32) &&& 31).toUInt32).toInt32).toUInt32 >>> ((8 : Int32) &&& 31).toUInt32).toInt32).toUInt32 >>> ((4 : Int32) &&& 31).toUInt32).toInt32).toUInt32 >>> ((2 : Int32) &&& 31).toUInt32).toInt32)), .val (.int (1 : Int32))] [(.int (1 : Int32)), (.int ((((((((pa0.toUInt32 >>> ((16 : Int32) &&& 31).toUInt32).toInt32).toUInt32 >>> ((8 : Int32) &&& 31).toUInt32).toInt32).toUInt32 >>> ((4 : Int32) &&& 31).toUInt32).toInt32).toUInt32 >>> ((2 : Int32) &&& 31).toUInt32).toInt32)), (.int (1 : Int32))])) (fun t k => XS.iconst X0.here hx rfl (hb hby d14_75) k) ?_
            refine Go.on (T' := s₁) (g' := (mkF m 77 #[.val (.int ((((((((pa0.toUInt32 >>> ((16 : Int32) &&& 31).toUInt32).toInt32).toUInt32 >>> ((8 : Int32) &&& 31).toUInt32).toInt32).toUInt32 >>> ((4 : Int32) &&& 31).toUInt32).toInt32).toUInt32 >>> ((2 : Int32) &&& 31).toUInt32).toInt32)), .val (.int (1 : Int32))] [(.int ((((((((((pa0.toUInt32 >>> ((16 : Int32) &&& 31).toUInt32).toInt32).toUInt32 >>> ((8 : Int32) &&& 31).toUInt32).toInt32).toUInt32 >>> ((4 : Int32) &&& 31).toUInt32).toInt32).toUInt32 >>> ((2 : Int32) &&& 31).toUInt32).toInt32).toUInt32 >>> ((1 : Int32) &&& 31).toUInt32).toInt32)), (.int (1 : Int32))])) (fun t k => XS.iushr X0.here hx rfl (hb hby d14_76) rfl k) ?_
            refine Go.on (T' := s₁) (g' := (mkF m 78 #[.val (.int ((((((((pa0.toUInt32 >>> ((16 : Int32) &&& 31).toUInt32).toInt32).toUInt32 >>> ((8 : Int32) &&& 31).toUInt32).toInt32).toUInt32 >>> ((4 : Int32) &&& 31).toUInt32).toInt32).toUInt32 >>> ((2 : Int32) &&& 31).toUInt32).toInt32)), .val (.int (1 : Int32))] [(.int ((1 : Int32) - ((((((((((pa0.toUInt32 >>> ((16 : Int32) &&& 31).toUInt32).toInt32).toUInt32 >>> ((8 : Int32) &&& 31).toUInt32).toInt32).toUInt32 >>> ((4 : Int32) &&& 31).toUInt32).toInt32).toUInt32 >>> ((2 : Int32) &&& 31).toUInt32).toInt32).toUInt32 >>> ((1 : Int32) &&& 31).toUInt32).toInt32)))])) (fun t k => XS.isub X0.here hx rfl (hb hby d14_77) rfl k) ?_
            obtain ⟨fs, hr, hrun, hended, hW, hsame⟩ := X0.leave (v := some (.int ((1 : Int32) - ((((((((((pa0.toUInt32 >>> ((16 : Int32) &&& 31).toUInt32).toInt32).toUInt32 >>> ((8 : Int32) &&& 31).toUInt32).toInt32).toUInt32 >>> ((4 : Int32) &&& 31).toUInt32).toInt32).toUInt32 >>> ((2 : Int32) &&& 31).toUInt32).toInt32).toUInt32 >>> ((1 : Int32) &&& 31).toUInt32).toInt32)))) (fun h => by rw [Bd.returns] at h; cases h)
            exact ⟨_, _, retOut X0 hx Bd.returns rfl (Or.inl ⟨rfl, Or.inl rfl, _, rfl⟩) (hb hby d14_78) hr, hrun, hended, _, _, rfl, ⟨⟨(congrArg (fun z => some (Value.int z)) (own_nlzleaf (by simp only [own_nlz, own_n4, own_n3, own_n2, own_n1, own_sub, if_pos h87, if_neg h88, if_neg h96, if_neg h100, if_neg h102] <;> rfl))), e0⟩, N0⟩, ⟨_, rfl⟩, hW, hsame.mono (by decide) (by decide)⟩
  · skip
    refine Go.on (T' := s₁) (g' := (mkF m 4 #[.val (.int pa0), .unset] [])) (fun t k => XS.ifNo X0.here hx rfl (hb hby d14_1) rfl ((if0 _ _).trans (flt h87).2.2.1) k) ?_
    refine Go.on (T' := s₁) (g' := (mkF m 5 #[.val (.int pa0), .unset] [(.int pa0)])) (fun t k => XS.iloadN X0.here hx rfl (hb hby d14_4) rfl k) ?_
    by_cases h103 : pa0 = (0 : Int32)
    · skip
      refine Go.on (T' := s₁) (g' := (mkF m 8 #[.val (.int pa0), .unset] [])) (fun t k => XS.ifNo X0.here hx rfl (hb hby d14_5) rfl ((if0 _ _).trans (teq h103).2) k) ?_
      refine Go.on (T' := s₁) (g' := (mkF m 10 #[.val (.int pa0), .unset] [(.int (32 : Int32))])) (fun t k => XS.bipush X0.here hx rfl (hb hby d14_8) k) ?_
      refine Go.on (T' := s₁) (g' := (mkF m 14 #[.val (.int pa0), .unset] [(.int (32 : Int32))])) (fun t k => XS.goto X0.here hx rfl (pc0 := 10) (pc' := 14) rfl (hb hby d14_10) (by decide) (by decide) k) ?_
      obtain ⟨fs, hr, hrun, hended, hW, hsame⟩ := X0.leave (v := some (.int (32 : Int32))) (fun h => by rw [Bd.returns] at h; cases h)
      exact ⟨_, _, retOut X0 hx Bd.returns rfl (Or.inl ⟨rfl, Or.inl rfl, _, rfl⟩) (hb hby d14_14) hr, hrun, hended, _, _, rfl, ⟨⟨(congrArg (fun z => some (Value.int z)) (own_nlzleaf (by simp only [own_nlz, own_n4, own_n3, own_n2, own_n1, own_sub, if_neg h87, if_pos h103] <;> rfl))), e0⟩, N0⟩, ⟨_, rfl⟩, hW, hsame.mono (by decide) (by decide)⟩
    · skip
      refine Go.on (T' := s₁) (g' := (mkF m 13 #[.val (.int pa0), .unset] [])) (fun t k => XS.ifYes X0.here hx rfl (pc0 := 5) (pc' := 13) rfl (hb hby d14_5) rfl ((if0 _ _).trans (feq h103).2) (by decide) (by decide) k) ?_
      refine Go.on (T' := s₁) (g' := (mkF m 14 #[.val (.int pa0), .unset] [(.int (0 : Int32))])) (fun t k => XS.iconst X0.here hx rfl (hb hby d14_13) k) ?_
      obtain ⟨fs, hr, hrun, hended, hW, hsame⟩ := X0.leave (v := some (.int (0 : Int32))) (fun h => by rw [Bd.returns] at h; cases h)
      exact ⟨_, _, retOut X0 hx Bd.returns rfl (Or.inl ⟨rfl, Or.inl rfl, _, rfl⟩) (hb hby d14_14) hr, hrun, hended, _, _, rfl, ⟨⟨(congrArg (fun z => some (Value.int z)) (own_nlzleaf (by simp only [own_nlz, own_n4, own_n3, own_n2, own_n1, own_sub, if_neg h87, if_neg h103] <;> rfl))), e0⟩, N0⟩, ⟨_, rfl⟩, hW, hsame.mono (by decide) (by decide)⟩
theorem pd_8 : parseMethodDescriptor "(I)I" = some ⟨[.int], some .int⟩ := by decide +kernel
theorem d13_17 : decode jdk_35_method_48_code 17 = .ok (.iadd, 1) := by decide +kernel
theorem d13_18 : decode jdk_35_method_48_code 18 = .ok (.goto 7, 3) := by decide +kernel
theorem d13_25 : decode jdk_35_method_48_code 25 = .ok (.ireturn, 1) := by decide +kernel
theorem pn_7 : plainName "java/lang/Long" = true := by first | (simp [plainName, overriddenIn]; done) | decide +kernel
set_option maxRecDepth 65536 in
set_option maxHeartbeats 40000000 in
theorem rm13_0 (l : Launch) (Z : State) (a0 : Array Value) (hw : ∀ d ∈ tables_1, d.before a0 Z = true) (ws : List Jvm.Cond) (w : Nat → Addr) (hB : Heap) (hP : Pins Z hB w) (h0 : Heap) (XB : Ext hB h0) (pa0 : Int64) (hp0 : (((pa0.toUInt64 >>> ((32 : Int32) &&& 0x3f).toInt64.toUInt64).toInt64).toInt32) = (0 : Int32)) :
    MetFree l (⟨"java/lang/Long", "numberOfLeadingZeros", "(J)I"⟩ : MethodName) (head1 (Jvm.Cond.code (⟨"java/lang/Long", "numberOfLeadingZeros", "(J)I"⟩ : MethodName) jdk_35_method_48_code 3 (some .int) :: ws) ({ frames := 1, cells := 0, slots := 0, locals := 14 } : Room)) (fun a U => a = #[(.long pa0)] ∧ Z.Warmed39 U.vm ∧ U.heap = h0) (fun _ _ _ _ _ => True) (fun _ U o U' => ∃ v L, o = .returned v ∧ Qg (fun v h => v = (some (.int ((32 : Int32) + (own_nlz (pa0.toInt32))))) ∧ h = h0) hB.size v U'.heap L ∧ FrameEnd U o U' L ({ frames := 1, cells := 0, slots := 0, locals := 14 } : Room).cells ({ frames := 1, cells := 0, slots := 0, locals := 14 } : Room).slots) := by
  refine MetFree.of_bodySF (plainFor_of_name pn_7) hisR ?_
  intro p e s m args below meth c s₁ Bd hml0 hP0 hK
  obtain ⟨rfl, hZ, hh⟩ := hP0
  have hx := Bd.exec
  have hby := Bd.bytes
  have hml : c.maxLocals = 3 := hml0
  have hown : s.vm.findClass "java/lang/Long" = some m.cls := findClass_of_methodNamed Bd.named
  have hnm := (name_of_methodNamed Bd.named Bd.method).1
  have X0 : Stand p l e ({ frames := 1, cells := 0, slots := 0, locals := 14 } : Room) s m #[(.long pa0)] below meth c s₁ [] 0 0 := Stand.of_body Bd
  have e0 : s₁.heap = h0 := by rw [← hh, Bd.state]; rfl
  have N0 := Fr.nil hB.size
  suffices hgo : Go p e below (fun o U' => ∃ v L, o = .returned v ∧ Qg (fun v h => v = (some (.int ((32 : Int32) + (own_nlz (pa0.toInt32))))) ∧ h = h0) hB.size v U'.heap L ∧ FrameEnd s o U' L ({ frames := 1, cells := 0, slots := 0, locals := 14 } : Room).cells ({ frames := 1, cells := 0, slots := 0, locals := 14 } : Room).slots) s₁ (mkF m 0 #[.val (.long pa0), .second, .unset] []) by
    obtain ⟨s2, o, g1, g2, g3, g4⟩ := hgo
    refine ⟨s2, o, castTop (?_ : entryFrame m #[(.long pa0)] 3 = _) g1, g2, g3, g4⟩
    first | (simp [entryFrame, mkF, argsToLocals, Value.category]; done) | rfl
  refine Go.on (T' := s₁) (g' := (mkF m 1 #[.val (.long pa0), .second, .unset] [(.long pa0)])) (fun t k => XS.lloadN X0.here hx rfl (hb hby d13_0) rfl k) ?_
  refine Go.on (T' := s₁) (g' := (mkF m 3 #[.val (.long pa0), .second, .unset] [(.int (32 : Int32)), (.long pa0)])) (fun t k => XS.bipush X0.here hx rfl (hb hby d13_1) k) ?_
  refine Go.on (T' := s₁) (g' := (mkF m 4 #[.val (.long pa0), .second, .unset] [(.long ((pa0.toUInt64 >>> ((32 : Int32) &&& 0x3f).toInt64.toUInt64).toInt64))])) (fun t k => XS.lushr X0.here hx rfl (hb hby d13_3) rfl k) ?_
  refine Go.on (T' := s₁) (g' := (mkF m 5 #[.val (.long pa0), .second, .unset] [(.int (((pa0.toUInt64 >>> ((32 : Int32) &&& 0x3f).toInt64.toUInt64).toInt64).toInt32))])) (fun t k => XS.l2i X0.here hx rfl (hb hby d13_4) rfl k) ?_
  refine Go.on (T' := s₁) (g' := (mkF m 6 #[.val (.long pa0), .second, .val (.int (((pa0.toUInt64 >>> ((32 : Int32) &&& 0x3f).toInt64.toUInt64).toInt64).toInt32))] [])) (fun t k => XS.istoreN X0.here hx rfl (hb hby d13_5) rfl (l' := #[.val (.long pa0), .second, .val (.int (((pa0.toUInt64 >>> ((32 : Int32) &&& 0x3f).toInt64.toUInt64).toInt64).toInt32))]) rfl k) ?_
  refine Go.on (T' := s₁) (g' := (mkF m 7 #[.val (.long pa0), .second, .val (.int (((pa0.toUInt64 >>> ((32 : Int32) &&& 0x3f).toInt64.toUInt64).toInt64).toInt32))] [(.int (((pa0.toUInt64 >>> ((32 : Int32) &&& 0x3f).toInt64.toUInt64).toInt64).toInt32))])) (fun t k => XS.iloadN X0.here hx rfl (hb hby d13_6) rfl k) ?_
  refine Go.on (T' := s₁) (g' := (mkF m 10 #[.val (.long pa0), .second, .val (.int (((pa0.toUInt64 >>> ((32 : Int32) &&& 0x3f).toInt64.toUInt64).toInt64).toInt32))] [])) (fun t k => XS.ifNo X0.here hx rfl (hb hby d13_7) rfl ((if0 _ _).trans (teq hp0).2) k) ?_
  refine Go.on (T' := s₁) (g' := (mkF m 12 #[.val (.long pa0), .second, .val (.int (((pa0.toUInt64 >>> ((32 : Int32) &&& 0x3f).toInt64.toUInt64).toInt64).toInt32))] [(.int (32 : Int32))])) (fun t k => XS.bipush X0.here hx rfl (hb hby d13_10) k) ?_
  refine Go.on (T' := s₁) (g' := (mkF m 13 #[.val (.long pa0), .second, .val (.int (((pa0.toUInt64 >>> ((32 : Int32) &&& 0x3f).toInt64.toUInt64).toInt64).toInt32))] [(.long pa0), (.int (32 : Int32))])) (fun t k => XS.lloadN X0.here hx rfl (hb hby d13_12) rfl k) ?_
  refine Go.on (T' := s₁) (g' := (mkF m 14 #[.val (.long pa0), .second, .val (.int (((pa0.toUInt64 >>> ((32 : Int32) &&& 0x3f).toInt64.toUInt64).toInt64).toInt32))] [(.int (pa0.toInt32)), (.int (32 : Int32))])) (fun t k => XS.l2i X0.here hx rfl (hb hby d13_13) rfl k) ?_
  obtain ⟨_, _, ⟨T104, L104, k104, n104⟩, -, X104, ⟨Lc104, hQ104, l104, y104, z104⟩, st104⟩ := Jvm.LawKit.callS X0 hx (y := (⟨"java/lang/Integer", "numberOfLeadingZeros", "(I)I"⟩ : MethodName)) hown (mvT hZ (hw _ (List.mem_of_getElem? (i := 78) rfl))) (mvT hZ (hw _ (List.mem_of_getElem? (i := 79) rfl))) (mvT hZ (hw _ (List.mem_of_getElem? (i := 80) rfl))) (mvT hZ (hw _ (List.mem_of_getElem? (i := 81) rfl))) (by decide) (backOf (W := 1) (rm14_0 l Z a0 hw [] w hB hP h0 XB (pa0.toInt32)) hZ (hw _ (List.mem_of_getElem? (i := 81) rfl)) (hw _ (List.mem_of_getElem? (i := 80) rfl)) (by decide) (by decide)) (g := (mkF m 14 #[.val (.long pa0), .second, .val (.int (((pa0.toUInt64 >>> ((32 : Int32) &&& 0x3f).toInt64.toUInt64).toInt64).toInt32))] [(.int (pa0.toInt32)), (.int (32 : Int32))])) rfl (by rw [hml]; rfl) (argsL := [(.int (pa0.toInt32))]) (rest := [(.int (32 : Int32))]) (lenOf pd_8 rfl) rfl (by show 2 * 0 + _ ≤ _; exact Nat.le_of_eq rfl) (hb hby d13_14) (fun _ _ => ⟨rfl, e0, (by decide : 0 + 0 ≤ _), (by decide : 0 + 0 ≤ _)⟩)
  dsimp only [Pt.U, Pt.locs, Pt.cells, Pt.slots] at X104 l104 y104 z104 st104 hQ104
  subst l104 y104 z104
  obtain ⟨⟨rfl, e104⟩, N104q⟩ := hQ104
  have N104 := Fr.app N0 N104q
  refine Go.on (T' := T104) (g' := (mkF m 17 #[.val (.long pa0), .second, .val (.int (((pa0.toUInt64 >>> ((32 : Int32) &&& 0x3f).toInt64.toUInt64).toInt64).toInt32))] [(.int (own_nlz (pa0.toInt32))), (.int (32 : Int32))])) st104 ?_
  refine Go.on (T' := T104) (g' := (mkF m 18 #[.val (.long pa0), .second, .val (.int (((pa0.toUInt64 >>> ((32 : Int32) &&& 0x3f).toInt64.toUInt64).toInt64).toInt32))] [(.int ((32 : Int32) + (own_nlz (pa0.toInt32))))])) (fun t k => XS.iadd X104.here hx rfl (hb hby d13_17) rfl k) ?_
  refine Go.on (T' := T104) (g' := (mkF m 25 #[.val (.long pa0), .second, .val (.int (((pa0.toUInt64 >>> ((32 : Int32) &&& 0x3f).toInt64.toUInt64).toInt64).toInt32))] [(.int ((32 : Int32) + (own_nlz (pa0.toInt32))))])) (fun t k => XS.goto X104.here hx rfl (pc0 := 18) (pc' := 25) rfl (hb hby d13_18) (by decide) (by decide) k) ?_
  obtain ⟨fs, hr, hrun, hended, hW, hsame⟩ := X104.leave (v := some (.int ((32 : Int32) + (own_nlz (pa0.toInt32))))) (fun h => by rw [Bd.returns] at h; cases h)
  exact ⟨_, _, retOut X104 hx Bd.returns rfl (Or.inl ⟨rfl, Or.inl rfl, _, rfl⟩) (hb hby d13_25) hr, hrun, hended, _, _, rfl, ⟨⟨rfl, e104⟩, N104⟩, ⟨_, rfl⟩, hW, hsame.mono (by decide) (by decide)⟩
theorem pd_9 : parseMethodDescriptor "(J)I" = some ⟨[.long], some .int⟩ := by decide +kernel
theorem d11_19 : decode prog_74_method_4_code 19 = .ok (.isub, 1) := by decide +kernel
theorem d11_20 : decode prog_74_method_4_code 20 = .ok (.ireturn, 1) := by decide +kernel
theorem pn_8 : plainName "com/example/realizer/realizer/spectra/Variable" = true := by first | (simp [plainName, overriddenIn]; done) | decide +kernel
set_option maxRecDepth 65536 in
set_option maxHeartbeats 40000000 in
theorem rm11_0 (l : Launch) (Z : State) (a0 : Array Value) (hw : ∀ d ∈ tables_1, d.before a0 Z = true) (ws : List Jvm.Cond) (w : Nat → Addr) (hB : Heap) (hP : Pins Z hB w) (h0 : Heap) (XB : Ext hB h0) (o0 : Addr) (fo0_from : Int32) (fo0_to : Int32) (E_o0 : Exa Z h0 o0 "com/example/realizer/realizer/spectra/Domain") (F_o0_from : Fld Z h0 o0 "com/example/realizer/realizer/spectra/Domain" "from" "I" (.int fo0_from)) (F_o0_to : Fld Z h0 o0 "com/example/realizer/realizer/spectra/Domain" "to" "I" (.int fo0_to)) (F_o0_literals : Fld Z h0 o0 "com/example/realizer/realizer/spectra/Domain" "literals" "Ljava/util/List;" (.ref (w 1))) (g_o0 : hB.size ≤ o0) (hp0 : (((((((fo0_to.toInt64) - (fo0_from.toInt64)) + (1 : Int64)) - (1 : Int64)).toUInt64 >>> ((32 : Int32) &&& 0x3f).toInt64.toUInt64).toInt64).toInt32) = (0 : Int32)) :
    MetFree l (⟨"com/example/realizer/realizer/spectra/Variable", "bits", "(Lcom/example/realizer/realizer/spectra/Domain;)I"⟩ : MethodName) (head1 (Jvm.Cond.code (⟨"com/example/realizer/realizer/spectra/Variable", "bits", "(Lcom/example/realizer/realizer/spectra/Domain;)I"⟩ : MethodName) prog_74_method_4_code 1 (some .int) :: ws) ({ frames := 2, cells := 0, slots := 0, locals := 29 } : Room)) (fun a U => a = #[(.ref o0)] ∧ Z.Warmed39 U.vm ∧ U.heap = h0) (fun _ _ _ _ _ => True) (fun _ U o U' => ∃ v L, o = .returned v ∧ Qg (fun v h => v = (some (.int ((64 : Int32) - ((32 : Int32) + (own_nlz (((((fo0_to.toInt64) - (fo0_from.toInt64)) + (1 : Int64)) - (1 : Int64)).toInt32)))))) ∧ h = h0) hB.size v U'.heap L ∧ FrameEnd U o U' L ({ frames := 2, cells := 0, slots := 0, locals := 29 } : Room).cells ({ frames := 2, cells := 0, slots := 0, locals := 29 } : Room).slots) := by
  refine MetFree.of_bodySF (plainFor_of_name pn_8) hisR ?_
  intro p e s m args below meth c s₁ Bd hml0 hP0 hK
  obtain ⟨rfl, hZ, hh⟩ := hP0
  have hx := Bd.exec
  have hby := Bd.bytes
  have hml : c.maxLocals = 1 := hml0
  have hown : s.vm.findClass "com/example/realizer/realizer/spectra/Variable" = some m.cls := findClass_of_methodNamed Bd.named
  have hnm := (name_of_methodNamed Bd.named Bd.method).1
  have X0 : Stand p l e ({ frames := 2, cells := 0, slots := 0, locals := 29 } : Room) s m #[(.ref o0)] below meth c s₁ [] 0 0 := Stand.of_body Bd
  have e0 : s₁.heap = h0 := by rw [← hh, Bd.state]; rfl
  have N0 := Fr.nil hB.size
  suffices hgo : Go p e below (fun o U' => ∃ v L, o = .returned v ∧ Qg (fun v h => v = (some (.int ((64 : Int32) - ((32 : Int32) + (own_nlz (((((fo0_to.toInt64) - (fo0_from.toInt64)) + (1 : Int64)) - (1 : Int64)).toInt32)))))) ∧ h = h0) hB.size v U'.heap L ∧ FrameEnd s o U' L ({ frames := 2, cells := 0, slots := 0, locals := 29 } : Room).cells ({ frames := 2, cells := 0, slots := 0, locals := 29 } : Room).slots) s₁ (mkF m 0 #[.val (.ref o0)] []) by
    obtain ⟨s2, o, g1, g2, g3, g4⟩ := hgo
    refine ⟨s2, o, castTop (?_ : entryFrame m #[(.ref o0)] 1 = _) g1, g2, g3, g4⟩
    first | (simp [entryFrame, mkF, argsToLocals, Value.category]; done) | rfl
  refine Go.on (T' := s₁) (g' := (mkF m 1 #[.val (.ref o0)] [(.ref o0)])) (fun t k => XS.aloadN X0.here hx rfl (hb hby d11_0) rfl rfl k) ?_
  refine Go.on (T' := s₁) (g' := (mkF m 8 #[.val (.ref o0)] [])) (fun t k => XS.ifnonnullYes X0.here hx rfl (pc0 := 1) (pc' := 8) rfl (hb hby d11_1) rfl (by decide) (by decide) k) ?_
  refine Go.on (T' := s₁) (g' := (mkF m 10 #[.val (.ref o0)] [(.int (64 : Int32))])) (fun t k => XS.bipush X0.here hx rfl (hb hby d11_8) k) ?_
  refine Go.on (T' := s₁) (g' := (mkF m 11 #[.val (.ref o0)] [(.ref o0), (.int (64 : Int32))])) (fun t k => XS.aloadN X0.here hx rfl (hb hby d11_10) rfl rfl k) ?_
  obtain ⟨cq86, kq86, q86a, q86b, q86c⟩ := isOf hZ e0 E_o0
  obtain ⟨_, _, ⟨T86, L86, k86, n86⟩, -, X86, ⟨Lc86, hQ86, l86, y86, z86⟩, st86⟩ := X0.virtualBack hx (y := (⟨"com/example/realizer/realizer/spectra/Domain", "size", "()J"⟩ : MethodName)) (z := (⟨"com/example/realizer/realizer/spectra/Domain", "size", "()J"⟩ : MethodName)) hown (mvT hZ (hw _ (List.mem_of_getElem? (i := 69) rfl))) (mvT hZ (hw _ (List.mem_of_getElem? (i := 70) rfl))) (notFace_of_selects (args := #[]) (mvT hZ (hw _ (List.mem_of_getElem? (i := 72) rfl)))) (mvT hZ (hw _ (List.mem_of_getElem? (i := 72) rfl))) (mvT hZ (hw _ (List.mem_of_getElem? (i := 71) rfl))) (by decide) (backOf (W := 1) (rm12_0 l Z a0 hw [] w hB hP h0 XB o0 fo0_from fo0_to E_o0 F_o0_from F_o0_to F_o0_literals g_o0) hZ (hw _ (List.mem_of_getElem? (i := 73) rfl)) (hw _ (List.mem_of_getElem? (i := 9) rfl)) (by decide) (by decide)) q86a q86c (g := (mkF m 11 #[.val (.ref o0)] [(.ref o0), (.int (64 : Int32))])) rfl (by rw [hml]; rfl) (Steps.refl _) (argsL := []) (rest := [(.int (64 : Int32))]) (lenOf pd_7 rfl) rfl (by show 2 * 0 + _ ≤ _; exact Nat.le_of_eq rfl) (hb hby d11_11) (fun _ _ => ⟨rfl, e0, (by decide : 0 + 0 ≤ _), (by decide : 0 + 0 ≤ _)⟩)
  dsimp only [Pt.U, Pt.locs, Pt.cells, Pt.slots] at X86 l86 y86 z86 st86 hQ86
  subst l86 y86 z86
  obtain ⟨⟨rfl, e86⟩, N86q⟩ := hQ86
  have N86 := Fr.app N0 N86q
  refine Go.on (T' := T86) (g' := (mkF m 14 #[.val (.ref o0)] [(.long (((fo0_to.toInt64) - (fo0_from.toInt64)) + (1 : Int64))), (.int (64 : Int32))])) (fun t k => st86.trans k) ?_
  refine Go.on (T' := T86) (g' := (mkF m 15 #[.val (.ref o0)] [(.long (1 : Int64)), (.long (((fo0_to.toInt64) - (fo0_from.toInt64)) + (1 : Int64))), (.int (64 : Int32))])) (fun t k => XS.lconst X86.here hx rfl (hb hby d11_14) k) ?_
  refine Go.on (T' := T86) (g' := (mkF m 16 #[.val (.ref o0)] [(.long ((((fo0_to.toInt64) - (fo0_from.toInt64)) + (1 : Int64)) - (1 : Int64))), (.int (64 : Int32))])) (fun t k => XS.lsub X86.here hx rfl (hb hby d11_15) rfl k) ?_
  obtain ⟨_, _, ⟨T105, L105, k105, n105⟩, -, X105, ⟨Lc105, hQ105, l105, y105, z105⟩, st105⟩ := Jvm.LawKit.callS X86 hx (y := (⟨"java/lang/Long", "numberOfLeadingZeros", "(J)I"⟩ : MethodName)) hown (mvT hZ (hw _ (List.mem_of_getElem? (i := 74) rfl))) (mvT hZ (hw _ (List.mem_of_getElem? (i := 75) rfl))) (mvT hZ (hw _ (List.mem_of_getElem? (i := 76) rfl))) (mvT hZ (hw _ (List.mem_of_getElem? (i := 77) rfl))) (by decide) (backOf (W := 1) (rm13_0 l Z a0 hw [] w hB hP h0 XB ((((fo0_to.toInt64) - (fo0_from.toInt64)) + (1 : Int64)) - (1 : Int64)) hp0) hZ (hw _ (List.mem_of_getElem? (i := 77) rfl)) (hw _ (List.mem_of_getElem? (i := 76) rfl)) (by decide) (by decide)) (g := (mkF m 16 #[.val (.ref o0)] [(.long ((((fo0_to.toInt64) - (fo0_from.toInt64)) + (1 : Int64)) - (1 : Int64))), (.int (64 : Int32))])) rfl (by rw [hml]; rfl) (argsL := [(.long ((((fo0_to.toInt64) - (fo0_from.toInt64)) + (1 : Int64)) - (1 : Int64)))]) (rest := [(.int (64 : Int32))]) (lenOf pd_9 rfl) rfl (by show 2 * 0 + _ ≤ _; exact Nat.le_of_eq rfl) (hb hby d11_16) (fun _ _ => ⟨rfl, e86, (by decide : 0 + 0 ≤ _), (by decide : 0 + 0 ≤ _)⟩)
  dsimp only [Pt.U, Pt.locs, Pt.cells, Pt.slots] at X105 l105 y105 z105 st105 hQ105
  subst l105 y105 z105
  obtain ⟨⟨rfl, e105⟩, N105q⟩ := hQ105
  have N105 := Fr.app N86 N105q
  refine Go.on (T' := T105) (g' := (mkF m 19 #[.val (.ref o0)] [(.int ((32 : Int32) + (own_nlz (((((fo0_to.toInt64) - (fo0_from.toInt64)) + (1 : Int64)) - (1 : Int64)).toInt32)))), (.int (64 : Int32))])) st105 ?_
  refine Go.on (T' := T105) (g' := (mkF m 20 #[.val (.ref o0)] [(.int ((64 : Int32) - ((32 : Int32) + (own_nlz (((((fo0_to.toInt64) - (fo0_from.toInt64)) + (1 : Int64)) - (1 : Int64)).toInt32)))))])) (fun t k => XS.isub X105.here hx rfl (hb hby d11_19) rfl k) ?_
  obtain ⟨fs, hr, hrun, hended, hW, hsame⟩ := X105.leave (v := some (.int ((64 : Int32) - ((32 : Int32) + (own_nlz (((((fo0_to.toInt64) - (fo0_from.toInt64)) + (1 : Int64)) - (1 : Int64)).toInt32)))))) (fun h => by rw [Bd.returns] at h; cases h)
  exact ⟨_, _, retOut X105 hx Bd.returns rfl (Or.inl ⟨rfl, Or.inl rfl, _, rfl⟩) (hb hby d11_20) hr, hrun, hended, _, _, rfl, ⟨⟨rfl, e105⟩, N105⟩, ⟨_, rfl⟩, hW, hsame.mono (by decide) (by decide)⟩
theorem pd_10 : parseMethodDescriptor "(Lcom/example/realizer/realizer/spectra/Domain;)I" = some ⟨[(.object "com/example/realizer/realizer/spectra/Domain")], some .int⟩ := by decide +kernel
theorem d9_7 : decode jdk_56_method_3_code 7 = .ok (.aload_n 0, 1) := by decide +kernel
theorem d9_8 : decode jdk_56_method_3_code 8 = .ok (.instanceof 12, 3) := by decide +kernel
theorem d9_11 : decode jdk_56_method_3_code 11 = .ok (.ifCond .eq 20, 3) := by decide +kernel
theorem d9_14 : decode jdk_56_method_3_code 14 = .ok (.aload_n 0, 1) := by decide +kernel
theorem d9_15 : decode jdk_56_method_3_code 15 = .ok (.checkcast 12, 3) := by decide +kernel
theorem d9_18 : decode jdk_56_method_3_code 18 = .ok (.astore_n 1, 1) := by decide +kernel
theorem d9_19 : decode jdk_56_method_3_code 19 = .ok (.aload_n 1, 1) := by decide +kernel
theorem d9_20 : decode jdk_56_method_3_code 20 = .ok (.getfield 14, 3) := by decide +kernel
theorem d9_23 : decode jdk_56_method_3_code 23 = .ok (.ifCond .ne 8, 3) := by decide +kernel
set_option maxRecDepth 65536 in
set_option maxHeartbeats 40000000 in
theorem rm9_1 (l : Launch) (Z : State) (a0 : Array Value) (hw : ∀ d ∈ tables_1, d.before a0 Z = true) (ws : List Jvm.Cond) (w : Nat → Addr) (hB : Heap) (hP : Pins Z hB w) (h0 : Heap) (XB : Ext hB h0) (hp0 : ¬ (own_as Z "java/util/ImmutableCollections$ListN" "java/util/ImmutableCollections$List12")) :
    MetFree l (⟨"java/util/ImmutableCollections", "listCopy", "(Ljava/util/Collection;)Ljava/util/List;"⟩ : MethodName) (head1 (Jvm.Cond.code (⟨"java/util/ImmutableCollections", "listCopy", "(Ljava/util/Collection;)Ljava/util/List;"⟩ : MethodName) jdk_56_method_3_code 2 (some (.object "java/util/List")) :: ws) ({ frames := 0, cells := 0, slots := 0, locals := 0 } : Room)) (fun a U => a = #[(.ref (w 1))] ∧ Z.Warmed39 U.vm ∧ U.heap = h0) (fun _ _ _ _ _ => True) (fun _ U o U' => ∃ v L, o = .returned v ∧ Qg (fun v h => v = (some (.ref (w 1))) ∧ h = h0) hB.size v U'.heap L ∧ FrameEnd U o U' L ({ frames := 0, cells := 0, slots := 0, locals := 0 } : Room).cells ({ frames := 0, cells := 0, slots := 0, locals := 0 } : Room).slots) := by
  refine MetFree.of_bodySF (plainFor_of_name pn_3) hisR ?_
  intro p e s m args below meth c s₁ Bd hml0 hP0 hK
  obtain ⟨rfl, hZ, hh⟩ := hP0
  have hx := Bd.exec
  have hby := Bd.bytes
  have hml : c.maxLocals = 2 := hml0
  have hown : s.vm.findClass "java/util/ImmutableCollections" = some m.cls := findClass_of_methodNamed Bd.named
  have hnm := (name_of_methodNamed Bd.named Bd.method).1
  have X0 : Stand p l e ({ frames := 0, cells := 0, slots := 0, locals := 0 } : Room) s m #[(.ref (w 1))] below meth c s₁ [] 0 0 := Stand.of_body Bd
  have e0 : s₁.heap = h0 := by rw [← hh, Bd.state]; rfl
  have N0 := Fr.nil hB.size
  suffices hgo : Go p e below (fun o U' => ∃ v L, o = .returned v ∧ Qg (fun v h => v = (some (.ref (w 1))) ∧ h = h0) hB.size v U'.heap L ∧ FrameEnd s o U' L ({ frames := 0, cells := 0, slots := 0, locals := 0 } : Room).cells ({ frames := 0, cells := 0, slots := 0, locals := 0 } : Room).slots) s₁ (mkF m 0 #[.val (.ref (w 1)), .unset] []) by
    obtain ⟨s2, o, g1, g2, g3, g4⟩ := hgo
    refine ⟨s2, o, castTop (?_ : entryFrame m #[(.ref (w 1))] 2 = _) g1, g2, g3, g4⟩
    first | (simp [entryFrame, mkF, argsToLocals, Value.category]; done) | rfl
  refine Go.on (T' := s₁) (g' := (mkF m 1 #[.val (.ref (w 1)), .unset] [(.ref (w 1))])) (fun t k => XS.aloadN X0.here hx rfl (hb hby d9_0) rfl rfl k) ?_
  obtain ⟨T111, X111, e111, st111⟩ := instNo X0 hx hZ hown (hw _ (List.mem_of_getElem? (i := 36) rfl)) e0 (pin_1 (pins_ext XB hP)) (own_asNo (pin_1 (pins_ext XB hP)) ((hZ.alike.findClass _ _).symm.trans hown) (hw _ (List.mem_of_getElem? (i := 36) rfl)) hp0) (g := (mkF m 1 #[.val (.ref (w 1)), .unset] [(.ref (w 1))])) rfl rfl (hb hby d9_1)
  refine Go.on (T' := T111) (g' := (mkF m 4 #[.val (.ref (w 1)), .unset] [(.int (0 : Int32))])) st111 ?_
  refine Go.on (T' := T111) (g' := (mkF m 7 #[.val (.ref (w 1)), .unset] [])) (fun t k => XS.ifNo X111.here hx rfl (hb hby d9_4) rfl ((if0 _ _).trans (teq (by decide : (0 : Int32) = (0 : Int32))).2) k) ?_
  refine Go.on (T' := T111) (g' := (mkF m 8 #[.val (.ref (w 1)), .unset] [(.ref (w 1))])) (fun t k => XS.aloadN X111.here hx rfl (hb hby d9_7) rfl rfl k) ?_
  obtain ⟨T112, X112, e112, st112⟩ := instY X111 hx hZ hown (hw _ (List.mem_of_getElem? (i := 42) rfl)) e111 (Ins.self (pin_1 (pins_ext XB hP))) (g := (mkF m 8 #[.val (.ref (w 1)), .unset] [(.ref (w 1))])) rfl rfl (hb hby d9_8)
  refine Go.on (T' := T112) (g' := (mkF m 11 #[.val (.ref (w 1)), .unset] [(.int (1 : Int32))])) st112 ?_
  refine Go.on (T' := T112) (g' := (mkF m 14 #[.val (.ref (w 1)), .unset] [])) (fun t k => XS.ifNo X112.here hx rfl (hb hby d9_11) rfl ((if0 _ _).trans (feq (by decide : ¬ ((1 : Int32) = (0 : Int32)))).1) k) ?_
  refine Go.on (T' := T112) (g' := (mkF m 15 #[.val (.ref (w 1)), .unset] [(.ref (w 1))])) (fun t k => XS.aloadN X112.here hx rfl (hb hby d9_14) rfl rfl k) ?_
  obtain ⟨T113, X113, e113, st113⟩ := castY X112 hx hZ hown (hw _ (List.mem_of_getElem? (i := 42) rfl)) e112 (Ins.self (pin_1 (pins_ext XB hP))) (g := (mkF m 15 #[.val (.ref (w 1)), .unset] [(.ref (w 1))])) rfl rfl (hb hby d9_15)
  refine Go.on (T' := T113) (g' := (mkF m 18 #[.val (.ref (w 1)), .unset] [(.ref (w 1))])) st113 ?_
  refine Go.on (T' := T113) (g' := (mkF m 19 #[.val (.ref (w 1)), .val (.ref (w 1))] [])) (fun t k => XS.astoreN X113.here hx rfl (hb hby d9_18) rfl rfl (l' := #[.val (.ref (w 1)), .val (.ref (w 1))]) rfl k) ?_
  refine Go.on (T' := T113) (g' := (mkF m 20 #[.val (.ref (w 1)), .val (.ref (w 1))] [(.ref (w 1))])) (fun t k => XS.aloadN X113.here hx rfl (hb hby d9_19) rfl rfl k) ?_
  obtain ⟨T114, X114, e114, st114⟩ := getF X113 hx hZ hown (Or.inr (hw _ (List.mem_of_getElem? (i := 44) rfl))) Via.refl e113 (pin_4 (pins_ext XB hP)) (g := (mkF m 20 #[.val (.ref (w 1)), .val (.ref (w 1))] [(.ref (w 1))])) rfl rfl (hb hby d9_20)
  refine Go.on (T' := T114) (g' := (mkF m 23 #[.val (.ref (w 1)), .val (.ref (w 1))] [(.int (0 : Int32))])) st114 ?_
  refine Go.on (T' := T114) (g' := (mkF m 26 #[.val (.ref (w 1)), .val (.ref (w 1))] [])) (fun t k => XS.ifNo X114.here hx rfl (hb hby d9_23) rfl ((if0 _ _).trans (teq (by decide : (0 : Int32) = (0 : Int32))).2) k) ?_
  refine Go.on (T' := T114) (g' := (mkF m 27 #[.val (.ref (w 1)), .val (.ref (w 1))] [(.ref (w 1))])) (fun t k => XS.aloadN X114.here hx rfl (hb hby d9_26) rfl rfl k) ?_
  obtain ⟨T115, X115, e115, st115⟩ := castY X114 hx hZ hown (hw _ (List.mem_of_getElem? (i := 46) rfl)) e114 (Ins.of_exa (pin_1 (pins_ext XB hP)) (hw _ (List.mem_of_getElem? (i := 47) rfl))) (g := (mkF m 27 #[.val (.ref (w 1)), .val (.ref (w 1))] [(.ref (w 1))])) rfl rfl (hb hby d9_27)
  refine Go.on (T' := T115) (g' := (mkF m 30 #[.val (.ref (w 1)), .val (.ref (w 1))] [(.ref (w 1))])) st115 ?_
  obtain ⟨fs, hr, hrun, hended, hW, hsame⟩ := X115.leave (v := some (.ref (w 1))) (fun h => by rw [Bd.returns] at h; cases h)
  exact ⟨_, _, retOut X115 hx Bd.returns rfl (Or.inr (Or.inr (Or.inr (Or.inr ⟨rfl, rfl, rfl⟩)))) (hb hby d9_30) hr, hrun, hended, _, _, rfl, ⟨⟨rfl, e115⟩, N0⟩, ⟨_, rfl⟩, hW, hsame.mono (by decide) (by decide)⟩
set_option maxRecDepth 65536 in
set_option maxHeartbeats 40000000 in
theorem rm8_1 (l : Launch) (Z : State) (a0 : Array Value) (hw : ∀ d ∈ tables_1, d.before a0 Z = true) (ws : List Jvm.Cond) (w : Nat → Addr) (hB : Heap) (hP : Pins Z hB w) (h0 : Heap) (XB : Ext hB h0) (hp0 : ¬ (own_as Z "java/util/ImmutableCollections$ListN" "java/util/ImmutableCollections$List12")) :
    MetFree l (⟨"java/util/List", "copyOf", "(Ljava/util/Collection;)Ljava/util/List;"⟩ : MethodName) (head1 (Jvm.Cond.code (⟨"java/util/List", "copyOf", "(Ljava/util/Collection;)Ljava/util/List;"⟩ : MethodName) jdk_40_method_48_code 1 (some (.object "java/util/List")) :: ws) ({ frames := 1, cells := 0, slots := 0, locals := 13 } : Room)) (fun a U => a = #[(.ref (w 1))] ∧ Z.Warmed39 U.vm ∧ U.heap = h0) (fun _ _ _ _ _ => True) (fun _ U o U' => ∃ v L, o = .returned v ∧ Qg (fun v h => v = (some (.ref (w 1))) ∧ h = h0) hB.size v U'.heap L ∧ FrameEnd U o U' L ({ frames := 1, cells := 0, slots := 0, locals := 13 } : Room).cells ({ frames := 1, cells := 0, slots := 0, locals := 13 } : Room).slots) := by
  refine MetFree.of_bodySF (plainFor_of_name pn_1) hisR ?_
  intro p e s m args below meth c s₁ Bd hml0 hP0 hK
  obtain ⟨rfl, hZ, hh⟩ := hP0
  have hx := Bd.exec
  have hby := Bd.bytes
  have hml : c.maxLocals = 1 := hml0
  have hown : s.vm.findClass "java/util/List" = some m.cls := findClass_of_methodNamed Bd.named
  have hnm := (name_of_methodNamed Bd.named Bd.method).1
  have X0 : Stand p l e ({ frames := 1, cells := 0, slots := 0, locals := 13 } : Room) s m #[(.ref (w 1))] below meth c s₁ [] 0 0 := Stand.of_body Bd
  have e0 : s₁.heap = h0 := by rw [← hh, Bd.state]; rfl
  have N0 := Fr.nil hB.size
  suffices hgo : Go p e below (fun o U' => ∃ v L, o = .returned v ∧ Qg (fun v h => v = (some (.ref (w 1))) ∧ h = h0) hB.size v U'.heap L ∧ FrameEnd s o U' L ({ frames := 1, cells := 0, slots := 0, locals := 13 } : Room).cells ({ frames := 1, cells := 0, slots := 0, locals := 13 } : Room).slots) s₁ (mkF m 0 #[.val (.ref (w 1))] []) by
    obtain ⟨s2, o, g1, g2, g3, g4⟩ := hgo
    refine ⟨s2, o, castTop (?_ : entryFrame m #[(.ref (w 1))] 1 = _) g1, g2, g3, g4⟩
    first | (simp [entryFrame, mkF, argsToLocals, Value.category]; done) | rfl
  refine Go.on (T' := s₁) (g' := (mkF m 1 #[.val (.ref (w 1))] [(.ref (w 1))])) (fun t k => XS.aloadN X0.here hx rfl (hb hby d8_0) rfl rfl k) ?_
  obtain ⟨_, _, ⟨T116, L116, k116, n116⟩, -, X116, ⟨Lc116, hQ116, l116, y116, z116⟩, st116⟩ := Jvm.LawKit.callS X0 hx (y := (⟨"java/util/ImmutableCollections", "listCopy", "(Ljava/util/Collection;)Ljava/util/List;"⟩ : MethodName)) hown (mvT hZ (hw _ (List.mem_of_getElem? (i := 33) rfl))) (mvT hZ (hw _ (List.mem_of_getElem? (i := 34) rfl))) (mvT hZ (hw _ (List.mem_of_getElem? (i := 18) rfl))) (mvT hZ (hw _ (List.mem_of_getElem? (i := 35) rfl))) (by decide) (backOf (W := 0) (rm9_1 l Z a0 hw [] w hB hP h0 XB hp0) hZ (hw _ (List.mem_of_getElem? (i := 35) rfl)) (hw _ (List.mem_of_getElem? (i := 18) rfl)) (by decide) (by decide)) (g := (mkF m 1 #[.val (.ref (w 1))] [(.ref (w 1))])) rfl (by rw [hml]; rfl) (argsL := [(.ref (w 1))]) (rest := []) (lenOf pd_3 rfl) rfl (by show 2 * 0 + _ ≤ _; exact Nat.le_of_eq rfl) (hb hby d8_1) (fun _ _ => ⟨rfl, e0, (by decide : 0 + 0 ≤ _), (by decide : 0 + 0 ≤ _)⟩)
  dsimp only [Pt.U, Pt.locs, Pt.cells, Pt.slots] at X116 l116 y116 z116 st116 hQ116
  subst l116 y116 z116
  obtain ⟨⟨rfl, e116⟩, N116q⟩ := hQ116
  have N116 := Fr.app N0 N116q
  refine Go.on (T' := T116) (g' := (mkF m 4 #[.val (.ref (w 1))] [(.ref (w 1))])) st116 ?_
  obtain ⟨fs, hr, hrun, hended, hW, hsame⟩ := X116.leave (v := some (.ref (w 1))) (fun h => by rw [Bd.returns] at h; cases h)
  exact ⟨_, _, retOut X116 hx Bd.returns rfl (Or.inr (Or.inr (Or.inr (Or.inr ⟨rfl, rfl, rfl⟩)))) (hb hby d8_4) hr, hrun, hended, _, _, rfl, ⟨⟨rfl, e116⟩, N116⟩, ⟨_, rfl⟩, hW, hsame.mono (by decide) (by decide)⟩
set_option maxRecDepth 65536 in
set_option maxHeartbeats 40000000 in
theorem rm5_1 (l : Launch) (Z : State) (a0 : Array Value) (hw : ∀ d ∈ tables_1, d.before a0 Z = true) (ws : List Jvm.Cond) (w : Nat → Addr) (hB : Heap) (hP : Pins Z hB w) (h0 : Heap) (XB : Ext hB h0) (pa1 : Int32) (pa2 : Int32) (o0 : Addr) (E_o0 : Exa Z h0 o0 "com/example/realizer/realizer/spectra/Domain") (F_o0_from : Fld Z h0 o0 "com/example/realizer/realizer/spectra/Domain" "from" "I" (.int (0 : Int32))) (F_o0_to : Fld Z h0 o0 "com/example/realizer/realizer/spectra/Domain" "to" "I" (.int (0 : Int32))) (F_o0_literals : Fld Z h0 o0 "com/example/realizer/realizer/spectra/Domain" "literals" "Ljava/util/List;" .null) (g_o0 : hB.size ≤ o0) (hp0 : ¬ (pa2 < pa1)) (hp1 : ¬ (own_as Z "java/util/ImmutableCollections$ListN" "java/util/ImmutableCollections$List12")) :
    MetFree l (⟨"com/example/realizer/realizer/spectra/Domain", "<init>", "(IILjava/util/List;)V"⟩ : MethodName) (head1 (Jvm.Cond.code (⟨"com/example/realizer/realizer/spectra/Domain", "<init>", "(IILjava/util/List;)V"⟩ : MethodName) prog_10_method_1_code 4 none :: ws) ({ frames := 2, cells := 0, slots := 0, locals := 25 } : Room)) (fun a U => a = #[(.ref o0), (.int pa1), (.int pa2), (.ref (w 1))] ∧ Z.Warmed39 U.vm ∧ U.heap = h0) (fun _ _ _ _ _ => True) (fun _ U o U' => ∃ v L, o = .returned v ∧ Qg (fun v h => v = none ∧ (Keep h0 h [o0] ∧ Exa Z h o0 "com/example/realizer/realizer/spectra/Domain" ∧ Fld Z h o0 "com/example/realizer/realizer/spectra/Domain" "from" "I" (.int pa1) ∧ Fld Z h o0 "com/example/realizer/realizer/spectra/Domain" "to" "I" (.int pa2) ∧ Fld Z h o0 "com/example/realizer/realizer/spectra/Domain" "literals" "Ljava/util/List;" (.ref (w 1)) ∧ True)) hB.size v U'.heap L ∧ FrameEnd U o U' L ({ frames := 2, cells := 0, slots := 0, locals := 25 } : Room).cells ({ frames := 2, cells := 0, slots := 0, locals := 25 } : Room).slots) := by
  refine MetFree.of_bodySF (plainFor_of_name pn_5) hisR ?_
  intro p e s m args below meth c s₁ Bd hml0 hP0 hK
  obtain ⟨rfl, hZ, hh⟩ := hP0
  have hx := Bd.exec
  have hby := Bd.bytes
  have hml : c.maxLocals = 4 := hml0
  have hown : s.vm.findClass "com/example/realizer/realizer/spectra/Domain" = some m.cls := findClass_of_methodNamed Bd.named
  have hnm := (name_of_methodNamed Bd.named Bd.method).1
  have X0 : Stand p l e ({ frames := 2, cells := 0, slots := 0, locals := 25 } : Room) s m #[(.ref o0), (.int pa1), (.int pa2), (.ref (w 1))] below meth c s₁ [] 0 0 := Stand.of_body Bd
  have e0 : s₁.heap = h0 := by rw [← hh, Bd.state]; rfl
  have N0 := Fr.nil hB.size
  suffices hgo : Go p e below (fun o U' => ∃ v L, o = .returned v ∧ Qg (fun v h => v = none ∧ (Keep h0 h [o0] ∧ Exa Z h o0 "com/example/realizer/realizer/spectra/Domain" ∧ Fld Z h o0 "com/example/realizer/realizer/spectra/Domain" "from" "I" (.int pa1) ∧ Fld Z h o0 "com/example/realizer/realizer/spectra/Domain" "to" "I" (.int pa2) ∧ Fld Z h o0 "com/example/realizer/realizer/spectra/Domain" "literals" "Ljava/util/List;" (.ref (w 1)) ∧ True)) hB.size v U'.heap L ∧ FrameEnd s o U' L ({ frames := 2, cells := 0, slots := 0, locals := 25 } : Room).cells ({ frames := 2, cells := 0, slots := 0, locals := 25 } : Room).slots) s₁ (mkF m 0 #[.val (.ref o0), .val (.int pa1), .val (.int pa2), .val (.ref (w 1))] []) by
    obtain ⟨s2, o, g1, g2, g3, g4⟩ := hgo
    refine ⟨s2, o, castTop (?_ : entryFrame m #[(.ref o0), (.int pa1), (.int pa2), (.ref (w 1))] 4 = _) g1, g2, g3, g4⟩
    first | (simp [entryFrame, mkF, argsToLocals, Value.category]; done) | rfl
  refine Go.on (T' := s₁) (g' := (mkF m 1 #[.val (.ref o0), .val (.int pa1), .val (.int pa2), .val (.ref (w 1))] [(.ref o0)])) (fun t k => XS.aloadN X0.here hx rfl (hb hby d5_0) rfl rfl k) ?_
  obtain ⟨_, _, ⟨T110, L110, k110, n110⟩, -, X110, ⟨Lc110, hQ110, l110, y110, z110⟩, st110⟩ := X0.specialBack hx (y := (⟨"java/lang/Record", "<init>", "()V"⟩ : MethodName)) rfl hown (mvT hZ (hw _ (List.mem_of_getElem? (i := 22) rfl))) (mvT hZ (hw _ (List.mem_of_getElem? (i := 23) rfl))) (mvT hZ (hw _ (List.mem_of_getElem? (i := 26) rfl))) (by decide) (backOf (W := 0) (rm6_0 l Z a0 hw [] w hB hP h0 XB o0 E_o0 F_o0_from F_o0_to F_o0_literals g_o0) hZ (hw _ (List.mem_of_getElem? (i := 26) rfl)) (hw _ (List.mem_of_getElem? (i := 25) rfl)) (by decide) (by decide)) (g := (mkF m 1 #[.val (.ref o0), .val (.int pa1), .val (.int pa2), .val (.ref (w 1))] [(.ref o0)])) rfl (by rw [hml]; rfl) (Steps.refl _) (a := o0) (argsL := []) (rest := []) (lenOf pd_2 rfl) rfl (by show 2 * 0 + _ ≤ _; exact Nat.le_of_eq rfl) (hb hby d5_1) (fun _ _ => ⟨rfl, e0, (by decide : 0 + 0 ≤ _), (by decide : 0 + 0 ≤ _)⟩)
  dsimp only [Pt.U, Pt.locs, Pt.cells, Pt.slots] at X110 l110 y110 z110 st110 hQ110
  subst l110 y110 z110
  obtain ⟨⟨rfl, e110⟩, N110q⟩ := hQ110
  have N110 := Fr.app N0 N110q
  refine Go.on (T' := T110) (g' := (mkF m 4 #[.val (.ref o0), .val (.int pa1), .val (.int pa2), .val (.ref (w 1))] [])) (fun t k => st110.trans k) ?_
  refine Go.on (T' := T110) (g' := (mkF m 5 #[.val (.ref o0), .val (.int pa1), .val (.int pa2), .val (.ref (w 1))] [(.int pa2)])) (fun t k => XS.iloadN X110.here hx rfl (hb hby d5_4) rfl k) ?_
  refine Go.on (T' := T110) (g' := (mkF m 6 #[.val (.ref o0), .val (.int pa1), .val (.int pa2), .val (.ref (w 1))] [(.int pa1), (.int pa2)])) (fun t k => XS.iloadN X110.here hx rfl (hb hby d5_5) rfl k) ?_
  refine Go.on (T' := T110) (g' := (mkF m 24 #[.val (.ref o0), .val (.int pa1), .val (.int pa2), .val (.ref (w 1))] [])) (fun t k => XS.icmpYes X110.here hx rfl (pc0 := 6) (pc' := 24) rfl (hb hby d5_6) rfl (flt hp0).2.1 (by decide) (by decide) k) ?_
  refine Go.on (T' := T110) (g' := (mkF m 25 #[.val (.ref o0), .val (.int pa1), .val (.int pa2), .val (.ref (w 1))] [(.ref (w 1))])) (fun t k => XS.aloadN X110.here hx rfl (hb hby d5_24) rfl rfl k) ?_
  obtain ⟨_, _, ⟨T117, L117, k117, n117⟩, -, X117, ⟨Lc117, hQ117, l117, y117, z117⟩, st117⟩ := Jvm.LawKit.callS X110 hx (y := (⟨"java/util/List", "copyOf", "(Ljava/util/Collection;)Ljava/util/List;"⟩ : MethodName)) hown (mvT hZ (hw _ (List.mem_of_getElem? (i := 30) rfl))) (mvT hZ (hw _ (List.mem_of_getElem? (i := 31) rfl))) (mvT hZ (hw _ (List.mem_of_getElem? (i := 15) rfl))) (mvT hZ (hw _ (List.mem_of_getElem? (i := 32) rfl))) (by decide) (backOf (W := 0) (rm8_1 l Z a0 hw [] w hB hP h0 XB hp1) hZ (hw _ (List.mem_of_getElem? (i := 32) rfl)) (hw _ (List.mem_of_getElem? (i := 15) rfl)) (by decide) (by decide)) (g := (mkF m 25 #[.val (.ref o0), .val (.int pa1), .val (.int pa2), .val (.ref (w 1))] [(.ref (w 1))])) rfl (by rw [hml]; rfl) (argsL := [(.ref (w 1))]) (rest := []) (lenOf pd_3 rfl) rfl (by show 2 * 0 + _ ≤ _; exact Nat.le_of_eq rfl) (hb hby d5_25) (fun _ _ => ⟨rfl, e110, (by decide : 0 + 0 ≤ _), (by decide : 0 + 0 ≤ _)⟩)
  dsimp only [Pt.U, Pt.locs, Pt.cells, Pt.slots] at X117 l117 y117 z117 st117 hQ117
  subst l117 y117 z117
  obtain ⟨⟨rfl, e117⟩, N117q⟩ := hQ117
  have N117 := Fr.app N110 N117q
  refine Go.on (T' := T117) (g' := (mkF m 28 #[.val (.ref o0), .val (.int pa1), .val (.int pa2), .val (.ref (w 1))] [(.ref (w 1))])) st117 ?_
  refine Go.on (T' := T117) (g' := (mkF m 29 #[.val (.ref o0), .val (.int pa1), .val (.int pa2), .val (.ref (w 1))] [])) (fun t k => XS.astoreN X117.here hx rfl (hb hby d5_28) rfl rfl (l' := #[.val (.ref o0), .val (.int pa1), .val (.int pa2), .val (.ref (w 1))]) rfl k) ?_
  refine Go.on (T' := T117) (g' := (mkF m 30 #[.val (.ref o0), .val (.int pa1), .val (.int pa2), .val (.ref (w 1))] [(.ref (w 1))])) (fun t k => XS.aloadN X117.here hx rfl (hb hby d5_29) rfl rfl k) ?_
  obtain ⟨cq118, kq118, q118a, q118b, q118c⟩ := isOf hZ e117 (pin_1 (pins_ext XB hP))
  obtain ⟨_, _, ⟨T118, L118, k118, n118⟩, -, X118, ⟨Lc118, hQ118, l118, y118, z118⟩, st118⟩ := X117.interfaceBack hx (xi := (⟨"java/util/List", "isEmpty", "()Z"⟩ : MethodName)) (y := (⟨"java/util/ImmutableCollections$ListN", "isEmpty", "()Z"⟩ : MethodName)) hown (mvT hZ (hw _ (List.mem_of_getElem? (i := 48) rfl))) (mvT hZ (hw _ (List.mem_of_getElem? (i := 49) rfl))) (mvT hZ (hw _ (List.mem_of_getElem? (i := 50) rfl))) (mvT hZ (hw _ (List.mem_of_getElem? (i := 51) rfl))) (mvT hZ (hw _ (List.mem_of_getElem? (i := 52) rfl))) (mvT hZ (hw _ (List.mem_of_getElem? (i := 53) rfl))) (mvT hZ (hw _ (List.mem_of_getElem? (i := 54) rfl))) (mvT hZ (hw _ (List.mem_of_getElem? (i := 47) rfl))) (by decide) (backOf (W := 0) (rm10_0 l Z a0 hw [] w hB hP h0 XB) hZ (hw _ (List.mem_of_getElem? (i := 56) rfl)) (hw _ (List.mem_of_getElem? (i := 55) rfl)) (by decide) (by decide)) q118a q118b q118c (g := (mkF m 30 #[.val (.ref o0), .val (.int pa1), .val (.int pa2), .val (.ref (w 1))] [(.ref (w 1))])) rfl (by rw [hml]; rfl) (Steps.refl _) (argsL := []) (rest := []) (lenOf pd_4 rfl) rfl (by show 2 * 0 + _ ≤ _; exact Nat.le_of_eq rfl) (hb hby d5_30) (fun _ _ => ⟨rfl, e117, (by decide : 0 + 0 ≤ _), (by decide : 0 + 0 ≤ _)⟩)
  dsimp only [Pt.U, Pt.locs, Pt.cells, Pt.slots] at X118 l118 y118 z118 st118 hQ118
  subst l118 y118 z118
  obtain ⟨⟨rfl, e118⟩, N118q⟩ := hQ118
  have N118 := Fr.app N117 N118q
  refine Go.on (T' := T118) (g' := (mkF m 35 #[.val (.ref o0), .val (.int pa1), .val (.int pa2), .val (.ref (w 1))] [(.int (1 : Int32))])) (fun t k => st118.trans k) ?_
  refine Go.on (T' := T118) (g' := (mkF m 64 #[.val (.ref o0), .val (.int pa1), .val (.int pa2), .val (.ref (w 1))] [])) (fun t k => XS.ifYes X118.here hx rfl (pc0 := 35) (pc' := 64) rfl (hb hby d5_35) rfl ((if0 _ _).trans (feq (by decide : ¬ ((1 : Int32) = (0 : Int32)))).2) (by decide) (by decide) k) ?_
  refine Go.on (T' := T118) (g' := (mkF m 65 #[.val (.ref o0), .val (.int pa1), .val (.int pa2), .val (.ref (w 1))] [(.ref o0)])) (fun t k => XS.aloadN X118.here hx rfl (hb hby d5_64) rfl rfl k) ?_
  refine Go.on (T' := T118) (g' := (mkF m 66 #[.val (.ref o0), .val (.int pa1), .val (.int pa2), .val (.ref (w 1))] [(.int pa1), (.ref o0)])) (fun t k => XS.iloadN X118.here hx rfl (hb hby d5_65) rfl k) ?_
  obtain ⟨T119, h119, X119, e119, W119, st119⟩ := putF X118 hx hZ hown (host := "") (Or.inl (hw _ (List.mem_of_getElem? (i := 59) rfl))) Via.refl e118 F_o0_from E_o0 (Or.inr ⟨(hw _ (List.mem_of_getElem? (i := 60) rfl)), rfl, hnm⟩) (hw _ (List.mem_of_getElem? (i := 12) rfl)) (ty := .int) (by decide) rfl rfl (g := (mkF m 66 #[.val (.ref o0), .val (.int pa1), .val (.int pa2), .val (.ref (w 1))] [(.int pa1), (.ref o0)])) rfl rfl (hb hby d5_66)
  have N119 := Fr.snoc X119 N118 g_o0
  have XT119 : Ext hB h119 := own_extw XB W119 g_o0
  have KC119 : Keep h0 h119 [o0] := (Keep.refl h0 [o0]).wr W119 (Or.inl (List.mem_of_getElem? (i := 0) rfl))
  have Fw119 : Fld Z h119 o0 "com/example/realizer/realizer/spectra/Domain" "from" "I" (.int pa1) := F_o0_from.same W119
  refine Go.on (T' := T119) (g' := (mkF m 69 #[.val (.ref o0), .val (.int pa1), .val (.int pa2), .val (.ref (w 1))] [])) st119 ?_
  refine Go.on (T' := T119) (g' := (mkF m 70 #[.val (.ref o0), .val (.int pa1), .val (.int pa2), .val (.ref (w 1))] [(.ref o0)])) (fun t k => XS.aloadN X119.here hx rfl (hb hby d5_69) rfl rfl k) ?_
  refine Go.on (T' := T119) (g' := (mkF m 71 #[.val (.ref o0), .val (.int pa1), .val (.int pa2), .val (.ref (w 1))] [(.int pa2), (.ref o0)])) (fun t k => XS.iloadN X119.here hx rfl (hb hby d5_70) rfl k) ?_
  have f121 : Fld Z h119 o0 "com/example/realizer/realizer/spectra/Domain" "to" "I" (.int (0 : Int32)) := (F_o0_to.other W119 (Or.inr (slot_ne (Or.inr (hw _ (List.mem_of_getElem? (i := 62) rfl))) (Or.inr (hw _ (List.mem_of_getElem? (i := 60) rfl))) (by decide) (t := .int) (t' := .int) (by decide) (by decide))))
  have f122 : Exa Z h119 o0 "com/example/realizer/realizer/spectra/Domain" := (E_o0.wr W119)
  obtain ⟨T120, h120, X120, e120, W120, st120⟩ := putF X119 hx hZ hown (host := "") (Or.inl (hw _ (List.mem_of_getElem? (i := 61) rfl))) Via.refl e119 f121 f122 (Or.inr ⟨(hw _ (List.mem_of_getElem? (i := 62) rfl)), rfl, hnm⟩) (hw _ (List.mem_of_getElem? (i := 12) rfl)) (ty := .int) (by decide) rfl rfl (g := (mkF m 71 #[.val (.ref o0), .val (.int pa1), .val (.int pa2), .val (.ref (w 1))] [(.int pa2), (.ref o0)])) rfl rfl (hb hby d5_71)
  have N120 := Fr.snoc X120 N119 g_o0
  have XT120 : Ext hB h120 := own_extw XT119 W120 g_o0
  have KC120 : Keep h0 h120 [o0] := KC119.wr W120 (Or.inl (List.mem_of_getElem? (i := 0) rfl))
  have Fw120 : Fld Z h120 o0 "com/example/realizer/realizer/spectra/Domain" "to" "I" (.int pa2) := f121.same W120
  refine Go.on (T' := T120) (g' := (mkF m 74 #[.val (.ref o0), .val (.int pa1), .val (.int pa2), .val (.ref (w 1))] [])) st120 ?_
  refine Go.on (T' := T120) (g' := (mkF m 75 #[.val (.ref o0), .val (.int pa1), .val (.int pa2), .val (.ref (w 1))] [(.ref o0)])) (fun t k => XS.aloadN X120.here hx rfl (hb hby d5_74) rfl rfl k) ?_
  refine Go.on (T' := T120) (g' := (mkF m 76 #[.val (.ref o0), .val (.int pa1), .val (.int pa2), .val (.ref (w 1))] [(.ref (w 1)), (.ref o0)])) (fun t k => XS.aloadN X120.here hx rfl (hb hby d5_75) rfl rfl k) ?_
  have f124 : Fld Z h120 o0 "com/example/realizer/realizer/spectra/Domain" "literals" "Ljava/util/List;" .null := ((F_o0_literals.other W119 (Or.inr (slot_ne (Or.inr (hw _ (List.mem_of_getElem? (i := 64) rfl))) (Or.inr (hw _ (List.mem_of_getElem? (i := 60) rfl))) (by decide) (t := (.object "java/util/List")) (t' := .int) (by decide) (by decide)))).other W120 (Or.inr (slot_ne (Or.inr (hw _ (List.mem_of_getElem? (i := 64) rfl))) (Or.inr (hw _ (List.mem_of_getElem? (i := 62) rfl))) (by decide) (t := (.object "java/util/List")) (t' := .int) (by decide) (by decide))))
  have f125 : Exa Z h120 o0 "com/example/realizer/realizer/spectra/Domain" := (f122.wr W120)
  obtain ⟨T123, h123, X123, e123, W123, st123⟩ := putF X120 hx hZ hown (host := "") (Or.inl (hw _ (List.mem_of_getElem? (i := 63) rfl))) Via.refl e120 f124 f125 (Or.inr ⟨(hw _ (List.mem_of_getElem? (i := 64) rfl)), rfl, hnm⟩) (hw _ (List.mem_of_getElem? (i := 12) rfl)) (ty := (.object "java/util/List")) (by decide) rfl rfl (g := (mkF m 76 #[.val (.ref o0), .val (.int pa1), .val (.int pa2), .val (.ref (w 1))] [(.ref (w 1)), (.ref o0)])) rfl rfl (hb hby d5_76)
  have N123 := Fr.snoc X123 N120 g_o0
  have XT123 : Ext hB h123 := own_extw XT120 W123 g_o0
  have KC123 : Keep h0 h123 [o0] := KC120.wr W123 (Or.inl (List.mem_of_getElem? (i := 0) rfl))
  have Fw123 : Fld Z h123 o0 "com/example/realizer/realizer/spectra/Domain" "literals" "Ljava/util/List;" (.ref (w 1)) := f124.same W123
  refine Go.on (T' := T123) (g' := (mkF m 79 #[.val (.ref o0), .val (.int pa1), .val (.int pa2), .val (.ref (w 1))] [])) st123 ?_
  have f126 : Exa Z h123 o0 "com/example/realizer/realizer/spectra/Domain" := (f125.wr W123)
  have f127 : Fld Z h123 o0 "com/example/realizer/realizer/spectra/Domain" "from" "I" (.int pa1) := ((Fw119.other W120 (Or.inr (slot_ne (Or.inr (hw _ (List.mem_of_getElem? (i := 60) rfl))) (Or.inr (hw _ (List.mem_of_getElem? (i := 62) rfl))) (by decide) (t := .int) (t' := .int) (by decide) (by decide)))).other W123 (Or.inr (slot_ne (Or.inr (hw _ (List.mem_of_getElem? (i := 60) rfl))) (Or.inr (hw _ (List.mem_of_getElem? (i := 64) rfl))) (by decide) (t := .int) (t' := (.object "java/util/List")) (by decide) (by decide))))
  have f128 : Fld Z h123 o0 "com/example/realizer/realizer/spectra/Domain" "to" "I" (.int pa2) := (Fw120.other W123 (Or.inr (slot_ne (Or.inr (hw _ (List.mem_of_getElem? (i := 62) rfl))) (Or.inr (hw _ (List.mem_of_getElem? (i := 64) rfl))) (by decide) (t := .int) (t' := (.object "java/util/List")) (by decide) (by decide))))
  obtain ⟨fs, hr, hrun, hended, hW, hsame⟩ := X123.leave (v := none) (fun _ => rfl)
  exact ⟨_, _, X123.returnOut hx Bd.returns (hb hby d5_79) hr, hrun, hended, _, _, rfl, ⟨⟨rfl, own_at (P := fun h => Keep h0 h [o0] ∧ Exa Z h o0 "com/example/realizer/realizer/spectra/Domain" ∧ Fld Z h o0 "com/example/realizer/realizer/spectra/Domain" "from" "I" (.int pa1) ∧ Fld Z h o0 "com/example/realizer/realizer/spectra/Domain" "to" "I" (.int pa2) ∧ Fld Z h o0 "com/example/realizer/realizer/spectra/Domain" "literals" "Ljava/util/List;" (.ref (w 1)) ∧ True) e123 ⟨KC123, f126, f127, f128, Fw123, trivial⟩⟩, N123⟩, ⟨_, rfl⟩, hW, hsame.mono (by decide) (by decide)⟩
set_option maxRecDepth 65536 in
set_option maxHeartbeats 40000000 in
theorem rm3_1 (l : Launch) (Z : State) (a0 : Array Value) (hw : ∀ d ∈ tables_1, d.before a0 Z = true) (ws : List Jvm.Cond) (w : Nat → Addr) (hB : Heap) (hP : Pins Z hB w) (h0 : Heap) (XB : Ext hB h0) (pa0 : Int32) (pa1 : Int32) (hp0 : ¬ (pa1 < pa0)) (hp1 : ¬ (own_as Z "java/util/ImmutableCollections$ListN" "java/util/ImmutableCollections$List12")) :
    MetFree l (⟨"com/example/realizer/realizer/spectra/Domain", "range", "(II)Lcom/example/realizer/realizer/spectra/Domain;"⟩ : MethodName) (head1 (Jvm.Cond.code (⟨"com/example/realizer/realizer/spectra/Domain", "range", "(II)Lcom/example/realizer/realizer/spectra/Domain;"⟩ : MethodName) prog_10_method_2_code 2 (some (.object "com/example/realizer/realizer/spectra/Domain")) :: ws) ({ frames := 3, cells := 1, slots := 3, locals := 41 } : Room)) (fun a U => a = #[(.int pa0), (.int pa1)] ∧ Z.Warmed39 U.vm ∧ U.heap = h0) (fun _ _ _ _ _ => True) (fun _ U o U' => ∃ v L, o = .returned v ∧ Qg (fun v h => ∃ (c0 : Addr), v = (some (.ref c0)) ∧ (Keep h0 h [] ∧ h0.size ≤ c0 ∧ Exa Z h c0 "com/example/realizer/realizer/spectra/Domain" ∧ Fld Z h c0 "com/example/realizer/realizer/spectra/Domain" "from" "I" (.int pa0) ∧ Fld Z h c0 "com/example/realizer/realizer/spectra/Domain" "to" "I" (.int pa1) ∧ Fld Z h c0 "com/example/realizer/realizer/spectra/Domain" "literals" "Ljava/util/List;" (.ref (w 1)) ∧ True)) hB.size v U'.heap L ∧ FrameEnd U o U' L ({ frames := 3, cells := 1, slots := 3, locals := 41 } : Room).cells ({ frames := 3, cells := 1, slots := 3, locals := 41 } : Room).slots) := by
  refine MetFree.of_bodySF (plainFor_of_name pn_5) hisR ?_
  intro p e s m args below meth c s₁ Bd hml0 hP0 hK
  obtain ⟨rfl, hZ, hh⟩ := hP0
  have hx := Bd.exec
  have hby := Bd.bytes
  have hml : c.maxLocals = 2 := hml0
  have hown : s.vm.findClass "com/example/realizer/realizer/spectra/Domain" = some m.cls := findClass_of_methodNamed Bd.named
  have hnm := (name_of_methodNamed Bd.named Bd.method).1
  have X0 : Stand p l e ({ frames := 3, cells := 1, slots := 3, locals := 41 } : Room) s m #[(.int pa0), (.int pa1)] below meth c s₁ [] 0 0 := Stand.of_body Bd
  have e0 : s₁.heap = h0 := by rw [← hh, Bd.state]; rfl
  have N0 := Fr.nil hB.size
  suffices hgo : Go p e below (fun o U' => ∃ v L, o = .returned v ∧ Qg (fun v h => ∃ (c0 : Addr), v = (some (.ref c0)) ∧ (Keep h0 h [] ∧ h0.size ≤ c0 ∧ Exa Z h c0 "com/example/realizer/realizer/spectra/Domain" ∧ Fld Z h c0 "com/example/realizer/realizer/spectra/Domain" "from" "I" (.int pa0) ∧ Fld Z h c0 "com/example/realizer/realizer/spectra/Domain" "to" "I" (.int pa1) ∧ Fld Z h c0 "com/example/realizer/realizer/spectra/Domain" "literals" "Ljava/util/List;" (.ref (w 1)) ∧ True)) hB.size v U'.heap L ∧ FrameEnd s o U' L ({ frames := 3, cells := 1, slots := 3, locals := 41 } : Room).cells ({ frames := 3, cells := 1, slots := 3, locals := 41 } : Room).slots) s₁ (mkF m 0 #[.val (.int pa0), .val (.int pa1)] []) by
    obtain ⟨s2, o, g1, g2, g3, g4⟩ := hgo
    refine ⟨s2, o, castTop (?_ : entryFrame m #[(.int pa0), (.int pa1)] 2 = _) g1, g2, g3, g4⟩
    first | (simp [entryFrame, mkF, argsToLocals, Value.category]; done) | rfl
  obtain ⟨T108, h108, X108, e108, E108, A108, D108, -, st108⟩ := newO X0 hx hZ hown (hw _ (List.mem_of_getElem? (i := 11) rfl)) (hw _ (List.mem_of_getElem? (i := 12) rfl)) (hw _ (List.mem_of_getElem? (i := 9) rfl)) e0 (g := (mkF m 0 #[.val (.int pa0), .val (.int pa1)] [])) rfl (hb hby d3_0) (by decide) (by decide)
  obtain ⟨b108, g108⟩ : ∃ z, z = h0.size := ⟨_, rfl⟩
  rw [← g108] at A108 D108 st108
  have gb108 : hB.size ≤ b108 := Nat.le_trans XB.1 (Nat.le_of_eq g108.symm)
  have s0108 : h0.size ≤ b108 := Nat.le_trans (Keep.refl h0 []).1 (Nat.le_of_eq g108.symm)
  have KC108 : Keep h0 h108 [] := (Keep.refl h0 []).ext E108
  have XT108 := own_ext2 XB E108
  refine Go.on (T' := T108) (g' := (mkF m 3 #[.val (.int pa0), .val (.int pa1)] [(.ref b108)])) st108 ?_
  refine Go.on (T' := T108) (g' := (mkF m 4 #[.val (.int pa0), .val (.int pa1)] [(.ref b108), (.ref b108)])) (fun t k => XS.dup X108.here hx rfl (hb hby d3_3) rfl rfl k) ?_
  refine Go.on (T' := T108) (g' := (mkF m 5 #[.val (.int pa0), .val (.int pa1)] [(.int pa0), (.ref b108), (.ref b108)])) (fun t k => XS.iloadN X108.here hx rfl (hb hby d3_4) rfl k) ?_
  refine Go.on (T' := T108) (g' := (mkF m 6 #[.val (.int pa0), .val (.int pa1)] [(.int pa1), (.int pa0), (.ref b108), (.ref b108)])) (fun t k => XS.iloadN X108.here hx rfl (hb hby d3_5) rfl k) ?_
  obtain ⟨_, _, ⟨T109, L109, k109, n109⟩, -, X109, ⟨Lc109, hQ109, l109, y109, z109⟩, st109⟩ := Jvm.LawKit.callS X108 hx (y := (⟨"java/util/List", "of", "()Ljava/util/List;"⟩ : MethodName)) hown (mvT hZ (hw _ (List.mem_of_getElem? (i := 13) rfl))) (mvT hZ (hw _ (List.mem_of_getElem? (i := 14) rfl))) (mvT hZ (hw _ (List.mem_of_getElem? (i := 15) rfl))) (mvT hZ (hw _ (List.mem_of_getElem? (i := 16) rfl))) (by decide) (backOf (W := 4) (rm4_0 l Z a0 hw [] w hB hP h108 XT108) hZ (hw _ (List.mem_of_getElem? (i := 16) rfl)) (hw _ (List.mem_of_getElem? (i := 15) rfl)) (by decide) (by decide)) (g := (mkF m 6 #[.val (.int pa0), .val (.int pa1)] [(.int pa1), (.int pa0), (.ref b108), (.ref b108)])) rfl (by rw [hml]; rfl) (argsL := []) (rest := [(.int pa1), (.int pa0), (.ref b108), (.ref b108)]) (lenOf pd_1 rfl) rfl (by show 2 * 0 + _ ≤ _; exact Nat.le_of_eq rfl) (hb hby d3_6) (fun _ _ => ⟨rfl, e108, (by decide : 1 + 0 ≤ _), (by decide : 3 + 0 ≤ _)⟩)
  dsimp only [Pt.U, Pt.locs, Pt.cells, Pt.slots] at X109 l109 y109 z109 st109 hQ109
  subst l109 y109 z109
  obtain ⟨⟨rfl, e109⟩, N109q⟩ := hQ109
  have N109 := Fr.app N0 N109q
  refine Go.on (T' := T109) (g' := (mkF m 9 #[.val (.int pa0), .val (.int pa1)] [(.ref (w 1)), (.int pa1), (.int pa0), (.ref b108), (.ref b108)])) st109 ?_
  obtain ⟨_, _, ⟨T129, L129, k129, n129⟩, -, X129, ⟨Lc129, hQ129, l129, y129, z129⟩, st129⟩ := X109.specialBack hx (y := (⟨"com/example/realizer/realizer/spectra/Domain", "<init>", "(IILjava/util/List;)V"⟩ : MethodName)) rfl hown (mvT hZ (hw _ (List.mem_of_getElem? (i := 19) rfl))) (mvT hZ (hw _ (List.mem_of_getElem? (i := 20) rfl))) (mvT hZ (hw _ (List.mem_of_getElem? (i := 21) rfl))) (by decide) (backOf (W := 1) (rm5_1 l Z a0 hw [] w hB hP h108 XT108 pa0 pa1 b108 A108 (D108 (Or.inr (hw _ (List.mem_of_getElem? (i := 60) rfl))) (ty := .int) (by decide)) (D108 (Or.inr (hw _ (List.mem_of_getElem? (i := 62) rfl))) (ty := .int) (by decide)) (D108 (Or.inr (hw _ (List.mem_of_getElem? (i := 64) rfl))) (ty := (.object "java/util/List")) (by decide)) gb108 hp0 hp1) hZ (hw _ (List.mem_of_getElem? (i := 21) rfl)) (hw _ (List.mem_of_getElem? (i := 9) rfl)) (by decide) (by decide)) (g := (mkF m 9 #[.val (.int pa0), .val (.int pa1)] [(.ref (w 1)), (.int pa1), (.int pa0), (.ref b108), (.ref b108)])) rfl (by rw [hml]; rfl) (Steps.refl _) (a := b108) (argsL := [(.int pa0), (.int pa1), (.ref (w 1))]) (rest := [(.ref b108)]) (lenOf pd_5 rfl) rfl (by show 2 * 0 + _ ≤ _; exact Nat.le_of_eq rfl) (hb hby d3_9) (fun _ _ => ⟨rfl, e109, (by decide : 1 + 0 ≤ _), (by decide : 3 + 0 ≤ _)⟩)
  dsimp only [Pt.U, Pt.locs, Pt.cells, Pt.slots] at X129 l129 y129 z129 st129 hQ129
  subst l129 y129 z129
  obtain ⟨⟨rfl, K129, fq129_0, fq129_1, fq129_2, fq129_3, -⟩, N129q⟩ := hQ129
  have e129 : T129.heap = T129.heap := rfl
  have N129 := Fr.app N109 N129q
  have XT129 : Ext hB T129.heap := own_extK XT108 K129 (allS gb108 all0)
  have KC129 : Keep h0 T129.heap [] := KC108.trans K129 (allS (Or.inr s0108) all0)
  refine Go.on (T' := T129) (g' := (mkF m 12 #[.val (.int pa0), .val (.int pa1)] [(.ref b108)])) (fun t k => st129.trans k) ?_
  obtain ⟨fs, hr, hrun, hended, hW, hsame⟩ := X129.leave (v := some (.ref b108)) (fun h => by rw [Bd.returns] at h; cases h)
  exact ⟨_, _, retOut X129 hx Bd.returns rfl (Or.inr (Or.inr (Or.inr (Or.inr ⟨rfl, rfl, rfl⟩)))) (hb hby d3_12) hr, hrun, hended, _, _, rfl, ⟨⟨b108, rfl, own_at (P := fun h => Keep h0 h [] ∧ h0.size ≤ b108 ∧ Exa Z h b108 "com/example/realizer/realizer/spectra/Domain" ∧ Fld Z h b108 "com/example/realizer/realizer/spectra/Domain" "from" "I" (.int pa0) ∧ Fld Z h b108 "com/example/realizer/realizer/spectra/Domain" "to" "I" (.int pa1) ∧ Fld Z h b108 "com/example/realizer/realizer/spectra/Domain" "literals" "Ljava/util/List;" (.ref (w 1)) ∧ True) e129 ⟨KC129, s0108, fq129_0, fq129_1, fq129_2, fq129_3, trivial⟩⟩, N129⟩, ⟨_, rfl⟩, hW, hsame.mono (by decide) (by decide)⟩
theorem d1_5 : decode jdk_29_method_69_code 5 = .ok (.iload_n 0, 1) := by decide +kernel
theorem d1_6 : decode jdk_29_method_69_code 6 = .ok (.goto 4, 3) := by decide +kernel
set_option maxRecDepth 65536 in
set_option maxHeartbeats 40000000 in
theorem rm1_1 (l : Launch) (Z : State) (a0 : Array Value) (hw : ∀ d ∈ tables_1, d.before a0 Z = true) (ws : List Jvm.Cond) (w : Nat → Addr) (hB : Heap) (hP : Pins Z hB w) (h0 : Heap) (XB : Ext hB h0) (pa0 : Int32) (pa1 : Int32) (hp0 : ¬ (pa1 < pa0)) :
    MetFree l (⟨"java/lang/Math", "min", "(II)I"⟩ : MethodName) (head1 (Jvm.Cond.code (⟨"java/lang/Math", "min", "(II)I"⟩ : MethodName) jdk_29_method_69_code 2 (some .int) :: ws) ({ frames := 0, cells := 0, slots := 0, locals := 0 } : Room)) (fun a U => a = #[(.int pa0), (.int pa1)] ∧ Z.Warmed39 U.vm ∧ U.heap = h0) (fun _ _ _ _ _ => True) (fun _ U o U' => ∃ v L, o = .returned v ∧ Qg (fun v h => v = (some (.int pa0)) ∧ h = h0) hB.size v U'.heap L ∧ FrameEnd U o U' L ({ frames := 0, cells := 0, slots := 0, locals := 0 } : Room).cells ({ frames := 0, cells := 0, slots := 0, locals := 0 } : Room).slots) := by
  refine MetFree.of_bodySF (Jvm.Free.JP.mathPlain rfl (by decide +kernel)) hisR ?_
  intro p e s m args below meth c s₁ Bd hml0 hP0 hK
  obtain ⟨rfl, hZ, hh⟩ := hP0
  have hx := Bd.exec
  have hby := Bd.bytes
  have hml : c.maxLocals = 2 := hml0
  have hown : s.vm.findClass "java/lang/Math" = some m.cls := findClass_of_methodNamed Bd.named
  have hnm := (name_of_methodNamed Bd.named Bd.method).1
  have X0 : Stand p l e ({ frames := 0, cells := 0, slots := 0, locals := 0 } : Room) s m #[(.int pa0), (.int pa1)] below meth c s₁ [] 0 0 := Stand.of_body Bd
  have e0 : s₁.heap = h0 := by rw [← hh, Bd.state]; rfl
  have N0 := Fr.nil hB.size
  suffices hgo : Go p e below (fun o U' => ∃ v L, o = .returned v ∧ Qg (fun v h => v = (some (.int pa0)) ∧ h = h0) hB.size v U'.heap L ∧ FrameEnd s o U' L ({ frames := 0, cells := 0, slots := 0, locals := 0 } : Room).cells ({ frames := 0, cells := 0, slots := 0, locals := 0 } : Room).slots) s₁ (mkF m 0 #[.val (.int pa0), .val (.int pa1)] []) by
    obtain ⟨s2, o, g1, g2, g3, g4⟩ := hgo
    refine ⟨s2, o, castTop (?_ : entryFrame m #[(.int pa0), (.int pa1)] 2 = _) g1, g2, g3, g4⟩
    first | (simp [entryFrame, mkF, argsToLocals, Value.category]; done) | rfl
  refine Go.on (T' := s₁) (g' := (mkF m 1 #[.val (.int pa0), .val (.int pa1)] [(.int pa0)])) (fun t k => XS.iloadN X0.here hx rfl (hb hby d1_0) rfl k) ?_
  refine Go.on (T' := s₁) (g' := (mkF m 2 #[.val (.int pa0), .val (.int pa1)] [(.int pa1), (.int pa0)])) (fun t k => XS.iloadN X0.here hx rfl (hb hby d1_1) rfl k) ?_
  refine Go.on (T' := s₁) (g' := (mkF m 5 #[.val (.int pa0), .val (.int pa1)] [])) (fun t k => XS.icmpNo X0.here hx rfl (hb hby d1_2) rfl (flt hp0).2.2.1 k) ?_
  refine Go.on (T' := s₁) (g' := (mkF m 6 #[.val (.int pa0), .val (.int pa1)] [(.int pa0)])) (fun t k => XS.iloadN X0.here hx rfl (hb hby d1_5) rfl k) ?_
  refine Go.on (T' := s₁) (g' := (mkF m 10 #[.val (.int pa0), .val (.int pa1)] [(.int pa0)])) (fun t k => XS.goto X0.here hx rfl (pc0 := 6) (pc' := 10) rfl (hb hby d1_6) (by decide) (by decide) k) ?_
  obtain ⟨fs, hr, hrun, hended, hW, hsame⟩ := X0.leave (v := some (.int pa0)) (fun h => by rw [Bd.returns] at h; cases h)
  exact ⟨_, _, retOut X0 hx Bd.returns rfl (Or.inl ⟨rfl, Or.inl rfl, _, rfl⟩) (hb hby d1_10) hr, hrun, hended, _, _, rfl, ⟨⟨rfl, e0⟩, N0⟩, ⟨_, rfl⟩, hW, hsame.mono (by decide) (by decide)⟩
theorem d2_9 : decode jdk_29_method_65_code 9 = .ok (.iload_n 1, 1) := by decide +kernel
set_option maxRecDepth 65536 in
set_option maxHeartbeats 40000000 in
theorem rm2_1 (l : Launch) (Z : State) (a0 : Array Value) (hw : ∀ d ∈ tables_1, d.before a0 Z = true) (ws : List Jvm.Cond) (w : Nat → Addr) (hB : Heap) (hP : Pins Z hB w) (h0 : Heap) (XB : Ext hB h0) (pa0 : Int32) (pa1 : Int32) (hp0 : pa0 < pa1) :
    MetFree l (⟨"java/lang/Math", "max", "(II)I"⟩ : MethodName) (head1 (Jvm.Cond.code (⟨"java/lang/Math", "max", "(II)I"⟩ : MethodName) jdk_29_method_65_code 2 (some .int) :: ws) ({ frames := 0, cells := 0, slots := 0, locals := 0 } : Room)) (fun a U => a = #[(.int pa0), (.int pa1)] ∧ Z.Warmed39 U.vm ∧ U.heap = h0) (fun _ _ _ _ _ => True) (fun _ U o U' => ∃ v L, o = .returned v ∧ Qg (fun v h => v = (some (.int pa1)) ∧ h = h0) hB.size v U'.heap L ∧ FrameEnd U o U' L ({ frames := 0, cells := 0, slots := 0, locals := 0 } : Room).cells ({ frames := 0, cells := 0, slots := 0, locals := 0 } : Room).slots) := by
  refine MetFree.of_bodySF (Jvm.Free.JP.mathPlain rfl (by decide +kernel)) hisR ?_
  intro p e s m args below meth c s₁ Bd hml0 hP0 hK
  obtain ⟨rfl, hZ, hh⟩ := hP0
  have hx := Bd.exec
  have hby := Bd.bytes
  have hml : c.maxLocals = 2 := hml0
  have hown : s.vm.findClass "java/lang/Math" = some m.cls := findClass_of_methodNamed Bd.named
  have hnm := (name_of_methodNamed Bd.named Bd.method).1
  have X0 : Stand p l e ({ frames := 0, cells := 0, slots := 0, locals := 0 } : Room) s m #[(.int pa0), (.int pa1)] below meth c s₁ [] 0 0 := Stand.of_body Bd
  have e0 : s₁.heap = h0 := by rw [← hh, Bd.state]; rfl
  have N0 := Fr.nil hB.size
  suffices hgo : Go p e below (fun o U' => ∃ v L, o = .returned v ∧ Qg (fun v h => v = (some (.int pa1)) ∧ h = h0) hB.size v U'.heap L ∧ FrameEnd s o U' L ({ frames := 0, cells := 0, slots := 0, locals := 0 } : Room).cells ({ frames := 0, cells := 0, slots := 0, locals := 0 } : Room).slots) s₁ (mkF m 0 #[.val (.int pa0), .val (.int pa1)] []) by
    obtain ⟨s2, o, g1, g2, g3, g4⟩ := hgo
    refine ⟨s2, o, castTop (?_ : entryFrame m #[(.int pa0), (.int pa1)] 2 = _) g1, g2, g3, g4⟩
    first | (simp [entryFrame, mkF, argsToLocals, Value.category]; done) | rfl
  refine Go.on (T' := s₁) (g' := (mkF m 1 #[.val (.int pa0), .val (.int pa1)] [(.int pa0)])) (fun t k => XS.iloadN X0.here hx rfl (hb hby d2_0) rfl k) ?_
  refine Go.on (T' := s₁) (g' := (mkF m 2 #[.val (.int pa0), .val (.int pa1)] [(.int pa1), (.int pa0)])) (fun t k => XS.iloadN X0.here hx rfl (hb hby d2_1) rfl k) ?_
  refine Go.on (T' := s₁) (g' := (mkF m 9 #[.val (.int pa0), .val (.int pa1)] [])) (fun t k => XS.icmpYes X0.here hx rfl (pc0 := 2) (pc' := 9) rfl (hb hby d2_2) rfl (tlt hp0).1 (by decide) (by decide) k) ?_
  refine Go.on (T' := s₁) (g' := (mkF m 10 #[.val (.int pa0), .val (.int pa1)] [(.int pa1)])) (fun t k => XS.iloadN X0.here hx rfl (hb hby d2_9) rfl k) ?_
  obtain ⟨fs, hr, hrun, hended, hW, hsame⟩ := X0.leave (v := some (.int pa1)) (fun h => by rw [Bd.returns] at h; cases h)
  exact ⟨_, _, retOut X0 hx Bd.returns rfl (Or.inl ⟨rfl, Or.inl rfl, _, rfl⟩) (hb hby d2_10) hr, hrun, hended, _, _, rfl, ⟨⟨rfl, e0⟩, N0⟩, ⟨_, rfl⟩, hW, hsame.mono (by decide) (by decide)⟩
theorem d11_4 : decode prog_74_method_4_code 4 = .ok (.iconst 1, 1) := by decide +kernel
theorem d11_5 : decode prog_74_method_4_code 5 = .ok (.goto 15, 3) := by decide +kernel
set_option maxRecDepth 65536 in
set_option maxHeartbeats 40000000 in
theorem rm11_1 (l : Launch) (Z : State) (a0 : Array Value) (hw : ∀ d ∈ tables_1, d.before a0 Z = true) (ws : List Jvm.Cond) (w : Nat → Addr) (hB : Heap) (hP : Pins Z hB w) (h0 : Heap) (XB : Ext hB h0) :
    MetFree l (⟨"com/example/realizer/realizer/spectra/Variable", "bits", "(Lcom/example/realizer/realizer/spectra/Domain;)I"⟩ : MethodName) (head1 (Jvm.Cond.code (⟨"com/example/realizer/realizer/spectra/Variable", "bits", "(Lcom/example/realizer/realizer/spectra/Domain;)I"⟩ : MethodName) prog_74_method_4_code 1 (some .int) :: ws) ({ frames := 0, cells := 0, slots := 0, locals := 0 } : Room)) (fun a U => a = #[.null] ∧ Z.Warmed39 U.vm ∧ U.heap = h0) (fun _ _ _ _ _ => True) (fun _ U o U' => ∃ v L, o = .returned v ∧ Qg (fun v h => v = (some (.int (1 : Int32))) ∧ h = h0) hB.size v U'.heap L ∧ FrameEnd U o U' L ({ frames := 0, cells := 0, slots := 0, locals := 0 } : Room).cells ({ frames := 0, cells := 0, slots := 0, locals := 0 } : Room).slots) := by
  refine MetFree.of_bodySF (plainFor_of_name pn_8) hisR ?_
  intro p e s m args below meth c s₁ Bd hml0 hP0 hK
  obtain ⟨rfl, hZ, hh⟩ := hP0
  have hx := Bd.exec
  have hby := Bd.bytes
  have hml : c.maxLocals = 1 := hml0
  have hown : s.vm.findClass "com/example/realizer/realizer/spectra/Variable" = some m.cls := findClass_of_methodNamed Bd.named
  have hnm := (name_of_methodNamed Bd.named Bd.method).1
  have X0 : Stand p l e ({ frames := 0, cells := 0, slots := 0, locals := 0 } : Room) s m #[.null] below meth c s₁ [] 0 0 := Stand.of_body Bd
  have e0 : s₁.heap = h0 := by rw [← hh, Bd.state]; rfl
  have N0 := Fr.nil hB.size
  suffices hgo : Go p e below (fun o U' => ∃ v L, o = .returned v ∧ Qg (fun v h => v = (some (.int (1 : Int32))) ∧ h = h0) hB.size v U'.heap L ∧ FrameEnd s o U' L ({ frames := 0, cells := 0, slots := 0, locals := 0 } : Room).cells ({ frames := 0, cells := 0, slots := 0, locals := 0 } : Room).slots) s₁ (mkF m 0 #[.val .null] []) by
    obtain ⟨s2, o, g1, g2, g3, g4⟩ := hgo
    refine ⟨s2, o, castTop (?_ : entryFrame m #[.null] 1 = _) g1, g2, g3, g4⟩
    first | (simp [entryFrame, mkF, argsToLocals, Value.category]; done) | rfl
  refine Go.on (T' := s₁) (g' := (mkF m 1 #[.val .null] [.null])) (fun t k => XS.aloadN X0.here hx rfl (hb hby d11_0) rfl rfl k) ?_
  refine Go.on (T' := s₁) (g' := (mkF m 4 #[.val .null] [])) (fun t k => XS.ifnonnullNo X0.here hx rfl (hb hby d11_1) rfl k) ?_
  refine Go.on (T' := s₁) (g' := (mkF m 5 #[.val .null] [(.int (1 : Int32))])) (fun t k => XS.iconst X0.here hx rfl (hb hby d11_4) k) ?_
  refine Go.on (T' := s₁) (g' := (mkF m 20 #[.val .null] [(.int (1 : Int32))])) (fun t k => XS.goto X0.here hx rfl (pc0 := 5) (pc' := 20) rfl (hb hby d11_5) (by decide) (by decide) k) ?_
  obtain ⟨fs, hr, hrun, hended, hW, hsame⟩ := X0.leave (v := some (.int (1 : Int32))) (fun h => by rw [Bd.returns] at h; cases h)
  exact ⟨_, _, retOut X0 hx Bd.returns rfl (Or.inl ⟨rfl, Or.inl rfl, _, rfl⟩) (hb hby d11_20) hr, hrun, hended, _, _, rfl, ⟨⟨rfl, e0⟩, N0⟩, ⟨_, rfl⟩, hW, hsame.mono (by decide) (by decide)⟩
theorem pn_9 : plainName "com/example/realizer/realizer/spectra/VariableBitsPinLaw" = true := by first | (simp [plainName, overriddenIn]; done) | decide +kernel
set_option maxRecDepth 65536 in
set_option maxHeartbeats 40000000 in
theorem rm0 (l : Launch) (Z : State) (a0 : Array Value) (hw : ∀ d ∈ tables_1, d.before a0 Z = true) (ws : List Jvm.Cond) (w : Nat → Addr) (hB : Heap) (hP : Pins Z hB w) (h0 : Heap) (XB : Ext hB h0) (i0 : Int32) (i1 : Int32) (i2 : Int32) :
    MetFree l x (head1 (Jvm.Cond.code x code maxLocals ret :: ws) room_1) (fun a U => a = #[(.int i0), (.int i1), (.int i2)] ∧ Z.Warmed39 U.vm ∧ U.heap = h0) (fun _ _ _ _ _ => True) (fun _ U o U' => ∃ v L, o = .returned v ∧ (v = some (.int (1 : Int32)) ∧ Fr hB.size L) ∧ FrameEnd U o U' L 16 128) := by
  refine MetFree.of_bodySF (plainFor_of_name pn_9) hisR ?_
  intro p e s m args below meth c s₁ Bd hml0 hP0 hK
  obtain ⟨rfl, hZ, hh⟩ := hP0
  have hx := Bd.exec
  have hby := Bd.bytes
  have hml : c.maxLocals = 11 := hml0
  have hown : s.vm.findClass "com/example/realizer/realizer/spectra/VariableBitsPinLaw" = some m.cls := findClass_of_methodNamed Bd.named
  have hnm := (name_of_methodNamed Bd.named Bd.method).1
  have X0 : Stand p l e room_1 s m #[(.int i0), (.int i1), (.int i2)] below meth c s₁ [] 0 0 := Stand.of_body Bd
  have e0 : s₁.heap = h0 := by rw [← hh, Bd.state]; rfl
  have N0 := Fr.nil hB.size
  suffices hgo : ∀ G : Outcome → State → Prop, G = (fun o U' => ∃ v L, o = .returned v ∧ (v = some (.int (1 : Int32)) ∧ Fr hB.size L) ∧ FrameEnd s o U' L 16 128) → Go p e below G s₁ (mkF m 0 #[.val (.int i0), .val (.int i1), .val (.int i2), .unset, .unset, .unset, .unset, .unset, .unset, .unset, .unset] []) by
    obtain ⟨s2, o, g1, g2, g3, g4⟩ := hgo _ rfl
    refine ⟨s2, o, castTop (?_ : entryFrame m #[(.int i0), (.int i1), (.int i2)] maxLocals = _) g1, g2, g3, g4⟩
    first | (simp [entryFrame, mkF, argsToLocals, Value.category, maxLocals]; done) | rfl
  intro G hG
  refine Go.on (T' := s₁) (g' := (mkF m 1 #[.val (.int i0), .val (.int i1), .val (.int i2), .unset, .unset, .unset, .unset, .unset, .unset, .unset, .unset] [(.int i2)])) (fun t k => XS.iloadN X0.here hx rfl (hb hby at_0) rfl k) ?_
  refine Go.on (T' := s₁) (g' := (mkF m 2 #[.val (.int i0), .val (.int i1), .val (.int i2), .unset, .unset, .unset, .unset, .unset, .unset, .unset, .unset] [(.int (1 : Int32)), (.int i2)])) (fun t k => XS.iconst X0.here hx rfl (hb hby at_1) k) ?_
  refine Go.on (T' := s₁) (g' := (mkF m 3 #[.val (.int i0), .val (.int i1), .val (.int i2), .unset, .unset, .unset, .unset, .unset, .unset, .unset, .unset] [(.int (i2 &&& (1 : Int32)))])) (fun t k => XS.iand X0.here hx rfl (hb hby at_2) rfl k) ?_
  by_cases h1 : (i2 &&& (1 : Int32)) = (0 : Int32)
  · skip
    refine Go.on (T' := s₁) (g' := (mkF m 20 #[.val (.int i0), .val (.int i1), .val (.int i2), .unset, .unset, .unset, .unset, .unset, .unset, .unset, .unset] [])) (fun t k => XS.ifYes X0.here hx rfl (pc0 := 3) (pc' := 20) rfl (hb hby at_3) rfl ((if0 _ _).trans (teq h1).1) (by decide) (by decide) k) ?_
    refine Go.on (T' := s₁) (g' := (mkF m 21 #[.val (.int i0), .val (.int i1), .val (.int i2), .unset, .unset, .unset, .unset, .unset, .unset, .unset, .unset] [(.int i0)])) (fun t k => XS.iloadN X0.here hx rfl (hb hby at_20) rfl k) ?_
    refine Go.on (T' := s₁) (g' := (mkF m 22 #[.val (.int i0), .val (.int i1), .val (.int i2), .unset, .unset, .unset, .unset, .unset, .unset, .unset, .unset] [(.int i1), (.int i0)])) (fun t k => XS.iloadN X0.here hx rfl (hb hby at_21) rfl k) ?_
    by_cases h3 : i1 < i0
    · skip
      obtain ⟨_, _, ⟨T4, L4, k4, n4⟩, -, X4, ⟨Lc4, hQ4, l4, y4, z4⟩, st4⟩ := Jvm.LawKit.callS X0 hx (y := (⟨"java/lang/Math", "min", "(II)I"⟩ : MethodName)) hown (mvT hZ (hw _ (List.mem_of_getElem? (i := 0) rfl))) (mvT hZ (hw _ (List.mem_of_getElem? (i := 1) rfl))) (mvT hZ (hw _ (List.mem_of_getElem? (i := 2) rfl))) (mvT hZ (hw _ (List.mem_of_getElem? (i := 3) rfl))) (by decide) (backOf (W := 0) (rm1_0 l Z a0 hw [] w hB hP h0 XB i0 i1 h3) hZ (hw _ (List.mem_of_getElem? (i := 3) rfl)) (hw _ (List.mem_of_getElem? (i := 2) rfl)) (by decide) (by decide)) (g := (mkF m 22 #[.val (.int i0), .val (.int i1), .val (.int i2), .unset, .unset, .unset, .unset, .unset, .unset, .unset, .unset] [(.int i1), (.int i0)])) rfl (by rw [hml]; rfl) (argsL := [(.int i0), (.int i1)]) (rest := []) (lenOf pd_0 rfl) rfl (by show 2 * 0 + _ ≤ _; exact Nat.le_of_eq rfl) (hb hby at_22) (fun _ _ => ⟨rfl, e0, (by decide : 0 + 0 ≤ _), (by decide : 0 + 0 ≤ _)⟩)
      dsimp only [Pt.U, Pt.locs, Pt.cells, Pt.slots] at X4 l4 y4 z4 st4 hQ4
      subst l4 y4 z4
      obtain ⟨⟨rfl, e4⟩, N4q⟩ := hQ4
      have N4 := Fr.app N0 N4q
      refine Go.on (T' := T4) (g' := (mkF m 25 #[.val (.int i0), .val (.int i1), .val (.int i2), .unset, .unset, .unset, .unset, .unset, .unset, .unset, .unset] [(.int i1)])) st4 ?_
      refine Go.on (T' := T4) (g' := (mkF m 26 #[.val (.int i0), .val (.int i1), .val (.int i2), .val (.int i1), .unset, .unset, .unset, .unset, .unset, .unset, .unset] [])) (fun t k => XS.istoreN X4.here hx rfl (hb hby at_25) rfl (l' := #[.val (.int i0), .val (.int i1), .val (.int i2), .val (.int i1), .unset, .unset, .unset, .unset, .unset, .unset, .unset]) rfl k) ?_
      refine Go.on (T' := T4) (g' := (mkF m 27 #[.val (.int i0), .val (.int i1), .val (.int i2), .val (.int i1), .unset, .unset, .unset, .unset, .unset, .unset, .unset] [(.int i0)])) (fun t k => XS.iloadN X4.here hx rfl (hb hby at_26) rfl k) ?_
      refine Go.on (T' := T4) (g' := (mkF m 28 #[.val (.int i0), .val (.int i1), .val (.int i2), .val (.int i1), .unset, .unset, .unset, .unset, .unset, .unset, .unset] [(.int i1), (.int i0)])) (fun t k => XS.iloadN X4.here hx rfl (hb hby at_27) rfl k) ?_
      obtain ⟨_, _, ⟨T6, L6, k6, n6⟩, -, X6, ⟨Lc6, hQ6, l6, y6, z6⟩, st6⟩ := Jvm.LawKit.callS X4 hx (y := (⟨"java/lang/Math", "max", "(II)I"⟩ : MethodName)) hown (mvT hZ (hw _ (List.mem_of_getElem? (i := 4) rfl))) (mvT hZ (hw _ (List.mem_of_getElem? (i := 5) rfl))) (mvT hZ (hw _ (List.mem_of_getElem? (i := 2) rfl))) (mvT hZ (hw _ (List.mem_of_getElem? (i := 6) rfl))) (by decide) (backOf (W := 0) (rm2_0 l Z a0 hw [] w hB hP h0 XB i0 i1 (own_asym h3)) hZ (hw _ (List.mem_of_getElem? (i := 6) rfl)) (hw _ (List.mem_of_getElem? (i := 2) rfl)) (by decide) (by decide)) (g := (mkF m 28 #[.val (.int i0), .val (.int i1), .val (.int i2), .val (.int i1), .unset, .unset, .unset, .unset, .unset, .unset, .unset] [(.int i1), (.int i0)])) rfl (by rw [hml]; rfl) (argsL := [(.int i0), (.int i1)]) (rest := []) (lenOf pd_0 rfl) rfl (by show 2 * 0 + _ ≤ _; exact Nat.le_of_eq rfl) (hb hby at_28) (fun _ _ => ⟨rfl, e4, (by decide : 0 + 0 ≤ _), (by decide : 0 + 0 ≤ _)⟩)
      dsimp only [Pt.U, Pt.locs, Pt.cells, Pt.slots] at X6 l6 y6 z6 st6 hQ6
      subst l6 y6 z6
      obtain ⟨⟨rfl, e6⟩, N6q⟩ := hQ6
      have N6 := Fr.app N4 N6q
      refine Go.on (T' := T6) (g' := (mkF m 31 #[.val (.int i0), .val (.int i1), .val (.int i2), .val (.int i1), .unset, .unset, .unset, .unset, .unset, .unset, .unset] [(.int i0)])) st6 ?_
      refine Go.on (T' := T6) (g' := (mkF m 33 #[.val (.int i0), .val (.int i1), .val (.int i2), .val (.int i1), .val (.int i0), .unset, .unset, .unset, .unset, .unset, .unset] [])) (fun t k => XS.istore X6.here hx rfl (hb hby at_31) rfl (l' := #[.val (.int i0), .val (.int i1), .val (.int i2), .val (.int i1), .val (.int i0), .unset, .unset, .unset, .unset, .unset, .unset]) rfl k) ?_
      refine Go.on (T' := T6) (g' := (mkF m 34 #[.val (.int i0), .val (.int i1), .val (.int i2), .val (.int i1), .val (.int i0), .unset, .unset, .unset, .unset, .unset, .unset] [(.int i1)])) (fun t k => XS.iloadN X6.here hx rfl (hb hby at_33) rfl k) ?_
      refine Go.on (T' := T6) (g' := (mkF m 36 #[.val (.int i0), .val (.int i1), .val (.int i2), .val (.int i1), .val (.int i0), .unset, .unset, .unset, .unset, .unset, .unset] [(.int i0), (.int i1)])) (fun t k => XS.iload X6.here hx rfl (hb hby at_34) rfl k) ?_
      by_cases h49 : own_as Z "java/util/ImmutableCollections$ListN" "java/util/ImmutableCollections$List12"
      · skip
        obtain ⟨_, _, ⟨T73, L73, k73, n73⟩, -, X73, ⟨Lc73, hQ73, l73, y73, z73⟩, st73⟩ := Jvm.LawKit.callS X6 hx (y := (⟨"com/example/realizer/realizer/spectra/Domain", "range", "(II)Lcom/example/realizer/realizer/spectra/Domain;"⟩ : MethodName)) hown (mvT hZ (hw _ (List.mem_of_getElem? (i := 7) rfl))) (mvT hZ (hw _ (List.mem_of_getElem? (i := 8) rfl))) (mvT hZ (hw _ (List.mem_of_getElem? (i := 9) rfl))) (mvT hZ (hw _ (List.mem_of_getElem? (i := 10) rfl))) (by decide) (backOf (W := 0) (rm3_0 l Z a0 hw [] w hB hP h0 XB i1 i0 (own_asym h3) h49) hZ (hw _ (List.mem_of_getElem? (i := 10) rfl)) (hw _ (List.mem_of_getElem? (i := 9) rfl)) (by decide) (by decide)) (g := (mkF m 36 #[.val (.int i0), .val (.int i1), .val (.int i2), .val (.int i1), .val (.int i0), .unset, .unset, .unset, .unset, .unset, .unset] [(.int i0), (.int i1)])) rfl (by rw [hml]; rfl) (argsL := [(.int i1), (.int i0)]) (rest := []) (lenOf pd_6 rfl) rfl (by show 2 * 0 + _ ≤ _; exact Nat.le_of_eq rfl) (hb hby at_36) (fun _ _ => ⟨rfl, e6, (by decide : 0 + 1 ≤ _), (by decide : 0 + 3 ≤ _)⟩)
        dsimp only [Pt.U, Pt.locs, Pt.cells, Pt.slots] at X73 l73 y73 z73 st73 hQ73
        subst l73 y73 z73
        obtain ⟨⟨c73_0, rfl, K73, fq73_0, fq73_1, fq73_2, fq73_3, fq73_4, -⟩, N73q⟩ := hQ73
        have e73 : T73.heap = T73.heap := rfl
        have N73 := Fr.app N6 N73q
        have XT73 : Ext hB T73.heap := own_extK XB K73 all0
        refine Go.on (T' := T73) (g' := (mkF m 39 #[.val (.int i0), .val (.int i1), .val (.int i2), .val (.int i1), .val (.int i0), .unset, .unset, .unset, .unset, .unset, .unset] [(.ref c73_0)])) st73 ?_
        refine Go.on (T' := T73) (g' := (mkF m 41 #[.val (.int i0), .val (.int i1), .val (.int i2), .val (.int i1), .val (.int i0), .val (.ref c73_0), .unset, .unset, .unset, .unset, .unset] [])) (fun t k => XS.astore X73.here hx rfl (hb hby at_39) rfl rfl (l' := #[.val (.int i0), .val (.int i1), .val (.int i2), .val (.int i1), .val (.int i0), .val (.ref c73_0), .unset, .unset, .unset, .unset, .unset]) rfl k) ?_
        refine Go.on (T' := T73) (g' := (mkF m 43 #[.val (.int i0), .val (.int i1), .val (.int i2), .val (.int i1), .val (.int i0), .val (.ref c73_0), .unset, .unset, .unset, .unset, .unset] [(.int i0)])) (fun t k => XS.iload X73.here hx rfl (hb hby at_41) rfl k) ?_
        refine Go.on (T' := T73) (g' := (mkF m 44 #[.val (.int i0), .val (.int i1), .val (.int i2), .val (.int i1), .val (.int i0), .val (.ref c73_0), .unset, .unset, .unset, .unset, .unset] [(.long (i0.toInt64))])) (fun t k => XS.i2l X73.here hx rfl (hb hby at_43) rfl k) ?_
        refine Go.on (T' := T73) (g' := (mkF m 45 #[.val (.int i0), .val (.int i1), .val (.int i2), .val (.int i1), .val (.int i0), .val (.ref c73_0), .unset, .unset, .unset, .unset, .unset] [(.int i1), (.long (i0.toInt64))])) (fun t k => XS.iloadN X73.here hx rfl (hb hby at_44) rfl k) ?_
        refine Go.on (T' := T73) (g' := (mkF m 46 #[.val (.int i0), .val (.int i1), .val (.int i2), .val (.int i1), .val (.int i0), .val (.ref c73_0), .unset, .unset, .unset, .unset, .unset] [(.long (i1.toInt64)), (.long (i0.toInt64))])) (fun t k => XS.i2l X73.here hx rfl (hb hby at_45) rfl k) ?_
        refine Go.on (T' := T73) (g' := (mkF m 47 #[.val (.int i0), .val (.int i1), .val (.int i2), .val (.int i1), .val (.int i0), .val (.ref c73_0), .unset, .unset, .unset, .unset, .unset] [(.long ((i0.toInt64) - (i1.toInt64)))])) (fun t k => XS.lsub X73.here hx rfl (hb hby at_46) rfl k) ?_
        refine Go.on (T' := T73) (g' := (mkF m 48 #[.val (.int i0), .val (.int i1), .val (.int i2), .val (.int i1), .val (.int i0), .val (.ref c73_0), .unset, .unset, .unset, .unset, .unset] [(.long (1 : Int64)), (.long ((i0.toInt64) - (i1.toInt64)))])) (fun t k => XS.lconst X73.here hx rfl (hb hby at_47) k) ?_
        refine Go.on (T' := T73) (g' := (mkF m 49 #[.val (.int i0), .val (.int i1), .val (.int i2), .val (.int i1), .val (.int i0), .val (.ref c73_0), .unset, .unset, .unset, .unset, .unset] [(.long (((i0.toInt64) - (i1.toInt64)) + (1 : Int64)))])) (fun t k => XS.ladd X73.here hx rfl (hb hby at_48) rfl k) ?_
        refine Go.on (T' := T73) (g' := (mkF m 51 #[.val (.int i0), .val (.int i1), .val (.int i2), .val (.int i1), .val (.int i0), .val (.ref c73_0), .val (.long (((i0.toInt64) - (i1.toInt64)) + (1 : Int64))), .second, .unset, .unset, .unset] [])) (fun t k => XS.lstore X73.here hx rfl (hb hby at_49) rfl (l' := #[.val (.int i0), .val (.int i1), .val (.int i2), .val (.int i1), .val (.int i0), .val (.ref c73_0), .val (.long (((i0.toInt64) - (i1.toInt64)) + (1 : Int64))), .second, .unset, .unset, .unset]) rfl k) ?_
        refine Go.on (T' := T73) (g' := (mkF m 53 #[.val (.int i0), .val (.int i1), .val (.int i2), .val (.int i1), .val (.int i0), .val (.ref c73_0), .val (.long (((i0.toInt64) - (i1.toInt64)) + (1 : Int64))), .second, .unset, .unset, .unset] [(.ref c73_0)])) (fun t k => XS.aload X73.here hx rfl (hb hby at_51) rfl rfl k) ?_
        have h74 := own_bits i1 i0 (own_asym h3)
        obtain ⟨_, _, ⟨T106, L106, k106, n106⟩, -, X106, ⟨Lc106, hQ106, l106, y106, z106⟩, st106⟩ := Jvm.LawKit.callS X73 hx (y := (⟨"com/example/realizer/realizer/spectra/Variable", "bits", "(Lcom/example/realizer/realizer/spectra/Domain;)I"⟩ : MethodName)) hown (mvT hZ (hw _ (List.mem_of_getElem? (i := 65) rfl))) (mvT hZ (hw _ (List.mem_of_getElem? (i := 66) rfl))) (mvT hZ (hw _ (List.mem_of_getElem? (i := 67) rfl))) (mvT hZ (hw _ (List.mem_of_getElem? (i := 68) rfl))) (by decide) (backOf (W := 0) (rm11_0 l Z a0 hw [] w hB hP T73.heap XT73 c73_0 i1 i0 fq73_1 fq73_2 fq73_3 fq73_4 (Nat.le_trans XB.1 fq73_0) h74.1) hZ (hw _ (List.mem_of_getElem? (i := 68) rfl)) (hw _ (List.mem_of_getElem? (i := 67) rfl)) (by decide) (by decide)) (g := (mkF m 53 #[.val (.int i0), .val (.int i1), .val (.int i2), .val (.int i1), .val (.int i0), .val (.ref c73_0), .val (.long (((i0.toInt64) - (i1.toInt64)) + (1 : Int64))), .second, .unset, .unset, .unset] [(.ref c73_0)])) rfl (by rw [hml]; rfl) (argsL := [(.ref c73_0)]) (rest := []) (lenOf pd_10 rfl) rfl (by show 2 * 0 + _ ≤ _; exact Nat.le_of_eq rfl) (hb hby at_53) (fun _ _ => ⟨rfl, e73, (by decide : 1 + 0 ≤ _), (by decide : 3 + 0 ≤ _)⟩)
        dsimp only [Pt.U, Pt.locs, Pt.cells, Pt.slots] at X106 l106 y106 z106 st106 hQ106
        subst l106 y106 z106
        obtain ⟨⟨rfl, e106⟩, N106q⟩ := hQ106
        have N106 := Fr.app N73 N106q
        refine Go.on (T' := T106) (g' := (mkF m 56 #[.val (.int i0), .val (.int i1), .val (.int i2), .val (.int i1), .val (.int i0), .val (.ref c73_0), .val (.long (((i0.toInt64) - (i1.toInt64)) + (1 : Int64))), .second, .unset, .unset, .unset] [(.int ((64 : Int32) - ((32 : Int32) + (own_nlz (((((i0.toInt64) - (i1.toInt64)) + (1 : Int64)) - (1 : Int64)).toInt32)))))])) st106 ?_
        refine Go.on (T' := T106) (g' := (mkF m 58 #[.val (.int i0), .val (.int i1), .val (.int i2), .val (.int i1), .val (.int i0), .val (.ref c73_0), .val (.long (((i0.toInt64) - (i1.toInt64)) + (1 : Int64))), .second, .val (.int ((64 : Int32) - ((32 : Int32) + (own_nlz (((((i0.toInt64) - (i1.toInt64)) + (1 : Int64)) - (1 : Int64)).toInt32))))), .unset, .unset] [])) (fun t k => XS.istore X106.here hx rfl (hb hby at_56) rfl (l' := #[.val (.int i0), .val (.int i1), .val (.int i2), .val (.int i1), .val (.int i0), .val (.ref c73_0), .val (.long (((i0.toInt64) - (i1.toInt64)) + (1 : Int64))), .second, .val (.int ((64 : Int32) - ((32 : Int32) + (own_nlz (((((i0.toInt64) - (i1.toInt64)) + (1 : Int64)) - (1 : Int64)).toInt32))))), .unset, .unset]) rfl k) ?_
        refine Go.on (T' := T106) (g' := (mkF m 60 #[.val (.int i0), .val (.int i1), .val (.int i2), .val (.int i1), .val (.int i0), .val (.ref c73_0), .val (.long (((i0.toInt64) - (i1.toInt64)) + (1 : Int64))), .second, .val (.int ((64 : Int32) - ((32 : Int32) + (own_nlz (((((i0.toInt64) - (i1.toInt64)) + (1 : Int64)) - (1 : Int64)).toInt32))))), .unset, .unset] [(.int ((64 : Int32) - ((32 : Int32) + (own_nlz (((((i0.toInt64) - (i1.toInt64)) + (1 : Int64)) - (1 : Int64)).toInt32)))))])) (fun t k => XS.iload X106.here hx rfl (hb hby at_58) rfl k) ?_
        refine Go.on (T' := T106) (g' := (mkF m 63 #[.val (.int i0), .val (.int i1), .val (.int i2), .val (.int i1), .val (.int i0), .val (.ref c73_0), .val (.long (((i0.toInt64) - (i1.toInt64)) + (1 : Int64))), .second, .val (.int ((64 : Int32) - ((32 : Int32) + (own_nlz (((((i0.toInt64) - (i1.toInt64)) + (1 : Int64)) - (1 : Int64)).toInt32))))), .unset, .unset] [])) (fun t k => XS.ifNo X106.here hx rfl (hb hby at_60) rfl ((if0 _ _).trans (flt h74.2.1).1) k) ?_
        refine Go.on (T' := T106) (g' := (mkF m 65 #[.val (.int i0), .val (.int i1), .val (.int i2), .val (.int i1), .val (.int i0), .val (.ref c73_0), .val (.long (((i0.toInt64) - (i1.toInt64)) + (1 : Int64))), .second, .val (.int ((64 : Int32) - ((32 : Int32) + (own_nlz (((((i0.toInt64) - (i1.toInt64)) + (1 : Int64)) - (1 : Int64)).toInt32))))), .unset, .unset] [(.int ((64 : Int32) - ((32 : Int32) + (own_nlz (((((i0.toInt64) - (i1.toInt64)) + (1 : Int64)) - (1 : Int64)).toInt32)))))])) (fun t k => XS.iload X106.here hx rfl (hb hby at_63) rfl k) ?_
        refine Go.on (T' := T106) (g' := (mkF m 67 #[.val (.int i0), .val (.int i1), .val (.int i2), .val (.int i1), .val (.int i0), .val (.ref c73_0), .val (.long (((i0.toInt64) - (i1.toInt64)) + (1 : Int64))), .second, .val (.int ((64 : Int32) - ((32 : Int32) + (own_nlz (((((i0.toInt64) - (i1.toInt64)) + (1 : Int64)) - (1 : Int64)).toInt32))))), .unset, .unset] [(.int (32 : Int32)), (.int ((64 : Int32) - ((32 : Int32) + (own_nlz (((((i0.toInt64) - (i1.toInt64)) + (1 : Int64)) - (1 : Int64)).toInt32)))))])) (fun t k => XS.bipush X106.here hx rfl (hb hby at_65) k) ?_
        refine Go.on (T' := T106) (g' := (mkF m 72 #[.val (.int i0), .val (.int i1), .val (.int i2), .val (.int i1), .val (.int i0), .val (.ref c73_0), .val (.long (((i0.toInt64) - (i1.toInt64)) + (1 : Int64))), .second, .val (.int ((64 : Int32) - ((32 : Int32) + (own_nlz (((((i0.toInt64) - (i1.toInt64)) + (1 : Int64)) - (1 : Int64)).toInt32))))), .unset, .unset] [])) (fun t k => XS.icmpYes X106.here hx rfl (pc0 := 67) (pc' := 72) rfl (hb hby at_67) rfl (flt h74.2.2.1).2.2.2 (by decide) (by decide) k) ?_
        refine Go.on (T' := T106) (g' := (mkF m 73 #[.val (.int i0), .val (.int i1), .val (.int i2), .val (.int i1), .val (.int i0), .val (.ref c73_0), .val (.long (((i0.toInt64) - (i1.toInt64)) + (1 : Int64))), .second, .val (.int ((64 : Int32) - ((32 : Int32) + (own_nlz (((((i0.toInt64) - (i1.toInt64)) + (1 : Int64)) - (1 : Int64)).toInt32))))), .unset, .unset] [(.long (1 : Int64))])) (fun t k => XS.lconst X106.here hx rfl (hb hby at_72) k) ?_
        refine Go.on (T' := T106) (g' := (mkF m 75 #[.val (.int i0), .val (.int i1), .val (.int i2), .val (.int i1), .val (.int i0), .val (.ref c73_0), .val (.long (((i0.toInt64) - (i1.toInt64)) + (1 : Int64))), .second, .val (.int ((64 : Int32) - ((32 : Int32) + (own_nlz (((((i0.toInt64) - (i1.toInt64)) + (1 : Int64)) - (1 : Int64)).toInt32))))), .unset, .unset] [(.int ((64 : Int32) - ((32 : Int32) + (own_nlz (((((i0.toInt64) - (i1.toInt64)) + (1 : Int64)) - (1 : Int64)).toInt32))))), (.long (1 : Int64))])) (fun t k => XS.iload X106.here hx rfl (hb hby at_73) rfl k) ?_
        refine Go.on (T' := T106) (g' := (mkF m 76 #[.val (.int i0), .val (.int i1), .val (.int i2), .val (.int i1), .val (.int i0), .val (.ref c73_0), .val (.long (((i0.toInt64) - (i1.toInt64)) + (1 : Int64))), .second, .val (.int ((64 : Int32) - ((32 : Int32) + (own_nlz (((((i0.toInt64) - (i1.toInt64)) + (1 : Int64)) - (1 : Int64)).toInt32))))), .unset, .unset] [(.long ((1 : Int64) <<< (((64 : Int32) - ((32 : Int32) + (own_nlz (((((i0.toInt64) - (i1.toInt64)) + (1 : Int64)) - (1 : Int64)).toInt32)))) &&& 0x3f).toInt64))])) (fun t k => XS.lshl X106.here hx rfl (hb hby at_75) rfl k) ?_
        refine Go.on (T' := T106) (g' := (mkF m 78 #[.val (.int i0), .val (.int i1), .val (.int i2), .val (.int i1), .val (.int i0), .val (.ref c73_0), .val (.long (((i0.toInt64) - (i1.toInt64)) + (1 : Int64))), .second, .val (.int ((64 : Int32) - ((32 : Int32) + (own_nlz (((((i0.toInt64) - (i1.toInt64)) + (1 : Int64)) - (1 : Int64)).toInt32))))), .unset, .unset] [(.long (((i0.toInt64) - (i1.toInt64)) + (1 : Int64))), (.long ((1 : Int64) <<< (((64 : Int32) - ((32 : Int32) + (own_nlz (((((i0.toInt64) - (i1.toInt64)) + (1 : Int64)) - (1 : Int64)).toInt32)))) &&& 0x3f).toInt64))])) (fun t k => XS.lload X106.here hx rfl (hb hby at_76) rfl k) ?_
        refine Go.on (T' := T106) (g' := (mkF m 79 #[.val (.int i0), .val (.int i1), .val (.int i2), .val (.int i1), .val (.int i0), .val (.ref c73_0), .val (.long (((i0.toInt64) - (i1.toInt64)) + (1 : Int64))), .second, .val (.int ((64 : Int32) - ((32 : Int32) + (own_nlz (((((i0.toInt64) - (i1.toInt64)) + (1 : Int64)) - (1 : Int64)).toInt32))))), .unset, .unset] [(.int (lcmpW ((1 : Int64) <<< (((64 : Int32) - ((32 : Int32) + (own_nlz (((((i0.toInt64) - (i1.toInt64)) + (1 : Int64)) - (1 : Int64)).toInt32)))) &&& 0x3f).toInt64) (((i0.toInt64) - (i1.toInt64)) + (1 : Int64))))])) (fun t k => XS.lcmp X106.here hx rfl (hb hby at_78) rfl k) ?_
        refine Go.on (T' := T106) (g' := (mkF m 82 #[.val (.int i0), .val (.int i1), .val (.int i2), .val (.int i1), .val (.int i0), .val (.ref c73_0), .val (.long (((i0.toInt64) - (i1.toInt64)) + (1 : Int64))), .second, .val (.int ((64 : Int32) - ((32 : Int32) + (own_nlz (((((i0.toInt64) - (i1.toInt64)) + (1 : Int64)) - (1 : Int64)).toInt32))))), .unset, .unset] [])) (fun t k => XS.ifNo X106.here hx rfl (hb hby at_79) rfl ((if0 _ _).trans (flt h74.2.2.2.1).1) k) ?_
        refine Go.on (T' := T106) (g' := (mkF m 83 #[.val (.int i0), .val (.int i1), .val (.int i2), .val (.int i1), .val (.int i0), .val (.ref c73_0), .val (.long (((i0.toInt64) - (i1.toInt64)) + (1 : Int64))), .second, .val (.int ((64 : Int32) - ((32 : Int32) + (own_nlz (((((i0.toInt64) - (i1.toInt64)) + (1 : Int64)) - (1 : Int64)).toInt32))))), .unset, .unset] [(.int (1 : Int32))])) (fun t k => XS.iconst X106.here hx rfl (hb hby at_82) k) ?_
        refine Go.on (T' := T106) (g' := (mkF m 87 #[.val (.int i0), .val (.int i1), .val (.int i2), .val (.int i1), .val (.int i0), .val (.ref c73_0), .val (.long (((i0.toInt64) - (i1.toInt64)) + (1 : Int64))), .second, .val (.int ((64 : Int32) - ((32 : Int32) + (own_nlz (((((i0.toInt64) - (i1.toInt64)) + (1 : Int64)) - (1 : Int64)).toInt32))))), .unset, .unset] [(.int (1 : Int32))])) (fun t k => XS.goto X106.here hx rfl (pc0 := 83) (pc' := 87) rfl (hb hby at_83) (by decide) (by decide) k) ?_
        refine Go.on (T' := T106) (g' := (mkF m 89 #[.val (.int i0), .val (.int i1), .val (.int i2), .val (.int i1), .val (.int i0), .val (.ref c73_0), .val (.long (((i0.toInt64) - (i1.toInt64)) + (1 : Int64))), .second, .val (.int ((64 : Int32) - ((32 : Int32) + (own_nlz (((((i0.toInt64) - (i1.toInt64)) + (1 : Int64)) - (1 : Int64)).toInt32))))), .val (.int (1 : Int32)), .unset] [])) (fun t k => XS.istore X106.here hx rfl (hb hby at_87) rfl (l' := #[.val (.int i0), .val (.int i1), .val (.int i2), .val (.int i1), .val (.int i0), .val (.ref c73_0), .val (.long (((i0.toInt64) - (i1.toInt64)) + (1 : Int64))), .second, .val (.int ((64 : Int32) - ((32 : Int32) + (own_nlz (((((i0.toInt64) - (i1.toInt64)) + (1 : Int64)) - (1 : Int64)).toInt32))))), .val (.int (1 : Int32)), .unset]) rfl k) ?_
        refine Go.on (T' := T106) (g' := (mkF m 91 #[.val (.int i0), .val (.int i1), .val (.int i2), .val (.int i1), .val (.int i0), .val (.ref c73_0), .val (.long (((i0.toInt64) - (i1.toInt64)) + (1 : Int64))), .second, .val (.int ((64 : Int32) - ((32 : Int32) + (own_nlz (((((i0.toInt64) - (i1.toInt64)) + (1 : Int64)) - (1 : Int64)).toInt32))))), .val (.int (1 : Int32)), .unset] [(.int ((64 : Int32) - ((32 : Int32) + (own_nlz (((((i0.toInt64) - (i1.toInt64)) + (1 : Int64)) - (1 : Int64)).toInt32)))))])) (fun t k => XS.iload X106.here hx rfl (hb hby at_89) rfl k) ?_
        by_cases h107 : ((64 : Int32) - ((32 : Int32) + (own_nlz (((((i0.toInt64) - (i1.toInt64)) + (1 : Int64)) - (1 : Int64)).toInt32)))) = (0 : Int32)
        · skip
          refine Go.on (T' := T106) (g' := (mkF m 106 #[.val (.int i0), .val (.int i1), .val (.int i2), .val (.int i1), .val (.int i0), .val (.ref c73_0), .val (.long (((i0.toInt64) - (i1.toInt64)) + (1 : Int64))), .second, .val (.int ((64 : Int32) - ((32 : Int32) + (own_nlz (((((i0.toInt64) - (i1.toInt64)) + (1 : Int64)) - (1 : Int64)).toInt32))))), .val (.int (1 : Int32)), .unset] [])) (fun t k => XS.ifYes X106.here hx rfl (pc0 := 91) (pc' := 106) rfl (hb hby at_91) rfl ((if0 _ _).trans (teq h107).1) (by decide) (by decide) k) ?_
          refine Go.on (T' := T106) (g' := (mkF m 107 #[.val (.int i0), .val (.int i1), .val (.int i2), .val (.int i1), .val (.int i0), .val (.ref c73_0), .val (.long (((i0.toInt64) - (i1.toInt64)) + (1 : Int64))), .second, .val (.int ((64 : Int32) - ((32 : Int32) + (own_nlz (((((i0.toInt64) - (i1.toInt64)) + (1 : Int64)) - (1 : Int64)).toInt32))))), .val (.int (1 : Int32)), .unset] [(.int (1 : Int32))])) (fun t k => XS.iconst X106.here hx rfl (hb hby at_106) k) ?_
          refine Go.on (T' := T106) (g' := (mkF m 111 #[.val (.int i0), .val (.int i1), .val (.int i2), .val (.int i1), .val (.int i0), .val (.ref c73_0), .val (.long (((i0.toInt64) - (i1.toInt64)) + (1 : Int64))), .second, .val (.int ((64 : Int32) - ((32 : Int32) + (own_nlz (((((i0.toInt64) - (i1.toInt64)) + (1 : Int64)) - (1 : Int64)).toInt32))))), .val (.int (1 : Int32)), .unset] [(.int (1 : Int32))])) (fun t k => XS.goto X106.here hx rfl (pc0 := 107) (pc' := 111) rfl (hb hby at_107) (by decide) (by decide) k) ?_
          refine Go.on (T' := T106) (g' := (mkF m 113 #[.val (.int i0), .val (.int i1), .val (.int i2), .val (.int i1), .val (.int i0), .val (.ref c73_0), .val (.long (((i0.toInt64) - (i1.toInt64)) + (1 : Int64))), .second, .val (.int ((64 : Int32) - ((32 : Int32) + (own_nlz (((((i0.toInt64) - (i1.toInt64)) + (1 : Int64)) - (1 : Int64)).toInt32))))), .val (.int (1 : Int32)), .val (.int (1 : Int32))] [])) (fun t k => XS.istore X106.here hx rfl (hb hby at_111) rfl (l' := #[.val (.int i0), .val (.int i1), .val (.int i2), .val (.int i1), .val (.int i0), .val (.ref c73_0), .val (.long (((i0.toInt64) - (i1.toInt64)) + (1 : Int64))), .second, .val (.int ((64 : Int32) - ((32 : Int32) + (own_nlz (((((i0.toInt64) - (i1.toInt64)) + (1 : Int64)) - (1 : Int64)).toInt32))))), .val (.int (1 : Int32)), .val (.int (1 : Int32))]) rfl k) ?_
          refine Go.on (T' := T106) (g' := (mkF m 115 #[.val (.int i0), .val (.int i1), .val (.int i2), .val (.int i1), .val (.int i0), .val (.ref c73_0), .val (.long (((i0.toInt64) - (i1.toInt64)) + (1 : Int64))), .second, .val (.int ((64 : Int32) - ((32 : Int32) + (own_nlz (((((i0.toInt64) - (i1.toInt64)) + (1 : Int64)) - (1 : Int64)).toInt32))))), .val (.int (1 : Int32)), .val (.int (1 : Int32))] [(.int (1 : Int32))])) (fun t k => XS.iload X106.here hx rfl (hb hby at_113) rfl k) ?_
          refine Go.on (T' := T106) (g' := (mkF m 118 #[.val (.int i0), .val (.int i1), .val (.int i2), .val (.int i1), .val (.int i0), .val (.ref c73_0), .val (.long (((i0.toInt64) - (i1.toInt64)) + (1 : Int64))), .second, .val (.int ((64 : Int32) - ((32 : Int32) + (own_nlz (((((i0.toInt64) - (i1.toInt64)) + (1 : Int64)) - (1 : Int64)).toInt32))))), .val (.int (1 : Int32)), .val (.int (1 : Int32))] [])) (fun t k => XS.ifNo X106.here hx rfl (hb hby at_115) rfl ((if0 _ _).trans (feq (by decide : ¬ ((1 : Int32) = (0 : Int32)))).1) k) ?_
          refine Go.on (T' := T106) (g' := (mkF m 120 #[.val (.int i0), .val (.int i1), .val (.int i2), .val (.int i1), .val (.int i0), .val (.ref c73_0), .val (.long (((i0.toInt64) - (i1.toInt64)) + (1 : Int64))), .second, .val (.int ((64 : Int32) - ((32 : Int32) + (own_nlz (((((i0.toInt64) - (i1.toInt64)) + (1 : Int64)) - (1 : Int64)).toInt32))))), .val (.int (1 : Int32)), .val (.int (1 : Int32))] [(.int (1 : Int32))])) (fun t k => XS.iload X106.here hx rfl (hb hby at_118) rfl k) ?_
          refine Go.on (T' := T106) (g' := (mkF m 123 #[.val (.int i0), .val (.int i1), .val (.int i2), .val (.int i1), .val (.int i0), .val (.ref c73_0), .val (.long (((i0.toInt64) - (i1.toInt64)) + (1 : Int64))), .second, .val (.int ((64 : Int32) - ((32 : Int32) + (own_nlz (((((i0.toInt64) - (i1.toInt64)) + (1 : Int64)) - (1 : Int64)).toInt32))))), .val (.int (1 : Int32)), .val (.int (1 : Int32))] [])) (fun t k => XS.ifNo X106.here hx rfl (hb hby at_120) rfl ((if0 _ _).trans (feq (by decide : ¬ ((1 : Int32) = (0 : Int32)))).1) k) ?_
          refine Go.on (T' := T106) (g' := (mkF m 124 #[.val (.int i0), .val (.int i1), .val (.int i2), .val (.int i1), .val (.int i0), .val (.ref c73_0), .val (.long (((i0.toInt64) - (i1.toInt64)) + (1 : Int64))), .second, .val (.int ((64 : Int32) - ((32 : Int32) + (own_nlz (((((i0.toInt64) - (i1.toInt64)) + (1 : Int64)) - (1 : Int64)).toInt32))))), .val (.int (1 : Int32)), .val (.int (1 : Int32))] [(.int (1 : Int32))])) (fun t k => XS.iconst X106.here hx rfl (hb hby at_123) k) ?_
          refine Go.on (T' := T106) (g' := (mkF m 128 #[.val (.int i0), .val (.int i1), .val (.int i2), .val (.int i1), .val (.int i0), .val (.ref c73_0), .val (.long (((i0.toInt64) - (i1.toInt64)) + (1 : Int64))), .second, .val (.int ((64 : Int32) - ((32 : Int32) + (own_nlz (((((i0.toInt64) - (i1.toInt64)) + (1 : Int64)) - (1 : Int64)).toInt32))))), .val (.int (1 : Int32)), .val (.int (1 : Int32))] [(.int (1 : Int32))])) (fun t k => XS.goto X106.here hx rfl (pc0 := 124) (pc' := 128) rfl (hb hby at_124) (by decide) (by decide) k) ?_
          subst hG
          obtain ⟨fs, hr, hrun, hended, hW, hsame⟩ := X106.leave (v := some (.int (1 : Int32))) (fun h => by rw [Bd.returns] at h; cases h)
          exact ⟨_, _, retN X106 hx (t := .boolean) Bd.returns (by simp) (hb hby at_128) hr, hrun, hended, _, _, rfl, ⟨rfl, N106⟩, ⟨_, rfl⟩, hW, hsame.mono (by decide) (by decide)⟩
        · skip
          refine Go.on (T' := T106) (g' := (mkF m 94 #[.val (.int i0), .val (.int i1), .val (.int i2), .val (.int i1), .val (.int i0), .val (.ref c73_0), .val (.long (((i0.toInt64) - (i1.toInt64)) + (1 : Int64))), .second, .val (.int ((64 : Int32) - ((32 : Int32) + (own_nlz (((((i0.toInt64) - (i1.toInt64)) + (1 : Int64)) - (1 : Int64)).toInt32))))), .val (.int (1 : Int32)), .unset] [])) (fun t k => XS.ifNo X106.here hx rfl (hb hby at_91) rfl ((if0 _ _).trans (feq h107).1) k) ?_
          refine Go.on (T' := T106) (g' := (mkF m 95 #[.val (.int i0), .val (.int i1), .val (.int i2), .val (.int i1), .val (.int i0), .val (.ref c73_0), .val (.long (((i0.toInt64) - (i1.toInt64)) + (1 : Int64))), .second, .val (.int ((64 : Int32) - ((32 : Int32) + (own_nlz (((((i0.toInt64) - (i1.toInt64)) + (1 : Int64)) - (1 : Int64)).toInt32))))), .val (.int (1 : Int32)), .unset] [(.long (1 : Int64))])) (fun t k => XS.lconst X106.here hx rfl (hb hby at_94) k) ?_
          refine Go.on (T' := T106) (g' := (mkF m 97 #[.val (.int i0), .val (.int i1), .val (.int i2), .val (.int i1), .val (.int i0), .val (.ref c73_0), .val (.long (((i0.toInt64) - (i1.toInt64)) + (1 : Int64))), .second, .val (.int ((64 : Int32) - ((32 : Int32) + (own_nlz (((((i0.toInt64) - (i1.toInt64)) + (1 : Int64)) - (1 : Int64)).toInt32))))), .val (.int (1 : Int32)), .unset] [(.int ((64 : Int32) - ((32 : Int32) + (own_nlz (((((i0.toInt64) - (i1.toInt64)) + (1 : Int64)) - (1 : Int64)).toInt32))))), (.long (1 : Int64))])) (fun t k => XS.iload X106.here hx rfl (hb hby at_95) rfl k) ?_
          refine Go.on (T' := T106) (g' := (mkF m 98 #[.val (.int i0), .val (.int i1), .val (.int i2), .val (.int i1), .val (.int i0), .val (.ref c73_0), .val (.long (((i0.toInt64) - (i1.toInt64)) + (1 : Int64))), .second, .val (.int ((64 : Int32) - ((32 : Int32) + (own_nlz (((((i0.toInt64) - (i1.toInt64)) + (1 : Int64)) - (1 : Int64)).toInt32))))), .val (.int (1 : Int32)), .unset] [(.int (1 : Int32)), (.int ((64 : Int32) - ((32 : Int32) + (own_nlz (((((i0.toInt64) - (i1.toInt64)) + (1 : Int64)) - (1 : Int64)).toInt32))))), (.long (1 : Int64))])) (fun t k => XS.iconst X106.here hx rfl (hb hby at_97) k) ?_
          refine Go.on (T' := T106) (g' := (mkF m 99 #[.val (.int i0), .val (.int i1), .val (.int i2), .val (.int i1), .val (.int i0), .val (.ref c73_0), .val (.long (((i0.toInt64) - (i1.toInt64)) + (1 : Int64))), .second, .val (.int ((64 : Int32) - ((32 : Int32) + (own_nlz (((((i0.toInt64) - (i1.toInt64)) + (1 : Int64)) - (1 : Int64)).toInt32))))), .val (.int (1 : Int32)), .unset] [(.int (((64 : Int32) - ((32 : Int32) + (own_nlz (((((i0.toInt64) - (i1.toInt64)) + (1 : Int64)) - (1 : Int64)).toInt32)))) - (1 : Int32))), (.long (1 : Int64))])) (fun t k => XS.isub X106.here hx rfl (hb hby at_98) rfl k) ?_
          refine Go.on (T' := T106) (g' := (mkF m 100 #[.val (.int i0), .val (.int i1), .val (.int i2), .val (.int i1), .val (.int i0), .val (.ref c73_0), .val (.long (((i0.toInt64) - (i1.toInt64)) + (1 : Int64))), .second, .val (.int ((64 : Int32) - ((32 : Int32) + (own_nlz (((((i0.toInt64) - (i1.toInt64)) + (1 : Int64)) - (1 : Int64)).toInt32))))), .val (.int (1 : Int32)), .unset] [(.long ((1 : Int64) <<< ((((64 : Int32) - ((32 : Int32) + (own_nlz (((((i0.toInt64) - (i1.toInt64)) + (1 : Int64)) - (1 : Int64)).toInt32)))) - (1 : Int32)) &&& 0x3f).toInt64))])) (fun t k => XS.lshl X106.here hx rfl (hb hby at_99) rfl k) ?_
          refine Go.on (T' := T106) (g' := (mkF m 102 #[.val (.int i0), .val (.int i1), .val (.int i2), .val (.int i1), .val (.int i0), .val (.ref c73_0), .val (.long (((i0.toInt64) - (i1.toInt64)) + (1 : Int64))), .second, .val (.int ((64 : Int32) - ((32 : Int32) + (own_nlz (((((i0.toInt64) - (i1.toInt64)) + (1 : Int64)) - (1 : Int64)).toInt32))))), .val (.int (1 : Int32)), .unset] [(.long (((i0.toInt64) - (i1.toInt64)) + (1 : Int64))), (.long ((1 : Int64) <<< ((((64 : Int32) - ((32 : Int32) + (own_nlz (((((i0.toInt64) - (i1.toInt64)) + (1 : Int64)) - (1 : Int64)).toInt32)))) - (1 : Int32)) &&& 0x3f).toInt64))])) (fun t k => XS.lload X106.here hx rfl (hb hby at_100) rfl k) ?_
          refine Go.on (T' := T106) (g' := (mkF m 103 #[.val (.int i0), .val (.int i1), .val (.int i2), .val (.int i1), .val (.int i0), .val (.ref c73_0), .val (.long (((i0.toInt64) - (i1.toInt64)) + (1 : Int64))), .second, .val (.int ((64 : Int32) - ((32 : Int32) + (own_nlz (((((i0.toInt64) - (i1.toInt64)) + (1 : Int64)) - (1 : Int64)).toInt32))))), .val (.int (1 : Int32)), .unset] [(.int (lcmpW ((1 : Int64) <<< ((((64 : Int32) - ((32 : Int32) + (own_nlz (((((i0.toInt64) - (i1.toInt64)) + (1 : Int64)) - (1 : Int64)).toInt32)))) - (1 : Int32)) &&& 0x3f).toInt64) (((i0.toInt64) - (i1.toInt64)) + (1 : Int64))))])) (fun t k => XS.lcmp X106.here hx rfl (hb hby at_102) rfl k) ?_
          refine Go.on (T' := T106) (g' := (mkF m 106 #[.val (.int i0), .val (.int i1), .val (.int i2), .val (.int i1), .val (.int i0), .val (.ref c73_0), .val (.long (((i0.toInt64) - (i1.toInt64)) + (1 : Int64))), .second, .val (.int ((64 : Int32) - ((32 : Int32) + (own_nlz (((((i0.toInt64) - (i1.toInt64)) + (1 : Int64)) - (1 : Int64)).toInt32))))), .val (.int (1 : Int32)), .unset] [])) (fun t k => XS.ifNo X106.here hx rfl (hb hby at_103) rfl ((if0 _ _).trans (tlt (h74.2.2.2.2 h107)).2.1) k) ?_
          refine Go.on (T' := T106) (g' := (mkF m 107 #[.val (.int i0), .val (.int i1), .val (.int i2), .val (.int i1), .val (.int i0), .val (.ref c73_0), .val (.long (((i0.toInt64) - (i1.toInt64)) + (1 : Int64))), .second, .val (.int ((64 : Int32) - ((32 : Int32) + (own_nlz (((((i0.toInt64) - (i1.toInt64)) + (1 : Int64)) - (1 : Int64)).toInt32))))), .val (.int (1 : Int32)), .unset] [(.int (1 : Int32))])) (fun t k => XS.iconst X106.here hx rfl (hb hby at_106) k) ?_
          refine Go.on (T' := T106) (g' := (mkF m 111 #[.val (.int i0), .val (.int i1), .val (.int i2), .val (.int i1), .val (.int i0), .val (.ref c73_0), .val (.long (((i0.toInt64) - (i1.toInt64)) + (1 : Int64))), .second, .val (.int ((64 : Int32) - ((32 : Int32) + (own_nlz (((((i0.toInt64) - (i1.toInt64)) + (1 : Int64)) - (1 : Int64)).toInt32))))), .val (.int (1 : Int32)), .unset] [(.int (1 : Int32))])) (fun t k => XS.goto X106.here hx rfl (pc0 := 107) (pc' := 111) rfl (hb hby at_107) (by decide) (by decide) k) ?_
          refine Go.on (T' := T106) (g' := (mkF m 113 #[.val (.int i0), .val (.int i1), .val (.int i2), .val (.int i1), .val (.int i0), .val (.ref c73_0), .val (.long (((i0.toInt64) - (i1.toInt64)) + (1 : Int64))), .second, .val (.int ((64 : Int32) - ((32 : Int32) + (own_nlz (((((i0.toInt64) - (i1.toInt64)) + (1 : Int64)) - (1 : Int64)).toInt32))))), .val (.int (1 : Int32)), .val (.int (1 : Int32))] [])) (fun t k => XS.istore X106.here hx rfl (hb hby at_111) rfl (l' := #[.val (.int i0), .val (.int i1), .val (.int i2), .val (.int i1), .val (.int i0), .val (.ref c73_0), .val (.long (((i0.toInt64) - (i1.toInt64)) + (1 : Int64))), .second, .val (.int ((64 : Int32) - ((32 : Int32) + (own_nlz (((((i0.toInt64) - (i1.toInt64)) + (1 : Int64)) - (1 : Int64)).toInt32))))), .val (.int (1 : Int32)), .val (.int (1 : Int32))]) rfl k) ?_
          refine Go.on (T' := T106) (g' := (mkF m 115 #[.val (.int i0), .val (.int i1), .val (.int i2), .val (.int i1), .val (.int i0), .val (.ref c73_0), .val (.long (((i0.toInt64) - (i1.toInt64)) + (1 : Int64))), .second, .val (.int ((64 : Int32) - ((32 : Int32) + (own_nlz (((((i0.toInt64) - (i1.toInt64)) + (1 : Int64)) - (1 : Int64)).toInt32))))), .val (.int (1 : Int32)), .val (.int (1 : Int32))] [(.int (1 : Int32))])) (fun t k => XS.iload X106.here hx rfl (hb hby at_113) rfl k) ?_
          refine Go.on (T' := T106) (g' := (mkF m 118 #[.val (.int i0), .val (.int i1), .val (.int i2), .val (.int i1), .val (.int i0), .val (.ref c73_0), .val (.long (((i0.toInt64) - (i1.toInt64)) + (1 : Int64))), .second, .val (.int ((64 : Int32) - ((32 : Int32) + (own_nlz (((((i0.toInt64) - (i1.toInt64)) + (1 : Int64)) - (1 : Int64)).toInt32))))), .val (.int (1 : Int32)), .val (.int (1 : Int32))] [])) (fun t k => XS.ifNo X106.here hx rfl (hb hby at_115) rfl ((if0 _ _).trans (feq (by decide : ¬ ((1 : Int32) = (0 : Int32)))).1) k) ?_
          refine Go.on (T' := T106) (g' := (mkF m 120 #[.val (.int i0), .val (.int i1), .val (.int i2), .val (.int i1), .val (.int i0), .val (.ref c73_0), .val (.long (((i0.toInt64) - (i1.toInt64)) + (1 : Int64))), .second, .val (.int ((64 : Int32) - ((32 : Int32) + (own_nlz (((((i0.toInt64) - (i1.toInt64)) + (1 : Int64)) - (1 : Int64)).toInt32))))), .val (.int (1 : Int32)), .val (.int (1 : Int32))] [(.int (1 : Int32))])) (fun t k => XS.iload X106.here hx rfl (hb hby at_118) rfl k) ?_
          refine Go.on (T' := T106) (g' := (mkF m 123 #[.val (.int i0), .val (.int i1), .val (.int i2), .val (.int i1), .val (.int i0), .val (.ref c73_0), .val (.long (((i0.toInt64) - (i1.toInt64)) + (1 : Int64))), .second, .val (.int ((64 : Int32) - ((32 : Int32) + (own_nlz (((((i0.toInt64) - (i1.toInt64)) + (1 : Int64)) - (1 : Int64)).toInt32))))), .val (.int (1 : Int32)), .val (.int (1 : Int32))] [])) (fun t k => XS.ifNo X106.here hx rfl (hb hby at_120) rfl ((if0 _ _).trans (feq (by decide : ¬ ((1 : Int32) = (0 : Int32)))).1) k) ?_
          refine Go.on (T' := T106) (g' := (mkF m 124 #[.val (.int i0), .val (.int i1), .val (.int i2), .val (.int i1), .val (.int i0), .val (.ref c73_0), .val (.long (((i0.toInt64) - (i1.toInt64)) + (1 : Int64))), .second, .val (.int ((64 : Int32) - ((32 : Int32) + (own_nlz (((((i0.toInt64) - (i1.toInt64)) + (1 : Int64)) - (1 : Int64)).toInt32))))), .val (.int (1 : Int32)), .val (.int (1 : Int32))] [(.int (1 : Int32))])) (fun t k => XS.iconst X106.here hx rfl (hb hby at_123) k) ?_
          refine Go.on (T' := T106) (g' := (mkF m 128 #[.val (.int i0), .val (.int i1), .val (.int i2), .val (.int i1), .val (.int i0), .val (.ref c73_0), .val (.long (((i0.toInt64) - (i1.toInt64)) + (1 : Int64))), .second, .val (.int ((64 : Int32) - ((32 : Int32) + (own_nlz (((((i0.toInt64) - (i1.toInt64)) + (1 : Int64)) - (1 : Int64)).toInt32))))), .val (.int (1 : Int32)), .val (.int (1 : Int32))] [(.int (1 : Int32))])) (fun t k => XS.goto X106.here hx rfl (pc0 := 124) (pc' := 128) rfl (hb hby at_124) (by decide) (by decide) k) ?_
          subst hG
          obtain ⟨fs, hr, hrun, hended, hW, hsame⟩ := X106.leave (v := some (.int (1 : Int32))) (fun h => by rw [Bd.returns] at h; cases h)
          exact ⟨_, _, retN X106 hx (t := .boolean) Bd.returns (by simp) (hb hby at_128) hr, hrun, hended, _, _, rfl, ⟨rfl, N106⟩, ⟨_, rfl⟩, hW, hsame.mono (by decide) (by decide)⟩
      · skip
        obtain ⟨_, _, ⟨T130, L130, k130, n130⟩, -, X130, ⟨Lc130, hQ130, l130, y130, z130⟩, st130⟩ := Jvm.LawKit.callS X6 hx (y := (⟨"com/example/realizer/realizer/spectra/Domain", "range", "(II)Lcom/example/realizer/realizer/spectra/Domain;"⟩ : MethodName)) hown (mvT hZ (hw _ (List.mem_of_getElem? (i := 7) rfl))) (mvT hZ (hw _ (List.mem_of_getElem? (i := 8) rfl))) (mvT hZ (hw _ (List.mem_of_getElem? (i := 9) rfl))) (mvT hZ (hw _ (List.mem_of_getElem? (i := 10) rfl))) (by decide) (backOf (W := 0) (rm3_1 l Z a0 hw [] w hB hP h0 XB i1 i0 (own_asym h3) h49) hZ (hw _ (List.mem_of_getElem? (i := 10) rfl)) (hw _ (List.mem_of_getElem? (i := 9) rfl)) (by decide) (by decide)) (g := (mkF m 36 #[.val (.int i0), .val (.int i1), .val (.int i2), .val (.int i1), .val (.int i0), .unset, .unset, .unset, .unset, .unset, .unset] [(.int i0), (.int i1)])) rfl (by rw [hml]; rfl) (argsL := [(.int i1), (.int i0)]) (rest := []) (lenOf pd_6 rfl) rfl (by show 2 * 0 + _ ≤ _; exact Nat.le_of_eq rfl) (hb hby at_36) (fun _ _ => ⟨rfl, e6, (by decide : 0 + 1 ≤ _), (by decide : 0 + 3 ≤ _)⟩)
        dsimp only [Pt.U, Pt.locs, Pt.cells, Pt.slots] at X130 l130 y130 z130 st130 hQ130
        subst l130 y130 z130
        obtain ⟨⟨c130_0, rfl, K130, fq130_0, fq130_1, fq130_2, fq130_3, fq130_4, -⟩, N130q⟩ := hQ130
        have e130 : T130.heap = T130.heap := rfl
        have N130 := Fr.app N6 N130q
        have XT130 : Ext hB T130.heap := own_extK XB K130 all0
        refine Go.on (T' := T130) (g' := (mkF m 39 #[.val (.int i0), .val (.int i1), .val (.int i2), .val (.int i1), .val (.int i0), .unset, .unset, .unset, .unset, .unset, .unset] [(.ref c130_0)])) st130 ?_
        refine Go.on (T' := T130) (g' := (mkF m 41 #[.val (.int i0), .val (.int i1), .val (.int i2), .val (.int i1), .val (.int i0), .val (.ref c130_0), .unset, .unset, .unset, .unset, .unset] [])) (fun t k => XS.astore X130.here hx rfl (hb hby at_39) rfl rfl (l' := #[.val (.int i0), .val (.int i1), .val (.int i2), .val (.int i1), .val (.int i0), .val (.ref c130_0), .unset, .unset, .unset, .unset, .unset]) rfl k) ?_
        refine Go.on (T' := T130) (g' := (mkF m 43 #[.val (.int i0), .val (.int i1), .val (.int i2), .val (.int i1), .val (.int i0), .val (.ref c130_0), .unset, .unset, .unset, .unset, .unset] [(.int i0)])) (fun t k => XS.iload X130.here hx rfl (hb hby at_41) rfl k) ?_
        refine Go.on (T' := T130) (g' := (mkF m 44 #[.val (.int i0), .val (.int i1), .val (.int i2), .val (.int i1), .val (.int i0), .val (.ref c130_0), .unset, .unset, .unset, .unset, .unset] [(.long (i0.toInt64))])) (fun t k => XS.i2l X130.here hx rfl (hb hby at_43) rfl k) ?_
        refine Go.on (T' := T130) (g' := (mkF m 45 #[.val (.int i0), .val (.int i1), .val (.int i2), .val (.int i1), .val (.int i0), .val (.ref c130_0), .unset, .unset, .unset, .unset, .unset] [(.int i1), (.long (i0.toInt64))])) (fun t k => XS.iloadN X130.here hx rfl (hb hby at_44) rfl k) ?_
        refine Go.on (T' := T130) (g' := (mkF m 46 #[.val (.int i0), .val (.int i1), .val (.int i2), .val (.int i1), .val (.int i0), .val (.ref c130_0), .unset, .unset, .unset, .unset, .unset] [(.long (i1.toInt64)), (.long (i0.toInt64))])) (fun t k => XS.i2l X130.here hx rfl (hb hby at_45) rfl k) ?_
        refine Go.on (T' := T130) (g' := (mkF m 47 #[.val (.int i0), .val (.int i1), .val (.int i2), .val (.int i1), .val (.int i0), .val (.ref c130_0), .unset, .unset, .unset, .unset, .unset] [(.long ((i0.toInt64) - (i1.toInt64)))])) (fun t k => XS.lsub X130.here hx rfl (hb hby at_46) rfl k) ?_
        refine Go.on (T' := T130) (g' := (mkF m 48 #[.val (.int i0), .val (.int i1), .val (.int i2), .val (.int i1), .val (.int i0), .val (.ref c130_0), .unset, .unset, .unset, .unset, .unset] [(.long (1 : Int64)), (.long ((i0.toInt64) - (i1.toInt64)))])) (fun t k => XS.lconst X130.here hx rfl (hb hby at_47) k) ?_
        refine Go.on (T' := T130) (g' := (mkF m 49 #[.val (.int i0), .val (.int i1), .val (.int i2), .val (.int i1), .val (.int i0), .val (.ref c130_0), .unset, .unset, .unset, .unset, .unset] [(.long (((i0.toInt64) - (i1.toInt64)) + (1 : Int64)))])) (fun t k => XS.ladd X130.here hx rfl (hb hby at_48) rfl k) ?_
        refine Go.on (T' := T130) (g' := (mkF m 51 #[.val (.int i0), .val (.int i1), .val (.int i2), .val (.int i1), .val (.int i0), .val (.ref c130_0), .val (.long (((i0.toInt64) - (i1.toInt64)) + (1 : Int64))), .second, .unset, .unset, .unset] [])) (fun t k => XS.lstore X130.here hx rfl (hb hby at_49) rfl (l' := #[.val (.int i0), .val (.int i1), .val (.int i2), .val (.int i1), .val (.int i0), .val (.ref c130_0), .val (.long (((i0.toInt64) - (i1.toInt64)) + (1 : Int64))), .second, .unset, .unset, .unset]) rfl k) ?_
        refine Go.on (T' := T130) (g' := (mkF m 53 #[.val (.int i0), .val (.int i1), .val (.int i2), .val (.int i1), .val (.int i0), .val (.ref c130_0), .val (.long (((i0.toInt64) - (i1.toInt64)) + (1 : Int64))), .second, .unset, .unset, .unset] [(.ref c130_0)])) (fun t k => XS.aload X130.here hx rfl (hb hby at_51) rfl rfl k) ?_
        have h131 := own_bits i1 i0 (own_asym h3)
        obtain ⟨_, _, ⟨T132, L132, k132, n132⟩, -, X132, ⟨Lc132, hQ132, l132, y132, z132⟩, st132⟩ := Jvm.LawKit.callS X130 hx (y := (⟨"com/example/realizer/realizer/spectra/Variable", "bits", "(Lcom/example/realizer/realizer/spectra/Domain;)I"⟩ : MethodName)) hown (mvT hZ (hw _ (List.mem_of_getElem? (i := 65) rfl))) (mvT hZ (hw _ (List.mem_of_getElem? (i := 66) rfl))) (mvT hZ (hw _ (List.mem_of_getElem? (i := 67) rfl))) (mvT hZ (hw _ (List.mem_of_getElem? (i := 68) rfl))) (by decide) (backOf (W := 0) (rm11_0 l Z a0 hw [] w hB hP T130.heap XT130 c130_0 i1 i0 fq130_1 fq130_2 fq130_3 fq130_4 (Nat.le_trans XB.1 fq130_0) h131.1) hZ (hw _ (List.mem_of_getElem? (i := 68) rfl)) (hw _ (List.mem_of_getElem? (i := 67) rfl)) (by decide) (by decide)) (g := (mkF m 53 #[.val (.int i0), .val (.int i1), .val (.int i2), .val (.int i1), .val (.int i0), .val (.ref c130_0), .val (.long (((i0.toInt64) - (i1.toInt64)) + (1 : Int64))), .second, .unset, .unset, .unset] [(.ref c130_0)])) rfl (by rw [hml]; rfl) (argsL := [(.ref c130_0)]) (rest := []) (lenOf pd_10 rfl) rfl (by show 2 * 0 + _ ≤ _; exact Nat.le_of_eq rfl) (hb hby at_53) (fun _ _ => ⟨rfl, e130, (by decide : 1 + 0 ≤ _), (by decide : 3 + 0 ≤ _)⟩)
        dsimp only [Pt.U, Pt.locs, Pt.cells, Pt.slots] at X132 l132 y132 z132 st132 hQ132
        subst l132 y132 z132
        obtain ⟨⟨rfl, e132⟩, N132q⟩ := hQ132
        have N132 := Fr.app N130 N132q
        refine Go.on (T' := T132) (g' := (mkF m 56 #[.val (.int i0), .val (.int i1), .val (.int i2), .val (.int i1), .val (.int i0), .val (.ref c130_0), .val (.long (((i0.toInt64) - (i1.toInt64)) + (1 : Int64))), .second, .unset, .unset, .unset] [(.int ((64 : Int32) - ((32 : Int32) + (own_nlz (((((i0.toInt64) - (i1.toInt64)) + (1 : Int64)) - (1 : Int64)).toInt32)))))])) st132 ?_
        refine Go.on (T' := T132) (g' := (mkF m 58 #[.val (.int i0), .val (.int i1), .val (.int i2), .val (.int i1), .val (.int i0), .val (.ref c130_0), .val (.long (((i0.toInt64) - (i1.toInt64)) + (1 : Int64))), .second, .val (.int ((64 : Int32) - ((32 : Int32) + (own_nlz (((((i0.toInt64) - (i1.toInt64)) + (1 : Int64)) - (1 : Int64)).toInt32))))), .unset, .unset] [])) (fun t k => XS.istore X132.here hx rfl (hb hby at_56) rfl (l' := #[.val (.int i0), .val (.int i1), .val (.int i2), .val (.int i1), .val (.int i0), .val (.ref c130_0), .val (.long (((i0.toInt64) - (i1.toInt64)) + (1 : Int64))), .second, .val (.int ((64 : Int32) - ((32 : Int32) + (own_nlz (((((i0.toInt64) - (i1.toInt64)) + (1 : Int64)) - (1 : Int64)).toInt32))))), .unset, .unset]) rfl k) ?_
        refine Go.on (T' := T132) (g' := (mkF m 60 #[.val (.int i0), .val (.int i1), .val (.int i2), .val (.int i1), .val (.int i0), .val (.ref c130_0), .val (.long (((i0.toInt64) - (i1.toInt64)) + (1 : Int64))), .second, .val (.int ((64 : Int32) - ((32 : Int32) + (own_nlz (((((i0.toInt64) - (i1.toInt64)) + (1 : Int64)) - (1 : Int64)).toInt32))))), .unset, .unset] [(.int ((64 : Int32) - ((32 : Int32) + (own_nlz (((((i0.toInt64) - (i1.toInt64)) + (1 : Int64)) - (1 : Int64)).toInt32)))))])) (fun t k => XS.iload X132.here hx rfl (hb hby at_58) rfl k) ?_
        refine Go.on (T' := T132) (g' := (mkF m 63 #[.val (.int i0), .val (.int i1), .val (.int i2), .val (.int i1), .val (.int i0), .val (.ref c130_0), .val (.long (((i0.toInt64) - (i1.toInt64)) + (1 : Int64))), .second, .val (.int ((64 : Int32) - ((32 : Int32) + (own_nlz (((((i0.toInt64) - (i1.toInt64)) + (1 : Int64)) - (1 : Int64)).toInt32))))), .unset, .unset] [])) (fun t k => XS.ifNo X132.here hx rfl (hb hby at_60) rfl ((if0 _ _).trans (flt h131.2.1).1) k) ?_
        refine Go.on (T' := T132) (g' := (mkF m 65 #[.val (.int i0), .val (.int i1), .val (.int i2), .val (.int i1), .val (.int i0), .val (.ref c130_0), .val (.long (((i0.toInt64) - (i1.toInt64)) + (1 : Int64))), .second, .val (.int ((64 : Int32) - ((32 : Int32) + (own_nlz (((((i0.toInt64) - (i1.toInt64)) + (1 : Int64)) - (1 : Int64)).toInt32))))), .unset, .unset] [(.int ((64 : Int32) - ((32 : Int32) + (own_nlz (((((i0.toInt64) - (i1.toInt64)) + (1 : Int64)) - (1 : Int64)).toInt32)))))])) (fun t k => XS.iload X132.here hx rfl (hb hby at_63) rfl k) ?_
        refine Go.on (T' := T132) (g' := (mkF m 67 #[.val (.int i0), .val (.int i1), .val (.int i2), .val (.int i1), .val (.int i0), .val (.ref c130_0), .val (.long (((i0.toInt64) - (i1.toInt64)) + (1 : Int64))), .second, .val (.int ((64 : Int32) - ((32 : Int32) + (own_nlz (((((i0.toInt64) - (i1.toInt64)) + (1 : Int64)) - (1 : Int64)).toInt32))))), .unset, .unset] [(.int (32 : Int32)), (.int ((64 : Int32) - ((32 : Int32) + (own_nlz (((((i0.toInt64) - (i1.toInt64)) + (1 : Int64)) - (1 : Int64)).toInt32)))))])) (fun t k => XS.bipush X132.here hx rfl (hb hby at_65) k) ?_
        refine Go.on (T' := T132) (g' := (mkF m 72 #[.val (.int i0), .val (.int i1), .val (.int i2), .val (.int i1), .val (.int i0), .val (.ref c130_0), .val (.long (((i0.toInt64) - (i1.toInt64)) + (1 : Int64))), .second, .val (.int ((64 : Int32) - ((32 : Int32) + (own_nlz (((((i0.toInt64) - (i1.toInt64)) + (1 : Int64)) - (1 : Int64)).toInt32))))), .unset, .unset] [])) (fun t k => XS.icmpYes X132.here hx rfl (pc0 := 67) (pc' := 72) rfl (hb hby at_67) rfl (flt h131.2.2.1).2.2.2 (by decide) (by decide) k) ?_
        refine Go.on (T' := T132) (g' := (mkF m 73 #[.val (.int i0), .val (.int i1), .val (.int i2), .val (.int i1), .val (.int i0), .val (.ref c130_0), .val (.long (((i0.toInt64) - (i1.toInt64)) + (1 : Int64))), .second, .val (.int ((64 : Int32) - ((32 : Int32) + (own_nlz (((((i0.toInt64) - (i1.toInt64)) + (1 : Int64)) - (1 : Int64)).toInt32))))), .unset, .unset] [(.long (1 : Int64))])) (fun t k => XS.lconst X132.here hx rfl (hb hby at_72) k) ?_
        refine Go.on (T' := T132) (g' := (mkF m 75 #[.val (.int i0), .val (.int i1), .val (.int i2), .val (.int i1), .val (.int i0), .val (.ref c130_0), .val (.long (((i0.toInt64) - (i1.toInt64)) + (1 : Int64))), .second, .val (.int ((64 : Int32) - ((32 : Int32) + (own_nlz (((((i0.toInt64) - (i1.toInt64)) + (1 : Int64)) - (1 : Int64)).toInt32))))), .unset, .unset] [(.int ((64 : Int32) - ((32 : Int32) + (own_nlz (((((i0.toInt64) - (i1.toInt64)) + (1 : Int64)) - (1 : Int64)).toInt32))))), (.long (1 : Int64))])) (fun t k => XS.iload X132.here hx rfl (hb hby at_73) rfl k) ?_
        refine Go.on (T' := T132) (g' := (mkF m 76 #[.val (.int i0), .val (.int i1), .val (.int i2), .val (.int i1), .val (.int i0), .val (.ref c130_0), .val (.long (((i0.toInt64) - (i1.toInt64)) + (1 : Int64))), .second, .val (.int ((64 : Int32) - ((32 : Int32) + (own_nlz (((((i0.toInt64) - (i1.toInt64)) + (1 : Int64)) - (1 : Int64)).toInt32))))), .unset, .unset] [(.long ((1 : Int64) <<< (((64 : Int32) - ((32 : Int32) + (own_nlz (((((i0.toInt64) - (i1.toInt64)) + (1 : Int64)) - (1 : Int64)).toInt32)))) &&& 0x3f).toInt64))])) (fun t k => XS.lshl X132.here hx rfl (hb hby at_75) rfl k) ?_
        refine Go.on (T' := T132) (g' := (mkF m 78 #[.val (.int i0), .val (.int i1), .val (.int i2), .val (.int i1), .val (.int i0), .val (.ref c130_0), .val (.long (((i0.toInt64) - (i1.toInt64)) + (1 : Int64))), .second, .val (.int ((64 : Int32) - ((32 : Int32) + (own_nlz (((((i0.toInt64) - (i1.toInt64)) + (1 : Int64)) - (1 : Int64)).toInt32))))), .unset, .unset] [(.long (((i0.toInt64) - (i1.toInt64)) + (1 : Int64))), (.long ((1 : Int64) <<< (((64 : Int32) - ((32 : Int32) + (own_nlz (((((i0.toInt64) - (i1.toInt64)) + (1 : Int64)) - (1 : Int64)).toInt32)))) &&& 0x3f).toInt64))])) (fun t k => XS.lload X132.here hx rfl (hb hby at_76) rfl k) ?_
        refine Go.on (T' := T132) (g' := (mkF m 79 #[.val (.int i0), .val (.int i1), .val (.int i2), .val (.int i1), .val (.int i0), .val (.ref c130_0), .val (.long (((i0.toInt64) - (i1.toInt64)) + (1 : Int64))), .second, .val (.int ((64 : Int32) - ((32 : Int32) + (own_nlz (((((i0.toInt64) - (i1.toInt64)) + (1 : Int64)) - (1 : Int64)).toInt32))))), .unset, .unset] [(.int (lcmpW ((1 : Int64) <<< (((64 : Int32) - ((32 : Int32) + (own_nlz (((((i0.toInt64) - (i1.toInt64)) + (1 : Int64)) - (1 : Int64)).toInt32)))) &&& 0x3f).toInt64) (((i0.toInt64) - (i1.toInt64)) + (1 : Int64))))])) (fun t k => XS.lcmp X132.here hx rfl (hb hby at_78) rfl k) ?_
        refine Go.on (T' := T132) (g' := (mkF m 82 #[.val (.int i0), .val (.int i1), .val (.int i2), .val (.int i1), .val (.int i0), .val (.ref c130_0), .val (.long (((i0.toInt64) - (i1.toInt64)) + (1 : Int64))), .second, .val (.int ((64 : Int32) - ((32 : Int32) + (own_nlz (((((i0.toInt64) - (i1.toInt64)) + (1 : Int64)) - (1 : Int64)).toInt32))))), .unset, .unset] [])) (fun t k => XS.ifNo X132.here hx rfl (hb hby at_79) rfl ((if0 _ _).trans (flt h131.2.2.2.1).1) k) ?_
        refine Go.on (T' := T132) (g' := (mkF m 83 #[.val (.int i0), .val (.int i1), .val (.int i2), .val (.int i1), .val (.int i0), .val (.ref c130_0), .val (.long (((i0.toInt64) - (i1.toInt64)) + (1 : Int64))), .second, .val (.int ((64 : Int32) - ((32 : Int32) + (own_nlz (((((i0.toInt64) - (i1.toInt64)) + (1 : Int64)) - (1 : Int64)).toInt32))))), .unset, .unset] [(.int (1 : Int32))])) (fun t k => XS.iconst X132.here hx rfl (hb hby at_82) k) ?_
        refine Go.on (T' := T132) (g' := (mkF m 87 #[.val (.int i0), .val (.int i1), .val (.int i2), .val (.int i1), .val (.int i0), .val (.ref c130_0), .val (.long (((i0.toInt64) - (i1.toInt64)) + (1 : Int64))), .second, .val (.int ((64 : Int32) - ((32 : Int32) + (own_nlz (((((i0.toInt64) - (i1.toInt64)) + (1 : Int64)) - (1 : Int64)).toInt32))))), .unset, .unset] [(.int (1 : Int32))])) (fun t k => XS.goto X132.here hx rfl (pc0 := 83) (pc' := 87) rfl (hb hby at_83) (by decide) (by decide) k) ?_
        refine Go.on (T' := T132) (g' := (mkF m 89 #[.val (.int i0), .val (.int i1), .val (.int i2), .val (.int i1), .val (.int i0), .val (.ref c130_0), .val (.long (((i0.toInt64) - (i1.toInt64)) + (1 : Int64))), .second, .val (.int ((64 : Int32) - ((32 : Int32) + (own_nlz (((((i0.toInt64) - (i1.toInt64)) + (1 : Int64)) - (1 : Int64)).toInt32))))), .val (.int (1 : Int32)), .unset] [])) (fun t k => XS.istore X132.here hx rfl (hb hby at_87) rfl (l' := #[.val (.int i0), .val (.int i1), .val (.int i2), .val (.int i1), .val (.int i0), .val (.ref c130_0), .val (.long (((i0.toInt64) - (i1.toInt64)) + (1 : Int64))), .second, .val (.int ((64 : Int32) - ((32 : Int32) + (own_nlz (((((i0.toInt64) - (i1.toInt64)) + (1 : Int64)) - (1 : Int64)).toInt32))))), .val (.int (1 : Int32)), .unset]) rfl k) ?_
        refine Go.on (T' := T132) (g' := (mkF m 91 #[.val (.int i0), .val (.int i1), .val (.int i2), .val (.int i1), .val (.int i0), .val (.ref c130_0), .val (.long (((i0.toInt64) - (i1.toInt64)) + (1 : Int64))), .second, .val (.int ((64 : Int32) - ((32 : Int32) + (own_nlz (((((i0.toInt64) - (i1.toInt64)) + (1 : Int64)) - (1 : Int64)).toInt32))))), .val (.int (1 : Int32)), .unset] [(.int ((64 : Int32) - ((32 : Int32) + (own_nlz (((((i0.toInt64) - (i1.toInt64)) + (1 : Int64)) - (1 : Int64)).toInt32)))))])) (fun t k => XS.iload X132.here hx rfl (hb hby at_89) rfl k) ?_
        by_cases h133 : ((64 : Int32) - ((32 : Int32) + (own_nlz (((((i0.toInt64) - (i1.toInt64)) + (1 : Int64)) - (1 : Int64)).toInt32)))) = (0 : Int32)
        · skip
          refine Go.on (T' := T132) (g' := (mkF m 106 #[.val (.int i0), .val (.int i1), .val (.int i2), .val (.int i1), .val (.int i0), .val (.ref c130_0), .val (.long (((i0.toInt64) - (i1.toInt64)) + (1 : Int64))), .second, .val (.int ((64 : Int32) - ((32 : Int32) + (own_nlz (((((i0.toInt64) - (i1.toInt64)) + (1 : Int64)) - (1 : Int64)).toInt32))))), .val (.int (1 : Int32)), .unset] [])) (fun t k => XS.ifYes X132.here hx rfl (pc0 := 91) (pc' := 106) rfl (hb hby at_91) rfl ((if0 _ _).trans (teq h133).1) (by decide) (by decide) k) ?_
          refine Go.on (T' := T132) (g' := (mkF m 107 #[.val (.int i0), .val (.int i1), .val (.int i2), .val (.int i1), .val (.int i0), .val (.ref c130_0), .val (.long (((i0.toInt64) - (i1.toInt64)) + (1 : Int64))), .second, .val (.int ((64 : Int32) - ((32 : Int32) + (own_nlz (((((i0.toInt64) - (i1.toInt64)) + (1 : Int64)) - (1 : Int64)).toInt32))))), .val (.int (1 : Int32)), .unset] [(.int (1 : Int32))])) (fun t k => XS.iconst X132.here hx rfl (hb hby at_106) k) ?_
          refine Go.on (T' := T132) (g' := (mkF m 111 #[.val (.int i0), .val (.int i1), .val (.int i2), .val (.int i1), .val (.int i0), .val (.ref c130_0), .val (.long (((i0.toInt64) - (i1.toInt64)) + (1 : Int64))), .second, .val (.int ((64 : Int32) - ((32 : Int32) + (own_nlz (((((i0.toInt64) - (i1.toInt64)) + (1 : Int64)) - (1 : Int64)).toInt32))))), .val (.int (1 : Int32)), .unset] [(.int (1 : Int32))])) (fun t k => XS.goto X132.here hx rfl (pc0 := 107) (pc' := 111) rfl (hb hby at_107) (by decide) (by decide) k) ?_
          refine Go.on (T' := T132) (g' := (mkF m 113 #[.val (.int i0), .val (.int i1), .val (.int i2), .val (.int i1), .val (.int i0), .val (.ref c130_0), .val (.long (((i0.toInt64) - (i1.toInt64)) + (1 : Int64))), .second, .val (.int ((64 : Int32) - ((32 : Int32) + (own_nlz (((((i0.toInt64) - (i1.toInt64)) + (1 : Int64)) - (1 : Int64)).toInt32))))), .val (.int (1 : Int32)), .val (.int (1 : Int32))] [])) (fun t k => XS.istore X132.here hx rfl (hb hby at_111) rfl (l' := #[.val (.int i0), .val (.int i1), .val (.int i2), .val (.int i1), .val (.int i0), .val (.ref c130_0), .val (.long (((i0.toInt64) - (i1.toInt64)) + (1 : Int64))), .second, .val (.int ((64 : Int32) - ((32 : Int32) + (own_nlz (((((i0.toInt64) - (i1.toInt64)) + (1 : Int64)) - (1 : Int64)).toInt32))))), .val (.int (1 : Int32)), .val (.int (1 : Int32))]) rfl k) ?_
          refine Go.on (T' := T132) (g' := (mkF m 115 #[.val (.int i0), .val (.int i1), .val (.int i2), .val (.int i1), .val (.int i0), .val (.ref c130_0), .val (.long (((i0.toInt64) - (i1.toInt64)) + (1 : Int64))), .second, .val (.int ((64 : Int32) - ((32 : Int32) + (own_nlz (((((i0.toInt64) - (i1.toInt64)) + (1 : Int64)) - (1 : Int64)).toInt32))))), .val (.int (1 : Int32)), .val (.int (1 : Int32))] [(.int (1 : Int32))])) (fun t k => XS.iload X132.here hx rfl (hb hby at_113) rfl k) ?_
          refine Go.on (T' := T132) (g' := (mkF m 118 #[.val (.int i0), .val (.int i1), .val (.int i2), .val (.int i1), .val (.int i0), .val (.ref c130_0), .val (.long (((i0.toInt64) - (i1.toInt64)) + (1 : Int64))), .second, .val (.int ((64 : Int32) - ((32 : Int32) + (own_nlz (((((i0.toInt64) - (i1.toInt64)) + (1 : Int64)) - (1 : Int64)).toInt32))))), .val (.int (1 : Int32)), .val (.int (1 : Int32))] [])) (fun t k => XS.ifNo X132.here hx rfl (hb hby at_115) rfl ((if0 _ _).trans (feq (by decide : ¬ ((1 : Int32) = (0 : Int32)))).1) k) ?_
          refine Go.on (T' := T132) (g' := (mkF m 120 #[.val (.int i0), .val (.int i1), .val (.int i2), .val (.int i1), .val (.int i0), .val (.ref c130_0), .val (.long (((i0.toInt64) - (i1.toInt64)) + (1 : Int64))), .second, .val (.int ((64 : Int32) - ((32 : Int32) + (own_nlz (((((i0.toInt64) - (i1.toInt64)) + (1 : Int64)) - (1 : Int64)).toInt32))))), .val (.int (1 : Int32)), .val (.int (1 : Int32))] [(.int (1 : Int32))])) (fun t k => XS.iload X132.here hx rfl (hb hby at_118) rfl k) ?_
          refine Go.on (T' := T132) (g' := (mkF m 123 #[.val (.int i0), .val (.int i1), .val (.int i2), .val (.int i1), .val (.int i0), .val (.ref c130_0), .val (.long (((i0.toInt64) - (i1.toInt64)) + (1 : Int64))), .second, .val (.int ((64 : Int32) - ((32 : Int32) + (own_nlz (((((i0.toInt64) - (i1.toInt64)) + (1 : Int64)) - (1 : Int64)).toInt32))))), .val (.int (1 : Int32)), .val (.int (1 : Int32))] [])) (fun t k => XS.ifNo X132.here hx rfl (hb hby at_120) rfl ((if0 _ _).trans (feq (by decide : ¬ ((1 : Int32) = (0 : Int32)))).1) k) ?_
          refine Go.on (T' := T132) (g' := (mkF m 124 #[.val (.int i0), .val (.int i1), .val (.int i2), .val (.int i1), .val (.int i0), .val (.ref c130_0), .val (.long (((i0.toInt64) - (i1.toInt64)) + (1 : Int64))), .second, .val (.int ((64 : Int32) - ((32 : Int32) + (own_nlz (((((i0.toInt64) - (i1.toInt64)) + (1 : Int64)) - (1 : Int64)).toInt32))))), .val (.int (1 : Int32)), .val (.int (1 : Int32))] [(.int (1 : Int32))])) (fun t k => XS.iconst X132.here hx rfl (hb hby at_123) k) ?_
          refine Go.on (T' := T132) (g' := (mkF m 128 #[.val (.int i0), .val (.int i1), .val (.int i2), .val (.int i1), .val (.int i0), .val (.ref c130_0), .val (.long (((i0.toInt64) - (i1.toInt64)) + (1 : Int64))), .second, .val (.int ((64 : Int32) - ((32 : Int32) + (own_nlz (((((i0.toInt64) - (i1.toInt64)) + (1 : Int64)) - (1 : Int64)).toInt32))))), .val (.int (1 : Int32)), .val (.int (1 : Int32))] [(.int (1 : Int32))])) (fun t k => XS.goto X132.here hx rfl (pc0 := 124) (pc' := 128) rfl (hb hby at_124) (by decide) (by decide) k) ?_
          subst hG
          obtain ⟨fs, hr, hrun, hended, hW, hsame⟩ := X132.leave (v := some (.int (1 : Int32))) (fun h => by rw [Bd.returns] at h; cases h)
          exact ⟨_, _, retN X132 hx (t := .boolean) Bd.returns (by simp) (hb hby at_128) hr, hrun, hended, _, _, rfl, ⟨rfl, N132⟩, ⟨_, rfl⟩, hW, hsame.mono (by decide) (by decide)⟩
        · skip
          refine Go.on (T' := T132) (g' := (mkF m 94 #[.val (.int i0), .val (.int i1), .val (.int i2), .val (.int i1), .val (.int i0), .val (.ref c130_0), .val (.long (((i0.toInt64) - (i1.toInt64)) + (1 : Int64))), .second, .val (.int ((64 : Int32) - ((32 : Int32) + (own_nlz (((((i0.toInt64) - (i1.toInt64)) + (1 : Int64)) - (1 : Int64)).toInt32))))), .val (.int (1 : Int32)), .unset] [])) (fun t k => XS.ifNo X132.here hx rfl (hb hby at_91) rfl ((if0 _ _).trans (feq h133).1) k) ?_
          refine Go.on (T' := T132) (g' := (mkF m 95 #[.val (.int i0), .val (.int i1), .val (.int i2), .val (.int i1), .val (.int i0), .val (.ref c130_0), .val (.long (((i0.toInt64) - (i1.toInt64)) + (1 : Int64))), .second, .val (.int ((64 : Int32) - ((32 : Int32) + (own_nlz (((((i0.toInt64) - (i1.toInt64)) + (1 : Int64)) - (1 : Int64)).toInt32))))), .val (.int (1 : Int32)), .unset] [(.long (1 : Int64))])) (fun t k => XS.lconst X132.here hx rfl (hb hby at_94) k) ?_
          refine Go.on (T' := T132) (g' := (mkF m 97 #[.val (.int i0), .val (.int i1), .val (.int i2), .val (.int i1), .val (.int i0), .val (.ref c130_0), .val (.long (((i0.toInt64) - (i1.toInt64)) + (1 : Int64))), .second, .val (.int ((64 : Int32) - ((32 : Int32) + (own_nlz (((((i0.toInt64) - (i1.toInt64)) + (1 : Int64)) - (1 : Int64)).toInt32))))), .val (.int (1 : Int32)), .unset] [(.int ((64 : Int32) - ((32 : Int32) + (own_nlz (((((i0.toInt64) - (i1.toInt64)) + (1 : Int64)) - (1 : Int64)).toInt32))))), (.long (1 : Int64))])) (fun t k => XS.iload X132.here hx rfl (hb hby at_95) rfl k) ?_
          refine Go.on (T' := T132) (g' := (mkF m 98 #[.val (.int i0), .val (.int i1), .val (.int i2), .val (.int i1), .val (.int i0), .val (.ref c130_0), .val (.long (((i0.toInt64) - (i1.toInt64)) + (1 : Int64))), .second, .val (.int ((64 : Int32) - ((32 : Int32) + (own_nlz (((((i0.toInt64) - (i1.toInt64)) + (1 : Int64)) - (1 : Int64)).toInt32))))), .val (.int (1 : Int32)), .unset] [(.int (1 : Int32)), (.int ((64 : Int32) - ((32 : Int32) + (own_nlz (((((i0.toInt64) - (i1.toInt64)) + (1 : Int64)) - (1 : Int64)).toInt32))))), (.long (1 : Int64))])) (fun t k => XS.iconst X132.here hx rfl (hb hby at_97) k) ?_
          refine Go.on (T' := T132) (g' := (mkF m 99 #[.val (.int i0), .val (.int i1), .val (.int i2), .val (.int i1), .val (.int i0), .val (.ref c130_0), .val (.long (((i0.toInt64) - (i1.toInt64)) + (1 : Int64))), .second, .val (.int ((64 : Int32) - ((32 : Int32) + (own_nlz (((((i0.toInt64) - (i1.toInt64)) + (1 : Int64)) - (1 : Int64)).toInt32))))), .val (.int (1 : Int32)), .unset] [(.int (((64 : Int32) - ((32 : Int32) + (own_nlz (((((i0.toInt64) - (i1.toInt64)) + (1 : Int64)) - (1 : Int64)).toInt32)))) - (1 : Int32))), (.long (1 : Int64))])) (fun t k => XS.isub X132.here hx rfl (hb hby at_98) rfl k) ?_
          refine Go.on (T' := T132) (g' := (mkF m 100 #[.val (.int i0), .val (.int i1), .val (.int i2), .val (.int i1), .val (.int i0), .val (.ref c130_0), .val (.long (((i0.toInt64) - (i1.toInt64)) + (1 : Int64))), .second, .val (.int ((64 : Int32) - ((32 : Int32) + (own_nlz (((((i0.toInt64) - (i1.toInt64)) + (1 : Int64)) - (1 : Int64)).toInt32))))), .val (.int (1 : Int32)), .unset] [(.long ((1 : Int64) <<< ((((64 : Int32) - ((32 : Int32) + (own_nlz (((((i0.toInt64) - (i1.toInt64)) + (1 : Int64)) - (1 : Int64)).toInt32)))) - (1 : Int32)) &&& 0x3f).toInt64))])) (fun t k => XS.lshl X132.here hx rfl (hb hby at_99) rfl k) ?_
          refine Go.on (T' := T132) (g' := (mkF m 102 #[.val (.int i0), .val (.int i1), .val (.int i2), .val (.int i1), .val (.int i0), .val (.ref c130_0), .val (.long (((i0.toInt64) - (i1.toInt64)) + (1 : Int64))), .second, .val (.int ((64 : Int32) - ((32 : Int32) + (own_nlz (((((i0.toInt64) - (i1.toInt64)) + (1 : Int64)) - (1 : Int64)).toInt32))))), .val (.int (1 : Int32)), .unset] [(.long (((i0.toInt64) - (i1.toInt64)) + (1 : Int64))), (.long ((1 : Int64) <<< ((((64 : Int32) - ((32 : Int32) + (own_nlz (((((i0.toInt64) - (i1.toInt64)) + (1 : Int64)) - (1 : Int64)).toInt32)))) - (1 : Int32)) &&& 0x3f).toInt64))])) (fun t k => XS.lload X132.here hx rfl (hb hby at_100) rfl k) ?_
          refine Go.on (T' := T132) (g' := (mkF m 103 #[.val (.int i0), .val (.int i1), .val (.int i2), .val (.int i1), .val (.int i0), .val (.ref c130_0), .val (.long (((i0.toInt64) - (i1.toInt64)) + (1 : Int64))), .second, .val (.int ((64 : Int32) - ((32 : Int32) + (own_nlz (((((i0.toInt64) - (i1.toInt64)) + (1 : Int64)) - (1 : Int64)).toInt32))))), .val (.int (1 : Int32)), .unset] [(.int (lcmpW ((1 : Int64) <<< ((((64 : Int32) - ((32 : Int32) + (own_nlz (((((i0.toInt64) - (i1.toInt64)) + (1 : Int64)) - (1 : Int64)).toInt32)))) - (1 : Int32)) &&& 0x3f).toInt64) (((i0.toInt64) - (i1.toInt64)) + (1 : Int64))))])) (fun t k => XS.lcmp X132.here hx rfl (hb hby at_102) rfl k) ?_
          refine Go.on (T' := T132) (g' := (mkF m 106 #[.val (.int i0), .val (.int i1), .val (.int i2), .val (.int i1), .val (.int i0), .val (.ref c130_0), .val (.long (((i0.toInt64) - (i1.toInt64)) + (1 : Int64))), .second, .val (.int ((64 : Int32) - ((32 : Int32) + (own_nlz (((((i0.toInt64) - (i1.toInt64)) + (1 : Int64)) - (1 : Int64)).toInt32))))), .val (.int (1 : Int32)), .unset] [])) (fun t k => XS.ifNo X132.here hx rfl (hb hby at_103) rfl ((if0 _ _).trans (tlt (h131.2.2.2.2 h133)).2.1) k) ?_
          refine Go.on (T' := T132) (g' := (mkF m 107 #[.val (.int i0), .val (.int i1), .val (.int i2), .val (.int i1), .val (.int i0), .val (.ref c130_0), .val (.long (((i0.toInt64) - (i1.toInt64)) + (1 : Int64))), .second, .val (.int ((64 : Int32) - ((32 : Int32) + (own_nlz (((((i0.toInt64) - (i1.toInt64)) + (1 : Int64)) - (1 : Int64)).toInt32))))), .val (.int (1 : Int32)), .unset] [(.int (1 : Int32))])) (fun t k => XS.iconst X132.here hx rfl (hb hby at_106) k) ?_
          refine Go.on (T' := T132) (g' := (mkF m 111 #[.val (.int i0), .val (.int i1), .val (.int i2), .val (.int i1), .val (.int i0), .val (.ref c130_0), .val (.long (((i0.toInt64) - (i1.toInt64)) + (1 : Int64))), .second, .val (.int ((64 : Int32) - ((32 : Int32) + (own_nlz (((((i0.toInt64) - (i1.toInt64)) + (1 : Int64)) - (1 : Int64)).toInt32))))), .val (.int (1 : Int32)), .unset] [(.int (1 : Int32))])) (fun t k => XS.goto X132.here hx rfl (pc0 := 107) (pc' := 111) rfl (hb hby at_107) (by decide) (by decide) k) ?_
          refine Go.on (T' := T132) (g' := (mkF m 113 #[.val (.int i0), .val (.int i1), .val (.int i2), .val (.int i1), .val (.int i0), .val (.ref c130_0), .val (.long (((i0.toInt64) - (i1.toInt64)) + (1 : Int64))), .second, .val (.int ((64 : Int32) - ((32 : Int32) + (own_nlz (((((i0.toInt64) - (i1.toInt64)) + (1 : Int64)) - (1 : Int64)).toInt32))))), .val (.int (1 : Int32)), .val (.int (1 : Int32))] [])) (fun t k => XS.istore X132.here hx rfl (hb hby at_111) rfl (l' := #[.val (.int i0), .val (.int i1), .val (.int i2), .val (.int i1), .val (.int i0), .val (.ref c130_0), .val (.long (((i0.toInt64) - (i1.toInt64)) + (1 : Int64))), .second, .val (.int ((64 : Int32) - ((32 : Int32) + (own_nlz (((((i0.toInt64) - (i1.toInt64)) + (1 : Int64)) - (1 : Int64)).toInt32))))), .val (.int (1 : Int32)), .val (.int (1 : Int32))]) rfl k) ?_
          refine Go.on (T' := T132) (g' := (mkF m 115 #[.val (.int i0), .val (.int i1), .val (.int i2), .val (.int i1), .val (.int i0), .val (.ref c130_0), .val (.long (((i0.toInt64) - (i1.toInt64)) + (1 : Int64))), .second, .val (.int ((64 : Int32) - ((32 : Int32) + (own_nlz (((((i0.toInt64) - (i1.toInt64)) + (1 : Int64)) - (1 : Int64)).toInt32))))), .val (.int (1 : Int32)), .val (.int (1 : Int32))] [(.int (1 : Int32))])) (fun t k => XS.iload X132.here hx rfl (hb hby at_113) rfl k) ?_
          refine Go.on (T' := T132) (g' := (mkF m 118 #[.val (.int i0), .val (.int i1), .val (.int i2), .val (.int i1), .val (.int i0), .val (.ref c130_0), .val (.long (((i0.toInt64) - (i1.toInt64)) + (1 : Int64))), .second, .val (.int ((64 : Int32) - ((32 : Int32) + (own_nlz (((((i0.toInt64) - (i1.toInt64)) + (1 : Int64)) - (1 : Int64)).toInt32))))), .val (.int (1 : Int32)), .val (.int (1 : Int32))] [])) (fun t k => XS.ifNo X132.here hx rfl (hb hby at_115) rfl ((if0 _ _).trans (feq (by decide : ¬ ((1 : Int32) = (0 : Int32)))).1) k) ?_
          refine Go.on (T' := T132) (g' := (mkF m 120 #[.val (.int i0), .val (.int i1), .val (.int i2), .val (.int i1), .val (.int i0), .val (.ref c130_0), .val (.long (((i0.toInt64) - (i1.toInt64)) + (1 : Int64))), .second, .val (.int ((64 : Int32) - ((32 : Int32) + (own_nlz (((((i0.toInt64) - (i1.toInt64)) + (1 : Int64)) - (1 : Int64)).toInt32))))), .val (.int (1 : Int32)), .val (.int (1 : Int32))] [(.int (1 : Int32))])) (fun t k => XS.iload X132.here hx rfl (hb hby at_118) rfl k) ?_
          refine Go.on (T' := T132) (g' := (mkF m 123 #[.val (.int i0), .val (.int i1), .val (.int i2), .val (.int i1), .val (.int i0), .val (.ref c130_0), .val (.long (((i0.toInt64) - (i1.toInt64)) + (1 : Int64))), .second, .val (.int ((64 : Int32) - ((32 : Int32) + (own_nlz (((((i0.toInt64) - (i1.toInt64)) + (1 : Int64)) - (1 : Int64)).toInt32))))), .val (.int (1 : Int32)), .val (.int (1 : Int32))] [])) (fun t k => XS.ifNo X132.here hx rfl (hb hby at_120) rfl ((if0 _ _).trans (feq (by decide : ¬ ((1 : Int32) = (0 : Int32)))).1) k) ?_
          refine Go.on (T' := T132) (g' := (mkF m 124 #[.val (.int i0), .val (.int i1), .val (.int i2), .val (.int i1), .val (.int i0), .val (.ref c130_0), .val (.long (((i0.toInt64) - (i1.toInt64)) + (1 : Int64))), .second, .val (.int ((64 : Int32) - ((32 : Int32) + (own_nlz (((((i0.toInt64) - (i1.toInt64)) + (1 : Int64)) - (1 : Int64)).toInt32))))), .val (.int (1 : Int32)), .val (.int (1 : Int32))] [(.int (1 : Int32))])) (fun t k => XS.iconst X132.here hx rfl (hb hby at_123) k) ?_
          refine Go.on (T' := T132) (g' := (mkF m 128 #[.val (.int i0), .val (.int i1), .val (.int i2), .val (.int i1), .val (.int i0), .val (.ref c130_0), .val (.long (((i0.toInt64) - (i1.toInt64)) + (1 : Int64))), .second, .val (.int ((64 : Int32) - ((32 : Int32) + (own_nlz (((((i0.toInt64) - (i1.toInt64)) + (1 : Int64)) - (1 : Int64)).toInt32))))), .val (.int (1 : Int32)), .val (.int (1 : Int32))] [(.int (1 : Int32))])) (fun t k => XS.goto X132.here hx rfl (pc0 := 124) (pc' := 128) rfl (hb hby at_124) (by decide) (by decide) k) ?_
          subst hG
          obtain ⟨fs, hr, hrun, hended, hW, hsame⟩ := X132.leave (v := some (.int (1 : Int32))) (fun h => by rw [Bd.returns] at h; cases h)
          exact ⟨_, _, retN X132 hx (t := .boolean) Bd.returns (by simp) (hb hby at_128) hr, hrun, hended, _, _, rfl, ⟨rfl, N132⟩, ⟨_, rfl⟩, hW, hsame.mono (by decide) (by decide)⟩
    · skip
      obtain ⟨_, _, ⟨T134, L134, k134, n134⟩, -, X134, ⟨Lc134, hQ134, l134, y134, z134⟩, st134⟩ := Jvm.LawKit.callS X0 hx (y := (⟨"java/lang/Math", "min", "(II)I"⟩ : MethodName)) hown (mvT hZ (hw _ (List.mem_of_getElem? (i := 0) rfl))) (mvT hZ (hw _ (List.mem_of_getElem? (i := 1) rfl))) (mvT hZ (hw _ (List.mem_of_getElem? (i := 2) rfl))) (mvT hZ (hw _ (List.mem_of_getElem? (i := 3) rfl))) (by decide) (backOf (W := 0) (rm1_1 l Z a0 hw [] w hB hP h0 XB i0 i1 h3) hZ (hw _ (List.mem_of_getElem? (i := 3) rfl)) (hw _ (List.mem_of_getElem? (i := 2) rfl)) (by decide) (by decide)) (g := (mkF m 22 #[.val (.int i0), .val (.int i1), .val (.int i2), .unset, .unset, .unset, .unset, .unset, .unset, .unset, .unset] [(.int i1), (.int i0)])) rfl (by rw [hml]; rfl) (argsL := [(.int i0), (.int i1)]) (rest := []) (lenOf pd_0 rfl) rfl (by show 2 * 0 + _ ≤ _; exact Nat.le_of_eq rfl) (hb hby at_22) (fun _ _ => ⟨rfl, e0, (by decide : 0 + 0 ≤ _), (by decide : 0 + 0 ≤ _)⟩)
      dsimp only [Pt.U, Pt.locs, Pt.cells, Pt.slots] at X134 l134 y134 z134 st134 hQ134
      subst l134 y134 z134
      obtain ⟨⟨rfl, e134⟩, N134q⟩ := hQ134
      have N134 := Fr.app N0 N134q
      refine Go.on (T' := T134) (g' := (mkF m 25 #[.val (.int i0), .val (.int i1), .val (.int i2), .unset, .unset, .unset, .unset, .unset, .unset, .unset, .unset] [(.int i0)])) st134 ?_
      refine Go.on (T' := T134) (g' := (mkF m 26 #[.val (.int i0), .val (.int i1), .val (.int i2), .val (.int i0), .unset, .unset, .unset, .unset, .unset, .unset, .unset] [])) (fun t k => XS.istoreN X134.here hx rfl (hb hby at_25) rfl (l' := #[.val (.int i0), .val (.int i1), .val (.int i2), .val (.int i0), .unset, .unset, .unset, .unset, .unset, .unset, .unset]) rfl k) ?_
      refine Go.on (T' := T134) (g' := (mkF m 27 #[.val (.int i0), .val (.int i1), .val (.int i2), .val (.int i0), .unset, .unset, .unset, .unset, .unset, .unset, .unset] [(.int i0)])) (fun t k => XS.iloadN X134.here hx rfl (hb hby at_26) rfl k) ?_
      refine Go.on (T' := T134) (g' := (mkF m 28 #[.val (.int i0), .val (.int i1), .val (.int i2), .val (.int i0), .unset, .unset, .unset, .unset, .unset, .unset, .unset] [(.int i1), (.int i0)])) (fun t k => XS.iloadN X134.here hx rfl (hb hby at_27) rfl k) ?_
      by_cases h135 : i0 < i1
      · skip
        obtain ⟨_, _, ⟨T136, L136, k136, n136⟩, -, X136, ⟨Lc136, hQ136, l136, y136, z136⟩, st136⟩ := Jvm.LawKit.callS X134 hx (y := (⟨"java/lang/Math", "max", "(II)I"⟩ : MethodName)) hown (mvT hZ (hw _ (List.mem_of_getElem? (i := 4) rfl))) (mvT hZ (hw _ (List.mem_of_getElem? (i := 5) rfl))) (mvT hZ (hw _ (List.mem_of_getElem? (i := 2) rfl))) (mvT hZ (hw _ (List.mem_of_getElem? (i := 6) rfl))) (by decide) (backOf (W := 0) (rm2_1 l Z a0 hw [] w hB hP h0 XB i0 i1 h135) hZ (hw _ (List.mem_of_getElem? (i := 6) rfl)) (hw _ (List.mem_of_getElem? (i := 2) rfl)) (by decide) (by decide)) (g := (mkF m 28 #[.val (.int i0), .val (.int i1), .val (.int i2), .val (.int i0), .unset, .unset, .unset, .unset, .unset, .unset, .unset] [(.int i1), (.int i0)])) rfl (by rw [hml]; rfl) (argsL := [(.int i0), (.int i1)]) (rest := []) (lenOf pd_0 rfl) rfl (by show 2 * 0 + _ ≤ _; exact Nat.le_of_eq rfl) (hb hby at_28) (fun _ _ => ⟨rfl, e134, (by decide : 0 + 0 ≤ _), (by decide : 0 + 0 ≤ _)⟩)
        dsimp only [Pt.U, Pt.locs, Pt.cells, Pt.slots] at X136 l136 y136 z136 st136 hQ136
        subst l136 y136 z136
        obtain ⟨⟨rfl, e136⟩, N136q⟩ := hQ136
        have N136 := Fr.app N134 N136q
        refine Go.on (T' := T136) (g' := (mkF m 31 #[.val (.int i0), .val (.int i1), .val (.int i2), .val (.int i0), .unset, .unset, .unset, .unset, .unset, .unset, .unset] [(.int i1)])) st136 ?_
        refine Go.on (T' := T136) (g' := (mkF m 33 #[.val (.int i0), .val (.int i1), .val (.int i2), .val (.int i0), .val (.int i1), .unset, .unset, .unset, .unset, .unset, .unset] [])) (fun t k => XS.istore X136.here hx rfl (hb hby at_31) rfl (l' := #[.val (.int i0), .val (.int i1), .val (.int i2), .val (.int i0), .val (.int i1), .unset, .unset, .unset, .unset, .unset, .unset]) rfl k) ?_
        refine Go.on (T' := T136) (g' := (mkF m 34 #[.val (.int i0), .val (.int i1), .val (.int i2), .val (.int i0), .val (.int i1), .unset, .unset, .unset, .unset, .unset, .unset] [(.int i0)])) (fun t k => XS.iloadN X136.here hx rfl (hb hby at_33) rfl k) ?_
        refine Go.on (T' := T136) (g' := (mkF m 36 #[.val (.int i0), .val (.int i1), .val (.int i2), .val (.int i0), .val (.int i1), .unset, .unset, .unset, .unset, .unset, .unset] [(.int i1), (.int i0)])) (fun t k => XS.iload X136.here hx rfl (hb hby at_34) rfl k) ?_
        by_cases h137 : own_as Z "java/util/ImmutableCollections$ListN" "java/util/ImmutableCollections$List12"
        · skip
          obtain ⟨_, _, ⟨T138, L138, k138, n138⟩, -, X138, ⟨Lc138, hQ138, l138, y138, z138⟩, st138⟩ := Jvm.LawKit.callS X136 hx (y := (⟨"com/example/realizer/realizer/spectra/Domain", "range", "(II)Lcom/example/realizer/realizer/spectra/Domain;"⟩ : MethodName)) hown (mvT hZ (hw _ (List.mem_of_getElem? (i := 7) rfl))) (mvT hZ (hw _ (List.mem_of_getElem? (i := 8) rfl))) (mvT hZ (hw _ (List.mem_of_getElem? (i := 9) rfl))) (mvT hZ (hw _ (List.mem_of_getElem? (i := 10) rfl))) (by decide) (backOf (W := 0) (rm3_0 l Z a0 hw [] w hB hP h0 XB i0 i1 h3 h137) hZ (hw _ (List.mem_of_getElem? (i := 10) rfl)) (hw _ (List.mem_of_getElem? (i := 9) rfl)) (by decide) (by decide)) (g := (mkF m 36 #[.val (.int i0), .val (.int i1), .val (.int i2), .val (.int i0), .val (.int i1), .unset, .unset, .unset, .unset, .unset, .unset] [(.int i1), (.int i0)])) rfl (by rw [hml]; rfl) (argsL := [(.int i0), (.int i1)]) (rest := []) (lenOf pd_6 rfl) rfl (by show 2 * 0 + _ ≤ _; exact Nat.le_of_eq rfl) (hb hby at_36) (fun _ _ => ⟨rfl, e136, (by decide : 0 + 1 ≤ _), (by decide : 0 + 3 ≤ _)⟩)
          dsimp only [Pt.U, Pt.locs, Pt.cells, Pt.slots] at X138 l138 y138 z138 st138 hQ138
          subst l138 y138 z138
          obtain ⟨⟨c138_0, rfl, K138, fq138_0, fq138_1, fq138_2, fq138_3, fq138_4, -⟩, N138q⟩ := hQ138
          have e138 : T138.heap = T138.heap := rfl
          have N138 := Fr.app N136 N138q
          have XT138 : Ext hB T138.heap := own_extK XB K138 all0
          refine Go.on (T' := T138) (g' := (mkF m 39 #[.val (.int i0), .val (.int i1), .val (.int i2), .val (.int i0), .val (.int i1), .unset, .unset, .unset, .unset, .unset, .unset] [(.ref c138_0)])) st138 ?_
          refine Go.on (T' := T138) (g' := (mkF m 41 #[.val (.int i0), .val (.int i1), .val (.int i2), .val (.int i0), .val (.int i1), .val (.ref c138_0), .unset, .unset, .unset, .unset, .unset] [])) (fun t k => XS.astore X138.here hx rfl (hb hby at_39) rfl rfl (l' := #[.val (.int i0), .val (.int i1), .val (.int i2), .val (.int i0), .val (.int i1), .val (.ref c138_0), .unset, .unset, .unset, .unset, .unset]) rfl k) ?_
          refine Go.on (T' := T138) (g' := (mkF m 43 #[.val (.int i0), .val (.int i1), .val (.int i2), .val (.int i0), .val (.int i1), .val (.ref c138_0), .unset, .unset, .unset, .unset, .unset] [(.int i1)])) (fun t k => XS.iload X138.here hx rfl (hb hby at_41) rfl k) ?_
          refine Go.on (T' := T138) (g' := (mkF m 44 #[.val (.int i0), .val (.int i1), .val (.int i2), .val (.int i0), .val (.int i1), .val (.ref c138_0), .unset, .unset, .unset, .unset, .unset] [(.long (i1.toInt64))])) (fun t k => XS.i2l X138.here hx rfl (hb hby at_43) rfl k) ?_
          refine Go.on (T' := T138) (g' := (mkF m 45 #[.val (.int i0), .val (.int i1), .val (.int i2), .val (.int i0), .val (.int i1), .val (.ref c138_0), .unset, .unset, .unset, .unset, .unset] [(.int i0), (.long (i1.toInt64))])) (fun t k => XS.iloadN X138.here hx rfl (hb hby at_44) rfl k) ?_
          refine Go.on (T' := T138) (g' := (mkF m 46 #[.val (.int i0), .val (.int i1), .val (.int i2), .val (.int i0), .val (.int i1), .val (.ref c138_0), .unset, .unset, .unset, .unset, .unset] [(.long (i0.toInt64)), (.long (i1.toInt64))])) (fun t k => XS.i2l X138.here hx rfl (hb hby at_45) rfl k) ?_
          refine Go.on (T' := T138) (g' := (mkF m 47 #[.val (.int i0), .val (.int i1), .val (.int i2), .val (.int i0), .val (.int i1), .val (.ref c138_0), .unset, .unset, .unset, .unset, .unset] [(.long ((i1.toInt64) - (i0.toInt64)))])) (fun t k => XS.lsub X138.here hx rfl (hb hby at_46) rfl k) ?_
          refine Go.on (T' := T138) (g' := (mkF m 48 #[.val (.int i0), .val (.int i1), .val (.int i2), .val (.int i0), .val (.int i1), .val (.ref c138_0), .unset, .unset, .unset, .unset, .unset] [(.long (1 : Int64)), (.long ((i1.toInt64) - (i0.toInt64)))])) (fun t k => XS.lconst X138.here hx rfl (hb hby at_47) k) ?_
          refine Go.on (T' := T138) (g' := (mkF m 49 #[.val (.int i0), .val (.int i1), .val (.int i2), .val (.int i0), .val (.int i1), .val (.ref c138_0), .unset, .unset, .unset, .unset, .unset] [(.long (((i1.toInt64) - (i0.toInt64)) + (1 : Int64)))])) (fun t k => XS.ladd X138.here hx rfl (hb hby at_48) rfl k) ?_
          refine Go.on (T' := T138) (g' := (mkF m 51 #[.val (.int i0), .val (.int i1), .val (.int i2), .val (.int i0), .val (.int i1), .val (.ref c138_0), .val (.long (((i1.toInt64) - (i0.toInt64)) + (1 : Int64))), .second, .unset, .unset, .unset] [])) (fun t k => XS.lstore X138.here hx rfl (hb hby at_49) rfl (l' := #[.val (.int i0), .val (.int i1), .val (.int i2), .val (.int i0), .val (.int i1), .val (.ref c138_0), .val (.long (((i1.toInt64) - (i0.toInt64)) + (1 : Int64))), .second, .unset, .unset, .unset]) rfl k) ?_
          refine Go.on (T' := T138) (g' := (mkF m 53 #[.val (.int i0), .val (.int i1), .val (.int i2), .val (.int i0), .val (.int i1), .val (.ref c138_0), .val (.long (((i1.toInt64) - (i0.toInt64)) + (1 : Int64))), .second, .unset, .unset, .unset] [(.ref c138_0)])) (fun t k => XS.aload X138.here hx rfl (hb hby at_51) rfl rfl k) ?_
          have h139 := own_bits i0 i1 h3
          obtain ⟨_, _, ⟨T140, L140, k140, n140⟩, -, X140, ⟨Lc140, hQ140, l140, y140, z140⟩, st140⟩ := Jvm.LawKit.callS X138 hx (y := (⟨"com/example/realizer/realizer/spectra/Variable", "bits", "(Lcom/example/realizer/realizer/spectra/Domain;)I"⟩ : MethodName)) hown (mvT hZ (hw _ (List.mem_of_getElem? (i := 65) rfl))) (mvT hZ (hw _ (List.mem_of_getElem? (i := 66) rfl))) (mvT hZ (hw _ (List.mem_of_getElem? (i := 67) rfl))) (mvT hZ (hw _ (List.mem_of_getElem? (i := 68) rfl))) (by decide) (backOf (W := 0) (rm11_0 l Z a0 hw [] w hB hP T138.heap XT138 c138_0 i0 i1 fq138_1 fq138_2 fq138_3 fq138_4 (Nat.le_trans XB.1 fq138_0) h139.1) hZ (hw _ (List.mem_of_getElem? (i := 68) rfl)) (hw _ (List.mem_of_getElem? (i := 67) rfl)) (by decide) (by decide)) (g := (mkF m 53 #[.val (.int i0), .val (.int i1), .val (.int i2), .val (.int i0), .val (.int i1), .val (.ref c138_0), .val (.long (((i1.toInt64) - (i0.toInt64)) + (1 : Int64))), .second, .unset, .unset, .unset] [(.ref c138_0)])) rfl (by rw [hml]; rfl) (argsL := [(.ref c138_0)]) (rest := []) (lenOf pd_10 rfl) rfl (by show 2 * 0 + _ ≤ _; exact Nat.le_of_eq rfl) (hb hby at_53) (fun _ _ => ⟨rfl, e138, (by decide : 1 + 0 ≤ _), (by decide : 3 + 0 ≤ _)⟩)
          dsimp only [Pt.U, Pt.locs, Pt.cells, Pt.slots] at X140 l140 y140 z140 st140 hQ140
          subst l140 y140 z140
          obtain ⟨⟨rfl, e140⟩, N140q⟩ := hQ140
          have N140 := Fr.app N138 N140q
          refine Go.on (T' := T140) (g' := (mkF m 56 #[.val (.int i0), .val (.int i1), .val (.int i2), .val (.int i0), .val (.int i1), .val (.ref c138_0), .val (.long (((i1.toInt64) - (i0.toInt64)) + (1 : Int64))), .second, .unset, .unset, .unset] [(.int ((64 : Int32) - ((32 : Int32) + (own_nlz (((((i1.toInt64) - (i0.toInt64)) + (1 : Int64)) - (1 : Int64)).toInt32)))))])) st140 ?_
          refine Go.on (T' := T140) (g' := (mkF m 58 #[.val (.int i0), .val (.int i1), .val (.int i2), .val (.int i0), .val (.int i1), .val (.ref c138_0), .val (.long (((i1.toInt64) - (i0.toInt64)) + (1 : Int64))), .second, .val (.int ((64 : Int32) - ((32 : Int32) + (own_nlz (((((i1.toInt64) - (i0.toInt64)) + (1 : Int64)) - (1 : Int64)).toInt32))))), .unset, .unset] [])) (fun t k => XS.istore X140.here hx rfl (hb hby at_56) rfl (l' := #[.val (.int i0), .val (.int i1), .val (.int i2), .val (.int i0), .val (.int i1), .val (.ref c138_0), .val (.long (((i1.toInt64) - (i0.toInt64)) + (1 : Int64))), .second, .val (.int ((64 : Int32) - ((32 : Int32) + (own_nlz (((((i1.toInt64) - (i0.toInt64)) + (1 : Int64)) - (1 : Int64)).toInt32))))), .unset, .unset]) rfl k) ?_
          refine Go.on (T' := T140) (g' := (mkF m 60 #[.val (.int i0), .val (.int i1), .val (.int i2), .val (.int i0), .val (.int i1), .val (.ref c138_0), .val (.long (((i1.toInt64) - (i0.toInt64)) + (1 : Int64))), .second, .val (.int ((64 : Int32) - ((32 : Int32) + (own_nlz (((((i1.toInt64) - (i0.toInt64)) + (1 : Int64)) - (1 : Int64)).toInt32))))), .unset, .unset] [(.int ((64 : Int32) - ((32 : Int32) + (own_nlz (((((i1.toInt64) - (i0.toInt64)) + (1 : Int64)) - (1 : Int64)).toInt32)))))])) (fun t k => XS.iload X140.here hx rfl (hb hby at_58) rfl k) ?_
          refine Go.on (T' := T140) (g' := (mkF m 63 #[.val (.int i0), .val (.int i1), .val (.int i2), .val (.int i0), .val (.int i1), .val (.ref c138_0), .val (.long (((i1.toInt64) - (i0.toInt64)) + (1 : Int64))), .second, .val (.int ((64 : Int32) - ((32 : Int32) + (own_nlz (((((i1.toInt64) - (i0.toInt64)) + (1 : Int64)) - (1 : Int64)).toInt32))))), .unset, .unset] [])) (fun t k => XS.ifNo X140.here hx rfl (hb hby at_60) rfl ((if0 _ _).trans (flt h139.2.1).1) k) ?_
          refine Go.on (T' := T140) (g' := (mkF m 65 #[.val (.int i0), .val (.int i1), .val (.int i2), .val (.int i0), .val (.int i1), .val (.ref c138_0), .val (.long (((i1.toInt64) - (i0.toInt64)) + (1 : Int64))), .second, .val (.int ((64 : Int32) - ((32 : Int32) + (own_nlz (((((i1.toInt64) - (i0.toInt64)) + (1 : Int64)) - (1 : Int64)).toInt32))))), .unset, .unset] [(.int ((64 : Int32) - ((32 : Int32) + (own_nlz (((((i1.toInt64) - (i0.toInt64)) + (1 : Int64)) - (1 : Int64)).toInt32)))))])) (fun t k => XS.iload X140.here hx rfl (hb hby at_63) rfl k) ?_
          refine Go.on (T' := T140) (g' := (mkF m 67 #[.val (.int i0), .val (.int i1), .val (.int i2), .val (.int i0), .val (.int i1), .val (.ref c138_0), .val (.long (((i1.toInt64) - (i0.toInt64)) + (1 : Int64))), .second, .val (.int ((64 : Int32) - ((32 : Int32) + (own_nlz (((((i1.toInt64) - (i0.toInt64)) + (1 : Int64)) - (1 : Int64)).toInt32))))), .unset, .unset] [(.int (32 : Int32)), (.int ((64 : Int32) - ((32 : Int32) + (own_nlz (((((i1.toInt64) - (i0.toInt64)) + (1 : Int64)) - (1 : Int64)).toInt32)))))])) (fun t k => XS.bipush X140.here hx rfl (hb hby at_65) k) ?_
          refine Go.on (T' := T140) (g' := (mkF m 72 #[.val (.int i0), .val (.int i1), .val (.int i2), .val (.int i0), .val (.int i1), .val (.ref c138_0), .val (.long (((i1.toInt64) - (i0.toInt64)) + (1 : Int64))), .second, .val (.int ((64 : Int32) - ((32 : Int32) + (own_nlz (((((i1.toInt64) - (i0.toInt64)) + (1 : Int64)) - (1 : Int64)).toInt32))))), .unset, .unset] [])) (fun t k => XS.icmpYes X140.here hx rfl (pc0 := 67) (pc' := 72) rfl (hb hby at_67) rfl (flt h139.2.2.1).2.2.2 (by decide) (by decide) k) ?_
          refine Go.on (T' := T140) (g' := (mkF m 73 #[.val (.int i0), .val (.int i1), .val (.int i2), .val (.int i0), .val (.int i1), .val (.ref c138_0), .val (.long (((i1.toInt64) - (i0.toInt64)) + (1 : Int64))), .second, .val (.int ((64 : Int32) - ((32 : Int32) + (own_nlz (((((i1.toInt64) - (i0.toInt64)) + (1 : Int64)) - (1 : Int64)).toInt32))))), .unset, .unset] [(.long (1 : Int64))])) (fun t k => XS.lconst X140.here hx rfl (hb hby at_72) k) ?_
          refine Go.on (T' := T140) (g' := (mkF m 75 #[.val (.int i0), .val (.int i1), .val (.int i2), .val (.int i0), .val (.int i1), .val (.ref c138_0), .val (.long (((i1.toInt64) - (i0.toInt64)) + (1 : Int64))), .second, .val (.int ((64 : Int32) - ((32 : Int32) + (own_nlz (((((i1.toInt64) - (i0.toInt64)) + (1 : Int64)) - (1 : Int64)).toInt32))))), .unset, .unset] [(.int ((64 : Int32) - ((32 : Int32) + (own_nlz (((((i1.toInt64) - (i0.toInt64)) + (1 : Int64)) - (1 : Int64)).toInt32))))), (.long (1 : Int64))])) (fun t k => XS.iload X140.here hx rfl (hb hby at_73) rfl k) ?_
          refine Go.on (T' := T140) (g' := (mkF m 76 #[.val (.int i0), .val (.int i1), .val (.int i2), .val (.int i0), .val (.int i1), .val (.ref c138_0), .val (.long (((i1.toInt64) - (i0.toInt64)) + (1 : Int64))), .second, .val (.int ((64 : Int32) - ((32 : Int32) + (own_nlz (((((i1.toInt64) - (i0.toInt64)) + (1 : Int64)) - (1 : Int64)).toInt32))))), .unset, .unset] [(.long ((1 : Int64) <<< (((64 : Int32) - ((32 : Int32) + (own_nlz (((((i1.toInt64) - (i0.toInt64)) + (1 : Int64)) - (1 : Int64)).toInt32)))) &&& 0x3f).toInt64))])) (fun t k => XS.lshl X140.here hx rfl (hb hby at_75) rfl k) ?_
          refine Go.on (T' := T140) (g' := (mkF m 78 #[.val (.int i0), .val (.int i1), .val (.int i2), .val (.int i0), .val (.int i1), .val (.ref c138_0), .val (.long (((i1.toInt64) - (i0.toInt64)) + (1 : Int64))), .second, .val (.int ((64 : Int32) - ((32 : Int32) + (own_nlz (((((i1.toInt64) - (i0.toInt64)) + (1 : Int64)) - (1 : Int64)).toInt32))))), .unset, .unset] [(.long (((i1.toInt64) - (i0.toInt64)) + (1 : Int64))), (.long ((1 : Int64) <<< (((64 : Int32) - ((32 : Int32) + (own_nlz (((((i1.toInt64) - (i0.toInt64)) + (1 : Int64)) - (1 : Int64)).toInt32)))) &&& 0x3f).toInt64))])) (fun t k => XS.lload X140.here hx rfl (hb hby at_76) rfl k) ?_
          refine Go.on (T' := T140) (g' := (mkF m 79 #[.val (.int i0), .val (.int i1), .val (.int i2), .val (.int i0), .val (.int i1), .val (.ref c138_0), .val (.long (((i1.toInt64) - (i0.toInt64)) + (1 : Int64))), .second, .val (.int ((64 : Int32) - ((32 : Int32) + (own_nlz (((((i1.toInt64) - (i0.toInt64)) + (1 : Int64)) - (1 : Int64)).toInt32))))), .unset, .unset] [(.int (lcmpW ((1 : Int64) <<< (((64 : Int32) - ((32 : Int32) + (own_nlz (((((i1.toInt64) - (i0.toInt64)) + (1 : Int64)) - (1 : Int64)).toInt32)))) &&& 0x3f).toInt64) (((i1.toInt64) - (i0.toInt64)) + (1 : Int64))))])) (fun t k => XS.lcmp X140.here hx rfl (hb hby at_78) rfl k) ?_
          refine Go.on (T' := T140) (g' := (mkF m 82 #[.val (.int i0), .val (.int i1), .val (.int i2), .val (.int i0), .val (.int i1), .val (.ref c138_0), .val (.long (((i1.toInt64) - (i0.toInt64)) + (1 : Int64))), .second, .val (.int ((64 : Int32) - ((32 : Int32) + (own_nlz (((((i1.toInt64) - (i0.toInt64)) + (1 : Int64)) - (1 : Int64)).toInt32))))), .unset, .unset] [])) (fun t k => XS.ifNo X140.here hx rfl (hb hby at_79) rfl ((if0 _ _).trans (flt h139.2.2.2.1).1) k) ?_
          refine Go.on (T' := T140) (g' := (mkF m 83 #[.val (.int i0), .val (.int i1), .val (.int i2), .val (.int i0), .val (.int i1), .val (.ref c138_0), .val (.long (((i1.toInt64) - (i0.toInt64)) + (1 : Int64))), .second, .val (.int ((64 : Int32) - ((32 : Int32) + (own_nlz (((((i1.toInt64) - (i0.toInt64)) + (1 : Int64)) - (1 : Int64)).toInt32))))), .unset, .unset] [(.int (1 : Int32))])) (fun t k => XS.iconst X140.here hx rfl (hb hby at_82) k) ?_
          refine Go.on (T' := T140) (g' := (mkF m 87 #[.val (.int i0), .val (.int i1), .val (.int i2), .val (.int i0), .val (.int i1), .val (.ref c138_0), .val (.long (((i1.toInt64) - (i0.toInt64)) + (1 : Int64))), .second, .val (.int ((64 : Int32) - ((32 : Int32) + (own_nlz (((((i1.toInt64) - (i0.toInt64)) + (1 : Int64)) - (1 : Int64)).toInt32))))), .unset, .unset] [(.int (1 : Int32))])) (fun t k => XS.goto X140.here hx rfl (pc0 := 83) (pc' := 87) rfl (hb hby at_83) (by decide) (by decide) k) ?_
          refine Go.on (T' := T140) (g' := (mkF m 89 #[.val (.int i0), .val (.int i1), .val (.int i2), .val (.int i0), .val (.int i1), .val (.ref c138_0), .val (.long (((i1.toInt64) - (i0.toInt64)) + (1 : Int64))), .second, .val (.int ((64 : Int32) - ((32 : Int32) + (own_nlz (((((i1.toInt64) - (i0.toInt64)) + (1 : Int64)) - (1 : Int64)).toInt32))))), .val (.int (1 : Int32)), .unset] [])) (fun t k => XS.istore X140.here hx rfl (hb hby at_87) rfl (l' := #[.val (.int i0), .val (.int i1), .val (.int i2), .val (.int i0), .val (.int i1), .val (.ref c138_0), .val (.long (((i1.toInt64) - (i0.toInt64)) + (1 : Int64))), .second, .val (.int ((64 : Int32) - ((32 : Int32) + (own_nlz (((((i1.toInt64) - (i0.toInt64)) + (1 : Int64)) - (1 : Int64)).toInt32))))), .val (.int (1 : Int32)), .unset]) rfl k) ?_
          refine Go.on (T' := T140) (g' := (mkF m 91 #[.val (.int i0), .val (.int i1), .val (.int i2), .val (.int i0), .val (.int i1), .val (.ref c138_0), .val (.long (((i1.toInt64) - (i0.toInt64)) + (1 : Int64))), .second, .val (.int ((64 : Int32) - ((32 : Int32) + (own_nlz (((((i1.toInt64) - (i0.toInt64)) + (1 : Int64)) - (1 : Int64)).toInt32))))), .val (.int (1 : Int32)), .unset] [(.int ((64 : Int32) - ((32 : Int32) + (own_nlz (((((i1.toInt64) - (i0.toInt64)) + (1 : Int64)) - (1 : Int64)).toInt32)))))])) (fun t k => XS.iload X140.here hx rfl (hb hby at_89) rfl k) ?_
          by_cases h141 : ((64 : Int32) - ((32 : Int32) + (own_nlz (((((i1.toInt64) - (i0.toInt64)) + (1 : Int64)) - (1 : Int64)).toInt32)))) = (0 : Int32)
          · skip
            refine Go.on (T' := T140) (g' := (mkF m 106 #[.val (.int i0), .val (.int i1), .val (.int i2), .val (.int i0), .val (.int i1), .val (.ref c138_0), .val (.long (((i1.toInt64) - (i0.toInt64)) + (1 : Int64))), .second, .val (.int ((64 : Int32) - ((32 : Int32) + (own_nlz (((((i1.toInt64) - (i0.toInt64)) + (1 : Int64)) - (1 : Int64)).toInt32))))), .val (.int (1 : Int32)), .unset] [])) (fun t k => XS.ifYes X140.here hx rfl (pc0 := 91) (pc' := 106) rfl (hb hby at_91) rfl ((if0 _ _).trans (teq h141).1) (by decide) (by decide) k) ?_
            refine Go.on (T' := T140) (g' := (mkF m 107 #[.val (.int i0), .val (.int i1), .val (.int i2), .val (.int i0), .val (.int i1), .val (.ref c138_0), .val (.long (((i1.toInt64) - (i0.toInt64)) + (1 : Int64))), .second, .val (.int ((64 : Int32) - ((32 : Int32) + (own_nlz (((((i1.toInt64) - (i0.toInt64)) + (1 : Int64)) - (1 : Int64)).toInt32))))), .val (.int (1 : Int32)), .unset] [(.int (1 : Int32))])) (fun t k => XS.iconst X140.here hx rfl (hb hby at_106) k) ?_
            refine Go.on (T' := T140) (g' := (mkF m 111 #[.val (.int i0), .val (.int i1), .val (.int i2), .val (.int i0), .val (.int i1), .val (.ref c138_0), .val (.long (((i1.toInt64) - (i0.toInt64)) + (1 : Int64))), .second, .val (.int ((64 : Int32) - ((32 : Int32) + (own_nlz (((((i1.toInt64) - (i0.toInt64)) + (1 : Int64)) - (1 : Int64)).toInt32))))), .val (.int (1 : Int32)), .unset] [(.int (1 : Int32))])) (fun t k => XS.goto X140.here hx rfl (pc0 := 107) (pc' := 111) rfl (hb hby at_107) (by decide) (by decide) k) ?_
            refine Go.on (T' := T140) (g' := (mkF m 113 #[.val (.int i0), .val (.int i1), .val (.int i2), .val (.int i0), .val (.int i1), .val (.ref c138_0), .val (.long (((i1.toInt64) - (i0.toInt64)) + (1 : Int64))), .second, .val (.int ((64 : Int32) - ((32 : Int32) + (own_nlz (((((i1.toInt64) - (i0.toInt64)) + (1 : Int64)) - (1 : Int64)).toInt32))))), .val (.int (1 : Int32)), .val (.int (1 : Int32))] [])) (fun t k => XS.istore X140.here hx rfl (hb hby at_111) rfl (l' := #[.val (.int i0), .val (.int i1), .val (.int i2), .val (.int i0), .val (.int i1), .val (.ref c138_0), .val (.long (((i1.toInt64) - (i0.toInt64)) + (1 : Int64))), .second, .val (.int ((64 : Int32) - ((32 : Int32) + (own_nlz (((((i1.toInt64) - (i0.toInt64)) + (1 : Int64)) - (1 : Int64)).toInt32))))), .val (.int (1 : Int32)), .val (.int (1 : Int32))]) rfl k) ?_
            refine Go.on (T' := T140) (g' := (mkF m 115 #[.val (.int i0), .val (.int i1), .val (.int i2), .val (.int i0), .val (.int i1), .val (.ref c138_0), .val (.long (((i1.toInt64) - (i0.toInt64)) + (1 : Int64))), .second, .val (.int ((64 : Int32) - ((32 : Int32) + (own_nlz (((((i1.toInt64) - (i0.toInt64)) + (1 : Int64)) - (1 : Int64)).toInt32))))), .val (.int (1 : Int32)), .val (.int (1 : Int32))] [(.int (1 : Int32))])) (fun t k => XS.iload X140.here hx rfl (hb hby at_113) rfl k) ?_
            refine Go.on (T' := T140) (g' := (mkF m 118 #[.val (.int i0), .val (.int i1), .val (.int i2), .val (.int i0), .val (.int i1), .val (.ref c138_0), .val (.long (((i1.toInt64) - (i0.toInt64)) + (1 : Int64))), .second, .val (.int ((64 : Int32) - ((32 : Int32) + (own_nlz (((((i1.toInt64) - (i0.toInt64)) + (1 : Int64)) - (1 : Int64)).toInt32))))), .val (.int (1 : Int32)), .val (.int (1 : Int32))] [])) (fun t k => XS.ifNo X140.here hx rfl (hb hby at_115) rfl ((if0 _ _).trans (feq (by decide : ¬ ((1 : Int32) = (0 : Int32)))).1) k) ?_
            refine Go.on (T' := T140) (g' := (mkF m 120 #[.val (.int i0), .val (.int i1), .val (.int i2), .val (.int i0), .val (.int i1), .val (.ref c138_0), .val (.long (((i1.toInt64) - (i0.toInt64)) + (1 : Int64))), .second, .val (.int ((64 : Int32) - ((32 : Int32) + (own_nlz (((((i1.toInt64) - (i0.toInt64)) + (1 : Int64)) - (1 : Int64)).toInt32))))), .val (.int (1 : Int32)), .val (.int (1 : Int32))] [(.int (1 : Int32))])) (fun t k => XS.iload X140.here hx rfl (hb hby at_118) rfl k) ?_
            refine Go.on (T' := T140) (g' := (mkF m 123 #[.val (.int i0), .val (.int i1), .val (.int i2), .val (.int i0), .val (.int i1), .val (.ref c138_0), .val (.long (((i1.toInt64) - (i0.toInt64)) + (1 : Int64))), .second, .val (.int ((64 : Int32) - ((32 : Int32) + (own_nlz (((((i1.toInt64) - (i0.toInt64)) + (1 : Int64)) - (1 : Int64)).toInt32))))), .val (.int (1 : Int32)), .val (.int (1 : Int32))] [])) (fun t k => XS.ifNo X140.here hx rfl (hb hby at_120) rfl ((if0 _ _).trans (feq (by decide : ¬ ((1 : Int32) = (0 : Int32)))).1) k) ?_
            refine Go.on (T' := T140) (g' := (mkF m 124 #[.val (.int i0), .val (.int i1), .val (.int i2), .val (.int i0), .val (.int i1), .val (.ref c138_0), .val (.long (((i1.toInt64) - (i0.toInt64)) + (1 : Int64))), .second, .val (.int ((64 : Int32) - ((32 : Int32) + (own_nlz (((((i1.toInt64) - (i0.toInt64)) + (1 : Int64)) - (1 : Int64)).toInt32))))), .val (.int (1 : Int32)), .val (.int (1 : Int32))] [(.int (1 : Int32))])) (fun t k => XS.iconst X140.here hx rfl (hb hby at_123) k) ?_
            refine Go.on (T' := T140) (g' := (mkF m 128 #[.val (.int i0), .val (.int i1), .val (.int i2), .val (.int i0), .val (.int i1), .val (.ref c138_0), .val (.long (((i1.toInt64) - (i0.toInt64)) + (1 : Int64))), .second, .val (.int ((64 : Int32) - ((32 : Int32) + (own_nlz (((((i1.toInt64) - (i0.toInt64)) + (1 : Int64)) - (1 : Int64)).toInt32))))), .val (.int (1 : Int32)), .val (.int (1 : Int32))] [(.int (1 : Int32))])) (fun t k => XS.goto X140.here hx rfl (pc0 := 124) (pc' := 128) rfl (hb hby at_124) (by decide) (by decide) k) ?_
            subst hG
            obtain ⟨fs, hr, hrun, hended, hW, hsame⟩ := X140.leave (v := some (.int (1 : Int32))) (fun h => by rw [Bd.returns] at h; cases h)
            exact ⟨_, _, retN X140 hx (t := .boolean) Bd.returns (by simp) (hb hby at_128) hr, hrun, hended, _, _, rfl, ⟨rfl, N140⟩, ⟨_, rfl⟩, hW, hsame.mono (by decide) (by decide)⟩
          · skip
            refine Go.on (T' := T140) (g' := (mkF m 94 #[.val (.int i0), .val (.int i1), .val (.int i2), .val (.int i0), .val (.int i1), .val (.ref c138_0), .val (.long (((i1.toInt64) - (i0.toInt64)) + (1 : Int64))), .second, .val (.int ((64 : Int32) - ((32 : Int32) + (own_nlz (((((i1.toInt64) - (i0.toInt64)) + (1 : Int64)) - (1 : Int64)).toInt32))))), .val (.int (1 : Int32)), .unset] [])) (fun t k => XS.ifNo X140.here hx rfl (hb hby at_91) rfl ((if0 _ _).trans (feq h141).1) k) ?_
            refine Go.on (T' := T140) (g' := (mkF m 95 #[.val (.int i0), .val (.int i1), .val (.int i2), .val (.int i0), .val (.int i1), .val (.ref c138_0), .val (.long (((i1.toInt64) - (i0.toInt64)) + (1 : Int64))), .second, .val (.int ((64 : Int32) - ((32 : Int32) + (own_nlz (((((i1.toInt64) - (i0.toInt64)) + (1 : Int64)) - (1 : Int64)).toInt32))))), .val (.int (1 : Int32)), .unset] [(.long (1 : Int64))])) (fun t k => XS.lconst X140.here hx rfl (hb hby at_94) k) ?_
            refine Go.on (T' := T140) (g' := (mkF m 97 #[.val (.int i0), .val (.int i1), .val (.int i2), .val (.int i0), .val (.int i1), .val (.ref c138_0), .val (.long (((i1.toInt64) - (i0.toInt64)) + (1 : Int64))), .second, .val (.int ((64 : Int32) - ((32 : Int32) + (own_nlz (((((i1.toInt64) - (i0.toInt64)) + (1 : Int64)) - (1 : Int64)).toInt32))))), .val (.int (1 : Int32)), .unset] [(.int ((64 : Int32) - ((32 : Int32) + (own_nlz (((((i1.toInt64) - (i0.toInt64)) + (1 : Int64)) - (1 : Int64)).toInt32))))), (.long (1 : Int64))])) (fun t k => XS.iload X140.here hx rfl (hb hby at_95) rfl k) ?_
            refine Go.on (T' := T140) (g' := (mkF m 98 #[.val (.int i0), .val (.int i1), .val (.int i2), .val (.int i0), .val (.int i1), .val (.ref c138_0), .val (.long (((i1.toInt64) - (i0.toInt64)) + (1 : Int64))), .second, .val (.int ((64 : Int32) - ((32 : Int32) + (own_nlz (((((i1.toInt64) - (i0.toInt64)) + (1 : Int64)) - (1 : Int64)).toInt32))))), .val (.int (1 : Int32)), .unset] [(.int (1 : Int32)), (.int ((64 : Int32) - ((32 : Int32) + (own_nlz (((((i1.toInt64) - (i0.toInt64)) + (1 : Int64)) - (1 : Int64)).toInt32))))), (.long (1 : Int64))])) (fun t k => XS.iconst X140.here hx rfl (hb hby at_97) k) ?_
            refine Go.on (T' := T140) (g' := (mkF m 99 #[.val (.int i0), .val (.int i1), .val (.int i2), .val (.int i0), .val (.int i1), .val (.ref c138_0), .val (.long (((i1.toInt64) - (i0.toInt64)) + (1 : Int64))), .second, .val (.int ((64 : Int32) - ((32 : Int32) + (own_nlz (((((i1.toInt64) - (i0.toInt64)) + (1 : Int64)) - (1 : Int64)).toInt32))))), .val (.int (1 : Int32)), .unset] [(.int (((64 : Int32) - ((32 : Int32) + (own_nlz (((((i1.toInt64) - (i0.toInt64)) + (1 : Int64)) - (1 : Int64)).toInt32)))) - (1 : Int32))), (.long (1 : Int64))])) (fun t k => XS.isub X140.here hx rfl (hb hby at_98) rfl k) ?_
            refine Go.on (T' := T140) (g' := (mkF m 100 #[.val (.int i0), .val (.int i1), .val (.int i2), .val (.int i0), .val (.int i1), .val (.ref c138_0), .val (.long (((i1.toInt64) - (i0.toInt64)) + (1 : Int64))), .second, .val (.int ((64 : Int32) - ((32 : Int32) + (own_nlz (((((i1.toInt64) - (i0.toInt64)) + (1 : Int64)) - (1 : Int64)).toInt32))))), .val (.int (1 : Int32)), .unset] [(.long ((1 : Int64) <<< ((((64 : Int32) - ((32 : Int32) + (own_nlz (((((i1.toInt64) - (i0.toInt64)) + (1 : Int64)) - (1 : Int64)).toInt32)))) - (1 : Int32)) &&& 0x3f).toInt64))])) (fun t k => XS.lshl X140.here hx rfl (hb hby at_99) rfl k) ?_
            refine Go.on (T' := T140) (g' := (mkF m 102 #[.val (.int i0), .val (.int i1), .val (.int i2), .val (.int i0), .val (.int i1), .val (.ref c138_0), .val (.long (((i1.toInt64) - (i0.toInt64)) + (1 : Int64))), .second, .val (.int ((64 : Int32) - ((32 : Int32) + (own_nlz (((((i1.toInt64) - (i0.toInt64)) + (1 : Int64)) - (1 : Int64)).toInt32))))), .val (.int (1 : Int32)), .unset] [(.long (((i1.toInt64) - (i0.toInt64)) + (1 : Int64))), (.long ((1 : Int64) <<< ((((64 : Int32) - ((32 : Int32) + (own_nlz (((((i1.toInt64) - (i0.toInt64)) + (1 : Int64)) - (1 : Int64)).toInt32)))) - (1 : Int32)) &&& 0x3f).toInt64))])) (fun t k => XS.lload X140.here hx rfl (hb hby at_100) rfl k) ?_
            refine Go.on (T' := T140) (g' := (mkF m 103 #[.val (.int i0), .val (.int i1), .val (.int i2), .val (.int i0), .val (.int i1), .val (.ref c138_0), .val (.long (((i1.toInt64) - (i0.toInt64)) + (1 : Int64))), .second, .val (.int ((64 : Int32) - ((32 : Int32) + (own_nlz (((((i1.toInt64) - (i0.toInt64)) + (1 : Int64)) - (1 : Int64)).toInt32))))), .val (.int (1 : Int32)), .unset] [(.int (lcmpW ((1 : Int64) <<< ((((64 : Int32) - ((32 : Int32) + (own_nlz (((((i1.toInt64) - (i0.toInt64)) + (1 : Int64)) - (1 : Int64)).toInt32)))) - (1 : Int32)) &&& 0x3f).toInt64) (((i1.toInt64) - (i0.toInt64)) + (1 : Int64))))])) (fun t k => XS.lcmp X140.here hx rfl (hb hby at_102) rfl k) ?_
            refine Go.on (T' := T140) (g' := (mkF m 106 #[.val (.int i0), .val (.int i1), .val (.int i2), .val (.int i0), .val (.int i1), .val (.ref c138_0), .val (.long (((i1.toInt64) - (i0.toInt64)) + (1 : Int64))), .second, .val (.int ((64 : Int32) - ((32 : Int32) + (own_nlz (((((i1.toInt64) - (i0.toInt64)) + (1 : Int64)) - (1 : Int64)).toInt32))))), .val (.int (1 : Int32)), .unset] [])) (fun t k => XS.ifNo X140.here hx rfl (hb hby at_103) rfl ((if0 _ _).trans (tlt (h139.2.2.2.2 h141)).2.1) k) ?_
            refine Go.on (T' := T140) (g' := (mkF m 107 #[.val (.int i0), .val (.int i1), .val (.int i2), .val (.int i0), .val (.int i1), .val (.ref c138_0), .val (.long (((i1.toInt64) - (i0.toInt64)) + (1 : Int64))), .second, .val (.int ((64 : Int32) - ((32 : Int32) + (own_nlz (((((i1.toInt64) - (i0.toInt64)) + (1 : Int64)) - (1 : Int64)).toInt32))))), .val (.int (1 : Int32)), .unset] [(.int (1 : Int32))])) (fun t k => XS.iconst X140.here hx rfl (hb hby at_106) k) ?_
            refine Go.on (T' := T140) (g' := (mkF m 111 #[.val (.int i0), .val (.int i1), .val (.int i2), .val (.int i0), .val (.int i1), .val (.ref c138_0), .val (.long (((i1.toInt64) - (i0.toInt64)) + (1 : Int64))), .second, .val (.int ((64 : Int32) - ((32 : Int32) + (own_nlz (((((i1.toInt64) - (i0.toInt64)) + (1 : Int64)) - (1 : Int64)).toInt32))))), .val (.int (1 : Int32)), .unset] [(.int (1 : Int32))])) (fun t k => XS.goto X140.here hx rfl (pc0 := 107) (pc' := 111) rfl (hb hby at_107) (by decide) (by decide) k) ?_
            refine Go.on (T' := T140) (g' := (mkF m 113 #[.val (.int i0), .val (.int i1), .val (.int i2), .val (.int i0), .val (.int i1), .val (.ref c138_0), .val (.long (((i1.toInt64) - (i0.toInt64)) + (1 : Int64))), .second, .val (.int ((64 : Int32) - ((32 : Int32) + (own_nlz (((((i1.toInt64) - (i0.toInt64)) + (1 : Int64)) - (1 : Int64)).toInt32))))), .val (.int (1 : Int32)), .val (.int (1 : Int32))] [])) (fun t k => XS.istore X140.here hx rfl (hb hby at_111) rfl (l' := #[.val (.int i0), .val (.int i1), .val (.int i2), .val (.int i0), .val (.int i1), .val (.ref c138_0), .val (.long (((i1.toInt64) - (i0.toInt64)) + (1 : Int64))), .second, .val (.int ((64 : Int32) - ((32 : Int32) + (own_nlz (((((i1.toInt64) - (i0.toInt64)) + (1 : Int64)) - (1 : Int64)).toInt32))))), .val (.int (1 : Int32)), .val (.int (1 : Int32))]) rfl k) ?_
            refine Go.on (T' := T140) (g' := (mkF m 115 #[.val (.int i0), .val (.int i1), .val (.int i2), .val (.int i0), .val (.int i1), .val (.ref c138_0), .val (.long (((i1.toInt64) - (i0.toInt64)) + (1 : Int64))), .second, .val (.int ((64 : Int32) - ((32 : Int32) + (own_nlz (((((i1.toInt64) - (i0.toInt64)) + (1 : Int64)) - (1 : Int64)).toInt32))))), .val (.int (1 : Int32)), .val (.int (1 : Int32))] [(.int (1 : Int32))])) (fun t k => XS.iload X140.here hx rfl (hb hby at_113) rfl k) ?_
            refine Go.on (T' := T140) (g' := (mkF m 118 #[.val (.int i0), .val (.int i1), .val (.int i2), .val (.int i0), .val (.int i1), .val (.ref c138_0), .val (.long (((i1.toInt64) - (i0.toInt64)) + (1 : Int64))), .second, .val (.int ((64 : Int32) - ((32 : Int32) + (own_nlz (((((i1.toInt64) - (i0.toInt64)) + (1 : Int64)) - (1 : Int64)).toInt32))))), .val (.int (1 : Int32)), .val (.int (1 : Int32))] [])) (fun t k => XS.ifNo X140.here hx rfl (hb hby at_115) rfl ((if0 _ _).trans (feq (by decide : ¬ ((1 : Int32) = (0 : Int32)))).1) k) ?_
            refine Go.on (T' := T140) (g' := (mkF m 120 #[.val (.int i0), .val (.int i1), .val (.int i2), .val (.int i0), .val (.int i1), .val (.ref c138_0), .val (.long (((i1.toInt64) - (i0.toInt64)) + (1 : Int64))), .second, .val (.int ((64 : Int32) - ((32 : Int32) + (own_nlz (((((i1.toInt64) - (i0.toInt64)) + (1 : Int64)) - (1 : Int64)).toInt32))))), .val (.int (1 : Int32)), .val (.int (1 : Int32))] [(.int (1 : Int32))])) (fun t k => XS.iload X140.here hx rfl (hb hby at_118) rfl k) ?_
            refine Go.on (T' := T140) (g' := (mkF m 123 #[.val (.int i0), .val (.int i1), .val (.int i2), .val (.int i0), .val (.int i1), .val (.ref c138_0), .val (.long (((i1.toInt64) - (i0.toInt64)) + (1 : Int64))), .second, .val (.int ((64 : Int32) - ((32 : Int32) + (own_nlz (((((i1.toInt64) - (i0.toInt64)) + (1 : Int64)) - (1 : Int64)).toInt32))))), .val (.int (1 : Int32)), .val (.int (1 : Int32))] [])) (fun t k => XS.ifNo X140.here hx rfl (hb hby at_120) rfl ((if0 _ _).trans (feq (by decide : ¬ ((1 : Int32) = (0 : Int32)))).1) k) ?_
            refine Go.on (T' := T140) (g' := (mkF m 124 #[.val (.int i0), .val (.int i1), .val (.int i2), .val (.int i0), .val (.int i1), .val (.ref c138_0), .val (.long (((i1.toInt64) - (i0.toInt64)) + (1 : Int64))), .second, .val (.int ((64 : Int32) - ((32 : Int32) + (own_nlz (((((i1.toInt64) - (i0.toInt64)) + (1 : Int64)) - (1 : Int64)).toInt32))))), .val (.int (1 : Int32)), .val (.int (1 : Int32))] [(.int (1 : Int32))])) (fun t k => XS.iconst X140.here hx rfl (hb hby at_123) k) ?_
            refine Go.on (T' := T140) (g' := (mkF m 128 #[.val (.int i0), .val (.int i1), .val (.int i2), .val (.int i0), .val (.int i1), .val (.ref c138_0), .val (.long (((i1.toInt64) - (i0.toInt64)) + (1 : Int64))), .second, .val (.int ((64 : Int32) - ((32 : Int32) + (own_nlz (((((i1.toInt64) - (i0.toInt64)) + (1 : Int64)) - (1 : Int64)).toInt32))))), .val (.int (1 : Int32)), .val (.int (1 : Int32))] [(.int (1 : Int32))])) (fun t k => XS.goto X140.here hx rfl (pc0 := 124) (pc' := 128) rfl (hb hby at_124) (by decide) (by decide) k) ?_
            subst hG
            obtain ⟨fs, hr, hrun, hended, hW, hsame⟩ := X140.leave (v := some (.int (1 : Int32))) (fun h => by rw [Bd.returns] at h; cases h)
            exact ⟨_, _, retN X140 hx (t := .boolean) Bd.returns (by simp) (hb hby at_128) hr, hrun, hended, _, _, rfl, ⟨rfl, N140⟩, ⟨_, rfl⟩, hW, hsame.mono (by decide) (by decide)⟩
        · skip
          obtain ⟨_, _, ⟨T142, L142, k142, n142⟩, -, X142, ⟨Lc142, hQ142, l142, y142, z142⟩, st142⟩ := Jvm.LawKit.callS X136 hx (y := (⟨"com/example/realizer/realizer/spectra/Domain", "range", "(II)Lcom/example/realizer/realizer/spectra/Domain;"⟩ : MethodName)) hown (mvT hZ (hw _ (List.mem_of_getElem? (i := 7) rfl))) (mvT hZ (hw _ (List.mem_of_getElem? (i := 8) rfl))) (mvT hZ (hw _ (List.mem_of_getElem? (i := 9) rfl))) (mvT hZ (hw _ (List.mem_of_getElem? (i := 10) rfl))) (by decide) (backOf (W := 0) (rm3_1 l Z a0 hw [] w hB hP h0 XB i0 i1 h3 h137) hZ (hw _ (List.mem_of_getElem? (i := 10) rfl)) (hw _ (List.mem_of_getElem? (i := 9) rfl)) (by decide) (by decide)) (g := (mkF m 36 #[.val (.int i0), .val (.int i1), .val (.int i2), .val (.int i0), .val (.int i1), .unset, .unset, .unset, .unset, .unset, .unset] [(.int i1), (.int i0)])) rfl (by rw [hml]; rfl) (argsL := [(.int i0), (.int i1)]) (rest := []) (lenOf pd_6 rfl) rfl (by show 2 * 0 + _ ≤ _; exact Nat.le_of_eq rfl) (hb hby at_36) (fun _ _ => ⟨rfl, e136, (by decide : 0 + 1 ≤ _), (by decide : 0 + 3 ≤ _)⟩)
          dsimp only [Pt.U, Pt.locs, Pt.cells, Pt.slots] at X142 l142 y142 z142 st142 hQ142
          subst l142 y142 z142
          obtain ⟨⟨c142_0, rfl, K142, fq142_0, fq142_1, fq142_2, fq142_3, fq142_4, -⟩, N142q⟩ := hQ142
          have e142 : T142.heap = T142.heap := rfl
          have N142 := Fr.app N136 N142q
          have XT142 : Ext hB T142.heap := own_extK XB K142 all0
          refine Go.on (T' := T142) (g' := (mkF m 39 #[.val (.int i0), .val (.int i1), .val (.int i2), .val (.int i0), .val (.int i1), .unset, .unset, .unset, .unset, .unset, .unset] [(.ref c142_0)])) st142 ?_
          refine Go.on (T' := T142) (g' := (mkF m 41 #[.val (.int i0), .val (.int i1), .val (.int i2), .val (.int i0), .val (.int i1), .val (.ref c142_0), .unset, .unset, .unset, .unset, .unset] [])) (fun t k => XS.astore X142.here hx rfl (hb hby at_39) rfl rfl (l' := #[.val (.int i0), .val (.int i1), .val (.int i2), .val (.int i0), .val (.int i1), .val (.ref c142_0), .unset, .unset, .unset, .unset, .unset]) rfl k) ?_
          refine Go.on (T' := T142) (g' := (mkF m 43 #[.val (.int i0), .val (.int i1), .val (.int i2), .val (.int i0), .val (.int i1), .val (.ref c142_0), .unset, .unset, .unset, .unset, .unset] [(.int i1)])) (fun t k => XS.iload X142.here hx rfl (hb hby at_41) rfl k) ?_
          refine Go.on (T' := T142) (g' := (mkF m 44 #[.val (.int i0), .val (.int i1), .val (.int i2), .val (.int i0), .val (.int i1), .val (.ref c142_0), .unset, .unset, .unset, .unset, .unset] [(.long (i1.toInt64))])) (fun t k => XS.i2l X142.here hx rfl (hb hby at_43) rfl k) ?_
          refine Go.on (T' := T142) (g' := (mkF m 45 #[.val (.int i0), .val (.int i1), .val (.int i2), .val (.int i0), .val (.int i1), .val (.ref c142_0), .unset, .unset, .unset, .unset, .unset] [(.int i0), (.long (i1.toInt64))])) (fun t k => XS.iloadN X142.here hx rfl (hb hby at_44) rfl k) ?_
          refine Go.on (T' := T142) (g' := (mkF m 46 #[.val (.int i0), .val (.int i1), .val (.int i2), .val (.int i0), .val (.int i1), .val (.ref c142_0), .unset, .unset, .unset, .unset, .unset] [(.long (i0.toInt64)), (.long (i1.toInt64))])) (fun t k => XS.i2l X142.here hx rfl (hb hby at_45) rfl k) ?_
          refine Go.on (T' := T142) (g' := (mkF m 47 #[.val (.int i0), .val (.int i1), .val (.int i2), .val (.int i0), .val (.int i1), .val (.ref c142_0), .unset, .unset, .unset, .unset, .unset] [(.long ((i1.toInt64) - (i0.toInt64)))])) (fun t k => XS.lsub X142.here hx rfl (hb hby at_46) rfl k) ?_
          refine Go.on (T' := T142) (g' := (mkF m 48 #[.val (.int i0), .val (.int i1), .val (.int i2), .val (.int i0), .val (.int i1), .val (.ref c142_0), .unset, .unset, .unset, .unset, .unset] [(.long (1 : Int64)), (.long ((i1.toInt64) - (i0.toInt64)))])) (fun t k => XS.lconst X142.here hx rfl (hb hby at_47) k) ?_
          refine Go.on (T' := T142) (g' := (mkF m 49 #[.val (.int i0), .val (.int i1), .val (.int i2), .val (.int i0), .val (.int i1), .val (.ref c142_0), .unset, .unset, .unset, .unset, .unset] [(.long (((i1.toInt64) - (i0.toInt64)) + (1 : Int64)))])) (fun t k => XS.ladd X142.here hx rfl (hb hby at_48) rfl k) ?_
          refine Go.on (T' := T142) (g' := (mkF m 51 #[.val (.int i0), .val (.int i1), .val (.int i2), .val (.int i0), .val (.int i1), .val (.ref c142_0), .val (.long (((i1.toInt64) - (i0.toInt64)) + (1 : Int64))), .second, .unset, .unset, .unset] [])) (fun t k => XS.lstore X142.here hx rfl (hb hby at_49) rfl (l' := #[.val (.int i0), .val (.int i1), .val (.int i2), .val (.int i0), .val (.int i1), .val (.ref c142_0), .val (.long (((i1.toInt64) - (i0.toInt64)) + (1 : Int64))), .second, .unset, .unset, .unset]) rfl k) ?_
          refine Go.on (T' := T142) (g' := (mkF m 53 #[.val (.int i0), .val (.int i1), .val (.int i2), .val (.int i0), .val (.int i1), .val (.ref c142_0), .val (.long (((i1.toInt64) - (i0.toInt64)) + (1 : Int64))), .second, .unset, .unset, .unset] [(.ref c142_0)])) (fun t k => XS.aload X142.here hx rfl (hb hby at_51) rfl rfl k) ?_
          have h143 := own_bits i0 i1 h3
          obtain ⟨_, _, ⟨T144, L144, k144, n144⟩, -, X144, ⟨Lc144, hQ144, l144, y144, z144⟩, st144⟩ := Jvm.LawKit.callS X142 hx (y := (⟨"com/example/realizer/realizer/spectra/Variable", "bits", "(Lcom/example/realizer/realizer/spectra/Domain;)I"⟩ : MethodName)) hown (mvT hZ (hw _ (List.mem_of_getElem? (i := 65) rfl))) (mvT hZ (hw _ (List.mem_of_getElem? (i := 66) rfl))) (mvT hZ (hw _ (List.mem_of_getElem? (i := 67) rfl))) (mvT hZ (hw _ (List.mem_of_getElem? (i := 68) rfl))) (by decide) (backOf (W := 0) (rm11_0 l Z a0 hw [] w hB hP T142.heap XT142 c142_0 i0 i1 fq142_1 fq142_2 fq142_3 fq142_4 (Nat.le_trans XB.1 fq142_0) h143.1) hZ (hw _ (List.mem_of_getElem? (i := 68) rfl)) (hw _ (List.mem_of_getElem? (i := 67) rfl)) (by decide) (by decide)) (g := (mkF m 53 #[.val (.int i0), .val (.int i1), .val (.int i2), .val (.int i0), .val (.int i1), .val (.ref c142_0), .val (.long (((i1.toInt64) - (i0.toInt64)) + (1 : Int64))), .second, .unset, .unset, .unset] [(.ref c142_0)])) rfl (by rw [hml]; rfl) (argsL := [(.ref c142_0)]) (rest := []) (lenOf pd_10 rfl) rfl (by show 2 * 0 + _ ≤ _; exact Nat.le_of_eq rfl) (hb hby at_53) (fun _ _ => ⟨rfl, e142, (by decide : 1 + 0 ≤ _), (by decide : 3 + 0 ≤ _)⟩)
          dsimp only [Pt.U, Pt.locs, Pt.cells, Pt.slots] at X144 l144 y144 z144 st144 hQ144
          subst l144 y144 z144
          obtain ⟨⟨rfl, e144⟩, N144q⟩ := hQ144
          have N144 := Fr.app N142 N144q
          refine Go.on (T' := T144) (g' := (mkF m 56 #[.val (.int i0), .val (.int i1), .val (.int i2), .val (.int i0), .val (.int i1), .val (.ref c142_0), .val (.long (((i1.toInt64) - (i0.toInt64)) + (1 : Int64))), .second, .unset, .unset, .unset] [(.int ((64 : Int32) - ((32 : Int32) + (own_nlz (((((i1.toInt64) - (i0.toInt64)) + (1 : Int64)) - (1 : Int64)).toInt32)))))])) st144 ?_
          refine Go.on (T' := T144) (g' := (mkF m 58 #[.val (.int i0), .val (.int i1), .val (.int i2), .val (.int i0), .val (.int i1), .val (.ref c142_0), .val (.long (((i1.toInt64) - (i0.toInt64)) + (1 : Int64))), .second, .val (.int ((64 : Int32) - ((32 : Int32) + (own_nlz (((((i1.toInt64) - (i0.toInt64)) + (1 : Int64)) - (1 : Int64)).toInt32))))), .unset, .unset] [])) (fun t k => XS.istore X144.here hx rfl (hb hby at_56) rfl (l' := #[.val (.int i0), .val (.int i1), .val (.int i2), .val (.int i0), .val (.int i1), .val (.ref c142_0), .val (.long (((i1.toInt64) - (i0.toInt64)) + (1 : Int64))), .second, .val (.int ((64 : Int32) - ((32 : Int32) + (own_nlz (((((i1.toInt64) - (i0.toInt64)) + (1 : Int64)) - (1 : Int64)).toInt32))))), .unset, .unset]) rfl k) ?_
          refine Go.on (T' := T144) (g' := (mkF m 60 #[.val (.int i0), .val (.int i1), .val (.int i2), .val (.int i0), .val (.int i1), .val (.ref c142_0), .val (.long (((i1.toInt64) - (i0.toInt64)) + (1 : Int64))), .second, .val (.int ((64 : Int32) - ((32 : Int32) + (own_nlz (((((i1.toInt64) - (i0.toInt64)) + (1 : Int64)) - (1 : Int64)).toInt32))))), .unset, .unset] [(.int ((64 : Int32) - ((32 : Int32) + (own_nlz (((((i1.toInt64) - (i0.toInt64)) + (1 : Int64)) - (1 : Int64)).toInt32)))))])) (fun t k => XS.iload X144.here hx rfl (hb hby at_58) rfl k) ?_
          refine Go.on (T' := T144) (g' := (mkF m 63 #[.val (.int i0), .val (.int i1), .val (.int i2), .val (.int i0), .val (.int i1), .val (.ref c142_0), .val (.long (((i1.toInt64) - (i0.toInt64)) + (1 : Int64))), .second, .val (.int ((64 : Int32) - ((32 : Int32) + (own_nlz (((((i1.toInt64) - (i0.toInt64)) + (1 : Int64)) - (1 : Int64)).toInt32))))), .unset, .unset] [])) (fun t k => XS.ifNo X144.here hx rfl (hb hby at_60) rfl ((if0 _ _).trans (flt h143.2.1).1) k) ?_
          refine Go.on (T' := T144) (g' := (mkF m 65 #[.val (.int i0), .val (.int i1), .val (.int i2), .val (.int i0), .val (.int i1), .val (.ref c142_0), .val (.long (((i1.toInt64) - (i0.toInt64)) + (1 : Int64))), .second, .val (.int ((64 : Int32) - ((32 : Int32) + (own_nlz (((((i1.toInt64) - (i0.toInt64)) + (1 : Int64)) - (1 : Int64)).toInt32))))), .unset, .unset] [(.int ((64 : Int32) - ((32 : Int32) + (own_nlz (((((i1.toInt64) - (i0.toInt64)) + (1 : Int64)) - (1 : Int64)).toInt32)))))])) (fun t k => XS.iload X144.here hx rfl (hb hby at_63) rfl k) ?_
          refine Go.on (T' := T144) (g' := (mkF m 67 #[.val (.int i0), .val (.int i1), .val (.int i2), .val (.int i0), .val (.int i1), .val (.ref c142_0), .val (.long (((i1.toInt64) - (i0.toInt64)) + (1 : Int64))), .second, .val (.int ((64 : Int32) - ((32 : Int32) + (own_nlz (((((i1.toInt64) - (i0.toInt64)) + (1 : Int64)) - (1 : Int64)).toInt32))))), .unset, .unset] [(.int (32 : Int32)), (.int ((64 : Int32) - ((32 : Int32) + (own_nlz (((((i1.toInt64) - (i0.toInt64)) + (1 : Int64)) - (1 : Int64)).toInt32)))))])) (fun t k => XS.bipush X144.here hx rfl (hb hby at_65) k) ?_
          refine Go.on (T' := T144) (g' := (mkF m 72 #[.val (.int i0), .val (.int i1), .val (.int i2), .val (.int i0), .val (.int i1), .val (.ref c142_0), .val (.long (((i1.toInt64) - (i0.toInt64)) + (1 : Int64))), .second, .val (.int ((64 : Int32) - ((32 : Int32) + (own_nlz (((((i1.toInt64) - (i0.toInt64)) + (1 : Int64)) - (1 : Int64)).toInt32))))), .unset, .unset] [])) (fun t k => XS.icmpYes X144.here hx rfl (pc0 := 67) (pc' := 72) rfl (hb hby at_67) rfl (flt h143.2.2.1).2.2.2 (by decide) (by decide) k) ?_
          refine Go.on (T' := T144) (g' := (mkF m 73 #[.val (.int i0), .val (.int i1), .val (.int i2), .val (.int i0), .val (.int i1), .val (.ref c142_0), .val (.long (((i1.toInt64) - (i0.toInt64)) + (1 : Int64))), .second, .val (.int ((64 : Int32) - ((32 : Int32) + (own_nlz (((((i1.toInt64) - (i0.toInt64)) + (1 : Int64)) - (1 : Int64)).toInt32))))), .unset, .unset] [(.long (1 : Int64))])) (fun t k => XS.lconst X144.here hx rfl (hb hby at_72) k) ?_
          refine Go.on (T' := T144) (g' := (mkF m 75 #[.val (.int i0), .val (.int i1), .val (.int i2), .val (.int i0), .val (.int i1), .val (.ref c142_0), .val (.long (((i1.toInt64) - (i0.toInt64)) + (1 : Int64))), .second, .val (.int ((64 : Int32) - ((32 : Int32) + (own_nlz (((((i1.toInt64) - (i0.toInt64)) + (1 : Int64)) - (1 : Int64)).toInt32))))), .unset, .unset] [(.int ((64 : Int32) - ((32 : Int32) + (own_nlz (((((i1.toInt64) - (i0.toInt64)) + (1 : Int64)) - (1 : Int64)).toInt32))))), (.long (1 : Int64))])) (fun t k => XS.iload X144.here hx rfl (hb hby at_73) rfl k) ?_
          refine Go.on (T' := T144) (g' := (mkF m 76 #[.val (.int i0), .val (.int i1), .val (.int i2), .val (.int i0), .val (.int i1), .val (.ref c142_0), .val (.long (((i1.toInt64) - (i0.toInt64)) + (1 : Int64))), .second, .val (.int ((64 : Int32) - ((32 : Int32) + (own_nlz (((((i1.toInt64) - (i0.toInt64)) + (1 : Int64)) - (1 : Int64)).toInt32))))), .unset, .unset] [(.long ((1 : Int64) <<< (((64 : Int32) - ((32 : Int32) + (own_nlz (((((i1.toInt64) - (i0.toInt64)) + (1 : Int64)) - (1 : Int64)).toInt32)))) &&& 0x3f).toInt64))])) (fun t k => XS.lshl X144.here hx rfl (hb hby at_75) rfl k) ?_
          refine Go.on (T' := T144) (g' := (mkF m 78 #[.val (.int i0), .val (.int i1), .val (.int i2), .val (.int i0), .val (.int i1), .val (.ref c142_0), .val (.long (((i1.toInt64) - (i0.toInt64)) + (1 : Int64))), .second, .val (.int ((64 : Int32) - ((32 : Int32) + (own_nlz (((((i1.toInt64) - (i0.toInt64)) + (1 : Int64)) - (1 : Int64)).toInt32))))), .unset, .unset] [(.long (((i1.toInt64) - (i0.toInt64)) + (1 : Int64))), (.long ((1 : Int64) <<< (((64 : Int32) - ((32 : Int32) + (own_nlz (((((i1.toInt64) - (i0.toInt64)) + (1 : Int64)) - (1 : Int64)).toInt32)))) &&& 0x3f).toInt64))])) (fun t k => XS.lload X144.here hx rfl (hb hby at_76) rfl k) ?_
          refine Go.on (T' := T144) (g' := (mkF m 79 #[.val (.int i0), .val (.int i1), .val (.int i2), .val (.int i0), .val (.int i1), .val (.ref c142_0), .val (.long (((i1.toInt64) - (i0.toInt64)) + (1 : Int64))), .second, .val (.int ((64 : Int32) - ((32 : Int32) + (own_nlz (((((i1.toInt64) - (i0.toInt64)) + (1 : Int64)) - (1 : Int64)).toInt32))))), .unset, .unset] [(.int (lcmpW ((1 : Int64) <<< (((64 : Int32) - ((32 : Int32) + (own_nlz (((((i1.toInt64) - (i0.toInt64)) + (1 : Int64)) - (1 : Int64)).toInt32)))) &&& 0x3f).toInt64) (((i1.toInt64) - (i0.toInt64)) + (1 : Int64))))])) (fun t k => XS.lcmp X144.here hx rfl (hb hby at_78) rfl k) ?_
          refine Go.on (T' := T144) (g' := (mkF m 82 #[.val (.int i0), .val (.int i1), .val (.int i2), .val (.int i0), .val (.int i1), .val (.ref c142_0), .val (.long (((i1.toInt64) - (i0.toInt64)) + (1 : Int64))), .second, .val (.int ((64 : Int32) - ((32 : Int32) + (own_nlz (((((i1.toInt64) - (i0.toInt64)) + (1 : Int64)) - (1 : Int64)).toInt32))))), .unset, .unset] [])) (fun t k => XS.ifNo X144.here hx rfl (hb hby at_79) rfl ((if0 _ _).trans (flt h143.2.2.2.1).1) k) ?_
          refine Go.on (T' := T144) (g' := (mkF m 83 #[.val (.int i0), .val (.int i1), .val (.int i2), .val (.int i0), .val (.int i1), .val (.ref c142_0), .val (.long (((i1.toInt64) - (i0.toInt64)) + (1 : Int64))), .second, .val (.int ((64 : Int32) - ((32 : Int32) + (own_nlz (((((i1.toInt64) - (i0.toInt64)) + (1 : Int64)) - (1 : Int64)).toInt32))))), .unset, .unset] [(.int (1 : Int32))])) (fun t k => XS.iconst X144.here hx rfl (hb hby at_82) k) ?_
          refine Go.on (T' := T144) (g' := (mkF m 87 #[.val (.int i0), .val (.int i1), .val (.int i2), .val (.int i0), .val (.int i1), .val (.ref c142_0), .val (.long (((i1.toInt64) - (i0.toInt64)) + (1 : Int64))), .second, .val (.int ((64 : Int32) - ((32 : Int32) + (own_nlz (((((i1.toInt64) - (i0.toInt64)) + (1 : Int64)) - (1 : Int64)).toInt32))))), .unset, .unset] [(.int (1 : Int32))])) (fun t k => XS.goto X144.here hx rfl (pc0 := 83) (pc' := 87) rfl (hb hby at_83) (by decide) (by decide) k) ?_
          refine Go.on (T' := T144) (g' := (mkF m 89 #[.val (.int i0), .val (.int i1), .val (.int i2), .val (.int i0), .val (.int i1), .val (.ref c142_0), .val (.long (((i1.toInt64) - (i0.toInt64)) + (1 : Int64))), .second, .val (.int ((64 : Int32) - ((32 : Int32) + (own_nlz (((((i1.toInt64) - (i0.toInt64)) + (1 : Int64)) - (1 : Int64)).toInt32))))), .val (.int (1 : Int32)), .unset] [])) (fun t k => XS.istore X144.here hx rfl (hb hby at_87) rfl (l' := #[.val (.int i0), .val (.int i1), .val (.int i2), .val (.int i0), .val (.int i1), .val (.ref c142_0), .val (.long (((i1.toInt64) - (i0.toInt64)) + (1 : Int64))), .second, .val (.int ((64 : Int32) - ((32 : Int32) + (own_nlz (((((i1.toInt64) - (i0.toInt64)) + (1 : Int64)) - (1 : Int64)).toInt32))))), .val (.int (1 : Int32)), .unset]) rfl k) ?_
          refine Go.on (T' := T144) (g' := (mkF m 91 #[.val (.int i0), .val (.int i1), .val (.int i2), .val (.int i0), .val (.int i1), .val (.ref c142_0), .val (.long (((i1.toInt64) - (i0.toInt64)) + (1 : Int64))), .second, .val (.int ((64 : Int32) - ((32 : Int32) + (own_nlz (((((i1.toInt64) - (i0.toInt64)) + (1 : Int64)) - (1 : Int64)).toInt32))))), .val (.int (1 : Int32)), .unset] [(.int ((64 : Int32) - ((32 : Int32) + (own_nlz (((((i1.toInt64) - (i0.toInt64)) + (1 : Int64)) - (1 : Int64)).toInt32)))))])) (fun t k => XS.iload X144.here hx rfl (hb hby at_89) rfl k) ?_
          by_cases h145 : ((64 : Int32) - ((32 : Int32) + (own_nlz (((((i1.toInt64) - (i0.toInt64)) + (1 : Int64)) - (1 : Int64)).toInt32)))) = (0 : Int32)
          · skip
            refine Go.on (T' := T144) (g' := (mkF m 106 #[.val (.int i0), .val (.int i1), .val (.int i2), .val (.int i0), .val (.int i1), .val (.ref c142_0), .val (.long (((i1.toInt64) - (i0.toInt64)) + (1 : Int64))), .second, .val (.int ((64 : Int32) - ((32 : Int32) + (own_nlz (((((i1.toInt64) - (i0.toInt64)) + (1 : Int64)) - (1 : Int64)).toInt32))))), .val (.int (1 : Int32)), .unset] [])) (fun t k => XS.ifYes X144.here hx rfl (pc0 := 91) (pc' := 106) rfl (hb hby at_91) rfl ((if0 _ _).trans (teq h145).1) (by decide) (by decide) k) ?_
            refine Go.on (T' := T144) (g' := (mkF m 107 #[.val (.int i0), .val (.int i1), .val (.int i2), .val (.int i0), .val (.int i1), .val (.ref c142_0), .val (.long (((i1.toInt64) - (i0.toInt64)) + (1 : Int64))), .second, .val (.int ((64 : Int32) - ((32 : Int32) + (own_nlz (((((i1.toInt64) - (i0.toInt64)) + (1 : Int64)) - (1 : Int64)).toInt32))))), .val (.int (1 : Int32)), .unset] [(.int (1 : Int32))])) (fun t k => XS.iconst X144.here hx rfl (hb hby at_106) k) ?_
            refine Go.on (T' := T144) (g' := (mkF m 111 #[.val (.int i0), .val (.int i1), .val (.int i2), .val (.int i0), .val (.int i1), .val (.ref c142_0), .val (.long (((i1.toInt64) - (i0.toInt64)) + (1 : Int64))), .second, .val (.int ((64 : Int32) - ((32 : Int32) + (own_nlz (((((i1.toInt64) - (i0.toInt64)) + (1 : Int64)) - (1 : Int64)).toInt32))))), .val (.int (1 : Int32)), .unset] [(.int (1 : Int32))])) (fun t k => XS.goto X144.here hx rfl (pc0 := 107) (pc' := 111) rfl (hb hby at_107) (by decide) (by decide) k) ?_
            refine Go.on (T' := T144) (g' := (mkF m 113 #[.val (.int i0), .val (.int i1), .val (.int i2), .val (.int i0), .val (.int i1), .val (.ref c142_0), .val (.long (((i1.toInt64) - (i0.toInt64)) + (1 : Int64))), .second, .val (.int ((64 : Int32) - ((32 : Int32) + (own_nlz (((((i1.toInt64) - (i0.toInt64)) + (1 : Int64)) - (1 : Int64)).toInt32))))), .val (.int (1 : Int32)), .val (.int (1 : Int32))] [])) (fun t k => XS.istore X144.here hx rfl (hb hby at_111) rfl (l' := #[.val (.int i0), .val (.int i1), .val (.int i2), .val (.int i0), .val (.int i1), .val (.ref c142_0), .val (.long (((i1.toInt64) - (i0.toInt64)) + (1 : Int64))), .second, .val (.int ((64 : Int32) - ((32 : Int32) + (own_nlz (((((i1.toInt64) - (i0.toInt64)) + (1 : Int64)) - (1 : Int64)).toInt32))))), .val (.int (1 : Int32)), .val (.int (1 : Int32))]) rfl k) ?_
            refine Go.on (T' := T144) (g' := (mkF m 115 #[.val (.int i0), .val (.int i1), .val (.int i2), .val (.int i0), .val (.int i1), .val (.ref c142_0), .val (.long (((i1.toInt64) - (i0.toInt64)) + (1 : Int64))), .second, .val (.int ((64 : Int32) - ((32 : Int32) + (own_nlz (((((i1.toInt64) - (i0.toInt64)) + (1 : Int64)) - (1 : Int64)).toInt32))))), .val (.int (1 : Int32)), .val (.int (1 : Int32))] [(.int (1 : Int32))])) (fun t k => XS.iload X144.here hx rfl (hb hby at_113) rfl k) ?_
            refine Go.on (T' := T144) (g' := (mkF m 118 #[.val (.int i0), .val (.int i1), .val (.int i2), .val (.int i0), .val (.int i1), .val (.ref c142_0), .val (.long (((i1.toInt64) - (i0.toInt64)) + (1 : Int64))), .second, .val (.int ((64 : Int32) - ((32 : Int32) + (own_nlz (((((i1.toInt64) - (i0.toInt64)) + (1 : Int64)) - (1 : Int64)).toInt32))))), .val (.int (1 : Int32)), .val (.int (1 : Int32))] [])) (fun t k => XS.ifNo X144.here hx rfl (hb hby at_115) rfl ((if0 _ _).trans (feq (by decide : ¬ ((1 : Int32) = (0 : Int32)))).1) k) ?_
            refine Go.on (T' := T144) (g' := (mkF m 120 #[.val (.int i0), .val (.int i1), .val (.int i2), .val (.int i0), .val (.int i1), .val (.ref c142_0), .val (.long (((i1.toInt64) - (i0.toInt64)) + (1 : Int64))), .second, .val (.int ((64 : Int32) - ((32 : Int32) + (own_nlz (((((i1.toInt64) - (i0.toInt64)) + (1 : Int64)) - (1 : Int64)).toInt32))))), .val (.int (1 : Int32)), .val (.int (1 : Int32))] [(.int (1 : Int32))])) (fun t k => XS.iload X144.here hx rfl (hb hby at_118) rfl k) ?_
            refine Go.on (T' := T144) (g' := (mkF m 123 #[.val (.int i0), .val (.int i1), .val (.int i2), .val (.int i0), .val (.int i1), .val (.ref c142_0), .val (.long (((i1.toInt64) - (i0.toInt64)) + (1 : Int64))), .second, .val (.int ((64 : Int32) - ((32 : Int32) + (own_nlz (((((i1.toInt64) - (i0.toInt64)) + (1 : Int64)) - (1 : Int64)).toInt32))))), .val (.int (1 : Int32)), .val (.int (1 : Int32))] [])) (fun t k => XS.ifNo X144.here hx rfl (hb hby at_120) rfl ((if0 _ _).trans (feq (by decide : ¬ ((1 : Int32) = (0 : Int32)))).1) k) ?_
            refine Go.on (T' := T144) (g' := (mkF m 124 #[.val (.int i0), .val (.int i1), .val (.int i2), .val (.int i0), .val (.int i1), .val (.ref c142_0), .val (.long (((i1.toInt64) - (i0.toInt64)) + (1 : Int64))), .second, .val (.int ((64 : Int32) - ((32 : Int32) + (own_nlz (((((i1.toInt64) - (i0.toInt64)) + (1 : Int64)) - (1 : Int64)).toInt32))))), .val (.int (1 : Int32)), .val (.int (1 : Int32))] [(.int (1 : Int32))])) (fun t k => XS.iconst X144.here hx rfl (hb hby at_123) k) ?_
            refine Go.on (T' := T144) (g' := (mkF m 128 #[.val (.int i0), .val (.int i1), .val (.int i2), .val (.int i0), .val (.int i1), .val (.ref c142_0), .val (.long (((i1.toInt64) - (i0.toInt64)) + (1 : Int64))), .second, .val (.int ((64 : Int32) - ((32 : Int32) + (own_nlz (((((i1.toInt64) - (i0.toInt64)) + (1 : Int64)) - (1 : Int64)).toInt32))))), .val (.int (1 : Int32)), .val (.int (1 : Int32))] [(.int (1 : Int32))])) (fun t k => XS.goto X144.here hx rfl (pc0 := 124) (pc' := 128) rfl (hb hby at_124) (by decide) (by decide) k) ?_
            subst hG
            obtain ⟨fs, hr, hrun, hended, hW, hsame⟩ := X144.leave (v := some (.int (1 : Int32))) (fun h => by rw [Bd.returns] at h; cases h)
            exact ⟨_, _, retN X144 hx (t := .boolean) Bd.returns (by simp) (hb hby at_128) hr, hrun, hended, _, _, rfl, ⟨rfl, N144⟩, ⟨_, rfl⟩, hW, hsame.mono (by decide) (by decide)⟩
          · skip
            refine Go.on (T' := T144) (g' := (mkF m 94 #[.val (.int i0), .val (.int i1), .val (.int i2), .val (.int i0), .val (.int i1), .val (.ref c142_0), .val (.long (((i1.toInt64) - (i0.toInt64)) + (1 : Int64))), .second, .val (.int ((64 : Int32) - ((32 : Int32) + (own_nlz (((((i1.toInt64) - (i0.toInt64)) + (1 : Int64)) - (1 : Int64)).toInt32))))), .val (.int (1 : Int32)), .unset] [])) (fun t k => XS.ifNo X144.here hx rfl (hb hby at_91) rfl ((if0 _ _).trans (feq h145).1) k) ?_
            refine Go.on (T' := T144) (g' := (mkF m 95 #[.val (.int i0), .val (.int i1), .val (.int i2), .val (.int i0), .val (.int i1), .val (.ref c142_0), .val (.long (((i1.toInt64) - (i0.toInt64)) + (1 : Int64))), .second, .val (.int ((64 : Int32) - ((32 : Int32) + (own_nlz (((((i1.toInt64) - (i0.toInt64)) + (1 : Int64)) - (1 : Int64)).toInt32))))), .val (.int (1 : Int32)), .unset] [(.long (1 : Int64))])) (fun t k => XS.lconst X144.here hx rfl (hb hby at_94) k) ?_
            refine Go.on (T' := T144) (g' := (mkF m 97 #[.val (.int i0), .val (.int i1), .val (.int i2), .val (.int i0), .val (.int i1), .val (.ref c142_0), .val (.long (((i1.toInt64) - (i0.toInt64)) + (1 : Int64))), .second, .val (.int ((64 : Int32) - ((32 : Int32) + (own_nlz (((((i1.toInt64) - (i0.toInt64)) + (1 : Int64)) - (1 : Int64)).toInt32))))), .val (.int (1 : Int32)), .unset] [(.int ((64 : Int32) - ((32 : Int32) + (own_nlz (((((i1.toInt64) - (i0.toInt64)) + (1 : Int64)) - (1 : Int64)).toInt32))))), (.long (1 : Int64))])) (fun t k => XS.iload X144.here hx rfl (hb hby at_95) rfl k) ?_
            refine Go.on (T' := T144) (g' := (mkF m 98 #[.val (.int i0), .val (.int i1), .val (.int i2), .val (.int i0), .val (.int i1), .val (.ref c142_0), .val (.long (((i1.toInt64) - (i0.toInt64)) + (1 : Int64))), .second, .val (.int ((64 : Int32) - ((32 : Int32) + (own_nlz (((((i1.toInt64) - (i0.toInt64)) + (1 : Int64)) - (1 : Int64)).toInt32))))), .val (.int (1 : Int32)), .unset] [(.int (1 : Int32)), (.int ((64 : Int32) - ((32 : Int32) + (own_nlz (((((i1.toInt64) - (i0.toInt64)) + (1 : Int64)) - (1 : Int64)).toInt32))))), (.long (1 : Int64))])) (fun t k => XS.iconst X144.here hx rfl (hb hby at_97) k) ?_
            refine Go.on (T' := T144) (g' := (mkF m 99 #[.val (.int i0), .val (.int i1), .val (.int i2), .val (.int i0), .val (.int i1), .val (.ref c142_0), .val (.long (((i1.toInt64) - (i0.toInt64)) + (1 : Int64))), .second, .val (.int ((64 : Int32) - ((32 : Int32) + (own_nlz (((((i1.toInt64) - (i0.toInt64)) + (1 : Int64)) - (1 : Int64)).toInt32))))), .val (.int (1 : Int32)), .unset] [(.int (((64 : Int32) - ((32 : Int32) + (own_nlz (((((i1.toInt64) - (i0.toInt64)) + (1 : Int64)) - (1 : Int64)).toInt32)))) - (1 : Int32))), (.long (1 : Int64))])) (fun t k => XS.isub X144.here hx rfl (hb hby at_98) rfl k) ?_
            refine Go.on (T' := T144) (g' := (mkF m 100 #[.val (.int i0), .val (.int i1), .val (.int i2), .val (.int i0), .val (.int i1), .val (.ref c142_0), .val (.long (((i1.toInt64) - (i0.toInt64)) + (1 : Int64))), .second, .val (.int ((64 : Int32) - ((32 : Int32) + (own_nlz (((((i1.toInt64) - (i0.toInt64)) + (1 : Int64)) - (1 : Int64)).toInt32))))), .val (.int (1 : Int32)), .unset] [(.long ((1 : Int64) <<< ((((64 : Int32) - ((32 : Int32) + (own_nlz (((((i1.toInt64) - (i0.toInt64)) + (1 : Int64)) - (1 : Int64)).toInt32)))) - (1 : Int32)) &&& 0x3f).toInt64))])) (fun t k => XS.lshl X144.here hx rfl (hb hby at_99) rfl k) ?_
            refine Go.on (T' := T144) (g' := (mkF m 102 #[.val (.int i0), .val (.int i1), .val (.int i2), .val (.int i0), .val (.int i1), .val (.ref c142_0), .val (.long (((i1.toInt64) - (i0.toInt64)) + (1 : Int64))), .second, .val (.int ((64 : Int32) - ((32 : Int32) + (own_nlz (((((i1.toInt64) - (i0.toInt64)) + (1 : Int64)) - (1 : Int64)).toInt32))))), .val (.int (1 : Int32)), .unset] [(.long (((i1.toInt64) - (i0.toInt64)) + (1 : Int64))), (.long ((1 : Int64) <<< ((((64 : Int32) - ((32 : Int32) + (own_nlz (((((i1.toInt64) - (i0.toInt64)) + (1 : Int64)) - (1 : Int64)).toInt32)))) - (1 : Int32)) &&& 0x3f).toInt64))])) (fun t k => XS.lload X144.here hx rfl (hb hby at_100) rfl k) ?_
            refine Go.on (T' := T144) (g' := (mkF m 103 #[.val (.int i0), .val (.int i1), .val (.int i2), .val (.int i0), .val (.int i1), .val (.ref c142_0), .val (.long (((i1.toInt64) - (i0.toInt64)) + (1 : Int64))), .second, .val (.int ((64 : Int32) - ((32 : Int32) + (own_nlz (((((i1.toInt64) - (i0.toInt64)) + (1 : Int64)) - (1 : Int64)).toInt32))))), .val (.int (1 : Int32)), .unset] [(.int (lcmpW ((1 : Int64) <<< ((((64 : Int32) - ((32 : Int32) + (own_nlz (((((i1.toInt64) - (i0.toInt64)) + (1 : Int64)) - (1 : Int64)).toInt32)))) - (1 : Int32)) &&& 0x3f).toInt64) (((i1.toInt64) - (i0.toInt64)) + (1 : Int64))))])) (fun t k => XS.lcmp X144.here hx rfl (hb hby at_102) rfl k) ?_
            refine Go.on (T' := T144) (g' := (mkF m 106 #[.val (.int i0), .val (.int i1), .val (.int i2), .val (.int i0), .val (.int i1), .val (.ref c142_0), .val (.long (((i1.toInt64) - (i0.toInt64)) + (1 : Int64))), .second, .val (.int ((64 : Int32) - ((32 : Int32) + (own_nlz (((((i1.toInt64) - (i0.toInt64)) + (1 : Int64)) - (1 : Int64)).toInt32))))), .val (.int (1 : Int32)), .unset] [])) (fun t k => XS.ifNo X144.here hx rfl (hb hby at_103) rfl ((if0 _ _).trans (tlt (h143.2.2.2.2 h145)).2.1) k) ?_
            refine Go.on (T' := T144) (g' := (mkF m 107 #[.val (.int i0), .val (.int i1), .val (.int i2), .val (.int i0), .val (.int i1), .val (.ref c142_0), .val (.long (((i1.toInt64) - (i0.toInt64)) + (1 : Int64))), .second, .val (.int ((64 : Int32) - ((32 : Int32) + (own_nlz (((((i1.toInt64) - (i0.toInt64)) + (1 : Int64)) - (1 : Int64)).toInt32))))), .val (.int (1 : Int32)), .unset] [(.int (1 : Int32))])) (fun t k => XS.iconst X144.here hx rfl (hb hby at_106) k) ?_
            refine Go.on (T' := T144) (g' := (mkF m 111 #[.val (.int i0), .val (.int i1), .val (.int i2), .val (.int i0), .val (.int i1), .val (.ref c142_0), .val (.long (((i1.toInt64) - (i0.toInt64)) + (1 : Int64))), .second, .val (.int ((64 : Int32) - ((32 : Int32) + (own_nlz (((((i1.toInt64) - (i0.toInt64)) + (1 : Int64)) - (1 : Int64)).toInt32))))), .val (.int (1 : Int32)), .unset] [(.int (1 : Int32))])) (fun t k => XS.goto X144.here hx rfl (pc0 := 107) (pc' := 111) rfl (hb hby at_107) (by decide) (by decide) k) ?_
            refine Go.on (T' := T144) (g' := (mkF m 113 #[.val (.int i0), .val (.int i1), .val (.int i2), .val (.int i0), .val (.int i1), .val (.ref c142_0), .val (.long (((i1.toInt64) - (i0.toInt64)) + (1 : Int64))), .second, .val (.int ((64 : Int32) - ((32 : Int32) + (own_nlz (((((i1.toInt64) - (i0.toInt64)) + (1 : Int64)) - (1 : Int64)).toInt32))))), .val (.int (1 : Int32)), .val (.int (1 : Int32))] [])) (fun t k => XS.istore X144.here hx rfl (hb hby at_111) rfl (l' := #[.val (.int i0), .val (.int i1), .val (.int i2), .val (.int i0), .val (.int i1), .val (.ref c142_0), .val (.long (((i1.toInt64) - (i0.toInt64)) + (1 : Int64))), .second, .val (.int ((64 : Int32) - ((32 : Int32) + (own_nlz (((((i1.toInt64) - (i0.toInt64)) + (1 : Int64)) - (1 : Int64)).toInt32))))), .val (.int (1 : Int32)), .val (.int (1 : Int32))]) rfl k) ?_
            refine Go.on (T' := T144) (g' := (mkF m 115 #[.val (.int i0), .val (.int i1), .val (.int i2), .val (.int i0), .val (.int i1), .val (.ref c142_0), .val (.long (((i1.toInt64) - (i0.toInt64)) + (1 : Int64))), .second, .val (.int ((64 : Int32) - ((32 : Int32) + (own_nlz (((((i1.toInt64) - (i0.toInt64)) + (1 : Int64)) - (1 : Int64)).toInt32))))), .val (.int (1 : Int32)), .val (.int (1 : Int32))] [(.int (1 : Int32))])) (fun t k => XS.iload X144.here hx rfl (hb hby at_113) rfl k) ?_
            refine Go.on (T' := T144) (g' := (mkF m 118 #[.val (.int i0), .val (.int i1), .val (.int i2), .val (.int i0), .val (.int i1), .val (.ref c142_0), .val (.long (((i1.toInt64) - (i0.toInt64)) + (1 : Int64))), .second, .val (.int ((64 : Int32) - ((32 : Int32) + (own_nlz (((((i1.toInt64) - (i0.toInt64)) + (1 : Int64)) - (1 : Int64)).toInt32))))), .val (.int (1 : Int32)), .val (.int (1 : Int32))] [])) (fun t k => XS.ifNo X144.here hx rfl (hb hby at_115) rfl ((if0 _ _).trans (feq (by decide : ¬ ((1 : Int32) = (0 : Int32)))).1) k) ?_
            refine Go.on (T' := T144) (g' := (mkF m 120 #[.val (.int i0), .val (.int i1), .val (.int i2), .val (.int i0), .val (.int i1), .val (.ref c142_0), .val (.long (((i1.toInt64) - (i0.toInt64)) + (1 : Int64))), .second, .val (.int ((64 : Int32) - ((32 : Int32) + (own_nlz (((((i1.toInt64) - (i0.toInt64)) + (1 : Int64)) - (1 : Int64)).toInt32))))), .val (.int (1 : Int32)), .val (.int (1 : Int32))] [(.int (1 : Int32))])) (fun t k => XS.iload X144.here hx rfl (hb hby at_118) rfl k) ?_
            refine Go.on (T' := T144) (g' := (mkF m 123 #[.val (.int i0), .val (.int i1), .val (.int i2), .val (.int i0), .val (.int i1), .val (.ref c142_0), .val (.long (((i1.toInt64) - (i0.toInt64)) + (1 : Int64))), .second, .val (.int ((64 : Int32) - ((32 : Int32) + (own_nlz (((((i1.toInt64) - (i0.toInt64)) + (1 : Int64)) - (1 : Int64)).toInt32))))), .val (.int (1 : Int32)), .val (.int (1 : Int32))] [])) (fun t k => XS.ifNo X144.here hx rfl (hb hby at_120) rfl ((if0 _ _).trans (feq (by decide : ¬ ((1 : Int32) = (0 : Int32)))).1) k) ?_
            refine Go.on (T' := T144) (g' := (mkF m 124 #[.val (.int i0), .val (.int i1), .val (.int i2), .val (.int i0), .val (.int i1), .val (.ref c142_0), .val (.long (((i1.toInt64) - (i0.toInt64)) + (1 : Int64))), .second, .val (.int ((64 : Int32) - ((32 : Int32) + (own_nlz (((((i1.toInt64) - (i0.toInt64)) + (1 : Int64)) - (1 : Int64)).toInt32))))), .val (.int (1 : Int32)), .val (.int (1 : Int32))] [(.int (1 : Int32))])) (fun t k => XS.iconst X144.here hx rfl (hb hby at_123) k) ?_
            refine Go.on (T' := T144) (g' := (mkF m 128 #[.val (.int i0), .val (.int i1), .val (.int i2), .val (.int i0), .val (.int i1), .val (.ref c142_0), .val (.long (((i1.toInt64) - (i0.toInt64)) + (1 : Int64))), .second, .val (.int ((64 : Int32) - ((32 : Int32) + (own_nlz (((((i1.toInt64) - (i0.toInt64)) + (1 : Int64)) - (1 : Int64)).toInt32))))), .val (.int (1 : Int32)), .val (.int (1 : Int32))] [(.int (1 : Int32))])) (fun t k => XS.goto X144.here hx rfl (pc0 := 124) (pc' := 128) rfl (hb hby at_124) (by decide) (by decide) k) ?_
            subst hG
            obtain ⟨fs, hr, hrun, hended, hW, hsame⟩ := X144.leave (v := some (.int (1 : Int32))) (fun h => by rw [Bd.returns] at h; cases h)
            exact ⟨_, _, retN X144 hx (t := .boolean) Bd.returns (by simp) (hb hby at_128) hr, hrun, hended, _, _, rfl, ⟨rfl, N144⟩, ⟨_, rfl⟩, hW, hsame.mono (by decide) (by decide)⟩
      · skip
        obtain ⟨_, _, ⟨T146, L146, k146, n146⟩, -, X146, ⟨Lc146, hQ146, l146, y146, z146⟩, st146⟩ := Jvm.LawKit.callS X134 hx (y := (⟨"java/lang/Math", "max", "(II)I"⟩ : MethodName)) hown (mvT hZ (hw _ (List.mem_of_getElem? (i := 4) rfl))) (mvT hZ (hw _ (List.mem_of_getElem? (i := 5) rfl))) (mvT hZ (hw _ (List.mem_of_getElem? (i := 2) rfl))) (mvT hZ (hw _ (List.mem_of_getElem? (i := 6) rfl))) (by decide) (backOf (W := 0) (rm2_0 l Z a0 hw [] w hB hP h0 XB i0 i1 h135) hZ (hw _ (List.mem_of_getElem? (i := 6) rfl)) (hw _ (List.mem_of_getElem? (i := 2) rfl)) (by decide) (by decide)) (g := (mkF m 28 #[.val (.int i0), .val (.int i1), .val (.int i2), .val (.int i0), .unset, .unset, .unset, .unset, .unset, .unset, .unset] [(.int i1), (.int i0)])) rfl (by rw [hml]; rfl) (argsL := [(.int i0), (.int i1)]) (rest := []) (lenOf pd_0 rfl) rfl (by show 2 * 0 + _ ≤ _; exact Nat.le_of_eq rfl) (hb hby at_28) (fun _ _ => ⟨rfl, e134, (by decide : 0 + 0 ≤ _), (by decide : 0 + 0 ≤ _)⟩)
        dsimp only [Pt.U, Pt.locs, Pt.cells, Pt.slots] at X146 l146 y146 z146 st146 hQ146
        subst l146 y146 z146
        obtain ⟨⟨rfl, e146⟩, N146q⟩ := hQ146
        have N146 := Fr.app N134 N146q
        refine Go.on (T' := T146) (g' := (mkF m 31 #[.val (.int i0), .val (.int i1), .val (.int i2), .val (.int i0), .unset, .unset, .unset, .unset, .unset, .unset, .unset] [(.int i0)])) st146 ?_
        refine Go.on (T' := T146) (g' := (mkF m 33 #[.val (.int i0), .val (.int i1), .val (.int i2), .val (.int i0), .val (.int i0), .unset, .unset, .unset, .unset, .unset, .unset] [])) (fun t k => XS.istore X146.here hx rfl (hb hby at_31) rfl (l' := #[.val (.int i0), .val (.int i1), .val (.int i2), .val (.int i0), .val (.int i0), .unset, .unset, .unset, .unset, .unset, .unset]) rfl k) ?_
        refine Go.on (T' := T146) (g' := (mkF m 34 #[.val (.int i0), .val (.int i1), .val (.int i2), .val (.int i0), .val (.int i0), .unset, .unset, .unset, .unset, .unset, .unset] [(.int i0)])) (fun t k => XS.iloadN X146.here hx rfl (hb hby at_33) rfl k) ?_
        refine Go.on (T' := T146) (g' := (mkF m 36 #[.val (.int i0), .val (.int i1), .val (.int i2), .val (.int i0), .val (.int i0), .unset, .unset, .unset, .unset, .unset, .unset] [(.int i0), (.int i0)])) (fun t k => XS.iload X146.here hx rfl (hb hby at_34) rfl k) ?_
        by_cases h147 : own_as Z "java/util/ImmutableCollections$ListN" "java/util/ImmutableCollections$List12"
        · skip
          obtain ⟨_, _, ⟨T148, L148, k148, n148⟩, -, X148, ⟨Lc148, hQ148, l148, y148, z148⟩, st148⟩ := Jvm.LawKit.callS X146 hx (y := (⟨"com/example/realizer/realizer/spectra/Domain", "range", "(II)Lcom/example/realizer/realizer/spectra/Domain;"⟩ : MethodName)) hown (mvT hZ (hw _ (List.mem_of_getElem? (i := 7) rfl))) (mvT hZ (hw _ (List.mem_of_getElem? (i := 8) rfl))) (mvT hZ (hw _ (List.mem_of_getElem? (i := 9) rfl))) (mvT hZ (hw _ (List.mem_of_getElem? (i := 10) rfl))) (by decide) (backOf (W := 0) (rm3_0 l Z a0 hw [] w hB hP h0 XB i0 i0 (own_irrI _) h147) hZ (hw _ (List.mem_of_getElem? (i := 10) rfl)) (hw _ (List.mem_of_getElem? (i := 9) rfl)) (by decide) (by decide)) (g := (mkF m 36 #[.val (.int i0), .val (.int i1), .val (.int i2), .val (.int i0), .val (.int i0), .unset, .unset, .unset, .unset, .unset, .unset] [(.int i0), (.int i0)])) rfl (by rw [hml]; rfl) (argsL := [(.int i0), (.int i0)]) (rest := []) (lenOf pd_6 rfl) rfl (by show 2 * 0 + _ ≤ _; exact Nat.le_of_eq rfl) (hb hby at_36) (fun _ _ => ⟨rfl, e146, (by decide : 0 + 1 ≤ _), (by decide : 0 + 3 ≤ _)⟩)
          dsimp only [Pt.U, Pt.locs, Pt.cells, Pt.slots] at X148 l148 y148 z148 st148 hQ148
          subst l148 y148 z148
          obtain ⟨⟨c148_0, rfl, K148, fq148_0, fq148_1, fq148_2, fq148_3, fq148_4, -⟩, N148q⟩ := hQ148
          have e148 : T148.heap = T148.heap := rfl
          have N148 := Fr.app N146 N148q
          have XT148 : Ext hB T148.heap := own_extK XB K148 all0
          refine Go.on (T' := T148) (g' := (mkF m 39 #[.val (.int i0), .val (.int i1), .val (.int i2), .val (.int i0), .val (.int i0), .unset, .unset, .unset, .unset, .unset, .unset] [(.ref c148_0)])) st148 ?_
          refine Go.on (T' := T148) (g' := (mkF m 41 #[.val (.int i0), .val (.int i1), .val (.int i2), .val (.int i0), .val (.int i0), .val (.ref c148_0), .unset, .unset, .unset, .unset, .unset] [])) (fun t k => XS.astore X148.here hx rfl (hb hby at_39) rfl rfl (l' := #[.val (.int i0), .val (.int i1), .val (.int i2), .val (.int i0), .val (.int i0), .val (.ref c148_0), .unset, .unset, .unset, .unset, .unset]) rfl k) ?_
          refine Go.on (T' := T148) (g' := (mkF m 43 #[.val (.int i0), .val (.int i1), .val (.int i2), .val (.int i0), .val (.int i0), .val (.ref c148_0), .unset, .unset, .unset, .unset, .unset] [(.int i0)])) (fun t k => XS.iload X148.here hx rfl (hb hby at_41) rfl k) ?_
          refine Go.on (T' := T148) (g' := (mkF m 44 #[.val (.int i0), .val (.int i1), .val (.int i2), .val (.int i0), .val (.int i0), .val (.ref c148_0), .unset, .unset, .unset, .unset, .unset] [(.long (i0.toInt64))])) (fun t k => XS.i2l X148.here hx rfl (hb hby at_43) rfl k) ?_
          refine Go.on (T' := T148) (g' := (mkF m 45 #[.val (.int i0), .val (.int i1), .val (.int i2), .val (.int i0), .val (.int i0), .val (.ref c148_0), .unset, .unset, .unset, .unset, .unset] [(.int i0), (.long (i0.toInt64))])) (fun t k => XS.iloadN X148.here hx rfl (hb hby at_44) rfl k) ?_
          refine Go.on (T' := T148) (g' := (mkF m 46 #[.val (.int i0), .val (.int i1), .val (.int i2), .val (.int i0), .val (.int i0), .val (.ref c148_0), .unset, .unset, .unset, .unset, .unset] [(.long (i0.toInt64)), (.long (i0.toInt64))])) (fun t k => XS.i2l X148.here hx rfl (hb hby at_45) rfl k) ?_
          refine Go.on (T' := T148) (g' := (mkF m 47 #[.val (.int i0), .val (.int i1), .val (.int i2), .val (.int i0), .val (.int i0), .val (.ref c148_0), .unset, .unset, .unset, .unset, .unset] [(.long ((i0.toInt64) - (i0.toInt64)))])) (fun t k => XS.lsub X148.here hx rfl (hb hby at_46) rfl k) ?_
          refine Go.on (T' := T148) (g' := (mkF m 48 #[.val (.int i0), .val (.int i1), .val (.int i2), .val (.int i0), .val (.int i0), .val (.ref c148_0), .unset, .unset, .unset, .unset, .unset] [(.long (1 : Int64)), (.long ((i0.toInt64) - (i0.toInt64)))])) (fun t k => XS.lconst X148.here hx rfl (hb hby at_47) k) ?_
          refine Go.on (T' := T148) (g' := (mkF m 49 #[.val (.int i0), .val (.int i1), .val (.int i2), .val (.int i0), .val (.int i0), .val (.ref c148_0), .unset, .unset, .unset, .unset, .unset] [(.long (((i0.toInt64) - (i0.toInt64)) + (1 : Int64)))])) (fun t k => XS.ladd X148.here hx rfl (hb hby at_48) rfl k) ?_
          refine Go.on (T' := T148) (g' := (mkF m 51 #[.val (.int i0), .val (.int i1), .val (.int i2), .val (.int i0), .val (.int i0), .val (.ref c148_0), .val (.long (((i0.toInt64) - (i0.toInt64)) + (1 : Int64))), .second, .unset, .unset, .unset] [])) (fun t k => XS.lstore X148.here hx rfl (hb hby at_49) rfl (l' := #[.val (.int i0), .val (.int i1), .val (.int i2), .val (.int i0), .val (.int i0), .val (.ref c148_0), .val (.long (((i0.toInt64) - (i0.toInt64)) + (1 : Int64))), .second, .unset, .unset, .unset]) rfl k) ?_
          refine Go.on (T' := T148) (g' := (mkF m 53 #[.val (.int i0), .val (.int i1), .val (.int i2), .val (.int i0), .val (.int i0), .val (.ref c148_0), .val (.long (((i0.toInt64) - (i0.toInt64)) + (1 : Int64))), .second, .unset, .unset, .unset] [(.ref c148_0)])) (fun t k => XS.aload X148.here hx rfl (hb hby at_51) rfl rfl k) ?_
          have h149 := own_bits i0 i0 (own_irrI _)
          obtain ⟨_, _, ⟨T150, L150, k150, n150⟩, -, X150, ⟨Lc150, hQ150, l150, y150, z150⟩, st150⟩ := Jvm.LawKit.callS X148 hx (y := (⟨"com/example/realizer/realizer/spectra/Variable", "bits", "(Lcom/example/realizer/realizer/spectra/Domain;)I"⟩ : MethodName)) hown (mvT hZ (hw _ (List.mem_of_getElem? (i := 65) rfl))) (mvT hZ (hw _ (List.mem_of_getElem? (i := 66) rfl))) (mvT hZ (hw _ (List.mem_of_getElem? (i := 67) rfl))) (mvT hZ (hw _ (List.mem_of_getElem? (i := 68) rfl))) (by decide) (backOf (W := 0) (rm11_0 l Z a0 hw [] w hB hP T148.heap XT148 c148_0 i0 i0 fq148_1 fq148_2 fq148_3 fq148_4 (Nat.le_trans XB.1 fq148_0) h149.1) hZ (hw _ (List.mem_of_getElem? (i := 68) rfl)) (hw _ (List.mem_of_getElem? (i := 67) rfl)) (by decide) (by decide)) (g := (mkF m 53 #[.val (.int i0), .val (.int i1), .val (.int i2), .val (.int i0), .val (.int i0), .val (.ref c148_0), .val (.long (((i0.toInt64) - (i0.toInt64)) + (1 : Int64))), .second, .unset, .unset, .unset] [(.ref c148_0)])) rfl (by rw [hml]; rfl) (argsL := [(.ref c148_0)]) (rest := []) (lenOf pd_10 rfl) rfl (by show 2 * 0 + _ ≤ _; exact Nat.le_of_eq rfl) (hb hby at_53) (fun _ _ => ⟨rfl, e148, (by decide : 1 + 0 ≤ _), (by decide : 3 + 0 ≤ _)⟩)
          dsimp only [Pt.U, Pt.locs, Pt.cells, Pt.slots] at X150 l150 y150 z150 st150 hQ150
          subst l150 y150 z150
          obtain ⟨⟨rfl, e150⟩, N150q⟩ := hQ150
          have N150 := Fr.app N148 N150q
          refine Go.on (T' := T150) (g' := (mkF m 56 #[.val (.int i0), .val (.int i1), .val (.int i2), .val (.int i0), .val (.int i0), .val (.ref c148_0), .val (.long (((i0.toInt64) - (i0.toInt64)) + (1 : Int64))), .second, .unset, .unset, .unset] [(.int ((64 : Int32) - ((32 : Int32) + (own_nlz (((((i0.toInt64) - (i0.toInt64)) + (1 : Int64)) - (1 : Int64)).toInt32)))))])) st150 ?_
          refine Go.on (T' := T150) (g' := (mkF m 58 #[.val (.int i0), .val (.int i1), .val (.int i2), .val (.int i0), .val (.int i0), .val (.ref c148_0), .val (.long (((i0.toInt64) - (i0.toInt64)) + (1 : Int64))), .second, .val (.int ((64 : Int32) - ((32 : Int32) + (own_nlz (((((i0.toInt64) - (i0.toInt64)) + (1 : Int64)) - (1 : Int64)).toInt32))))), .unset, .unset] [])) (fun t k => XS.istore X150.here hx rfl (hb hby at_56) rfl (l' := #[.val (.int i0), .val (.int i1), .val (.int i2), .val (.int i0), .val (.int i0), .val (.ref c148_0), .val (.long (((i0.toInt64) - (i0.toInt64)) + (1 : Int64))), .second, .val (.int ((64 : Int32) - ((32 : Int32) + (own_nlz (((((i0.toInt64) - (i0.toInt64)) + (1 : Int64)) - (1 : Int64)).toInt32))))), .unset, .unset]) rfl k) ?_
          refine Go.on (T' := T150) (g' := (mkF m 60 #[.val (.int i0), .val (.int i1), .val (.int i2), .val (.int i0), .val (.int i0), .val (.ref c148_0), .val (.long (((i0.toInt64) - (i0.toInt64)) + (1 : Int64))), .second, .val (.int ((64 : Int32) - ((32 : Int32) + (own_nlz (((((i0.toInt64) - (i0.toInt64)) + (1 : Int64)) - (1 : Int64)).toInt32))))), .unset, .unset] [(.int ((64 : Int32) - ((32 : Int32) + (own_nlz (((((i0.toInt64) - (i0.toInt64)) + (1 : Int64)) - (1 : Int64)).toInt32)))))])) (fun t k => XS.iload X150.here hx rfl (hb hby at_58) rfl k) ?_
          refine Go.on (T' := T150) (g' := (mkF m 63 #[.val (.int i0), .val (.int i1), .val (.int i2), .val (.int i0), .val (.int i0), .val (.ref c148_0), .val (.long (((i0.toInt64) - (i0.toInt64)) + (1 : Int64))), .second, .val (.int ((64 : Int32) - ((32 : Int32) + (own_nlz (((((i0.toInt64) - (i0.toInt64)) + (1 : Int64)) - (1 : Int64)).toInt32))))), .unset, .unset] [])) (fun t k => XS.ifNo X150.here hx rfl (hb hby at_60) rfl ((if0 _ _).trans (flt h149.2.1).1) k) ?_
          refine Go.on (T' := T150) (g' := (mkF m 65 #[.val (.int i0), .val (.int i1), .val (.int i2), .val (.int i0), .val (.int i0), .val (.ref c148_0), .val (.long (((i0.toInt64) - (i0.toInt64)) + (1 : Int64))), .second, .val (.int ((64 : Int32) - ((32 : Int32) + (own_nlz (((((i0.toInt64) - (i0.toInt64)) + (1 : Int64)) - (1 : Int64)).toInt32))))), .unset, .unset] [(.int ((64 : Int32) - ((32 : Int32) + (own_nlz (((((i0.toInt64) - (i0.toInt64)) + (1 : Int64)) - (1 : Int64)).toInt32)))))])) (fun t k => XS.iload X150.here hx rfl (hb hby at_63) rfl k) ?_
          refine Go.on (T' := T150) (g' := (mkF m 67 #[.val (.int i0), .val (.int i1), .val (.int i2), .val (.int i0), .val (.int i0), .val (.ref c148_0), .val (.long (((i0.toInt64) - (i0.toInt64)) + (1 : Int64))), .second, .val (.int ((64 : Int32) - ((32 : Int32) + (own_nlz (((((i0.toInt64) - (i0.toInt64)) + (1 : Int64)) - (1 : Int64)).toInt32))))), .unset, .unset] [(.int (32 : Int32)), (.int ((64 : Int32) - ((32 : Int32) + (own_nlz (((((i0.toInt64) - (i0.toInt64)) + (1 : Int64)) - (1 : Int64)).toInt32)))))])) (fun t k => XS.bipush X150.here hx rfl (hb hby at_65) k) ?_
          refine Go.on (T' := T150) (g' := (mkF m 72 #[.val (.int i0), .val (.int i1), .val (.int i2), .val (.int i0), .val (.int i0), .val (.ref c148_0), .val (.long (((i0.toInt64) - (i0.toInt64)) + (1 : Int64))), .second, .val (.int ((64 : Int32) - ((32 : Int32) + (own_nlz (((((i0.toInt64) - (i0.toInt64)) + (1 : Int64)) - (1 : Int64)).toInt32))))), .unset, .unset] [])) (fun t k => XS.icmpYes X150.here hx rfl (pc0 := 67) (pc' := 72) rfl (hb hby at_67) rfl (flt h149.2.2.1).2.2.2 (by decide) (by decide) k) ?_
          refine Go.on (T' := T150) (g' := (mkF m 73 #[.val (.int i0), .val (.int i1), .val (.int i2), .val (.int i0), .val (.int i0), .val (.ref c148_0), .val (.long (((i0.toInt64) - (i0.toInt64)) + (1 : Int64))), .second, .val (.int ((64 : Int32) - ((32 : Int32) + (own_nlz (((((i0.toInt64) - (i0.toInt64)) + (1 : Int64)) - (1 : Int64)).toInt32))))), .unset, .unset] [(.long (1 : Int64))])) (fun t k => XS.lconst X150.here hx rfl (hb hby at_72) k) ?_
          refine Go.on (T' := T150) (g' := (mkF m 75 #[.val (.int i0), .val (.int i1), .val (.int i2), .val (.int i0), .val (.int i0), .val (.ref c148_0), .val (.long (((i0.toInt64) - (i0.toInt64)) + (1 : Int64))), .second, .val (.int ((64 : Int32) - ((32 : Int32) + (own_nlz (((((i0.toInt64) - (i0.toInt64)) + (1 : Int64)) - (1 : Int64)).toInt32))))), .unset, .unset] [(.int ((64 : Int32) - ((32 : Int32) + (own_nlz (((((i0.toInt64) - (i0.toInt64)) + (1 : Int64)) - (1 : Int64)).toInt32))))), (.long (1 : Int64))])) (fun t k => XS.iload X150.here hx rfl (hb hby at_73) rfl k) ?_
          refine Go.on (T' := T150) (g' := (mkF m 76 #[.val (.int i0), .val (.int i1), .val (.int i2), .val (.int i0), .val (.int i0), .val (.ref c148_0), .val (.long (((i0.toInt64) - (i0.toInt64)) + (1 : Int64))), .second, .val (.int ((64 : Int32) - ((32 : Int32) + (own_nlz (((((i0.toInt64) - (i0.toInt64)) + (1 : Int64)) - (1 : Int64)).toInt32))))), .unset, .unset] [(.long ((1 : Int64) <<< (((64 : Int32) - ((32 : Int32) + (own_nlz (((((i0.toInt64) - (i0.toInt64)) + (1 : Int64)) - (1 : Int64)).toInt32)))) &&& 0x3f).toInt64))])) (fun t k => XS.lshl X150.here hx rfl (hb hby at_75) rfl k) ?_
          refine Go.on (T' := T150) (g' := (mkF m 78 #[.val (.int i0), .val (.int i1), .val (.int i2), .val (.int i0), .val (.int i0), .val (.ref c148_0), .val (.long (((i0.toInt64) - (i0.toInt64)) + (1 : Int64))), .second, .val (.int ((64 : Int32) - ((32 : Int32) + (own_nlz (((((i0.toInt64) - (i0.toInt64)) + (1 : Int64)) - (1 : Int64)).toInt32))))), .unset, .unset] [(.long (((i0.toInt64) - (i0.toInt64)) + (1 : Int64))), (.long ((1 : Int64) <<< (((64 : Int32) - ((32 : Int32) + (own_nlz (((((i0.toInt64) - (i0.toInt64)) + (1 : Int64)) - (1 : Int64)).toInt32)))) &&& 0x3f).toInt64))])) (fun t k => XS.lload X150.here hx rfl (hb hby at_76) rfl k) ?_
          refine Go.on (T' := T150) (g' := (mkF m 79 #[.val (.int i0), .val (.int i1), .val (.int i2), .val (.int i0), .val (.int i0), .val (.ref c148_0), .val (.long (((i0.toInt64) - (i0.toInt64)) + (1 : Int64))), .second, .val (.int ((64 : Int32) - ((32 : Int32) + (own_nlz (((((i0.toInt64) - (i0.toInt64)) + (1 : Int64)) - (1 : Int64)).toInt32))))), .unset, .unset] [(.int (lcmpW ((1 : Int64) <<< (((64 : Int32) - ((32 : Int32) + (own_nlz (((((i0.toInt64) - (i0.toInt64)) + (1 : Int64)) - (1 : Int64)).toInt32)))) &&& 0x3f).toInt64) (((i0.toInt64) - (i0.toInt64)) + (1 : Int64))))])) (fun t k => XS.lcmp X150.here hx rfl (hb hby at_78) rfl k) ?_
          refine Go.on (T' := T150) (g' := (mkF m 82 #[.val (.int i0), .val (.int i1), .val (.int i2), .val (.int i0), .val (.int i0), .val (.ref c148_0), .val (.long (((i0.toInt64) - (i0.toInt64)) + (1 : Int64))), .second, .val (.int ((64 : Int32) - ((32 : Int32) + (own_nlz (((((i0.toInt64) - (i0.toInt64)) + (1 : Int64)) - (1 : Int64)).toInt32))))), .unset, .unset] [])) (fun t k => XS.ifNo X150.here hx rfl (hb hby at_79) rfl ((if0 _ _).trans (flt h149.2.2.2.1).1) k) ?_
          refine Go.on (T' := T150) (g' := (mkF m 83 #[.val (.int i0), .val (.int i1), .val (.int i2), .val (.int i0), .val (.int i0), .val (.ref c148_0), .val (.long (((i0.toInt64) - (i0.toInt64)) + (1 : Int64))), .second, .val (.int ((64 : Int32) - ((32 : Int32) + (own_nlz (((((i0.toInt64) - (i0.toInt64)) + (1 : Int64)) - (1 : Int64)).toInt32))))), .unset, .unset] [(.int (1 : Int32))])) (fun t k => XS.iconst X150.here hx rfl (hb hby at_82) k) ?_
          refine Go.on (T' := T150) (g' := (mkF m 87 #[.val (.int i0), .val (.int i1), .val (.int i2), .val (.int i0), .val (.int i0), .val (.ref c148_0), .val (.long (((i0.toInt64) - (i0.toInt64)) + (1 : Int64))), .second, .val (.int ((64 : Int32) - ((32 : Int32) + (own_nlz (((((i0.toInt64) - (i0.toInt64)) + (1 : Int64)) - (1 : Int64)).toInt32))))), .unset, .unset] [(.int (1 : Int32))])) (fun t k => XS.goto X150.here hx rfl (pc0 := 83) (pc' := 87) rfl (hb hby at_83) (by decide) (by decide) k) ?_
          refine Go.on (T' := T150) (g' := (mkF m 89 #[.val (.int i0), .val (.int i1), .val (.int i2), .val (.int i0), .val (.int i0), .val (.ref c148_0), .val (.long (((i0.toInt64) - (i0.toInt64)) + (1 : Int64))), .second, .val (.int ((64 : Int32) - ((32 : Int32) + (own_nlz (((((i0.toInt64) - (i0.toInt64)) + (1 : Int64)) - (1 : Int64)).toInt32))))), .val (.int (1 : Int32)), .unset] [])) (fun t k => XS.istore X150.here hx rfl (hb hby at_87) rfl (l' := #[.val (.int i0), .val (.int i1), .val (.int i2), .val (.int i0), .val (.int i0), .val (.ref c148_0), .val (.long (((i0.toInt64) - (i0.toInt64)) + (1 : Int64))), .second, .val (.int ((64 : Int32) - ((32 : Int32) + (own_nlz (((((i0.toInt64) - (i0.toInt64)) + (1 : Int64)) - (1 : Int64)).toInt32))))), .val (.int (1 : Int32)), .unset]) rfl k) ?_
          refine Go.on (T' := T150) (g' := (mkF m 91 #[.val (.int i0), .val (.int i1), .val (.int i2), .val (.int i0), .val (.int i0), .val (.ref c148_0), .val (.long (((i0.toInt64) - (i0.toInt64)) + (1 : Int64))), .second, .val (.int ((64 : Int32) - ((32 : Int32) + (own_nlz (((((i0.toInt64) - (i0.toInt64)) + (1 : Int64)) - (1 : Int64)).toInt32))))), .val (.int (1 : Int32)), .unset] [(.int ((64 : Int32) - ((32 : Int32) + (own_nlz (((((i0.toInt64) - (i0.toInt64)) + (1 : Int64)) - (1 : Int64)).toInt32)))))])) (fun t k => XS.iload X150.here hx rfl (hb hby at_89) rfl k) ?_
          by_cases h151 : ((64 : Int32) - ((32 : Int32) + (own_nlz (((((i0.toInt64) - (i0.toInt64)) + (1 : Int64)) - (1 : Int64)).toInt32)))) = (0 : Int32)
          · skip
            refine Go.on (T' := T150) (g' := (mkF m 106 #[.val (.int i0), .val (.int i1), .val (.int i2), .val (.int i0), .val (.int i0), .val (.ref c148_0), .val (.long (((i0.toInt64) - (i0.toInt64)) + (1 : Int64))), .second, .val (.int ((64 : Int32) - ((32 : Int32) + (own_nlz (((((i0.toInt64) - (i0.toInt64)) + (1 : Int64)) - (1 : Int64)).toInt32))))), .val (.int (1 : Int32)), .unset] [])) (fun t k => XS.ifYes X150.here hx rfl (pc0 := 91) (pc' := 106) rfl (hb hby at_91) rfl ((if0 _ _).trans (teq h151).1) (by decide) (by decide) k) ?_
            refine Go.on (T' := T150) (g' := (mkF m 107 #[.val (.int i0), .val (.int i1), .val (.int i2), .val (.int i0), .val (.int i0), .val (.ref c148_0), .val (.long (((i0.toInt64) - (i0.toInt64)) + (1 : Int64))), .second, .val (.int ((64 : Int32) - ((32 : Int32) + (own_nlz (((((i0.toInt64) - (i0.toInt64)) + (1 : Int64)) - (1 : Int64)).toInt32))))), .val (.int (1 : Int32)), .unset] [(.int (1 : Int32))])) (fun t k => XS.iconst X150.here hx rfl (hb hby at_106) k) ?_
            refine Go.on (T' := T150) (g' := (mkF m 111 #[.val (.int i0), .val (.int i1), .val (.int i2), .val (.int i0), .val (.int i0), .val (.ref c148_0), .val (.long (((i0.toInt64) - (i0.toInt64)) + (1 : Int64))), .second, .val (.int ((64 : Int32) - ((32 : Int32) + (own_nlz (((((i0.toInt64) - (i0.toInt64)) + (1 : Int64)) - (1 : Int64)).toInt32))))), .val (.int (1 : Int32)), .unset] [(.int (1 : Int32))])) (fun t k => XS.goto X150.here hx rfl (pc0 := 107) (pc' := 111) rfl (hb hby at_107) (by decide) (by decide) k) ?_
            refine Go.on (T' := T150) (g' := (mkF m 113 #[.val (.int i0), .val (.int i1), .val (.int i2), .val (.int i0), .val (.int i0), .val (.ref c148_0), .val (.long (((i0.toInt64) - (i0.toInt64)) + (1 : Int64))), .second, .val (.int ((64 : Int32) - ((32 : Int32) + (own_nlz (((((i0.toInt64) - (i0.toInt64)) + (1 : Int64)) - (1 : Int64)).toInt32))))), .val (.int (1 : Int32)), .val (.int (1 : Int32))] [])) (fun t k => XS.istore X150.here hx rfl (hb hby at_111) rfl (l' := #[.val (.int i0), .val (.int i1), .val (.int i2), .val (.int i0), .val (.int i0), .val (.ref c148_0), .val (.long (((i0.toInt64) - (i0.toInt64)) + (1 : Int64))), .second, .val (.int ((64 : Int32) - ((32 : Int32) + (own_nlz (((((i0.toInt64) - (i0.toInt64)) + (1 : Int64)) - (1 : Int64)).toInt32))))), .val (.int (1 : Int32)), .val (.int (1 : Int32))]) rfl k) ?_
            refine Go.on (T' := T150) (g' := (mkF m 115 #[.val (.int i0), .val (.int i1), .val (.int i2), .val (.int i0), .val (.int i0), .val (.ref c148_0), .val (.long (((i0.toInt64) - (i0.toInt64)) + (1 : Int64))), .second, .val (.int ((64 : Int32) - ((32 : Int32) + (own_nlz (((((i0.toInt64) - (i0.toInt64)) + (1 : Int64)) - (1 : Int64)).toInt32))))), .val (.int (1 : Int32)), .val (.int (1 : Int32))] [(.int (1 : Int32))])) (fun t k => XS.iload X150.here hx rfl (hb hby at_113) rfl k) ?_
            refine Go.on (T' := T150) (g' := (mkF m 118 #[.val (.int i0), .val (.int i1), .val (.int i2), .val (.int i0), .val (.int i0), .val (.ref c148_0), .val (.long (((i0.toInt64) - (i0.toInt64)) + (1 : Int64))), .second, .val (.int ((64 : Int32) - ((32 : Int32) + (own_nlz (((((i0.toInt64) - (i0.toInt64)) + (1 : Int64)) - (1 : Int64)).toInt32))))), .val (.int (1 : Int32)), .val (.int (1 : Int32))] [])) (fun t k => XS.ifNo X150.here hx rfl (hb hby at_115) rfl ((if0 _ _).trans (feq (by decide : ¬ ((1 : Int32) = (0 : Int32)))).1) k) ?_
            refine Go.on (T' := T150) (g' := (mkF m 120 #[.val (.int i0), .val (.int i1), .val (.int i2), .val (.int i0), .val (.int i0), .val (.ref c148_0), .val (.long (((i0.toInt64) - (i0.toInt64)) + (1 : Int64))), .second, .val (.int ((64 : Int32) - ((32 : Int32) + (own_nlz (((((i0.toInt64) - (i0.toInt64)) + (1 : Int64)) - (1 : Int64)).toInt32))))), .val (.int (1 : Int32)), .val (.int (1 : Int32))] [(.int (1 : Int32))])) (fun t k => XS.iload X150.here hx rfl (hb hby at_118) rfl k) ?_
            refine Go.on (T' := T150) (g' := (mkF m 123 #[.val (.int i0), .val (.int i1), .val (.int i2), .val (.int i0), .val (.int i0), .val (.ref c148_0), .val (.long (((i0.toInt64) - (i0.toInt64)) + (1 : Int64))), .second, .val (.int ((64 : Int32) - ((32 : Int32) + (own_nlz (((((i0.toInt64) - (i0.toInt64)) + (1 : Int64)) - (1 : Int64)).toInt32))))), .val (.int (1 : Int32)), .val (.int (1 : Int32))] [])) (fun t k => XS.ifNo X150.here hx rfl (hb hby at_120) rfl ((if0 _ _).trans (feq (by decide : ¬ ((1 : Int32) = (0 : Int32)))).1) k) ?_
            refine Go.on (T' := T150) (g' := (mkF m 124 #[.val (.int i0), .val (.int i1), .val (.int i2), .val (.int i0), .val (.int i0), .val (.ref c148_0), .val (.long (((i0.toInt64) - (i0.toInt64)) + (1 : Int64))), .second, .val (.int ((64 : Int32) - ((32 : Int32) + (own_nlz (((((i0.toInt64) - (i0.toInt64)) + (1 : Int64)) - (1 : Int64)).toInt32))))), .val (.int (1 : Int32)), .val (.int (1 : Int32))] [(.int (1 : Int32))])) (fun t k => XS.iconst X150.here hx rfl (hb hby at_123) k) ?_
            refine Go.on (T' := T150) (g' := (mkF m 128 #[.val (.int i0), .val (.int i1), .val (.int i2), .val (.int i0), .val (.int i0), .val (.ref c148_0), .val (.long (((i0.toInt64) - (i0.toInt64)) + (1 : Int64))), .second, .val (.int ((64 : Int32) - ((32 : Int32) + (own_nlz (((((i0.toInt64) - (i0.toInt64)) + (1 : Int64)) - (1 : Int64)).toInt32))))), .val (.int (1 : Int32)), .val (.int (1 : Int32))] [(.int (1 : Int32))])) (fun t k => XS.goto X150.here hx rfl (pc0 := 124) (pc' := 128) rfl (hb hby at_124) (by decide) (by decide) k) ?_
            subst hG
            obtain ⟨fs, hr, hrun, hended, hW, hsame⟩ := X150.leave (v := some (.int (1 : Int32))) (fun h => by rw [Bd.returns] at h; cases h)
            exact ⟨_, _, retN X150 hx (t := .boolean) Bd.returns (by simp) (hb hby at_128) hr, hrun, hended, _, _, rfl, ⟨rfl, N150⟩, ⟨_, rfl⟩, hW, hsame.mono (by decide) (by decide)⟩
          · skip
            refine Go.on (T' := T150) (g' := (mkF m 94 #[.val (.int i0), .val (.int i1), .val (.int i2), .val (.int i0), .val (.int i0), .val (.ref c148_0), .val (.long (((i0.toInt64) - (i0.toInt64)) + (1 : Int64))), .second, .val (.int ((64 : Int32) - ((32 : Int32) + (own_nlz (((((i0.toInt64) - (i0.toInt64)) + (1 : Int64)) - (1 : Int64)).toInt32))))), .val (.int (1 : Int32)), .unset] [])) (fun t k => XS.ifNo X150.here hx rfl (hb hby at_91) rfl ((if0 _ _).trans (feq h151).1) k) ?_
            refine Go.on (T' := T150) (g' := (mkF m 95 #[.val (.int i0), .val (.int i1), .val (.int i2), .val (.int i0), .val (.int i0), .val (.ref c148_0), .val (.long (((i0.toInt64) - (i0.toInt64)) + (1 : Int64))), .second, .val (.int ((64 : Int32) - ((32 : Int32) + (own_nlz (((((i0.toInt64) - (i0.toInt64)) + (1 : Int64)) - (1 : Int64)).toInt32))))), .val (.int (1 : Int32)), .unset] [(.long (1 : Int64))])) (fun t k => XS.lconst X150.here hx rfl (hb hby at_94) k) ?_
            refine Go.on (T' := T150) (g' := (mkF m 97 #[.val (.int i0), .val (.int i1), .val (.int i2), .val (.int i0), .val (.int i0), .val (.ref c148_0), .val (.long (((i0.toInt64) - (i0.toInt64)) + (1 : Int64))), .second, .val (.int ((64 : Int32) - ((32 : Int32) + (own_nlz (((((i0.toInt64) - (i0.toInt64)) + (1 : Int64)) - (1 : Int64)).toInt32))))), .val (.int (1 : Int32)), .unset] [(.int ((64 : Int32) - ((32 : Int32) + (own_nlz (((((i0.toInt64) - (i0.toInt64)) + (1 : Int64)) - (1 : Int64)).toInt32))))), (.long (1 : Int64))])) (fun t k => XS.iload X150.here hx rfl (hb hby at_95) rfl k) ?_
            refine Go.on (T' := T150) (g' := (mkF m 98 #[.val (.int i0), .val (.int i1), .val (.int i2), .val (.int i0), .val (.int i0), .val (.ref c148_0), .val (.long (((i0.toInt64) - (i0.toInt64)) + (1 : Int64))), .second, .val (.int ((64 : Int32) - ((32 : Int32) + (own_nlz (((((i0.toInt64) - (i0.toInt64)) + (1 : Int64)) - (1 : Int64)).toInt32))))), .val (.int (1 : Int32)), .unset] [(.int (1 : Int32)), (.int ((64 : Int32) - ((32 : Int32) + (own_nlz (((((i0.toInt64) - (i0.toInt64)) + (1 : Int64)) - (1 : Int64)).toInt32))))), (.long (1 : Int64))])) (fun t k => XS.iconst X150.here hx rfl (hb hby at_97) k) ?_
            refine Go.on (T' := T150) (g' := (mkF m 99 #[.val (.int i0), .val (.int i1), .val (.int i2), .val (.int i0), .val (.int i0), .val (.ref c148_0), .val (.long (((i0.toInt64) - (i0.toInt64)) + (1 : Int64))), .second, .val (.int ((64 : Int32) - ((32 : Int32) + (own_nlz (((((i0.toInt64) - (i0.toInt64)) + (1 : Int64)) - (1 : Int64)).toInt32))))), .val (.int (1 : Int32)), .unset] [(.int (((64 : Int32) - ((32 : Int32) + (own_nlz (((((i0.toInt64) - (i0.toInt64)) + (1 : Int64)) - (1 : Int64)).toInt32)))) - (1 : Int32))), (.long (1 : Int64))])) (fun t k => XS.isub X150.here hx rfl (hb hby at_98) rfl k) ?_
            refine Go.on (T' := T150) (g' := (mkF m 100 #[.val (.int i0), .val (.int i1), .val (.int i2), .val (.int i0), .val (.int i0), .val (.ref c148_0), .val (.long (((i0.toInt64) - (i0.toInt64)) + (1 : Int64))), .second, .val (.int ((64 : Int32) - ((32 : Int32) + (own_nlz (((((i0.toInt64) - (i0.toInt64)) + (1 : Int64)) - (1 : Int64)).toInt32))))), .val (.int (1 : Int32)), .unset] [(.long ((1 : Int64) <<< ((((64 : Int32) - ((32 : Int32) + (own_nlz (((((i0.toInt64) - (i0.toInt64)) + (1 : Int64)) - (1 : Int64)).toInt32)))) - (1 : Int32)) &&& 0x3f).toInt64))])) (fun t k => XS.lshl X150.here hx rfl (hb hby at_99) rfl k) ?_
            refine Go.on (T' := T150) (g' := (mkF m 102 #[.val (.int i0), .val (.int i1), .val (.int i2), .val (.int i0), .val (.int i0), .val (.ref c148_0), .val (.long (((i0.toInt64) - (i0.toInt64)) + (1 : Int64))), .second, .val (.int ((64 : Int32) - ((32 : Int32) + (own_nlz (((((i0.toInt64) - (i0.toInt64)) + (1 : Int64)) - (1 : Int64)).toInt32))))), .val (.int (1 : Int32)), .unset] [(.long (((i0.toInt64) - (i0.toInt64)) + (1 : Int64))), (.long ((1 : Int64) <<< ((((64 : Int32) - ((32 : Int32) + (own_nlz (((((i0.toInt64) - (i0.toInt64)) + (1 : Int64)) - (1 : Int64)).toInt32)))) - (1 : Int32)) &&& 0x3f).toInt64))])) (fun t k => XS.lload X150.here hx rfl (hb hby at_100) rfl k) ?_
            refine Go.on (T' := T150) (g' := (mkF m 103 #[.val (.int i0), .val (.int i1), .val (.int i2), .val (.int i0), .val (.int i0), .val (.ref c148_0), .val (.long (((i0.toInt64) - (i0.toInt64)) + (1 : Int64))), .second, .val (.int ((64 : Int32) - ((32 : Int32) + (own_nlz (((((i0.toInt64) - (i0.toInt64)) + (1 : Int64)) - (1 : Int64)).toInt32))))), .val (.int (1 : Int32)), .unset] [(.int (lcmpW ((1 : Int64) <<< ((((64 : Int32) - ((32 : Int32) + (own_nlz (((((i0.toInt64) - (i0.toInt64)) + (1 : Int64)) - (1 : Int64)).toInt32)))) - (1 : Int32)) &&& 0x3f).toInt64) (((i0.toInt64) - (i0.toInt64)) + (1 : Int64))))])) (fun t k => XS.lcmp X150.here hx rfl (hb hby at_102) rfl k) ?_
            refine Go.on (T' := T150) (g' := (mkF m 106 #[.val (.int i0), .val (.int i1), .val (.int i2), .val (.int i0), .val (.int i0), .val (.ref c148_0), .val (.long (((i0.toInt64) - (i0.toInt64)) + (1 : Int64))), .second, .val (.int ((64 : Int32) - ((32 : Int32) + (own_nlz (((((i0.toInt64) - (i0.toInt64)) + (1 : Int64)) - (1 : Int64)).toInt32))))), .val (.int (1 : Int32)), .unset] [])) (fun t k => XS.ifNo X150.here hx rfl (hb hby at_103) rfl ((if0 _ _).trans (tlt (h149.2.2.2.2 h151)).2.1) k) ?_
            refine Go.on (T' := T150) (g' := (mkF m 107 #[.val (.int i0), .val (.int i1), .val (.int i2), .val (.int i0), .val (.int i0), .val (.ref c148_0), .val (.long (((i0.toInt64) - (i0.toInt64)) + (1 : Int64))), .second, .val (.int ((64 : Int32) - ((32 : Int32) + (own_nlz (((((i0.toInt64) - (i0.toInt64)) + (1 : Int64)) - (1 : Int64)).toInt32))))), .val (.int (1 : Int32)), .unset] [(.int (1 : Int32))])) (fun t k => XS.iconst X150.here hx rfl (hb hby at_106) k) ?_
            refine Go.on (T' := T150) (g' := (mkF m 111 #[.val (.int i0), .val (.int i1), .val (.int i2), .val (.int i0), .val (.int i0), .val (.ref c148_0), .val (.long (((i0.toInt64) - (i0.toInt64)) + (1 : Int64))), .second, .val (.int ((64 : Int32) - ((32 : Int32) + (own_nlz (((((i0.toInt64) - (i0.toInt64)) + (1 : Int64)) - (1 : Int64)).toInt32))))), .val (.int (1 : Int32)), .unset] [(.int (1 : Int32))])) (fun t k => XS.goto X150.here hx rfl (pc0 := 107) (pc' := 111) rfl (hb hby at_107) (by decide) (by decide) k) ?_
            refine Go.on (T' := T150) (g' := (mkF m 113 #[.val (.int i0), .val (.int i1), .val (.int i2), .val (.int i0), .val (.int i0), .val (.ref c148_0), .val (.long (((i0.toInt64) - (i0.toInt64)) + (1 : Int64))), .second, .val (.int ((64 : Int32) - ((32 : Int32) + (own_nlz (((((i0.toInt64) - (i0.toInt64)) + (1 : Int64)) - (1 : Int64)).toInt32))))), .val (.int (1 : Int32)), .val (.int (1 : Int32))] [])) (fun t k => XS.istore X150.here hx rfl (hb hby at_111) rfl (l' := #[.val (.int i0), .val (.int i1), .val (.int i2), .val (.int i0), .val (.int i0), .val (.ref c148_0), .val (.long (((i0.toInt64) - (i0.toInt64)) + (1 : Int64))), .second, .val (.int ((64 : Int32) - ((32 : Int32) + (own_nlz (((((i0.toInt64) - (i0.toInt64)) + (1 : Int64)) - (1 : Int64)).toInt32))))), .val (.int (1 : Int32)), .val (.int (1 : Int32))]) rfl k) ?_
            refine Go.on (T' := T150) (g' := (mkF m 115 #[.val (.int i0), .val (.int i1), .val (.int i2), .val (.int i0), .val (.int i0), .val (.ref c148_0), .val (.long (((i0.toInt64) - (i0.toInt64)) + (1 : Int64))), .second, .val (.int ((64 : Int32) - ((32 : Int32) + (own_nlz (((((i0.toInt64) - (i0.toInt64)) + (1 : Int64)) - (1 : Int64)).toInt32))))), .val (.int (1 : Int32)), .val (.int (1 : Int32))] [(.int (1 : Int32))])) (fun t k => XS.iload X150.here hx rfl (hb hby at_113) rfl k) ?_
            refine Go.on (T' := T150) (g' := (mkF m 118 #[.val (.int i0), .val (.int i1), .val (.int i2), .val (.int i0), .val (.int i0), .val (.ref c148_0), .val (.long (((i0.toInt64) - (i0.toInt64)) + (1 : Int64))), .second, .val (.int ((64 : Int32) - ((32 : Int32) + (own_nlz (((((i0.toInt64) - (i0.toInt64)) + (1 : Int64)) - (1 : Int64)).toInt32))))), .val (.int (1 : Int32)), .val (.int (1 : Int32))] [])) (fun t k => XS.ifNo X150.here hx rfl (hb hby at_115) rfl ((if0 _ _).trans (feq (by decide : ¬ ((1 : Int32) = (0 : Int32)))).1) k) ?_
            refine Go.on (T' := T150) (g' := (mkF m 120 #[.val (.int i0), .val (.int i1), .val (.int i2), .val (.int i0), .val (.int i0), .val (.ref c148_0), .val (.long (((i0.toInt64) - (i0.toInt64)) + (1 : Int64))), .second, .val (.int ((64 : Int32) - ((32 : Int32) + (own_nlz (((((i0.toInt64) - (i0.toInt64)) + (1 : Int64)) - (1 : Int64)).toInt32))))), .val (.int (1 : Int32)), .val (.int (1 : Int32))] [(.int (1 : Int32))])) (fun t k => XS.iload X150.here hx rfl (hb hby at_118) rfl k) ?_
            refine Go.on (T' := T150) (g' := (mkF m 123 #[.val (.int i0), .val (.int i1), .val (.int i2), .val (.int i0), .val (.int i0), .val (.ref c148_0), .val (.long (((i0.toInt64) - (i0.toInt64)) + (1 : Int64))), .second, .val (.int ((64 : Int32) - ((32 : Int32) + (own_nlz (((((i0.toInt64) - (i0.toInt64)) + (1 : Int64)) - (1 : Int64)).toInt32))))), .val (.int (1 : Int32)), .val (.int (1 : Int32))] [])) (fun t k => XS.ifNo X150.here hx rfl (hb hby at_120) rfl ((if0 _ _).trans (feq (by decide : ¬ ((1 : Int32) = (0 : Int32)))).1) k) ?_
            refine Go.on (T' := T150) (g' := (mkF m 124 #[.val (.int i0), .val (.int i1), .val (.int i2), .val (.int i0), .val (.int i0), .val (.ref c148_0), .val (.long (((i0.toInt64) - (i0.toInt64)) + (1 : Int64))), .second, .val (.int ((64 : Int32) - ((32 : Int32) + (own_nlz (((((i0.toInt64) - (i0.toInt64)) + (1 : Int64)) - (1 : Int64)).toInt32))))), .val (.int (1 : Int32)), .val (.int (1 : Int32))] [(.int (1 : Int32))])) (fun t k => XS.iconst X150.here hx rfl (hb hby at_123) k) ?_
            refine Go.on (T' := T150) (g' := (mkF m 128 #[.val (.int i0), .val (.int i1), .val (.int i2), .val (.int i0), .val (.int i0), .val (.ref c148_0), .val (.long (((i0.toInt64) - (i0.toInt64)) + (1 : Int64))), .second, .val (.int ((64 : Int32) - ((32 : Int32) + (own_nlz (((((i0.toInt64) - (i0.toInt64)) + (1 : Int64)) - (1 : Int64)).toInt32))))), .val (.int (1 : Int32)), .val (.int (1 : Int32))] [(.int (1 : Int32))])) (fun t k => XS.goto X150.here hx rfl (pc0 := 124) (pc' := 128) rfl (hb hby at_124) (by decide) (by decide) k) ?_
            subst hG
            obtain ⟨fs, hr, hrun, hended, hW, hsame⟩ := X150.leave (v := some (.int (1 : Int32))) (fun h => by rw [Bd.returns] at h; cases h)
            exact ⟨_, _, retN X150 hx (t := .boolean) Bd.returns (by simp) (hb hby at_128) hr, hrun, hended, _, _, rfl, ⟨rfl, N150⟩, ⟨_, rfl⟩, hW, hsame.mono (by decide) (by decide)⟩
        · skip
          obtain ⟨_, _, ⟨T152, L152, k152, n152⟩, -, X152, ⟨Lc152, hQ152, l152, y152, z152⟩, st152⟩ := Jvm.LawKit.callS X146 hx (y := (⟨"com/example/realizer/realizer/spectra/Domain", "range", "(II)Lcom/example/realizer/realizer/spectra/Domain;"⟩ : MethodName)) hown (mvT hZ (hw _ (List.mem_of_getElem? (i := 7) rfl))) (mvT hZ (hw _ (List.mem_of_getElem? (i := 8) rfl))) (mvT hZ (hw _ (List.mem_of_getElem? (i := 9) rfl))) (mvT hZ (hw _ (List.mem_of_getElem? (i := 10) rfl))) (by decide) (backOf (W := 0) (rm3_1 l Z a0 hw [] w hB hP h0 XB i0 i0 (own_irrI _) h147) hZ (hw _ (List.mem_of_getElem? (i := 10) rfl)) (hw _ (List.mem_of_getElem? (i := 9) rfl)) (by decide) (by decide)) (g := (mkF m 36 #[.val (.int i0), .val (.int i1), .val (.int i2), .val (.int i0), .val (.int i0), .unset, .unset, .unset, .unset, .unset, .unset] [(.int i0), (.int i0)])) rfl (by rw [hml]; rfl) (argsL := [(.int i0), (.int i0)]) (rest := []) (lenOf pd_6 rfl) rfl (by show 2 * 0 + _ ≤ _; exact Nat.le_of_eq rfl) (hb hby at_36) (fun _ _ => ⟨rfl, e146, (by decide : 0 + 1 ≤ _), (by decide : 0 + 3 ≤ _)⟩)
          dsimp only [Pt.U, Pt.locs, Pt.cells, Pt.slots] at X152 l152 y152 z152 st152 hQ152
          subst l152 y152 z152
          obtain ⟨⟨c152_0, rfl, K152, fq152_0, fq152_1, fq152_2, fq152_3, fq152_4, -⟩, N152q⟩ := hQ152
          have e152 : T152.heap = T152.heap := rfl
          have N152 := Fr.app N146 N152q
          have XT152 : Ext hB T152.heap := own_extK XB K152 all0
          refine Go.on (T' := T152) (g' := (mkF m 39 #[.val (.int i0), .val (.int i1), .val (.int i2), .val (.int i0), .val (.int i0), .unset, .unset, .unset, .unset, .unset, .unset] [(.ref c152_0)])) st152 ?_
          refine Go.on (T' := T152) (g' := (mkF m 41 #[.val (.int i0), .val (.int i1), .val (.int i2), .val (.int i0), .val (.int i0), .val (.ref c152_0), .unset, .unset, .unset, .unset, .unset] [])) (fun t k => XS.astore X152.here hx rfl (hb hby at_39) rfl rfl (l' := #[.val (.int i0), .val (.int i1), .val (.int i2), .val (.int i0), .val (.int i0), .val (.ref c152_0), .unset, .unset, .unset, .unset, .unset]) rfl k) ?_
          refine Go.on (T' := T152) (g' := (mkF m 43 #[.val (.int i0), .val (.int i1), .val (.int i2), .val (.int i0), .val (.int i0), .val (.ref c152_0), .unset, .unset, .unset, .unset, .unset] [(.int i0)])) (fun t k => XS.iload X152.here hx rfl (hb hby at_41) rfl k) ?_
          refine Go.on (T' := T152) (g' := (mkF m 44 #[.val (.int i0), .val (.int i1), .val (.int i2), .val (.int i0), .val (.int i0), .val (.ref c152_0), .unset, .unset, .unset, .unset, .unset] [(.long (i0.toInt64))])) (fun t k => XS.i2l X152.here hx rfl (hb hby at_43) rfl k) ?_
          refine Go.on (T' := T152) (g' := (mkF m 45 #[.val (.int i0), .val (.int i1), .val (.int i2), .val (.int i0), .val (.int i0), .val (.ref c152_0), .unset, .unset, .unset, .unset, .unset] [(.int i0), (.long (i0.toInt64))])) (fun t k => XS.iloadN X152.here hx rfl (hb hby at_44) rfl k) ?_
          refine Go.on (T' := T152) (g' := (mkF m 46 #[.val (.int i0), .val (.int i1), .val (.int i2), .val (.int i0), .val (.int i0), .val (.ref c152_0), .unset, .unset, .unset, .unset, .unset] [(.long (i0.toInt64)), (.long (i0.toInt64))])) (fun t k => XS.i2l X152.here hx rfl (hb hby at_45) rfl k) ?_
          refine Go.on (T' := T152) (g' := (mkF m 47 #[.val (.int i0), .val (.int i1), .val (.int i2), .val (.int i0), .val (.int i0), .val (.ref c152_0), .unset, .unset, .unset, .unset, .unset] [(.long ((i0.toInt64) - (i0.toInt64)))])) (fun t k => XS.lsub X152.here hx rfl (hb hby at_46) rfl k) ?_
          refine Go.on (T' := T152) (g' := (mkF m 48 #[.val (.int i0), .val (.int i1), .val (.int i2), .val (.int i0), .val (.int i0), .val (.ref c152_0), .unset, .unset, .unset, .unset, .unset] [(.long (1 : Int64)), (.long ((i0.toInt64) - (i0.toInt64)))])) (fun t k => XS.lconst X152.here hx rfl (hb hby at_47) k) ?_
          refine Go.on (T' := T152) (g' := (mkF m 49 #[.val (.int i0), .val (.int i1), .val (.int i2), .val (.int i0), .val (.int i0), .val (.ref c152_0), .unset, .unset, .unset, .unset, .unset] [(.long (((i0.toInt64) - (i0.toInt64)) + (1 : Int64)))])) (fun t k => XS.ladd X152.here hx rfl (hb hby at_48) rfl k) ?_
          refine Go.on (T' := T152) (g' := (mkF m 51 #[.val (.int i0), .val (.int i1), .val (.int i2), .val (.int i0), .val (.int i0), .val (.ref c152_0), .val (.long (((i0.toInt64) - (i0.toInt64)) + (1 : Int64))), .second, .unset, .unset, .unset] [])) (fun t k => XS.lstore X152.here hx rfl (hb hby at_49) rfl (l' := #[.val (.int i0), .val (.int i1), .val (.int i2), .val (.int i0), .val (.int i0), .val (.ref c152_0), .val (.long (((i0.toInt64) - (i0.toInt64)) + (1 : Int64))), .second, .unset, .unset, .unset]) rfl k) ?_
          refine Go.on (T' := T152) (g' := (mkF m 53 #[.val (.int i0), .val (.int i1), .val (.int i2), .val (.int i0), .val (.int i0), .val (.ref c152_0), .val (.long (((i0.toInt64) - (i0.toInt64)) + (1 : Int64))), .second, .unset, .unset, .unset] [(.ref c152_0)])) (fun t k => XS.aload X152.here hx rfl (hb hby at_51) rfl rfl k) ?_
          have h153 := own_bits i0 i0 (own_irrI _)
          obtain ⟨_, _, ⟨T154, L154, k154, n154⟩, -, X154, ⟨Lc154, hQ154, l154, y154, z154⟩, st154⟩ := Jvm.LawKit.callS X152 hx (y := (⟨"com/example/realizer/realizer/spectra/Variable", "bits", "(Lcom/example/realizer/realizer/spectra/Domain;)I"⟩ : MethodName)) hown (mvT hZ (hw _ (List.mem_of_getElem? (i := 65) rfl))) (mvT hZ (hw _ (List.mem_of_getElem? (i := 66) rfl))) (mvT hZ (hw _ (List.mem_of_getElem? (i := 67) rfl))) (mvT hZ (hw _ (List.mem_of_getElem? (i := 68) rfl))) (by decide) (backOf (W := 0) (rm11_0 l Z a0 hw [] w hB hP T152.heap XT152 c152_0 i0 i0 fq152_1 fq152_2 fq152_3 fq152_4 (Nat.le_trans XB.1 fq152_0) h153.1) hZ (hw _ (List.mem_of_getElem? (i := 68) rfl)) (hw _ (List.mem_of_getElem? (i := 67) rfl)) (by decide) (by decide)) (g := (mkF m 53 #[.val (.int i0), .val (.int i1), .val (.int i2), .val (.int i0), .val (.int i0), .val (.ref c152_0), .val (.long (((i0.toInt64) - (i0.toInt64)) + (1 : Int64))), .second, .unset, .unset, .unset] [(.ref c152_0)])) rfl (by rw [hml]; rfl) (argsL := [(.ref c152_0)]) (rest := []) (lenOf pd_10 rfl) rfl (by show 2 * 0 + _ ≤ _; exact Nat.le_of_eq rfl) (hb hby at_53) (fun _ _ => ⟨rfl, e152, (by decide : 1 + 0 ≤ _), (by decide : 3 + 0 ≤ _)⟩)
          dsimp only [Pt.U, Pt.locs, Pt.cells, Pt.slots] at X154 l154 y154 z154 st154 hQ154
          subst l154 y154 z154
          obtain ⟨⟨rfl, e154⟩, N154q⟩ := hQ154
          have N154 := Fr.app N152 N154q
          refine Go.on (T' := T154) (g' := (mkF m 56 #[.val (.int i0), .val (.int i1), .val (.int i2), .val (.int i0), .val (.int i0), .val (.ref c152_0), .val (.long (((i0.toInt64) - (i0.toInt64)) + (1 : Int64))), .second, .unset, .unset, .unset] [(.int ((64 : Int32) - ((32 : Int32) + (own_nlz (((((i0.toInt64) - (i0.toInt64)) + (1 : Int64)) - (1 : Int64)).toInt32)))))])) st154 ?_
          refine Go.on (T' := T154) (g' := (mkF m 58 #[.val (.int i0), .val (.int i1), .val (.int i2), .val (.int i0), .val (.int i0), .val (.ref c152_0), .val (.long (((i0.toInt64) - (i0.toInt64)) + (1 : Int64))), .second, .val (.int ((64 : Int32) - ((32 : Int32) + (own_nlz (((((i0.toInt64) - (i0.toInt64)) + (1 : Int64)) - (1 : Int64)).toInt32))))), .unset, .unset] [])) (fun t k => XS.istore X154.here hx rfl (hb hby at_56) rfl (l' := #[.val (.int i0), .val (.int i1), .val (.int i2), .val (.int i0), .val (.int i0), .val (.ref c152_0), .val (.long (((i0.toInt64) - (i0.toInt64)) + (1 : Int64))), .second, .val (.int ((64 : Int32) - ((32 : Int32) + (own_nlz (((((i0.toInt64) - (i0.toInt64)) + (1 : Int64)) - (1 : Int64)).toInt32))))), .unset, .unset]) rfl k) ?_
          refine Go.on (T' := T154) (g' := (mkF m 60 #[.val (.int i0), .val (.int i1), .val (.int i2), .val (.int i0), .val (.int i0), .val (.ref c152_0), .val (.long (((i0.toInt64) - (i0.toInt64)) + (1 : Int64))), .second, .val (.int ((64 : Int32) - ((32 : Int32) + (own_nlz (((((i0.toInt64) - (i0.toInt64)) + (1 : Int64)) - (1 : Int64)).toInt32))))), .unset, .unset] [(.int ((64 : Int32) - ((32 : Int32) + (own_nlz (((((i0.toInt64) - (i0.toInt64)) + (1 : Int64)) - (1 : Int64)).toInt32)))))])) (fun t k => XS.iload X154.here hx rfl (hb hby at_58) rfl k) ?_
          refine Go.on (T' := T154) (g' := (mkF m 63 #[.val (.int i0), .val (.int i1), .val (.int i2), .val (.int i0), .val (.int i0), .val (.ref c152_0), .val (.long (((i0.toInt64) - (i0.toInt64)) + (1 : Int64))), .second, .val (.int ((64 : Int32) - ((32 : Int32) + (own_nlz (((((i0.toInt64) - (i0.toInt64)) + (1 : Int64)) - (1 : Int64)).toInt32))))), .unset, .unset] [])) (fun t k => XS.ifNo X154.here hx rfl (hb hby at_60) rfl ((if0 _ _).trans (flt h153.2.1).1) k) ?_
          refine Go.on (T' := T154) (g' := (mkF m 65 #[.val (.int i0), .val (.int i1), .val (.int i2), .val (.int i0), .val (.int i0), .val (.ref c152_0), .val (.long (((i0.toInt64) - (i0.toInt64)) + (1 : Int64))), .second, .val (.int ((64 : Int32) - ((32 : Int32) + (own_nlz (((((i0.toInt64) - (i0.toInt64)) + (1 : Int64)) - (1 : Int64)).toInt32))))), .unset, .unset] [(.int ((64 : Int32) - ((32 : Int32) + (own_nlz (((((i0.toInt64) - (i0.toInt64)) + (1 : Int64)) - (1 : Int64)).toInt32)))))])) (fun t k => XS.iload X154.here hx rfl (hb hby at_63) rfl k) ?_
          refine Go.on (T' := T154) (g' := (mkF m 67 #[.val (.int i0), .val (.int i1), .val (.int i2), .val (.int i0), .val (.int i0), .val (.ref c152_0), .val (.long (((i0.toInt64) - (i0.toInt64)) + (1 : Int64))), .second, .val (.int ((64 : Int32) - ((32 : Int32) + (own_nlz (((((i0.toInt64) - (i0.toInt64)) + (1 : Int64)) - (1 : Int64)).toInt32))))), .unset, .unset] [(.int (32 : Int32)), (.int ((64 : Int32) - ((32 : Int32) + (own_nlz (((((i0.toInt64) - (i0.toInt64)) + (1 : Int64)) - (1 : Int64)).toInt32)))))])) (fun t k => XS.bipush X154.here hx rfl (hb hby at_65) k) ?_
          refine Go.on (T' := T154) (g' := (mkF m 72 #[.val (.int i0), .val (.int i1), .val (.int i2), .val (.int i0), .val (.int i0), .val (.ref c152_0), .val (.long (((i0.toInt64) - (i0.toInt64)) + (1 : Int64))), .second, .val (.int ((64 : Int32) - ((32 : Int32) + (own_nlz (((((i0.toInt64) - (i0.toInt64)) + (1 : Int64)) - (1 : Int64)).toInt32))))), .unset, .unset] [])) (fun t k => XS.icmpYes X154.here hx rfl (pc0 := 67) (pc' := 72) rfl (hb hby at_67) rfl (flt h153.2.2.1).2.2.2 (by decide) (by decide) k) ?_
          refine Go.on (T' := T154) (g' := (mkF m 73 #[.val (.int i0), .val (.int i1), .val (.int i2), .val (.int i0), .val (.int i0), .val (.ref c152_0), .val (.long (((i0.toInt64) - (i0.toInt64)) + (1 : Int64))), .second, .val (.int ((64 : Int32) - ((32 : Int32) + (own_nlz (((((i0.toInt64) - (i0.toInt64)) + (1 : Int64)) - (1 : Int64)).toInt32))))), .unset, .unset] [(.long (1 : Int64))])) (fun t k => XS.lconst X154.here hx rfl (hb hby at_72) k) ?_
          refine Go.on (T' := T154) (g' := (mkF m 75 #[.val (.int i0), .val (.int i1), .val (.int i2), .val (.int i0), .val (.int i0), .val (.ref c152_0), .val (.long (((i0.toInt64) - (i0.toInt64)) + (1 : Int64))), .second, .val (.int ((64 : Int32) - ((32 : Int32) + (own_nlz (((((i0.toInt64) - (i0.toInt64)) + (1 : Int64)) - (1 : Int64)).toInt32))))), .unset, .unset] [(.int ((64 : Int32) - ((32 : Int32) + (own_nlz (((((i0.toInt64) - (i0.toInt64)) + (1 : Int64)) - (1 : Int64)).toInt32))))), (.long (1 : Int64))])) (fun t k => XS.iload X154.here hx rfl (hb hby at_73) rfl k) ?_
          refine Go.on (T' := T154) (g' := (mkF m 76 #[.val (.int i0), .val (.int i1), .val (.int i2), .val (.int i0), .val (.int i0), .val (.ref c152_0), .val (.long (((i0.toInt64) - (i0.toInt64)) + (1 : Int64))), .second, .val (.int ((64 : Int32) - ((32 : Int32) + (own_nlz (((((i0.toInt64) - (i0.toInt64)) + (1 : Int64)) - (1 : Int64)).toInt32))))), .unset, .unset] [(.long ((1 : Int64) <<< (((64 : Int32) - ((32 : Int32) + (own_nlz (((((i0.toInt64) - (i0.toInt64)) + (1 : Int64)) - (1 : Int64)).toInt32)))) &&& 0x3f).toInt64))])) (fun t k => XS.lshl X154.here hx rfl (hb hby at_75) rfl k) ?_
          refine Go.on (T' := T154) (g' := (mkF m 78 #[.val (.int i0), .val (.int i1), .val (.int i2), .val (.int i0), .val (.int i0), .val (.ref c152_0), .val (.long (((i0.toInt64) - (i0.toInt64)) + (1 : Int64))), .second, .val (.int ((64 : Int32) - ((32 : Int32) + (own_nlz (((((i0.toInt64) - (i0.toInt64)) + (1 : Int64)) - (1 : Int64)).toInt32))))), .unset, .unset] [(.long (((i0.toInt64) - (i0.toInt64)) + (1 : Int64))), (.long ((1 : Int64) <<< (((64 : Int32) - ((32 : Int32) + (own_nlz (((((i0.toInt64) - (i0.toInt64)) + (1 : Int64)) - (1 : Int64)).toInt32)))) &&& 0x3f).toInt64))])) (fun t k => XS.lload X154.here hx rfl (hb hby at_76) rfl k) ?_
          refine Go.on (T' := T154) (g' := (mkF m 79 #[.val (.int i0), .val (.int i1), .val (.int i2), .val (.int i0), .val (.int i0), .val (.ref c152_0), .val (.long (((i0.toInt64) - (i0.toInt64)) + (1 : Int64))), .second, .val (.int ((64 : Int32) - ((32 : Int32) + (own_nlz (((((i0.toInt64) - (i0.toInt64)) + (1 : Int64)) - (1 : Int64)).toInt32))))), .unset, .unset] [(.int (lcmpW ((1 : Int64) <<< (((64 : Int32) - ((32 : Int32) + (own_nlz (((((i0.toInt64) - (i0.toInt64)) + (1 : Int64)) - (1 : Int64)).toInt32)))) &&& 0x3f).toInt64) (((i0.toInt64) - (i0.toInt64)) + (1 : Int64))))])) (fun t k => XS.lcmp X154.here hx rfl (hb hby at_78) rfl k) ?_
          refine Go.on (T' := T154) (g' := (mkF m 82 #[.val (.int i0), .val (.int i1), .val (.int i2), .val (.int i0), .val (.int i0), .val (.ref c152_0), .val (.long (((i0.toInt64) - (i0.toInt64)) + (1 : Int64))), .second, .val (.int ((64 : Int32) - ((32 : Int32) + (own_nlz (((((i0.toInt64) - (i0.toInt64)) + (1 : Int64)) - (1 : Int64)).toInt32))))), .unset, .unset] [])) (fun t k => XS.ifNo X154.here hx rfl (hb hby at_79) rfl ((if0 _ _).trans (flt h153.2.2.2.1).1) k) ?_
          refine Go.on (T' := T154) (g' := (mkF m 83 #[.val (.int i0), .val (.int i1), .val (.int i2), .val (.int i0), .val (.int i0), .val (.ref c152_0), .val (.long (((i0.toInt64) - (i0.toInt64)) + (1 : Int64))), .second, .val (.int ((64 : Int32) - ((32 : Int32) + (own_nlz (((((i0.toInt64) - (i0.toInt64)) + (1 : Int64)) - (1 : Int64)).toInt32))))), .unset, .unset] [(.int (1 : Int32))])) (fun t k => XS.iconst X154.here hx rfl (hb hby at_82) k) ?_
          refine Go.on (T' := T154) (g' := (mkF m 87 #[.val (.int i0), .val (.int i1), .val (.int i2), .val (.int i0), .val (.int i0), .val (.ref c152_0), .val (.long (((i0.toInt64) - (i0.toInt64)) + (1 : Int64))), .second, .val (.int ((64 : Int32) - ((32 : Int32) + (own_nlz (((((i0.toInt64) - (i0.toInt64)) + (1 : Int64)) - (1 : Int64)).toInt32))))), .unset, .unset] [(.int (1 : Int32))])) (fun t k => XS.goto X154.here hx rfl (pc0 := 83) (pc' := 87) rfl (hb hby at_83) (by decide) (by decide) k) ?_
          refine Go.on (T' := T154) (g' := (mkF m 89 #[.val (.int i0), .val (.int i1), .val (.int i2), .val (.int i0), .val (.int i0), .val (.ref c152_0), .val (.long (((i0.toInt64) - (i0.toInt64)) + (1 : Int64))), .second, .val (.int ((64 : Int32) - ((32 : Int32) + (own_nlz (((((i0.toInt64) - (i0.toInt64)) + (1 : Int64)) - (1 : Int64)).toInt32))))), .val (.int (1 : Int32)), .unset] [])) (fun t k => XS.istore X154.here hx rfl (hb hby at_87) rfl (l' := #[.val (.int i0), .val (.int i1), .val (.int i2), .val (.int i0), .val (.int i0), .val (.ref c152_0), .val (.long (((i0.toInt64) - (i0.toInt64)) + (1 : Int64))), .second, .val (.int ((64 : Int32) - ((32 : Int32) + (own_nlz (((((i0.toInt64) - (i0.toInt64)) + (1 : Int64)) - (1 : Int64)).toInt32))))), .val (.int (1 : Int32)), .unset]) rfl k) ?_
          refine Go.on (T' := T154) (g' := (mkF m 91 #[.val (.int i0), .val (.int i1), .val (.int i2), .val (.int i0), .val (.int i0), .val (.ref c152_0), .val (.long (((i0.toInt64) - (i0.toInt64)) + (1 : Int64))), .second, .val (.int ((64 : Int32) - ((32 : Int32) + (own_nlz (((((i0.toInt64) - (i0.toInt64)) + (1 : Int64)) - (1 : Int64)).toInt32))))), .val (.int (1 : Int32)), .unset] [(.int ((64 : Int32) - ((32 : Int32) + (own_nlz (((((i0.toInt64) - (i0.toInt64)) + (1 : Int64)) - (1 : Int64)).toInt32)))))])) (fun t k => XS.iload X154.here hx rfl (hb hby at_89) rfl k) ?_
          by_cases h155 : ((64 : Int32) - ((32 : Int32) + (own_nlz (((((i0.toInt64) - (i0.toInt64)) + (1 : Int64)) - (1 : Int64)).toInt32)))) = (0 : Int32)
          · skip
            refine Go.on (T' := T154) (g' := (mkF m 106 #[.val (.int i0), .val (.int i1), .val (.int i2), .val (.int i0), .val (.int i0), .val (.ref c152_0), .val (.long (((i0.toInt64) - (i0.toInt64)) + (1 : Int64))), .second, .val (.int ((64 : Int32) - ((32 : Int32) + (own_nlz (((((i0.toInt64) - (i0.toInt64)) + (1 : Int64)) - (1 : Int64)).toInt32))))), .val (.int (1 : Int32)), .unset] [])) (fun t k => XS.ifYes X154.here hx rfl (pc0 := 91) (pc' := 106) rfl (hb hby at_91) rfl ((if0 _ _).trans (teq h155).1) (by decide) (by decide) k) ?_
            refine Go.on (T' := T154) (g' := (mkF m 107 #[.val (.int i0), .val (.int i1), .val (.int i2), .val (.int i0), .val (.int i0), .val (.ref c152_0), .val (.long (((i0.toInt64) - (i0.toInt64)) + (1 : Int64))), .second, .val (.int ((64 : Int32) - ((32 : Int32) + (own_nlz (((((i0.toInt64) - (i0.toInt64)) + (1 : Int64)) - (1 : Int64)).toInt32))))), .val (.int (1 : Int32)), .unset] [(.int (1 : Int32))])) (fun t k => XS.iconst X154.here hx rfl (hb hby at_106) k) ?_
            refine Go.on (T' := T154) (g' := (mkF m 111 #[.val (.int i0), .val (.int i1), .val (.int i2), .val (.int i0), .val (.int i0), .val (.ref c152_0), .val (.long (((i0.toInt64) - (i0.toInt64)) + (1 : Int64))), .second, .val (.int ((64 : Int32) - ((32 : Int32) + (own_nlz (((((i0.toInt64) - (i0.toInt64)) + (1 : Int64)) - (1 : Int64)).toInt32))))), .val (.int (1 : Int32)), .unset] [(.int (1 : Int32))])) (fun t k => XS.goto X154.here hx rfl (pc0 := 107) (pc' := 111) rfl (hb hby at_107) (by decide) (by decide) k) ?_
            refine Go.on (T' := T154) (g' := (mkF m 113 #[.val (.int i0), .val (.int i1), .val (.int i2), .val (.int i0), .val (.int i0), .val (.ref c152_0), .val (.long (((i0.toInt64) - (i0.toInt64)) + (1 : Int64))), .second, .val (.int ((64 : Int32) - ((32 : Int32) + (own_nlz (((((i0.toInt64) - (i0.toInt64)) + (1 : Int64)) - (1 : Int64)).toInt32))))), .val (.int (1 : Int32)), .val (.int (1 : Int32))] [])) (fun t k => XS.istore X154.here hx rfl (hb hby at_111) rfl (l' := #[.val (.int i0), .val (.int i1), .val (.int i2), .val (.int i0), .val (.int i0), .val (.ref c152_0), .val (.long (((i0.toInt64) - (i0.toInt64)) + (1 : Int64))), .second, .val (.int ((64 : Int32) - ((32 : Int32) + (own_nlz (((((i0.toInt64) - (i0.toInt64)) + (1 : Int64)) - (1 : Int64)).toInt32))))), .val (.int (1 : Int32)), .val (.int (1 : Int32))]) rfl k) ?_
            refine Go.on (T' := T154) (g' := (mkF m 115 #[.val (.int i0), .val (.int i1), .val (.int i2), .val (.int i0), .val (.int i0), .val (.ref c152_0), .val (.long (((i0.toInt64) - (i0.toInt64)) + (1 : Int64))), .second, .val (.int ((64 : Int32) - ((32 : Int32) + (own_nlz (((((i0.toInt64) - (i0.toInt64)) + (1 : Int64)) - (1 : Int64)).toInt32))))), .val (.int (1 : Int32)), .val (.int (1 : Int32))] [(.int (1 : Int32))])) (fun t k => XS.iload X154.here hx rfl (hb hby at_113) rfl k) ?_
            refine Go.on (T' := T154) (g' := (mkF m 118 #[.val (.int i0), .val (.int i1), .val (.int i2), .val (.int i0), .val (.int i0), .val (.ref c152_0), .val (.long (((i0.toInt64) - (i0.toInt64)) + (1 : Int64))), .second, .val (.int ((64 : Int32) - ((32 : Int32) + (own_nlz (((((i0.toInt64) - (i0.toInt64)) + (1 : Int64)) - (1 : Int64)).toInt32))))), .val (.int (1 : Int32)), .val (.int (1 : Int32))] [])) (fun t k => XS.ifNo X154.here hx rfl (hb hby at_115) rfl ((if0 _ _).trans (feq (by decide : ¬ ((1 : Int32) = (0 : Int32)))).1) k) ?_
            refine Go.on (T' := T154) (g' := (mkF m 120 #[.val (.int i0), .val (.int i1), .val (.int i2), .val (.int i0), .val (.int i0), .val (.ref c152_0), .val (.long (((i0.toInt64) - (i0.toInt64)) + (1 : Int64))), .second, .val (.int ((64 : Int32) - ((32 : Int32) + (own_nlz (((((i0.toInt64) - (i0.toInt64)) + (1 : Int64)) - (1 : Int64)).toInt32))))), .val (.int (1 : Int32)), .val (.int (1 : Int32))] [(.int (1 : Int32))])) (fun t k => XS.iload X154.here hx rfl (hb hby at_118) rfl k) ?_
            refine Go.on (T' := T154) (g' := (mkF m 123 #[.val (.int i0), .val (.int i1), .val (.int i2), .val (.int i0), .val (.int i0), .val (.ref c152_0), .val (.long (((i0.toInt64) - (i0.toInt64)) + (1 : Int64))), .second, .val (.int ((64 : Int32) - ((32 : Int32) + (own_nlz (((((i0.toInt64) - (i0.toInt64)) + (1 : Int64)) - (1 : Int64)).toInt32))))), .val (.int (1 : Int32)), .val (.int (1 : Int32))] [])) (fun t k => XS.ifNo X154.here hx rfl (hb hby at_120) rfl ((if0 _ _).trans (feq (by decide : ¬ ((1 : Int32) = (0 : Int32)))).1) k) ?_
            refine Go.on (T' := T154) (g' := (mkF m 124 #[.val (.int i0), .val (.int i1), .val (.int i2), .val (.int i0), .val (.int i0), .val (.ref c152_0), .val (.long (((i0.toInt64) - (i0.toInt64)) + (1 : Int64))), .second, .val (.int ((64 : Int32) - ((32 : Int32) + (own_nlz (((((i0.toInt64) - (i0.toInt64)) + (1 : Int64)) - (1 : Int64)).toInt32))))), .val (.int (1 : Int32)), .val (.int (1 : Int32))] [(.int (1 : Int32))])) (fun t k => XS.iconst X154.here hx rfl (hb hby at_123) k) ?_
            refine Go.on (T' := T154) (g' := (mkF m 128 #[.val (.int i0), .val (.int i1), .val (.int i2), .val (.int i0), .val (.int i0), .val (.ref c152_0), .val (.long (((i0.toInt64) - (i0.toInt64)) + (1 : Int64))), .second, .val (.int ((64 : Int32) - ((32 : Int32) + (own_nlz (((((i0.toInt64) - (i0.toInt64)) + (1 : Int64)) - (1 : Int64)).toInt32))))), .val (.int (1 : Int32)), .val (.int (1 : Int32))] [(.int (1 : Int32))])) (fun t k => XS.goto X154.here hx rfl (pc0 := 124) (pc' := 128) rfl (hb hby at_124) (by decide) (by decide) k) ?_
            subst hG
            obtain ⟨fs, hr, hrun, hended, hW, hsame⟩ := X154.leave (v := some (.int (1 : Int32))) (fun h => by rw [Bd.returns] at h; cases h)
            exact ⟨_, _, retN X154 hx (t := .boolean) Bd.returns (by simp) (hb hby at_128) hr, hrun, hended, _, _, rfl, ⟨rfl, N154⟩, ⟨_, rfl⟩, hW, hsame.mono (by decide) (by decide)⟩
          · skip
            refine Go.on (T' := T154) (g' := (mkF m 94 #[.val (.int i0), .val (.int i1), .val (.int i2), .val (.int i0), .val (.int i0), .val (.ref c152_0), .val (.long (((i0.toInt64) - (i0.toInt64)) + (1 : Int64))), .second, .val (.int ((64 : Int32) - ((32 : Int32) + (own_nlz (((((i0.toInt64) - (i0.toInt64)) + (1 : Int64)) - (1 : Int64)).toInt32))))), .val (.int (1 : Int32)), .unset] [])) (fun t k => XS.ifNo X154.here hx rfl (hb hby at_91) rfl ((if0 _ _).trans (feq h155).1) k) ?_
            refine Go.on (T' := T154) (g' := (mkF m 95 #[.val (.int i0), .val (.int i1), .val (.int i2), .val (.int i0), .val (.int i0), .val (.ref c152_0), .val (.long (((i0.toInt64) - (i0.toInt64)) + (1 : Int64))), .second, .val (.int ((64 : Int32) - ((32 : Int32) + (own_nlz (((((i0.toInt64) - (i0.toInt64)) + (1 : Int64)) - (1 : Int64)).toInt32))))), .val (.int (1 : Int32)), .unset] [(.long (1 : Int64))])) (fun t k => XS.lconst X154.here hx rfl (hb hby at_94) k) ?_
            refine Go.on (T' := T154) (g' := (mkF m 97 #[.val (.int i0), .val (.int i1), .val (.int i2), .val (.int i0), .val (.int i0), .val (.ref c152_0), .val (.long (((i0.toInt64) - (i0.toInt64)) + (1 : Int64))), .second, .val (.int ((64 : Int32) - ((32 : Int32) + (own_nlz (((((i0.toInt64) - (i0.toInt64)) + (1 : Int64)) - (1 : Int64)).toInt32))))), .val (.int (1 : Int32)), .unset] [(.int ((64 : Int32) - ((32 : Int32) + (own_nlz (((((i0.toInt64) - (i0.toInt64)) + (1 : Int64)) - (1 : Int64)).toInt32))))), (.long (1 : Int64))])) (fun t k => XS.iload X154.here hx rfl (hb hby at_95) rfl k) ?_
            refine Go.on (T' := T154) (g' := (mkF m 98 #[.val (.int i0), .val (.int i1), .val (.int i2), .val (.int i0), .val (.int i0), .val (.ref c152_0), .val (.long (((i0.toInt64) - (i0.toInt64)) + (1 : Int64))), .second, .val (.int ((64 : Int32) - ((32 : Int32) + (own_nlz (((((i0.toInt64) - (i0.toInt64)) + (1 : Int64)) - (1 : Int64)).toInt32))))), .val (.int (1 : Int32)), .unset] [(.int (1 : Int32)), (.int ((64 : Int32) - ((32 : Int32) + (own_nlz (((((i0.toInt64) - (i0.toInt64)) + (1 : Int64)) - (1 : Int64)).toInt32))))), (.long (1 : Int64))])) (fun t k => XS.iconst X154.here hx rfl (hb hby at_97) k) ?_
            refine Go.on (T' := T154) (g' := (mkF m 99 #[.val (.int i0), .val (.int i1), .val (.int i2), .val (.int i0), .val (.int i0), .val (.ref c152_0), .val (.long (((i0.toInt64) - (i0.toInt64)) + (1 : Int64))), .second, .val (.int ((64 : Int32) - ((32 : Int32) + (own_nlz (((((i0.toInt64) - (i0.toInt64)) + (1 : Int64)) - (1 : Int64)).toInt32))))), .val (.int (1 : Int32)), .unset] [(.int (((64 : Int32) - ((32 : Int32) + (own_nlz (((((i0.toInt64) - (i0.toInt64)) + (1 : Int64)) - (1 : Int64)).toInt32)))) - (1 : Int32))), (.long (1 : Int64))])) (fun t k => XS.isub X154.here hx rfl (hb hby at_98) rfl k) ?_
            refine Go.on (T' := T154) (g' := (mkF m 100 #[.val (.int i0), .val (.int i1), .val (.int i2), .val (.int i0), .val (.int i0), .val (.ref c152_0), .val (.long (((i0.toInt64) - (i0.toInt64)) + (1 : Int64))), .second, .val (.int ((64 : Int32) - ((32 : Int32) + (own_nlz (((((i0.toInt64) - (i0.toInt64)) + (1 : Int64)) - (1 : Int64)).toInt32))))), .val (.int (1 : Int32)), .unset] [(.long ((1 : Int64) <<< ((((64 : Int32) - ((32 : Int32) + (own_nlz (((((i0.toInt64) - (i0.toInt64)) + (1 : Int64)) - (1 : Int64)).toInt32)))) - (1 : Int32)) &&& 0x3f).toInt64))])) (fun t k => XS.lshl X154.here hx rfl (hb hby at_99) rfl k) ?_
            refine Go.on (T' := T154) (g' := (mkF m 102 #[.val (.int i0), .val (.int i1), .val (.int i2), .val (.int i0), .val (.int i0), .val (.ref c152_0), .val (.long (((i0.toInt64) - (i0.toInt64)) + (1 : Int64))), .second, .val (.int ((64 : Int32) - ((32 : Int32) + (own_nlz (((((i0.toInt64) - (i0.toInt64)) + (1 : Int64)) - (1 : Int64)).toInt32))))), .val (.int (1 : Int32)), .unset] [(.long (((i0.toInt64) - (i0.toInt64)) + (1 : Int64))), (.long ((1 : Int64) <<< ((((64 : Int32) - ((32 : Int32) + (own_nlz (((((i0.toInt64) - (i0.toInt64)) + (1 : Int64)) - (1 : Int64)).toInt32)))) - (1 : Int32)) &&& 0x3f).toInt64))])) (fun t k => XS.lload X154.here hx rfl (hb hby at_100) rfl k) ?_
            refine Go.on (T' := T154) (g' := (mkF m 103 #[.val (.int i0), .val (.int i1), .val (.int i2), .val (.int i0), .val (.int i0), .val (.ref c152_0), .val (.long (((i0.toInt64) - (i0.toInt64)) + (1 : Int64))), .second, .val (.int ((64 : Int32) - ((32 : Int32) + (own_nlz (((((i0.toInt64) - (i0.toInt64)) + (1 : Int64)) - (1 : Int64)).toInt32))))), .val (.int (1 : Int32)), .unset] [(.int (lcmpW ((1 : Int64) <<< ((((64 : Int32) - ((32 : Int32) + (own_nlz (((((i0.toInt64) - (i0.toInt64)) + (1 : Int64)) - (1 : Int64)).toInt32)))) - (1 : Int32)) &&& 0x3f).toInt64) (((i0.toInt64) - (i0.toInt64)) + (1 : Int64))))])) (fun t k => XS.lcmp X154.here hx rfl (hb hby at_102) rfl k) ?_
            refine Go.on (T' := T154) (g' := (mkF m 106 #[.val (.int i0), .val (.int i1), .val (.int i2), .val (.int i0), .val (.int i0), .val (.ref c152_0), .val (.long (((i0.toInt64) - (i0.toInt64)) + (1 : Int64))), .second, .val (.int ((64 : Int32) - ((32 : Int32) + (own_nlz (((((i0.toInt64) - (i0.toInt64)) + (1 : Int64)) - (1 : Int64)).toInt32))))), .val (.int (1 : Int32)), .unset] [])) (fun t k => XS.ifNo X154.here hx rfl (hb hby at_103) rfl ((if0 _ _).trans (tlt (h153.2.2.2.2 h155)).2.1) k) ?_
            refine Go.on (T' := T154) (g' := (mkF m 107 #[.val (.int i0), .val (.int i1), .val (.int i2), .val (.int i0), .val (.int i0), .val (.ref c152_0), .val (.long (((i0.toInt64) - (i0.toInt64)) + (1 : Int64))), .second, .val (.int ((64 : Int32) - ((32 : Int32) + (own_nlz (((((i0.toInt64) - (i0.toInt64)) + (1 : Int64)) - (1 : Int64)).toInt32))))), .val (.int (1 : Int32)), .unset] [(.int (1 : Int32))])) (fun t k => XS.iconst X154.here hx rfl (hb hby at_106) k) ?_
            refine Go.on (T' := T154) (g' := (mkF m 111 #[.val (.int i0), .val (.int i1), .val (.int i2), .val (.int i0), .val (.int i0), .val (.ref c152_0), .val (.long (((i0.toInt64) - (i0.toInt64)) + (1 : Int64))), .second, .val (.int ((64 : Int32) - ((32 : Int32) + (own_nlz (((((i0.toInt64) - (i0.toInt64)) + (1 : Int64)) - (1 : Int64)).toInt32))))), .val (.int (1 : Int32)), .unset] [(.int (1 : Int32))])) (fun t k => XS.goto X154.here hx rfl (pc0 := 107) (pc' := 111) rfl (hb hby at_107) (by decide) (by decide) k) ?_
            refine Go.on (T' := T154) (g' := (mkF m 113 #[.val (.int i0), .val (.int i1), .val (.int i2), .val (.int i0), .val (.int i0), .val (.ref c152_0), .val (.long (((i0.toInt64) - (i0.toInt64)) + (1 : Int64))), .second, .val (.int ((64 : Int32) - ((32 : Int32) + (own_nlz (((((i0.toInt64) - (i0.toInt64)) + (1 : Int64)) - (1 : Int64)).toInt32))))), .val (.int (1 : Int32)), .val (.int (1 : Int32))] [])) (fun t k => XS.istore X154.here hx rfl (hb hby at_111) rfl (l' := #[.val (.int i0), .val (.int i1), .val (.int i2), .val (.int i0), .val (.int i0), .val (.ref c152_0), .val (.long (((i0.toInt64) - (i0.toInt64)) + (1 : Int64))), .second, .val (.int ((64 : Int32) - ((32 : Int32) + (own_nlz (((((i0.toInt64) - (i0.toInt64)) + (1 : Int64)) - (1 : Int64)).toInt32))))), .val (.int (1 : Int32)), .val (.int (1 : Int32))]) rfl k) ?_
            refine Go.on (T' := T154) (g' := (mkF m 115 #[.val (.int i0), .val (.int i1), .val (.int i2), .val (.int i0), .val (.int i0), .val (.ref c152_0), .val (.long (((i0.toInt64) - (i0.toInt64)) + (1 : Int64))), .second, .val (.int ((64 : Int32) - ((32 : Int32) + (own_nlz (((((i0.toInt64) - (i0.toInt64)) + (1 : Int64)) - (1 : Int64)).toInt32))))), .val (.int (1 : Int32)), .val (.int (1 : Int32))] [(.int (1 : Int32))])) (fun t k => XS.iload X154.here hx rfl (hb hby at_113) rfl k) ?_
            refine Go.on (T' := T154) (g' := (mkF m 118 #[.val (.int i0), .val (.int i1), .val (.int i2), .val (.int i0), .val (.int i0), .val (.ref c152_0), .val (.long (((i0.toInt64) - (i0.toInt64)) + (1 : Int64))), .second, .val (.int ((64 : Int32) - ((32 : Int32) + (own_nlz (((((i0.toInt64) - (i0.toInt64)) + (1 : Int64)) - (1 : Int64)).toInt32))))), .val (.int (1 : Int32)), .val (.int (1 : Int32))] [])) (fun t k => XS.ifNo X154.here hx rfl (hb hby at_115) rfl ((if0 _ _).trans (feq (by decide : ¬ ((1 : Int32) = (0 : Int32)))).1) k) ?_
            refine Go.on (T' := T154) (g' := (mkF m 120 #[.val (.int i0), .val (.int i1), .val (.int i2), .val (.int i0), .val (.int i0), .val (.ref c152_0), .val (.long (((i0.toInt64) - (i0.toInt64)) + (1 : Int64))), .second, .val (.int ((64 : Int32) - ((32 : Int32) + (own_nlz (((((i0.toInt64) - (i0.toInt64)) + (1 : Int64)) - (1 : Int64)).toInt32))))), .val (.int (1 : Int32)), .val (.int (1 : Int32))] [(.int (1 : Int32))])) (fun t k => XS.iload X154.here hx rfl (hb hby at_118) rfl k) ?_
            refine Go.on (T' := T154) (g' := (mkF m 123 #[.val (.int i0), .val (.int i1), .val (.int i2), .val (.int i0), .val (.int i0), .val (.ref c152_0), .val (.long (((i0.toInt64) - (i0.toInt64)) + (1 : Int64))), .second, .val (.int ((64 : Int32) - ((32 : Int32) + (own_nlz (((((i0.toInt64) - (i0.toInt64)) + (1 : Int64)) - (1 : Int64)).toInt32))))), .val (.int (1 : Int32)), .val (.int (1 : Int32))] [])) (fun t k => XS.ifNo X154.here hx rfl (hb hby at_120) rfl ((if0 _ _).trans (feq (by decide : ¬ ((1 : Int32) = (0 : Int32)))).1) k) ?_
            refine Go.on (T' := T154) (g' := (mkF m 124 #[.val (.int i0), .val (.int i1), .val (.int i2), .val (.int i0), .val (.int i0), .val (.ref c152_0), .val (.long (((i0.toInt64) - (i0.toInt64)) + (1 : Int64))), .second, .val (.int ((64 : Int32) - ((32 : Int32) + (own_nlz (((((i0.toInt64) - (i0.toInt64)) + (1 : Int64)) - (1 : Int64)).toInt32))))), .val (.int (1 : Int32)), .val (.int (1 : Int32))] [(.int (1 : Int32))])) (fun t k => XS.iconst X154.here hx rfl (hb hby at_123) k) ?_
            refine Go.on (T' := T154) (g' := (mkF m 128 #[.val (.int i0), .val (.int i1), .val (.int i2), .val (.int i0), .val (.int i0), .val (.ref c152_0), .val (.long (((i0.toInt64) - (i0.toInt64)) + (1 : Int64))), .second, .val (.int ((64 : Int32) - ((32 : Int32) + (own_nlz (((((i0.toInt64) - (i0.toInt64)) + (1 : Int64)) - (1 : Int64)).toInt32))))), .val (.int (1 : Int32)), .val (.int (1 : Int32))] [(.int (1 : Int32))])) (fun t k => XS.goto X154.here hx rfl (pc0 := 124) (pc' := 128) rfl (hb hby at_124) (by decide) (by decide) k) ?_
            subst hG
            obtain ⟨fs, hr, hrun, hended, hW, hsame⟩ := X154.leave (v := some (.int (1 : Int32))) (fun h => by rw [Bd.returns] at h; cases h)
            exact ⟨_, _, retN X154 hx (t := .boolean) Bd.returns (by simp) (hb hby at_128) hr, hrun, hended, _, _, rfl, ⟨rfl, N154⟩, ⟨_, rfl⟩, hW, hsame.mono (by decide) (by decide)⟩
  · skip
    refine Go.on (T' := s₁) (g' := (mkF m 6 #[.val (.int i0), .val (.int i1), .val (.int i2), .unset, .unset, .unset, .unset, .unset, .unset, .unset, .unset] [])) (fun t k => XS.ifNo X0.here hx rfl (hb hby at_3) rfl ((if0 _ _).trans (feq h1).1) k) ?_
    refine Go.on (T' := s₁) (g' := (mkF m 7 #[.val (.int i0), .val (.int i1), .val (.int i2), .unset, .unset, .unset, .unset, .unset, .unset, .unset, .unset] [.null])) (fun t k => XS.aconstNull X0.here hx rfl (hb hby at_6) k) ?_
    obtain ⟨_, _, ⟨T156, L156, k156, n156⟩, -, X156, ⟨Lc156, hQ156, l156, y156, z156⟩, st156⟩ := Jvm.LawKit.callS X0 hx (y := (⟨"com/example/realizer/realizer/spectra/Variable", "bits", "(Lcom/example/realizer/realizer/spectra/Domain;)I"⟩ : MethodName)) hown (mvT hZ (hw _ (List.mem_of_getElem? (i := 65) rfl))) (mvT hZ (hw _ (List.mem_of_getElem? (i := 66) rfl))) (mvT hZ (hw _ (List.mem_of_getElem? (i := 67) rfl))) (mvT hZ (hw _ (List.mem_of_getElem? (i := 68) rfl))) (by decide) (backOf (W := 0) (rm11_1 l Z a0 hw [] w hB hP h0 XB) hZ (hw _ (List.mem_of_getElem? (i := 68) rfl)) (hw _ (List.mem_of_getElem? (i := 67) rfl)) (by decide) (by decide)) (g := (mkF m 7 #[.val (.int i0), .val (.int i1), .val (.int i2), .unset, .unset, .unset, .unset, .unset, .unset, .unset, .unset] [.null])) rfl (by rw [hml]; rfl) (argsL := [.null]) (rest := []) (lenOf pd_10 rfl) rfl (by show 2 * 0 + _ ≤ _; exact Nat.le_of_eq rfl) (hb hby at_7) (fun _ _ => ⟨rfl, e0, (by decide : 0 + 0 ≤ _), (by decide : 0 + 0 ≤ _)⟩)
    dsimp only [Pt.U, Pt.locs, Pt.cells, Pt.slots] at X156 l156 y156 z156 st156 hQ156
    subst l156 y156 z156
    obtain ⟨⟨rfl, e156⟩, N156q⟩ := hQ156
    have N156 := Fr.app N0 N156q
    refine Go.on (T' := T156) (g' := (mkF m 10 #[.val (.int i0), .val (.int i1), .val (.int i2), .unset, .unset, .unset, .unset, .unset, .unset, .unset, .unset] [(.int (1 : Int32))])) st156 ?_
    refine Go.on (T' := T156) (g' := (mkF m 11 #[.val (.int i0), .val (.int i1), .val (.int i2), .unset, .unset, .unset, .unset, .unset, .unset, .unset, .unset] [(.int (1 : Int32)), (.int (1 : Int32))])) (fun t k => XS.iconst X156.here hx rfl (hb hby at_10) k) ?_
    refine Go.on (T' := T156) (g' := (mkF m 14 #[.val (.int i0), .val (.int i1), .val (.int i2), .unset, .unset, .unset, .unset, .unset, .unset, .unset, .unset] [])) (fun t k => XS.icmpNo X156.here hx rfl (hb hby at_11) rfl (teq (by decide : (1 : Int32) = (1 : Int32))).2 k) ?_
    refine Go.on (T' := T156) (g' := (mkF m 15 #[.val (.int i0), .val (.int i1), .val (.int i2), .unset, .unset, .unset, .unset, .unset, .unset, .unset, .unset] [(.int (1 : Int32))])) (fun t k => XS.iconst X156.here hx rfl (hb hby at_14) k) ?_
    refine Go.on (T' := T156) (g' := (mkF m 19 #[.val (.int i0), .val (.int i1), .val (.int i2), .unset, .unset, .unset, .unset, .unset, .unset, .unset, .unset] [(.int (1 : Int32))])) (fun t k => XS.goto X156.here hx rfl (pc0 := 15) (pc' := 19) rfl (hb hby at_15) (by decide) (by decide) k) ?_
    subst hG
    obtain ⟨fs, hr, hrun, hended, hW, hsame⟩ := X156.leave (v := some (.int (1 : Int32))) (fun h => by rw [Bd.returns] at h; cases h)
    exact ⟨_, _, retN X156 hx (t := .boolean) Bd.returns (by simp) (hb hby at_19) hr, hrun, hended, _, _, rfl, ⟨rfl, N156⟩, ⟨_, rfl⟩, hW, hsame.mono (by decide) (by decide)⟩
set_option maxRecDepth 65536 in
set_option maxHeartbeats 40000000 in
theorem comes_1 {Post : Tables → Env → Array Value → State → Outcome → State → Prop} (hpost : ∀ tb e args s v u, (limb_1_1.after args s (.returned v) u = true ∧ limb_1_2.after args s (.returned v) u = true ∧ True) → FrameEnd s (.returned v) u (Jvm.fieldLocs frame_1_writes args s ++ Jvm.arrayLocs frame_1_arrays args s ++ Jvm.staticLocs frame_1_statics s) 16 128 → Post tb e args s (.returned v) u) :
    ArmFor flags0 classFile x code maxLocals ret World_1 tables_1 room_1 Calls_1 rest_1 Pre_1 Post := by
  intro l hfl _ _ p e ha hc hk s m args below hf hA hF happ hP
  obtain ⟨hcalls, hrest, hpre⟩ := hP
  obtain ⟨-, -, -, hnamed, -, -, -, hat⟩ := (Spec.applies_iff hf).mp happ
  obtain ⟨hg, hn⟩ := and_e (Cond.before_iff.mp (show (Jvm.Cond.and given_1 narrow_1).before args s = true from hpre))
  obtain ⟨u1, v1⟩ := and_e hg
  obtain ⟨u2, v2⟩ := and_e v1
  obtain ⟨u3, v3⟩ := and_e v2
  obtain ⟨w0, w1, w2, rfl⟩ : ∃ w0 w1 w2 : Value, args = #[w0, w1, w2] := by
    have hs : args.size = 3 := by simpa [Cond.value, given_1] using u1
    obtain ⟨L⟩ := args
    match L, hs with
    | [w0, w1, w2], _ => exact ⟨w0, w1, w2, rfl⟩
  have hw := fun d (hd : d ∈ tables_1) => atoms_spec (ws := Jvm.Cond.code x code maxLocals ret :: tables_1) hat d (List.mem_cons_of_mem _ hd)
  have hfit : Fit s := fun {y c} hc i hi => by
    obtain ⟨ha, rfl⟩ := Array.getElem?_eq_some_iff.mp hc
    have q := List.all_eq_true.mp ((Array.all_eq_true_iff_forall_mem.mp hF) _ (Array.getElem_mem ha)) i (List.mem_range.mpr hi)
    simpa [Array.getElem?_eq_getElem hi] using q
  obtain ⟨i0, ei0⟩ := is_v u2
  obtain rfl : w0 = (.int i0) := Option.some.inj ei0
  obtain ⟨i1, ei1⟩ := is_v u3
  obtain rfl : w1 = (.int i1) := Option.some.inj ei1
  obtain ⟨i2, ei2⟩ := is_v v3
  obtain rfl : w2 = (.int i2) := Option.some.inj ei2
  obtain ⟨hsets, hown0⟩ := atoms_of _ (rest_1_c_eq ▸ (show rest_1_c.before _ s = true from hrest))
  obtain ⟨x1, ev1⟩ := exa_v (Cond.before_iff.mp (hsets _ (List.mem_of_getElem? (i := 2) rfl)))
  obtain ⟨x0, ev0⟩ := arr_v (Cond.before_iff.mp (hsets _ (List.mem_of_getElem? (i := 3) rfl)))
  obtain ⟨cl0, Ar0⟩ := Arr.start ev0 (Cond.before_iff.mp (hsets _ (List.mem_of_getElem? (i := 3) rfl)))
  have sl0 : cl0.slots = #[] := own_slots (vs := []) (own_len (own_eqI (Cond.before_iff.mp (hsets _ (List.mem_of_getElem? (i := 5) rfl)))) ev0 Ar0 (by decide)) (fun i v h => by cases h)
  obtain ⟨w, hw_⟩ : ∃ w : Nat → Addr, w 0 = x0 ∧ w 1 = x1 ∧ True := ⟨fun k => [x0, x1].getD k 0, rfl, rfl, trivial⟩
  obtain ⟨rfl, rfl, -⟩ := hw_
  have hPin : Pins s s.heap w := ⟨Sta.start ev1 (Or.inl (hsets _ (List.mem_of_getElem? (i := 1) rfl))),
    Exa.start ev1 (Cond.before_iff.mp (hsets _ (List.mem_of_getElem? (i := 2) rfl))),
    Exa.start ev0 (Cond.before_iff.mp (hsets _ (List.mem_of_getElem? (i := 4) rfl))),
    Fld.start ((fld_at ev1).symm.trans (ev0)),
    Fld.start ((fld_at ev1).symm.trans (own_eqI (Cond.before_iff.mp (hsets _ (List.mem_of_getElem? (i := 6) rfl))))),
    ⟨cl0, Ar0, sl0, FitC.start hfit Ar0⟩,
    trivial⟩
  obtain ⟨n, o, h1, h2, h3, _, L, rfl, ⟨rfl, N⟩, hq⟩ := rm0 l s _ hw tables_1 w s.heap hPin s.heap (own_ext0 _) i0 i1 i2 p e ha hc hk s m _ below hf ((Spec.applies_iff_loose hf).mp happ).1 ⟨rfl, State.Warmed39.refl s, rfl⟩ trivial
  refine ⟨n, _, h1, h2, h3, hpost _ _ _ _ _ _ ⟨Cond.after_iff.mpr rfl, Cond.after_iff.mpr (eq_i res_at (Term.int_eval (1)) rfl), trivial⟩ ⟨hq.1, hq.2.1, (hq.2.2.sift fun y hy => Or.inr (N y hy)).mono (by decide) (by decide)⟩⟩
theorem main_1_1 : Claimed_1_1 := comes_1 fun _ _ _ _ _ _ h hF => ⟨h.1, hF⟩
theorem main_1_2 : Claimed_1_2 := comes_1 fun _ _ _ _ _ _ h hF => ⟨h.2.1, hF⟩
end Jvm.Pilot.@@N@@
namespace Jvm.Pilot.@@N@@
open Jvm Jvm.ClassFile Sem Op Lib Jvm.Free Jvm.Stand Jvm.Pilot.@@N@@.Jvm.D
/-! MADE BY PROGRAM (witnessworld.py) out of the Statement's table words and the real class files: 30 classes; the members and pool entries that the words name. The judged class is class 1, her method 1. -/
namespace start1
open Jvm.ClassFile
def u (s : String) : CpInfo := .utf8 (stringToUtf16 s)
/-- a pool by its gaps: so many unusable entries, then the entry; so many at the end -/
def gap : Nat → List CpInfo → List CpInfo
  | 0, r => r
  | n + 1, r => .unusable :: gap n r
def poolList (es : List (Nat × CpInfo)) (last : Nat) : List CpInfo := es.foldr (fun e r => gap e.1 (e.2 :: r)) (gap last [])
def pool (es : List (Nat × CpInfo)) (last : Nat) : Array CpInfo := ⟨poolList es last⟩
def fileOf (pool : Array CpInfo) (this : Nat) (attrs : Array Attribute := #[]) (ms : Array MethodInfo := #[]) (fl : Nat := 33) (sup : Nat := 0) (ifs : Array Nat := #[]) (fds : Array FieldInfo := #[]) : ClassFile where
  minorVersion := 0
  majorVersion := 65
  constantPool := pool
  accessFlags := fl
  thisClass := this
  superClass := sup
  interfaces := ifs
  fields := fds
  methods := ms
  attributes := attrs
def plain (name : String) (sup : Option ClassId) : Class where
  name := name
  kind := .ordinary
  loader := none
  accessFlags := 33
  super := sup
  interfaces := #[]
  cf := none
  fields := #[]
  methods := #[]
  instanceTypes := #[]
  staticTypes := #[]
  resolved := #[]
  callSites := []
  init := .initialized
  statics := none
  mirror := none

def pool0 : Array CpInfo := pool [(5, u "<init>"), (0, u "()V"), (1, .class_ 10), (1, u "java/lang/Object")] 113

def k0c0 : Code := { maxStack := 0, maxLocals := 1, code := object_method_1_code, exceptionTable := #[], attributes := #[] }
def k0m0 : Method := { name := "<init>", desc := "()V", sig := { parameters := [], returnType := none }, accessFlags := 1, code := some k0c0 }
/-- java/lang/Object -/
def k0 : Class := { plain "java/lang/Object" none with
  accessFlags := 33
  interfaces := #[]
  cf := some (fileOf pool0 8 #[] #[{ accessFlags := 1, nameIndex := 5, descriptorIndex := 6, attributes := #[] }] 33 0 #[] #[])
  fields := #[]
  methods := #[k0m0]
  instanceTypes := #[]
  staticTypes := #[]
  resolved := Array.replicate 124 none
  statics := none }

def pool1 : Array CpInfo := pool [(2, .class_ 4), (1, u "java/lang/Object"), (0, u "<init>"), (0, u "()V"), (0, .methodref 8 9), (0, .class_ 10), (0, .nameAndType 11 12), (0, u "com/example/realizer/realizer/spectra/Variable"), (0, u "bits"), (0, u "(Lcom/example/realizer/realizer/spectra/Domain;)I"), (0, .methodref 14 15), (0, .class_ 16), (0, .nameAndType 17 18), (0, u "java/lang/Math"), (0, u "min"), (0, u "(II)I"), (0, .methodref 14 20), (0, .nameAndType 21 18), (0, u "max"), (0, .methodref 23 24), (0, .class_ 25), (0, .nameAndType 26 27), (0, u "com/example/realizer/realizer/spectra/Domain"), (0, u "range"), (0, u "(II)Lcom/example/realizer/realizer/spectra/Domain;"), (0, .class_ 29), (0, u "com/example/realizer/realizer/spectra/VariableBitsPinLaw"), (2, u "law"), (0, u "(III)Z")] 3

def k1m0 : Method := { name := "<init>", desc := "()V", sig := { parameters := [], returnType := none }, accessFlags := 1, code := none }
def k1c1 : Code := { maxStack := 4, maxLocals := 11, code := code, exceptionTable := #[], attributes := #[] }
def k1m1 : Method := { name := "law", desc := "(III)Z", sig := { parameters := [.int, .int, .int], returnType := some .boolean }, accessFlags := 9, code := some k1c1 }
/-- com/example/realizer/realizer/spectra/VariableBitsPinLaw -/
def k1 : Class := { plain "com/example/realizer/realizer/spectra/VariableBitsPinLaw" (some 0) with
  accessFlags := 49
  interfaces := #[]
  cf := some (fileOf pool1 28 #[] #[{ accessFlags := 1, nameIndex := 5, descriptorIndex := 6, attributes := #[] }, { accessFlags := 9, nameIndex := 32, descriptorIndex := 33, attributes := #[] }] 49 2 #[] #[])
  fields := #[]
  methods := #[k1m0, k1m1]
  instanceTypes := #[]
  staticTypes := #[]
  resolved := Array.replicate 37 none
  statics := none }

def pool2 : Array CpInfo := pool [(1, .class_ 2), (0, u "java/lang/Math"), (1, .class_ 6), (1, u "java/lang/Object"), (0, u "<init>"), (0, u "()V"), (89, .class_ 100), (1, u "java/lang/Math$RandomNumberGeneratorHolder"), (71, u "negativeZeroFloatBits"), (0, u "J"), (2, u "negativeZeroDoubleBits"), (21, u "max"), (2, u "min"), (43, u "$assertionsDisabled"), (0, u "Z"), (88, u "(II)I"), (2, u "twoToTheDoubleScaleDown"), (0, u "D"), (4, u "twoToTheDoubleScaleUp"), (9, u "E"), (3, u "PI"), (2, u "TAU"), (2, u "DEGREES_TO_RADIANS"), (0, u "RADIANS_TO_DEGREES")] 94

def k2m0 : Method := { name := "<init>", desc := "()V", sig := { parameters := [], returnType := none }, accessFlags := 2, code := none }
def k2c1 : Code := { maxStack := 2, maxLocals := 2, code := jdk_29_method_65_code, exceptionTable := #[], attributes := #[] }
def k2m1 : Method := { name := "max", desc := "(II)I", sig := { parameters := [.int, .int], returnType := some .int }, accessFlags := 9, code := some k2c1 }
def k2c2 : Code := { maxStack := 2, maxLocals := 2, code := jdk_29_method_69_code, exceptionTable := #[], attributes := #[] }
def k2m2 : Method := { name := "min", desc := "(II)I", sig := { parameters := [.int, .int], returnType := some .int }, accessFlags := 9, code := some k2c2 }
/-- java/lang/Math -/
def k2 : Class := { plain "java/lang/Math" (some 0) with
  accessFlags := 49
  interfaces := #[]
  cf := some (fileOf pool2 1 #[.nestMembers #[98]] #[{ accessFlags := 2, nameIndex := 7, descriptorIndex := 8, attributes := #[] }, { accessFlags := 9, nameIndex := 198, descriptorIndex := 335, attributes := #[] }, { accessFlags := 9, nameIndex := 201, descriptorIndex := 335, attributes := #[] }] 49 4 #[] #[{ accessFlags := 25, nameIndex := 354, descriptorIndex := 339, attributes := #[] }, { accessFlags := 25, nameIndex := 358, descriptorIndex := 339, attributes := #[] }, { accessFlags := 25, nameIndex := 361, descriptorIndex := 339, attributes := #[] }, { accessFlags := 26, nameIndex := 364, descriptorIndex := 339, attributes := #[] }, { accessFlags := 26, nameIndex := 365, descriptorIndex := 339, attributes := #[] }, { accessFlags := 26, nameIndex := 172, descriptorIndex := 173, attributes := #[] }, { accessFlags := 26, nameIndex := 176, descriptorIndex := 173, attributes := #[] }, { accessFlags := 8, nameIndex := 344, descriptorIndex := 339, attributes := #[] }, { accessFlags := 8, nameIndex := 338, descriptorIndex := 339, attributes := #[] }, { accessFlags := 4120, nameIndex := 245, descriptorIndex := 246, attributes := #[] }])
  fields := #[{ name := "E", type := .double, accessFlags := 25, slot := 0, constantValue := 0 }, { name := "PI", type := .double, accessFlags := 25, slot := 1, constantValue := 0 }, { name := "TAU", type := .double, accessFlags := 25, slot := 2, constantValue := 0 }, { name := "DEGREES_TO_RADIANS", type := .double, accessFlags := 26, slot := 3, constantValue := 0 }, { name := "RADIANS_TO_DEGREES", type := .double, accessFlags := 26, slot := 4, constantValue := 0 }, { name := "negativeZeroFloatBits", type := .long, accessFlags := 26, slot := 5, constantValue := 0 }, { name := "negativeZeroDoubleBits", type := .long, accessFlags := 26, slot := 6, constantValue := 0 }, { name := "twoToTheDoubleScaleUp", type := .double, accessFlags := 8, slot := 7, constantValue := 0 }, { name := "twoToTheDoubleScaleDown", type := .double, accessFlags := 8, slot := 8, constantValue := 0 }, { name := "$assertionsDisabled", type := .boolean, accessFlags := 4120, slot := 9, constantValue := 0 }]
  methods := #[k2m0, k2m1, k2m2]
  instanceTypes := #[]
  staticTypes := #[.double, .double, .double, .double, .double, .long, .long, .double, .double, .boolean]
  resolved := Array.replicate 460 none
  statics := none }

def pool3 : Array CpInfo := pool [(1, .methodref 2 3), (0, .class_ 4), (0, .nameAndType 5 6), (0, u "java/lang/Object"), (0, u "<init>"), (0, u "()V"), (0, .class_ 8), (0, u "java/lang/Record")] 13

def k3c0 : Code := { maxStack := 1, maxLocals := 1, code := jdk_30_method_1_code, exceptionTable := #[], attributes := #[] }
def k3m0 : Method := { name := "<init>", desc := "()V", sig := { parameters := [], returnType := none }, accessFlags := 4, code := some k3c0 }
/-- java/lang/Record -/
def k3 : Class := { plain "java/lang/Record" (some 0) with
  accessFlags := 1057
  interfaces := #[]
  cf := some (fileOf pool3 7 #[] #[{ accessFlags := 4, nameIndex := 5, descriptorIndex := 6, attributes := #[] }] 1057 2 #[] #[])
  fields := #[]
  methods := #[k3m0]
  instanceTypes := #[]
  staticTypes := #[]
  resolved := Array.replicate 22 none
  statics := none }

def pool4 : Array CpInfo := pool [(1, .methodref 2 3), (0, .class_ 4), (0, .nameAndType 5 6), (0, u "java/lang/Record"), (0, u "<init>"), (0, u "()V"), (9, .interfaceMethodref 17 18), (0, .class_ 19), (0, .nameAndType 20 21), (0, u "java/util/List"), (0, u "copyOf"), (0, u "(Ljava/util/Collection;)Ljava/util/List;"), (0, .interfaceMethodref 17 23), (0, .nameAndType 24 25), (0, u "isEmpty"), (0, u "()Z"), (2, u "size"), (3, .fieldref 33 34), (0, .class_ 35), (0, .nameAndType 36 37), (0, u "com/example/realizer/realizer/spectra/Domain"), (0, u "from"), (0, u "I"), (0, .fieldref 33 39), (0, .nameAndType 40 37), (0, u "to"), (0, .fieldref 33 42), (0, .nameAndType 43 44), (0, u "literals"), (0, u "Ljava/util/List;"), (0, .interfaceMethodref 17 46), (0, .nameAndType 47 48), (0, u "of"), (0, u "()Ljava/util/List;"), (0, .methodref 33 50), (0, .nameAndType 5 51), (0, u "(IILjava/util/List;)V"), (34, u "range"), (0, u "(II)Lcom/example/realizer/realizer/spectra/Domain;"), (3, u "()J")] 38

def k4c0 : Code := { maxStack := 4, maxLocals := 4, code := prog_10_method_1_code, exceptionTable := #[], attributes := #[] }
def k4m0 : Method := { name := "<init>", desc := "(IILjava/util/List;)V", sig := { parameters := [.int, .int, (.object "java/util/List")], returnType := none }, accessFlags := 1, code := some k4c0 }
def k4c1 : Code := { maxStack := 5, maxLocals := 2, code := prog_10_method_2_code, exceptionTable := #[], attributes := #[] }
def k4m1 : Method := { name := "range", desc := "(II)Lcom/example/realizer/realizer/spectra/Domain;", sig := { parameters := [.int, .int], returnType := some (.object "com/example/realizer/realizer/spectra/Domain") }, accessFlags := 9, code := some k4c1 }
def k4c2 : Code := { maxStack := 4, maxLocals := 1, code := prog_10_method_5_code, exceptionTable := #[], attributes := #[] }
def k4m2 : Method := { name := "size", desc := "()J", sig := { parameters := [], returnType := some .long }, accessFlags := 1, code := some k4c2 }
/-- com/example/realizer/realizer/spectra/Domain -/
def k4 : Class := { plain "com/example/realizer/realizer/spectra/Domain" (some 3) with
  accessFlags := 49
  interfaces := #[]
  cf := some (fileOf pool4 33 #[] #[{ accessFlags := 1, nameIndex := 5, descriptorIndex := 51, attributes := #[] }, { accessFlags := 9, nameIndex := 86, descriptorIndex := 87, attributes := #[] }, { accessFlags := 1, nameIndex := 28, descriptorIndex := 91, attributes := #[] }] 49 2 #[] #[{ accessFlags := 18, nameIndex := 36, descriptorIndex := 37, attributes := #[] }, { accessFlags := 18, nameIndex := 40, descriptorIndex := 37, attributes := #[] }, { accessFlags := 18, nameIndex := 43, descriptorIndex := 44, attributes := #[] }])
  fields := #[{ name := "from", type := .int, accessFlags := 18, slot := 0, constantValue := 0 }, { name := "to", type := .int, accessFlags := 18, slot := 1, constantValue := 0 }, { name := "literals", type := (.object "java/util/List"), accessFlags := 18, slot := 2, constantValue := 0 }]
  methods := #[k4m0, k4m1, k4m2]
  instanceTypes := #[.int, .int, (.object "java/util/List")]
  staticTypes := #[]
  resolved := Array.replicate 130 none
  statics := none }

def pool5 : Array CpInfo := pool [(8, .class_ 10), (1, u "java/lang/Iterable"), (24, .class_ 36), (0, u "java/lang/Object")] 25

/-- java/lang/Iterable -/
def k5 : Class := { plain "java/lang/Iterable" (some 0) with
  accessFlags := 1537
  interfaces := #[]
  cf := some (fileOf pool5 8 #[] #[] 1537 35 #[] #[])
  fields := #[]
  methods := #[]
  instanceTypes := #[]
  staticTypes := #[]
  resolved := Array.replicate 62 none
  statics := none }

def pool6 : Array CpInfo := pool [(10, .class_ 12), (1, u "java/util/Collection"), (47, .class_ 61), (0, u "java/lang/Object"), (0, .class_ 63), (0, u "java/lang/Iterable")] 51

/-- java/util/Collection -/
def k6 : Class := { plain "java/util/Collection" (some 0) with
  accessFlags := 1537
  interfaces := #[5]
  cf := some (fileOf pool6 10 #[] #[] 1537 60 #[62] #[])
  fields := #[]
  methods := #[]
  instanceTypes := #[]
  staticTypes := #[]
  resolved := Array.replicate 115 none
  statics := none }

def pool7 : Array CpInfo := pool [(8, .class_ 10), (1, u "java/util/SequencedCollection"), (15, .class_ 27), (0, u "java/lang/Object"), (0, .class_ 29), (0, u "java/util/Collection")] 27

/-- java/util/SequencedCollection -/
def k7 : Class := { plain "java/util/SequencedCollection" (some 0) with
  accessFlags := 1537
  interfaces := #[6]
  cf := some (fileOf pool7 8 #[] #[] 1537 26 #[28] #[])
  fields := #[]
  methods := #[]
  instanceTypes := #[]
  staticTypes := #[]
  resolved := Array.replicate 57 none
  statics := none }

def pool8 : Array CpInfo := pool [(8, .class_ 10), (1, u "java/util/List"), (7, u "()Z"), (48, u "isEmpty"), (20, u "of"), (1, .fieldref 91 92), (0, .class_ 93), (0, .nameAndType 94 95), (0, u "java/util/ImmutableCollections"), (0, u "EMPTY_LIST"), (0, u "Ljava/util/ImmutableCollections$ListN;"), (7, .class_ 104), (0, u "java/lang/Object"), (7, .methodref 91 113), (0, .nameAndType 114 115), (0, u "listCopy"), (0, u "(Ljava/util/Collection;)Ljava/util/List;"), (3, u "()Ljava/util/List;"), (0, .class_ 121), (0, u "java/util/SequencedCollection"), (112, u "copyOf")] 16

def k8m0 : Method := { name := "isEmpty", desc := "()Z", sig := { parameters := [], returnType := some .boolean }, accessFlags := 1025, code := none }
def k8c1 : Code := { maxStack := 1, maxLocals := 0, code := jdk_40_method_36_code, exceptionTable := #[], attributes := #[] }
def k8m1 : Method := { name := "of", desc := "()Ljava/util/List;", sig := { parameters := [], returnType := some (.object "java/util/List") }, accessFlags := 9, code := some k8c1 }
def k8c2 : Code := { maxStack := 1, maxLocals := 1, code := jdk_40_method_48_code, exceptionTable := #[], attributes := #[] }
def k8m2 : Method := { name := "copyOf", desc := "(Ljava/util/Collection;)Ljava/util/List;", sig := { parameters := [(.object "java/util/Collection")], returnType := some (.object "java/util/List") }, accessFlags := 9, code := some k8c2 }
/-- java/util/List -/
def k8 : Class := { plain "java/util/List" (some 0) with
  accessFlags := 1537
  interfaces := #[7]
  cf := some (fileOf pool8 8 #[] #[{ accessFlags := 1025, nameIndex := 67, descriptorIndex := 18, attributes := #[] }, { accessFlags := 9, nameIndex := 88, descriptorIndex := 119, attributes := #[] }, { accessFlags := 9, nameIndex := 234, descriptorIndex := 115, attributes := #[] }] 1537 103 #[120] #[])
  fields := #[]
  methods := #[k8m0, k8m1, k8m2]
  instanceTypes := #[]
  staticTypes := #[]
  resolved := Array.replicate 251 none
  statics := none }

def pool9 : Array CpInfo := pool [(2, .class_ 4), (1, u "java/lang/Object"), (0, u "<init>"), (0, u "()V"), (3, .class_ 11), (0, u "java/util/ImmutableCollections$List12"), (0, .class_ 13), (0, u "java/util/ImmutableCollections$ListN"), (0, .fieldref 12 15), (0, .nameAndType 16 17), (0, u "allowNulls"), (0, u "Z"), (0, .class_ 19), (0, u "java/util/List"), (27, .class_ 49), (1, u "java/util/ImmutableCollections"), (0, u "$assertionsDisabled"), (5, u "[Ljava/lang/Object;"), (5, u "EMPTY_LIST"), (0, u "Ljava/util/ImmutableCollections$ListN;"), (8, u "EMPTY_LIST_NULLS"), (22, u "SALT32L"), (0, u "J"), (2, u "REVERSE"), (6, u "archivedObjects"), (2, u "EMPTY"), (0, u "Ljava/lang/Object;"), (0, .class_ 112), (0, u "java/util/ImmutableCollections$SetN"), (5, u "EMPTY_SET"), (0, u "Ljava/util/ImmutableCollections$SetN;"), (0, .class_ 121), (0, u "java/util/ImmutableCollections$MapN"), (3, u "EMPTY_MAP"), (0, u "Ljava/util/ImmutableCollections$MapN;"), (4, u "EXPAND_FACTOR"), (0, u "I"), (9, u "listCopy"), (0, u "(Ljava/util/Collection;)Ljava/util/List;"), (25, .class_ 170), (0, u "java/util/ImmutableCollections$MapN$MapNIterator"), (0, .class_ 172), (0, u "java/util/ImmutableCollections$MapN$1"), (0, .class_ 174), (0, u "java/util/ImmutableCollections$Map1"), (0, .class_ 176), (0, u "java/util/ImmutableCollections$AbstractImmutableMap"), (0, .class_ 178), (0, u "java/util/ImmutableCollections$SetN$SetNIterator"), (0, .class_ 180), (0, u "java/util/ImmutableCollections$Set12"), (0, .class_ 182), (0, u "java/util/ImmutableCollections$Set12$1"), (0, .class_ 184), (0, u "java/util/ImmutableCollections$AbstractImmutableSet"), (0, .class_ 186), (0, u "java/util/ImmutableCollections$SubList"), (0, .class_ 188), (0, u "java/util/ImmutableCollections$ListItr"), (0, .class_ 190), (0, u "java/util/ImmutableCollections$AbstractImmutableList"), (0, .class_ 192), (0, u "java/util/ImmutableCollections$AbstractImmutableCollection"), (0, .class_ 194), (0, u "java/util/ImmutableCollections$Access"), (0, .class_ 196), (0, u "java/util/ImmutableCollections$Access$1")] 16

def k9m0 : Method := { name := "<init>", desc := "()V", sig := { parameters := [], returnType := none }, accessFlags := 2, code := none }
def k9c1 : Code := { maxStack := 1, maxLocals := 2, code := jdk_56_method_3_code, exceptionTable := #[], attributes := #[] }
def k9m1 : Method := { name := "listCopy", desc := "(Ljava/util/Collection;)Ljava/util/List;", sig := { parameters := [(.object "java/util/Collection")], returnType := some (.object "java/util/List") }, accessFlags := 8, code := some k9c1 }
/-- java/util/ImmutableCollections -/
def k9 : Class := { plain "java/util/ImmutableCollections" (some 0) with
  accessFlags := 32
  interfaces := #[]
  cf := some (fileOf pool9 47 #[.nestMembers #[120, 169, 171, 173, 175, 111, 177, 179, 181, 183, 12, 10, 185, 187, 189, 191, 193, 195]] #[{ accessFlags := 2, nameIndex := 5, descriptorIndex := 6, attributes := #[] }, { accessFlags := 8, nameIndex := 142, descriptorIndex := 143, attributes := #[] }] 32 2 #[] #[{ accessFlags := 26, nameIndex := 95, descriptorIndex := 96, attributes := #[] }, { accessFlags := 26, nameIndex := 99, descriptorIndex := 17, attributes := #[] }, { accessFlags := 10, nameIndex := 106, descriptorIndex := 56, attributes := #[] }, { accessFlags := 26, nameIndex := 109, descriptorIndex := 110, attributes := #[] }, { accessFlags := 24, nameIndex := 62, descriptorIndex := 63, attributes := #[] }, { accessFlags := 24, nameIndex := 72, descriptorIndex := 63, attributes := #[] }, { accessFlags := 24, nameIndex := 118, descriptorIndex := 119, attributes := #[] }, { accessFlags := 24, nameIndex := 125, descriptorIndex := 126, attributes := #[] }, { accessFlags := 24, nameIndex := 131, descriptorIndex := 132, attributes := #[] }, { accessFlags := 4120, nameIndex := 50, descriptorIndex := 17, attributes := #[] }])
  fields := #[{ name := "SALT32L", type := .long, accessFlags := 26, slot := 0, constantValue := 0 }, { name := "REVERSE", type := .boolean, accessFlags := 26, slot := 1, constantValue := 0 }, { name := "archivedObjects", type := (.array (.object "java/lang/Object")), accessFlags := 10, slot := 2, constantValue := 0 }, { name := "EMPTY", type := (.object "java/lang/Object"), accessFlags := 26, slot := 3, constantValue := 0 }, { name := "EMPTY_LIST", type := (.object "java/util/ImmutableCollections$ListN"), accessFlags := 24, slot := 4, constantValue := 0 }, { name := "EMPTY_LIST_NULLS", type := (.object "java/util/ImmutableCollections$ListN"), accessFlags := 24, slot := 5, constantValue := 0 }, { name := "EMPTY_SET", type := (.object "java/util/ImmutableCollections$SetN"), accessFlags := 24, slot := 6, constantValue := 0 }, { name := "EMPTY_MAP", type := (.object "java/util/ImmutableCollections$MapN"), accessFlags := 24, slot := 7, constantValue := 0 }, { name := "EXPAND_FACTOR", type := .int, accessFlags := 24, slot := 8, constantValue := 0 }, { name := "$assertionsDisabled", type := .boolean, accessFlags := 4120, slot := 9, constantValue := 0 }]
  methods := #[k9m0, k9m1]
  instanceTypes := #[]
  staticTypes := #[.long, .boolean, (.array (.object "java/lang/Object")), (.object "java/lang/Object"), (.object "java/util/ImmutableCollections$ListN"), (.object "java/util/ImmutableCollections$ListN"), (.object "java/util/ImmutableCollections$SetN"), (.object "java/util/ImmutableCollections$MapN"), .int, .boolean]
  resolved := Array.replicate 213 none
  statics := some 0 }

def pool10 : Array CpInfo := pool [(2, .class_ 4), (1, u "java/lang/Object"), (0, u "<init>"), (0, u "()V"), (1, .class_ 10), (1, u "java/util/AbstractCollection"), (66, .class_ 78), (0, u "java/util/Collection")] 81

def k10m0 : Method := { name := "<init>", desc := "()V", sig := { parameters := [], returnType := none }, accessFlags := 4, code := none }
/-- java/util/AbstractCollection -/
def k10 : Class := { plain "java/util/AbstractCollection" (some 0) with
  accessFlags := 1057
  interfaces := #[6]
  cf := some (fileOf pool10 8 #[] #[{ accessFlags := 4, nameIndex := 5, descriptorIndex := 6, attributes := #[] }] 1057 2 #[77] #[])
  fields := #[]
  methods := #[k10m0]
  instanceTypes := #[]
  staticTypes := #[]
  resolved := Array.replicate 160 none
  statics := none }

def pool11 : Array CpInfo := pool [(2, .class_ 4), (1, u "java/util/AbstractCollection"), (0, u "<init>"), (0, u "()V"), (1, .class_ 10), (1, u "java/util/ImmutableCollections"), (2, .class_ 14), (0, u "java/util/ImmutableCollections$AbstractImmutableCollection")] 41

def k11m0 : Method := { name := "<init>", desc := "()V", sig := { parameters := [], returnType := none }, accessFlags := 0, code := none }
/-- java/util/ImmutableCollections$AbstractImmutableCollection -/
def k11 : Class := { plain "java/util/ImmutableCollections$AbstractImmutableCollection" (some 10) with
  accessFlags := 1056
  interfaces := #[]
  cf := some (fileOf pool11 13 #[.nestHost 8] #[{ accessFlags := 0, nameIndex := 5, descriptorIndex := 6, attributes := #[] }] 1056 2 #[] #[])
  fields := #[]
  methods := #[k11m0]
  instanceTypes := #[]
  staticTypes := #[]
  resolved := Array.replicate 56 none
  statics := none }

def pool12 : Array CpInfo := pool [(1, .class_ 2), (0, u "java/util/RandomAccess"), (0, .class_ 4), (0, u "java/lang/Object")] 2

/-- java/util/RandomAccess -/
def k12 : Class := { plain "java/util/RandomAccess" (some 0) with
  accessFlags := 1537
  interfaces := #[]
  cf := some (fileOf pool12 1 #[] #[] 1537 3 #[] #[])
  fields := #[]
  methods := #[]
  instanceTypes := #[]
  staticTypes := #[]
  resolved := Array.replicate 7 none
  statics := none }

def pool13 : Array CpInfo := pool [(2, .class_ 4), (1, u "java/util/ImmutableCollections$AbstractImmutableCollection"), (0, u "<init>"), (0, u "()V"), (1, .class_ 10), (1, u "java/util/ImmutableCollections"), (3, .class_ 16), (1, u "java/util/ImmutableCollections$AbstractImmutableList"), (60, .class_ 78), (0, u "java/util/List"), (45, .class_ 125), (0, u "java/util/RandomAccess")] 70

def k13m0 : Method := { name := "<init>", desc := "()V", sig := { parameters := [], returnType := none }, accessFlags := 0, code := none }
/-- java/util/ImmutableCollections$AbstractImmutableList -/
def k13 : Class := { plain "java/util/ImmutableCollections$AbstractImmutableList" (some 11) with
  accessFlags := 1056
  interfaces := #[8, 12]
  cf := some (fileOf pool13 14 #[.nestHost 8] #[{ accessFlags := 0, nameIndex := 5, descriptorIndex := 6, attributes := #[] }] 1056 2 #[77, 124] #[])
  fields := #[]
  methods := #[k13m0]
  instanceTypes := #[]
  staticTypes := #[]
  resolved := Array.replicate 196 none
  statics := none }

def pool14 : Array CpInfo := pool [(1, .class_ 2), (0, u "java/io/Serializable"), (0, .class_ 4), (0, u "java/lang/Object")] 2

/-- java/io/Serializable -/
def k14 : Class := { plain "java/io/Serializable" (some 0) with
  accessFlags := 1537
  interfaces := #[]
  cf := some (fileOf pool14 1 #[] #[] 1537 3 #[] #[])
  fields := #[]
  methods := #[]
  instanceTypes := #[]
  staticTypes := #[]
  resolved := Array.replicate 7 none
  statics := none }

def pool15 : Array CpInfo := pool [(2, .class_ 4), (1, u "java/util/ImmutableCollections$AbstractImmutableList"), (9, .class_ 16), (1, u "java/util/ImmutableCollections$List12"), (0, u "e0"), (0, u "Ljava/lang/Object;"), (1, .class_ 22), (1, u "java/util/ImmutableCollections"), (3, u "e1"), (43, .class_ 71), (0, u "java/io/Serializable")] 53

/-- java/util/ImmutableCollections$List12 -/
def k15 : Class := { plain "java/util/ImmutableCollections$List12" (some 13) with
  accessFlags := 48
  interfaces := #[14]
  cf := some (fileOf pool15 14 #[.nestHost 20] #[] 48 2 #[70] #[{ accessFlags := 18, nameIndex := 17, descriptorIndex := 18, attributes := #[] }, { accessFlags := 18, nameIndex := 26, descriptorIndex := 18, attributes := #[] }])
  fields := #[{ name := "e0", type := (.object "java/lang/Object"), accessFlags := 18, slot := 0, constantValue := 0 }, { name := "e1", type := (.object "java/lang/Object"), accessFlags := 18, slot := 1, constantValue := 0 }]
  methods := #[]
  instanceTypes := #[(.object "java/lang/Object"), (.object "java/lang/Object")]
  staticTypes := #[]
  resolved := Array.replicate 125 none
  statics := none }

def pool16 : Array CpInfo := pool [(2, .class_ 4), (1, u "java/util/ImmutableCollections$AbstractImmutableList"), (2, .fieldref 8 9), (0, .class_ 10), (0, .nameAndType 11 12), (0, u "java/util/ImmutableCollections$ListN"), (0, u "elements"), (0, u "[Ljava/lang/Object;"), (2, u "allowNulls"), (0, u "Z"), (42, .class_ 60), (0, u "java/io/Serializable"), (13, u "isEmpty"), (0, u "()Z"), (38, .class_ 115), (0, u "java/util/ImmutableCollections")] 3

def k16c0 : Code := { maxStack := 1, maxLocals := 1, code := jdk_45_method_2_code, exceptionTable := #[], attributes := #[] }
def k16m0 : Method := { name := "isEmpty", desc := "()Z", sig := { parameters := [], returnType := some .boolean }, accessFlags := 1, code := some k16c0 }
/-- java/util/ImmutableCollections$ListN -/
def k16 : Class := { plain "java/util/ImmutableCollections$ListN" (some 13) with
  accessFlags := 48
  interfaces := #[14]
  cf := some (fileOf pool16 8 #[.nestHost 114] #[{ accessFlags := 1, nameIndex := 74, descriptorIndex := 75, attributes := #[] }] 48 2 #[59] #[{ accessFlags := 18, nameIndex := 11, descriptorIndex := 12, attributes := #[] }, { accessFlags := 18, nameIndex := 15, descriptorIndex := 16, attributes := #[] }])
  fields := #[{ name := "elements", type := (.array (.object "java/lang/Object")), accessFlags := 18, slot := 0, constantValue := 0 }, { name := "allowNulls", type := .boolean, accessFlags := 18, slot := 1, constantValue := 0 }]
  methods := #[k16m0]
  instanceTypes := #[(.array (.object "java/lang/Object")), .boolean]
  staticTypes := #[]
  resolved := Array.replicate 119 none
  statics := none }

def pool17 : Array CpInfo := pool [(2, .class_ 4), (1, u "java/lang/Record"), (3, .class_ 10), (1, u "com/example/realizer/realizer/spectra/Variable"), (0, u "name"), (0, u "Ljava/lang/String;"), (2, u "owner"), (0, u "Lcom/example/realizer/realizer/spectra/Player;"), (2, u "domain"), (0, u "Lcom/example/realizer/realizer/spectra/Domain;"), (2, u "index"), (0, u "I"), (5, u "bits"), (0, u "(Lcom/example/realizer/realizer/spectra/Domain;)I"), (0, .methodref 33 34), (0, .class_ 35), (0, .nameAndType 36 37), (0, u "com/example/realizer/realizer/spectra/Domain"), (0, u "size"), (0, u "()J"), (0, .methodref 39 40), (0, .class_ 41), (0, .nameAndType 42 43), (0, u "java/lang/Long"), (0, u "numberOfLeadingZeros"), (0, u "(J)I")] 45

def k17c0 : Code := { maxStack := 5, maxLocals := 1, code := prog_74_method_4_code, exceptionTable := #[], attributes := #[] }
def k17m0 : Method := { name := "bits", desc := "(Lcom/example/realizer/realizer/spectra/Domain;)I", sig := { parameters := [(.object "com/example/realizer/realizer/spectra/Domain")], returnType := some .int }, accessFlags := 8, code := some k17c0 }
/-- com/example/realizer/realizer/spectra/Variable -/
def k17 : Class := { plain "com/example/realizer/realizer/spectra/Variable" (some 3) with
  accessFlags := 49
  interfaces := #[]
  cf := some (fileOf pool17 8 #[] #[{ accessFlags := 8, nameIndex := 30, descriptorIndex := 31, attributes := #[] }] 49 2 #[] #[{ accessFlags := 18, nameIndex := 11, descriptorIndex := 12, attributes := #[] }, { accessFlags := 18, nameIndex := 15, descriptorIndex := 16, attributes := #[] }, { accessFlags := 18, nameIndex := 19, descriptorIndex := 20, attributes := #[] }, { accessFlags := 18, nameIndex := 23, descriptorIndex := 24, attributes := #[] }])
  fields := #[{ name := "name", type := (.object "java/lang/String"), accessFlags := 18, slot := 0, constantValue := 0 }, { name := "owner", type := (.object "com/example/realizer/realizer/spectra/Player"), accessFlags := 18, slot := 1, constantValue := 0 }, { name := "domain", type := (.object "com/example/realizer/realizer/spectra/Domain"), accessFlags := 18, slot := 2, constantValue := 0 }, { name := "index", type := .int, accessFlags := 18, slot := 3, constantValue := 0 }]
  methods := #[k17m0]
  instanceTypes := #[(.object "java/lang/String"), (.object "com/example/realizer/realizer/spectra/Player"), (.object "com/example/realizer/realizer/spectra/Domain"), .int]
  staticTypes := #[]
  resolved := Array.replicate 89 none
  statics := none }

def pool18 : Array CpInfo := pool [(2, .class_ 4), (1, u "java/lang/Object"), (0, u "<init>"), (0, u "()V"), (1, .class_ 10), (1, u "java/lang/Number"), (2, .class_ 14), (0, u "java/io/Serializable"), (0, u "serialVersionUID"), (0, u "J")] 20

def k18m0 : Method := { name := "<init>", desc := "()V", sig := { parameters := [], returnType := none }, accessFlags := 1, code := none }
/-- java/lang/Number -/
def k18 : Class := { plain "java/lang/Number" (some 0) with
  accessFlags := 1057
  interfaces := #[14]
  cf := some (fileOf pool18 8 #[] #[{ accessFlags := 1, nameIndex := 5, descriptorIndex := 6, attributes := #[] }] 1057 2 #[13] #[{ accessFlags := 26, nameIndex := 15, descriptorIndex := 16, attributes := #[] }])
  fields := #[{ name := "serialVersionUID", type := .long, accessFlags := 26, slot := 0, constantValue := 0 }]
  methods := #[k18m0]
  instanceTypes := #[]
  staticTypes := #[.long]
  resolved := Array.replicate 37 none
  statics := none }

def pool19 : Array CpInfo := pool [(1, .class_ 2), (0, u "java/lang/Comparable"), (0, .class_ 4), (0, u "java/lang/Object")] 7

/-- java/lang/Comparable -/
def k19 : Class := { plain "java/lang/Comparable" (some 0) with
  accessFlags := 1537
  interfaces := #[]
  cf := some (fileOf pool19 1 #[] #[] 1537 3 #[] #[])
  fields := #[]
  methods := #[]
  instanceTypes := #[]
  staticTypes := #[]
  resolved := Array.replicate 12 none
  statics := none }

def pool20 : Array CpInfo := pool [(1, .class_ 2), (0, u "java/lang/constant/Constable"), (0, .class_ 4), (0, u "java/lang/Object")] 6

/-- java/lang/constant/Constable -/
def k20 : Class := { plain "java/lang/constant/Constable" (some 0) with
  accessFlags := 1537
  interfaces := #[]
  cf := some (fileOf pool20 1 #[] #[] 1537 3 #[] #[])
  fields := #[]
  methods := #[]
  instanceTypes := #[]
  staticTypes := #[]
  resolved := Array.replicate 11 none
  statics := none }

def pool21 : Array CpInfo := pool [(1, .class_ 2), (0, u "java/lang/constant/ConstantDesc"), (0, .class_ 4), (0, u "java/lang/Object")] 32

/-- java/lang/constant/ConstantDesc -/
def k21 : Class := { plain "java/lang/constant/ConstantDesc" (some 0) with
  accessFlags := 1537
  interfaces := #[]
  cf := some (fileOf pool21 1 #[] #[] 1537 3 #[] #[])
  fields := #[]
  methods := #[]
  instanceTypes := #[]
  staticTypes := #[]
  resolved := Array.replicate 37 none
  statics := none }

def pool22 : Array CpInfo := pool [(1, .class_ 2), (0, u "java/lang/Long"), (15, .class_ 20), (1, u "java/lang/Integer"), (79, u "numberOfLeadingZeros"), (0, u "(J)I"), (133, .class_ 237), (1, u "java/lang/Long$LongCache"), (33, .class_ 272), (0, u "java/lang/Number"), (2, u "value"), (0, u "J"), (31, .methodref 18 309), (0, .nameAndType 100 310), (0, u "(I)I"), (50, u "TYPE"), (0, u "Ljava/lang/Class;"), (0, .class_ 364), (0, u "java/lang/Comparable"), (0, .class_ 366), (0, u "java/lang/constant/Constable"), (0, .class_ 368), (0, u "java/lang/constant/ConstantDesc"), (0, u "MIN_VALUE"), (1, u "MAX_VALUE"), (4, u "SIZE"), (0, u "I"), (1, u "BYTES"), (1, u "serialVersionUID")] 142

def k22c0 : Code := { maxStack := 3, maxLocals := 3, code := jdk_35_method_48_code, exceptionTable := #[], attributes := #[] }
def k22m0 : Method := { name := "numberOfLeadingZeros", desc := "(J)I", sig := { parameters := [.long], returnType := some .int }, accessFlags := 9, code := some k22c0 }
/-- java/lang/Long -/
def k22 : Class := { plain "java/lang/Long" (some 18) with
  accessFlags := 49
  interfaces := #[19, 20, 21]
  cf := some (fileOf pool22 1 #[.nestMembers #[235]] #[{ accessFlags := 9, nameIndex := 100, descriptorIndex := 101, attributes := #[] }] 49 271 #[363, 365, 367] #[{ accessFlags := 25, nameIndex := 369, descriptorIndex := 276, attributes := #[] }, { accessFlags := 25, nameIndex := 371, descriptorIndex := 276, attributes := #[] }, { accessFlags := 25, nameIndex := 361, descriptorIndex := 362, attributes := #[] }, { accessFlags := 18, nameIndex := 275, descriptorIndex := 276, attributes := #[] }, { accessFlags := 25, nameIndex := 376, descriptorIndex := 377, attributes := #[] }, { accessFlags := 25, nameIndex := 379, descriptorIndex := 377, attributes := #[] }, { accessFlags := 26, nameIndex := 381, descriptorIndex := 276, attributes := #[] }])
  fields := #[{ name := "MIN_VALUE", type := .long, accessFlags := 25, slot := 0, constantValue := 0 }, { name := "MAX_VALUE", type := .long, accessFlags := 25, slot := 1, constantValue := 0 }, { name := "TYPE", type := (.object "java/lang/Class"), accessFlags := 25, slot := 2, constantValue := 0 }, { name := "value", type := .long, accessFlags := 18, slot := 0, constantValue := 0 }, { name := "SIZE", type := .int, accessFlags := 25, slot := 3, constantValue := 0 }, { name := "BYTES", type := .int, accessFlags := 25, slot := 4, constantValue := 0 }, { name := "serialVersionUID", type := .long, accessFlags := 26, slot := 5, constantValue := 0 }]
  methods := #[k22m0]
  instanceTypes := #[.long]
  staticTypes := #[.long, .long, (.object "java/lang/Class"), .int, .int, .long]
  resolved := Array.replicate 524 none
  statics := none }

def pool23 : Array CpInfo := pool [(1, .class_ 2), (0, u "java/lang/Integer"), (16, u "digits"), (0, u "[C"), (32, u "numberOfLeadingZeros"), (0, u "(I)I"), (30, u "DigitOnes"), (0, u "[B"), (2, u "DigitTens"), (99, .class_ 190), (0, u "java/lang/Integer$IntegerCache"), (3, u "I"), (8, .class_ 204), (0, u "java/lang/Number"), (2, u "value"), (56, .integer 65536), (37, u "TYPE"), (0, u "Ljava/lang/Class;"), (0, .class_ 305), (0, u "java/lang/Comparable"), (0, .class_ 307), (0, u "java/lang/constant/Constable"), (0, .class_ 309), (0, u "java/lang/constant/ConstantDesc"), (0, u "MIN_VALUE"), (1, u "MAX_VALUE"), (3, u "SIZE"), (1, u "BYTES"), (1, u "serialVersionUID"), (0, u "J")] 131

def k23c0 : Code := { maxStack := 3, maxLocals := 2, code := jdk_33_method_47_code, exceptionTable := #[], attributes := #[] }
def k23m0 : Method := { name := "numberOfLeadingZeros", desc := "(I)I", sig := { parameters := [.int], returnType := some .int }, accessFlags := 9, code := some k23c0 }
/-- java/lang/Integer -/
def k23 : Class := { plain "java/lang/Integer" (some 18) with
  accessFlags := 49
  interfaces := #[19, 20, 21]
  cf := some (fileOf pool23 1 #[.nestMembers #[189]] #[{ accessFlags := 9, nameIndex := 53, descriptorIndex := 54, attributes := #[] }] 49 203 #[304, 306, 308] #[{ accessFlags := 25, nameIndex := 310, descriptorIndex := 194, attributes := #[] }, { accessFlags := 25, nameIndex := 312, descriptorIndex := 194, attributes := #[] }, { accessFlags := 25, nameIndex := 302, descriptorIndex := 303, attributes := #[] }, { accessFlags := 24, nameIndex := 19, descriptorIndex := 20, attributes := #[] }, { accessFlags := 24, nameIndex := 89, descriptorIndex := 86, attributes := #[] }, { accessFlags := 24, nameIndex := 85, descriptorIndex := 86, attributes := #[] }, { accessFlags := 18, nameIndex := 207, descriptorIndex := 194, attributes := #[] }, { accessFlags := 25, nameIndex := 316, descriptorIndex := 194, attributes := #[] }, { accessFlags := 25, nameIndex := 318, descriptorIndex := 194, attributes := #[] }, { accessFlags := 26, nameIndex := 320, descriptorIndex := 321, attributes := #[] }])
  fields := #[{ name := "MIN_VALUE", type := .int, accessFlags := 25, slot := 0, constantValue := 0 }, { name := "MAX_VALUE", type := .int, accessFlags := 25, slot := 1, constantValue := 0 }, { name := "TYPE", type := (.object "java/lang/Class"), accessFlags := 25, slot := 2, constantValue := 0 }, { name := "digits", type := (.array .char), accessFlags := 24, slot := 3, constantValue := 0 }, { name := "DigitTens", type := (.array .byte), accessFlags := 24, slot := 4, constantValue := 0 }, { name := "DigitOnes", type := (.array .byte), accessFlags := 24, slot := 5, constantValue := 0 }, { name := "value", type := .int, accessFlags := 18, slot := 0, constantValue := 0 }, { name := "SIZE", type := .int, accessFlags := 25, slot := 6, constantValue := 0 }, { name := "BYTES", type := .int, accessFlags := 25, slot := 7, constantValue := 0 }, { name := "serialVersionUID", type := .long, accessFlags := 26, slot := 8, constantValue := 0 }]
  methods := #[k23m0]
  instanceTypes := #[.int]
  staticTypes := #[.int, .int, (.object "java/lang/Class"), (.array .char), (.array .byte), (.array .byte), .int, .int, .long]
  resolved := Array.replicate 453 none
  statics := none }

def pool24 : Array CpInfo := pool [(1, u "java/lang/Cloneable"), (0, .class_ 1), (0, u "java/lang/Object"), (0, .class_ 3)] 3

/-- java/lang/Cloneable -/
def k24 : Class := { plain "java/lang/Cloneable" (some 0) with
  accessFlags := 1537
  interfaces := #[]
  cf := some (fileOf pool24 2 #[] #[] 1537 4 #[] #[])
  fields := #[]
  methods := #[]
  instanceTypes := #[]
  staticTypes := #[]
  resolved := Array.replicate 8 none
  statics := none }

/-- the primitive byte -/
def k25 : Class := { plain "byte" none with kind := .primitive 'B', accessFlags := 0x411 }
/-- [B -/
def k26 : Class := { plain "[B" (some 0) with kind := .array 25 .byte, interfaces := #[24, 14], accessFlags := 1041 }

/-- the primitive int -/
def k27 : Class := { plain "int" none with kind := .primitive 'I', accessFlags := 0x411 }
/-- [I -/
def k28 : Class := { plain "[I" (some 0) with kind := .array 27 .int, interfaces := #[24, 14], accessFlags := 1041 }

/-- [Ljava/lang/Object; -/
def k29 : Class := { plain "[Ljava/lang/Object;" (some 0) with kind := .array 0 (.object "java/lang/Object"), interfaces := #[24, 14], accessFlags := 1041 }

def heap : Heap := #[{ cls := 9, slots := #[.long 0, .int 0, .null, .null, .ref 2, .null, .null, .null, .int 0, .int 0], vm := .statics 9 },
  { cls := 29, slots := #[], vm := .none },
  { cls := 16, slots := #[.ref 1, .int 0], vm := .none }]
def classes : Array Class := #[k0, k1, k2, k3, k4, k5, k6, k7, k8, k9, k10, k11, k12, k13, k14, k15, k16, k17, k18, k19, k20, k21, k22, k23, k24, k25, k26, k27, k28, k29]
def interned : List (Array UInt16 × Addr) := []
def slotsUsed : Nat := 12
def theMethod : MethodId := ⟨1, 1⟩
def args0 : Array Value := #[.int 5, .int 8, .int 11]
def aboutOver (below : List Frame) : State where
  vm := { classes := classes, interned := interned.toArray }
  heap := heap
  slotsUsed := slotsUsed
  threads := #[{ frames := .invoking theMethod args0 :: below }]
def below0 : List Frame := [.native { method := ⟨0, 0⟩, args := #[] }]
def about1 : State := aboutOver below0
def p0 : Program := .bare "" "" ""
def e0 : Env := launch0.env 0 0 0
theorem w_frames : about1.frames = Frame.invoking theMethod args0 :: below0 := rfl
set_option maxRecDepth 65536 in
theorem w_args : argsFit about1.vm theMethod args0 = true := by decide +kernel
set_option maxRecDepth 65536 in
theorem w_heap : heapFits about1 = true := by decide +kernel
set_option maxRecDepth 65536 in
theorem w_runnable : about1.curStatus? = some .runnable := by decide +kernel
set_option maxRecDepth 65536 in
theorem w_alone : about1.alone = true := by decide +kernel
set_option maxRecDepth 65536 in
theorem w_named : about1.methodNamed? x = some theMethod := by decide +kernel
set_option maxRecDepth 65536 in
theorem w_hears : about1.hears theMethod below0 = true := by decide +kernel
set_option maxRecDepth 65536 in
theorem w_ripe : about1.ripe theMethod args0 below0 = true := by decide +kernel
theorem w_running : about1.status = .running := rfl
set_option maxRecDepth 65536 in
theorem w_room : about1.hasRoom e0.platform room_1 = true :=
  launch0.hasRoom_least _ room_1 (by decide +kernel) (by decide +kernel) (by decide +kernel) (by decide +kernel) (by decide +kernel) (by decide +kernel)
theorem allAtoms_all (ts : List Jvm.Cond) (a : Array Jvm.Value) (st : Jvm.State) : (allAtoms ts).before a st = ts.all (fun c => c.before a st) := by
  induction ts with
  | nil => rfl
  | cons c t ih =>
    show (Jvm.Cond.and c (allAtoms t)).before a st = _
    rw [Jvm.Cond.before_and, ih, List.all_cons]
def words1 : List Jvm.Cond := Jvm.Cond.code x code maxLocals ret :: tables_1
/-- a 'code' word, met by the world's own term for the bytes: nothing is compared byte by byte -/
theorem code_word {y : MethodName} {bytes : ByteArray} {mx : Nat} {rt : Option FieldType} {a : Array Value} {s : State} {m : MethodId} {meth : Method} {c : Code} (h1 : s.methodNamed? y = some m) (h2 : s.vm.method? m = some meth) (h3 : meth.code = some c) (h4 : c.code = bytes)
    (h5 : (c.maxLocals == mx && c.exceptionTable.isEmpty && decide (c.maxStack ≤ mostOperands) && decide (meth.sig.returnType = rt) && !meth.locks && decide (parseMethodDescriptor y.desc = some meth.sig)) = true) : (Jvm.Cond.code y bytes mx rt).before a s = true := by
  simp only [Bool.and_eq_true, beq_iff_eq, Bool.not_eq_true', decide_eq_true_eq] at h5
  obtain ⟨⟨⟨⟨⟨g1, g2⟩, g3⟩, g4⟩, g5⟩, g6⟩ := h5
  simp [Cond.before, Cond.holds, Cond.value, h1, h2, h3, h4, g1, g2, g3, g4, g5, g6]
def isCode : Jvm.Cond → Bool
  | .code _ _ _ _ => true
  | _ => false
theorem all_split {L : List Jvm.Cond} {P : Jvm.Cond → Bool} (h1 : L.all (fun c => isCode c || P c) = true) (h2 : ∀ c ∈ L.filter isCode, P c = true) : L.all P = true := by
  refine List.all_eq_true.mpr fun c hc => ?_
  have h := List.all_eq_true.mp h1 c hc
  rcases Bool.eq_false_or_eq_true (isCode c) with hi | hi
  · exact h2 c (List.mem_filter.mpr ⟨hc, hi⟩)
  · simpa [hi] using h
set_option maxRecDepth 65536 in
theorem w_c0 : (Jvm.Cond.code x code maxLocals ret).before args0 about1 = true := code_word (m := ⟨1, 1⟩) (meth := k1m1) (c := k1c1) (by decide +kernel) rfl rfl rfl (by decide +kernel)
set_option maxRecDepth 65536 in
theorem w_c1 : (Jvm.Cond.code ({ cls := "java/lang/Math", name := "min", desc := "(II)I" } : Jvm.MethodName) jdk_29_method_69_code (2 : Nat) (Option.some Jvm.ClassFile.FieldType.int)).before args0 about1 = true := code_word (m := ⟨2, 2⟩) (meth := k2m2) (c := k2c2) (by decide +kernel) rfl rfl rfl (by decide +kernel)
set_option maxRecDepth 65536 in
theorem w_c2 : (Jvm.Cond.code ({ cls := "java/lang/Math", name := "max", desc := "(II)I" } : Jvm.MethodName) jdk_29_method_65_code (2 : Nat) (Option.some Jvm.ClassFile.FieldType.int)).before args0 about1 = true := code_word (m := ⟨2, 1⟩) (meth := k2m1) (c := k2c1) (by decide +kernel) rfl rfl rfl (by decide +kernel)
set_option maxRecDepth 65536 in
theorem w_c3 : (Jvm.Cond.code ({ cls := "com/example/realizer/realizer/spectra/Domain", name := "range", desc := "(II)Lcom/example/realizer/realizer/spectra/Domain;" } : Jvm.MethodName) prog_10_method_2_code (2 : Nat) (Option.some (Jvm.ClassFile.FieldType.object "com/example/realizer/realizer/spectra/Domain"))).before args0 about1 = true := code_word (m := ⟨4, 1⟩) (meth := k4m1) (c := k4c1) (by decide +kernel) rfl rfl rfl (by decide +kernel)
set_option maxRecDepth 65536 in
theorem w_c4 : (Jvm.Cond.code ({ cls := "java/util/List", name := "of", desc := "()Ljava/util/List;" } : Jvm.MethodName) jdk_40_method_36_code (0 : Nat) (Option.some (Jvm.ClassFile.FieldType.object "java/util/List"))).before args0 about1 = true := code_word (m := ⟨8, 1⟩) (meth := k8m1) (c := k8c1) (by decide +kernel) rfl rfl rfl (by decide +kernel)
set_option maxRecDepth 65536 in
theorem w_c5 : (Jvm.Cond.code ({ cls := "com/example/realizer/realizer/spectra/Domain", name := "<init>", desc := "(IILjava/util/List;)V" } : Jvm.MethodName) prog_10_method_1_code (4 : Nat) (Option.none : Option Jvm.ClassFile.FieldType)).before args0 about1 = true := code_word (m := ⟨4, 0⟩) (meth := k4m0) (c := k4c0) (by decide +kernel) rfl rfl rfl (by decide +kernel)
set_option maxRecDepth 65536 in
theorem w_c6 : (Jvm.Cond.code ({ cls := "java/lang/Record", name := "<init>", desc := "()V" } : Jvm.MethodName) jdk_30_method_1_code (1 : Nat) (Option.none : Option Jvm.ClassFile.FieldType)).before args0 about1 = true := code_word (m := ⟨3, 0⟩) (meth := k3m0) (c := k3c0) (by decide +kernel) rfl rfl rfl (by decide +kernel)
set_option maxRecDepth 65536 in
theorem w_c7 : (Jvm.Cond.code ({ cls := "java/lang/Object", name := "<init>", desc := "()V" } : Jvm.MethodName) object_method_1_code (1 : Nat) (Option.none : Option Jvm.ClassFile.FieldType)).before args0 about1 = true := code_word (m := ⟨0, 0⟩) (meth := k0m0) (c := k0c0) (by decide +kernel) rfl rfl rfl (by decide +kernel)
set_option maxRecDepth 65536 in
theorem w_c8 : (Jvm.Cond.code ({ cls := "java/util/List", name := "copyOf", desc := "(Ljava/util/Collection;)Ljava/util/List;" } : Jvm.MethodName) jdk_40_method_48_code (1 : Nat) (Option.some (Jvm.ClassFile.FieldType.object "java/util/List"))).before args0 about1 = true := code_word (m := ⟨8, 2⟩) (meth := k8m2) (c := k8c2) (by decide +kernel) rfl rfl rfl (by decide +kernel)
set_option maxRecDepth 65536 in
theorem w_c9 : (Jvm.Cond.code ({ cls := "java/util/ImmutableCollections", name := "listCopy", desc := "(Ljava/util/Collection;)Ljava/util/List;" } : Jvm.MethodName) jdk_56_method_3_code (2 : Nat) (Option.some (Jvm.ClassFile.FieldType.object "java/util/List"))).before args0 about1 = true := code_word (m := ⟨9, 1⟩) (meth := k9m1) (c := k9c1) (by decide +kernel) rfl rfl rfl (by decide +kernel)
set_option maxRecDepth 65536 in
theorem w_c10 : (Jvm.Cond.code ({ cls := "java/util/ImmutableCollections$ListN", name := "isEmpty", desc := "()Z" } : Jvm.MethodName) jdk_45_method_2_code (1 : Nat) (Option.some Jvm.ClassFile.FieldType.boolean)).before args0 about1 = true := code_word (m := ⟨16, 0⟩) (meth := k16m0) (c := k16c0) (by decide +kernel) rfl rfl rfl (by decide +kernel)
set_option maxRecDepth 65536 in
theorem w_c11 : (Jvm.Cond.code ({ cls := "com/example/realizer/realizer/spectra/Variable", name := "bits", desc := "(Lcom/example/realizer/realizer/spectra/Domain;)I" } : Jvm.MethodName) prog_74_method_4_code (1 : Nat) (Option.some Jvm.ClassFile.FieldType.int)).before args0 about1 = true := code_word (m := ⟨17, 0⟩) (meth := k17m0) (c := k17c0) (by decide +kernel) rfl rfl rfl (by decide +kernel)
set_option maxRecDepth 65536 in
theorem w_c12 : (Jvm.Cond.code ({ cls := "com/example/realizer/realizer/spectra/Domain", name := "size", desc := "()J" } : Jvm.MethodName) prog_10_method_5_code (1 : Nat) (Option.some Jvm.ClassFile.FieldType.long)).before args0 about1 = true := code_word (m := ⟨4, 2⟩) (meth := k4m2) (c := k4c2) (by decide +kernel) rfl rfl rfl (by decide +kernel)
set_option maxRecDepth 65536 in
theorem w_c13 : (Jvm.Cond.code ({ cls := "java/lang/Long", name := "numberOfLeadingZeros", desc := "(J)I" } : Jvm.MethodName) jdk_35_method_48_code (3 : Nat) (Option.some Jvm.ClassFile.FieldType.int)).before args0 about1 = true := code_word (m := ⟨22, 0⟩) (meth := k22m0) (c := k22c0) (by decide +kernel) rfl rfl rfl (by decide +kernel)
set_option maxRecDepth 65536 in
theorem w_c14 : (Jvm.Cond.code ({ cls := "java/lang/Integer", name := "numberOfLeadingZeros", desc := "(I)I" } : Jvm.MethodName) jdk_33_method_47_code (2 : Nat) (Option.some Jvm.ClassFile.FieldType.int)).before args0 about1 = true := code_word (m := ⟨23, 0⟩) (meth := k23m0) (c := k23c0) (by decide +kernel) rfl rfl rfl (by decide +kernel)
def codes1 : List Jvm.Cond := [Jvm.Cond.code x code maxLocals ret, Jvm.Cond.code ({ cls := "java/lang/Math", name := "min", desc := "(II)I" } : Jvm.MethodName) jdk_29_method_69_code (2 : Nat) (Option.some Jvm.ClassFile.FieldType.int), Jvm.Cond.code ({ cls := "java/lang/Math", name := "max", desc := "(II)I" } : Jvm.MethodName) jdk_29_method_65_code (2 : Nat) (Option.some Jvm.ClassFile.FieldType.int), Jvm.Cond.code ({ cls := "com/example/realizer/realizer/spectra/Domain", name := "range", desc := "(II)Lcom/example/realizer/realizer/spectra/Domain;" } : Jvm.MethodName) prog_10_method_2_code (2 : Nat) (Option.some (Jvm.ClassFile.FieldType.object "com/example/realizer/realizer/spectra/Domain")), Jvm.Cond.code ({ cls := "java/util/List", name := "of", desc := "()Ljava/util/List;" } : Jvm.MethodName) jdk_40_method_36_code (0 : Nat) (Option.some (Jvm.ClassFile.FieldType.object "java/util/List")), Jvm.Cond.code ({ cls := "com/example/realizer/realizer/spectra/Domain", name := "<init>", desc := "(IILjava/util/List;)V" } : Jvm.MethodName) prog_10_method_1_code (4 : Nat) (Option.none : Option Jvm.ClassFile.FieldType), Jvm.Cond.code ({ cls := "java/lang/Record", name := "<init>", desc := "()V" } : Jvm.MethodName) jdk_30_method_1_code (1 : Nat) (Option.none : Option Jvm.ClassFile.FieldType), Jvm.Cond.code ({ cls := "java/lang/Object", name := "<init>", desc := "()V" } : Jvm.MethodName) object_method_1_code (1 : Nat) (Option.none : Option Jvm.ClassFile.FieldType), Jvm.Cond.code ({ cls := "java/util/List", name := "copyOf", desc := "(Ljava/util/Collection;)Ljava/util/List;" } : Jvm.MethodName) jdk_40_method_48_code (1 : Nat) (Option.some (Jvm.ClassFile.FieldType.object "java/util/List")), Jvm.Cond.code ({ cls := "java/util/ImmutableCollections", name := "listCopy", desc := "(Ljava/util/Collection;)Ljava/util/List;" } : Jvm.MethodName) jdk_56_method_3_code (2 : Nat) (Option.some (Jvm.ClassFile.FieldType.object "java/util/List")), Jvm.Cond.code ({ cls := "java/util/ImmutableCollections$ListN", name := "isEmpty", desc := "()Z" } : Jvm.MethodName) jdk_45_method_2_code (1 : Nat) (Option.some Jvm.ClassFile.FieldType.boolean), Jvm.Cond.code ({ cls := "com/example/realizer/realizer/spectra/Variable", name := "bits", desc := "(Lcom/example/realizer/realizer/spectra/Domain;)I" } : Jvm.MethodName) prog_74_method_4_code (1 : Nat) (Option.some Jvm.ClassFile.FieldType.int), Jvm.Cond.code ({ cls := "com/example/realizer/realizer/spectra/Domain", name := "size", desc := "()J" } : Jvm.MethodName) prog_10_method_5_code (1 : Nat) (Option.some Jvm.ClassFile.FieldType.long), Jvm.Cond.code ({ cls := "java/lang/Long", name := "numberOfLeadingZeros", desc := "(J)I" } : Jvm.MethodName) jdk_35_method_48_code (3 : Nat) (Option.some Jvm.ClassFile.FieldType.int), Jvm.Cond.code ({ cls := "java/lang/Integer", name := "numberOfLeadingZeros", desc := "(I)I" } : Jvm.MethodName) jdk_33_method_47_code (2 : Nat) (Option.some Jvm.ClassFile.FieldType.int)]
set_option maxRecDepth 65536 in
theorem codes_eq : words1.filter isCode = codes1 := rfl
theorem w_codes : ∀ c ∈ words1.filter isCode, c.before args0 about1 = true := by
  rw [codes_eq]
  intro c hc
  simp only [codes1, List.mem_cons, List.not_mem_nil, or_false] at hc
  rcases hc with rfl | rfl | rfl | rfl | rfl | rfl | rfl | rfl | rfl | rfl | rfl | rfl | rfl | rfl | rfl
  · exact w_c0
  · exact w_c1
  · exact w_c2
  · exact w_c3
  · exact w_c4
  · exact w_c5
  · exact w_c6
  · exact w_c7
  · exact w_c8
  · exact w_c9
  · exact w_c10
  · exact w_c11
  · exact w_c12
  · exact w_c13
  · exact w_c14
set_option maxRecDepth 65536 in
theorem w_t1 : (words1.take 24).all (fun c => isCode c || c.before args0 about1) = true := by decide +kernel
set_option maxRecDepth 65536 in
theorem w_t2 : ((words1.drop 24).take 24).all (fun c => isCode c || c.before args0 about1) = true := by decide +kernel
set_option maxRecDepth 65536 in
theorem w_t3 : (((words1.drop 24).drop 24).take 24).all (fun c => isCode c || c.before args0 about1) = true := by decide +kernel
set_option maxRecDepth 65536 in
theorem w_t4 : (((words1.drop 24).drop 24).drop 24).all (fun c => isCode c || c.before args0 about1) = true := by decide +kernel
theorem w_tables : (allAtoms (Jvm.Cond.code x code maxLocals ret :: tables_1)).before args0 about1 = true := by
  rw [allAtoms_all]
  show words1.all (fun c => c.before args0 about1) = true
  refine all_split ?_ w_codes
  rw [← List.take_append_drop 24 words1, List.all_append, w_t1, ← List.take_append_drop 24 (words1.drop 24), List.all_append, w_t2, ← List.take_append_drop 24 ((words1.drop 24).drop 24), List.all_append, w_t3, w_t4]
  rfl
set_option maxRecDepth 65536 in
theorem w_rest : rest_1_c.before args0 about1 = true := by decide +kernel
set_option maxRecDepth 65536 in
theorem w_case : (Jvm.Cond.and given_1 narrow_1).before args0 about1 = true := by decide +kernel
theorem w_applies : (headSpec (Jvm.Cond.code x code maxLocals ret :: tables_1) room_1).applies x e0.platform about1 = true :=
  (Spec.applies_iff w_frames).mpr ⟨w_running, w_runnable, w_alone, w_named, w_hears, w_ripe, w_room, w_tables⟩
theorem atStart : AtStart classFile x code maxLocals ret World_1 tables_1 room_1 Calls_1 rest_1 Pre_1 launch0 p0 e0 about1 theMethod args0 below0 :=
  ⟨lists_1, trivial, launch0.admits_env _ _ _, launch0.least_env, fairChoices_fair.cas, fairChoices_fair.clock, w_frames, w_args, w_heap, w_applies, trivial, w_rest, w_case⟩
end start1
theorem witness_1 : WitnessClaimed_1 := ⟨start1.p0, start1.e0, start1.about1, start1.theMethod, start1.args0, start1.below0, start1.atStart⟩
end Jvm.Pilot.@@N@@
