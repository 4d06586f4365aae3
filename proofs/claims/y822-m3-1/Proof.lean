import JvmDerived
import JvmDerived.Pilot.@@N@@Statement
import JvmDerived.Pilot.@@N@@Code
set_option linter.unusedVariables false
set_option linter.unusedSimpArgs false
@@BLOCK:NumsL.lean.txt@@
namespace Jvm.Pilot.@@N@@
open Jvm Jvm.ClassFile Sem Op Lib Jvm.Free Jvm.Stand Jvm.LawKit Jvm.RoadKit Bundle Jvm.Pilot.@@N@@.Jvm.D
/-- from here the run comes to its end, and G holds there -/
def Go (p : Program) (e : Env) (below : List Frame) (G : Outcome → State → Prop) (T : State) (g : JFrame) : Prop := ∃ s₂ o, Steps p.tables e below (T.setTop g) s₂ ∧ s₂.status = .running ∧ Ended s₂ below o ∧ G o s₂
theorem Go.on {p : Program} {e : Env} {below : List Frame} {G : Outcome → State → Prop} {T T' : State} {g g' : JFrame} (h : ∀ t, Steps p.tables e below (T'.setTop g') t → Steps p.tables e below (T.setTop g) t) (k : Go p e below G T' g') : Go p e below G T g := by
  obtain ⟨s2, o, k1, k2⟩ := k
  exact ⟨s2, o, h _ k1, k2⟩
/-- a body that writes nothing: what it returns; the heap as it was -/
def Qp (r : Option Value) (h0 : Heap) (n0 : Nat) (v : Option Value) (h : Heap) (L : List Loc) : Prop := v = r ∧ Fr n0 L ∧ h = h0
def Ql (r : Option Value) (n0 : Nat) (v : Option Value) (L : List Loc) : Prop := v = r ∧ Fr n0 L
/-- a body that only makes new cells -/
def Qx (r : Option Value) (F : Heap → Prop) (h0 : Heap) (n0 : Nat) (v : Option Value) (h : Heap) (L : List Loc) : Prop := v = r ∧ Fr n0 L ∧ Ext h0 h ∧ F h
theorem own_ext0 (h : Heap) : Ext h h := ⟨Nat.le_refl _, fun _ _ q => q⟩
theorem own_ext2 {a b c : Heap} (E : Ext a b) (F : Ext b c) : Ext a c := ⟨Nat.le_trans E.1 F.1, fun x y q => F.2 x y (E.2 x y q)⟩
theorem own_extw {h0 h h' : Heap} {a : Addr} {sl : Nat} {v : Value} (E : Ext h0 h) (W : Wr h h' a sl v) (q : h0.size ≤ a) : Ext h0 h' := by
  refine ⟨by rw [W.size]; exact E.1, fun x c hx => ?_⟩
  obtain ⟨c', g1, -, -, -, g5, -⟩ := wr_at W (E.2 x c hx)
  have hne : x ≠ a := Nat.ne_of_lt (Nat.lt_of_lt_of_le (Array.getElem?_eq_some_iff.mp hx).1 q)
  rw [g1, g5 hne]
theorem own_extE {h a b : Heap} (e : a = b) (X : Ext h b) : Ext h a := e ▸ X
theorem own_arrE {Z : State} {a b : Heap} {x : Addr} {c : Cell} {ty : FieldType} (e : a = b) (A : Arr Z b x c ty) : Arr Z a x c ty := e ▸ A
theorem own_ne {Z : State} {h : Heap} {a b : Addr} {C n d : String} {v v' : Value} (F : Fld Z h a C n d v) (G : Fld Z h b C n d v') (hv : v ≠ v') : ¬ (a = b) := by
  rintro rfl
  obtain ⟨cell, cf, k, i, f, h1, h2, -, -, -, -, h7⟩ := F
  obtain ⟨cell', cf', k', i', f', g1, g2, -, -, -, -, g7⟩ := G
  cases h1.symm.trans g1
  cases h2.symm.trans g2
  exact hv (Option.some.inj (h7.symm.trans g7))
theorem own_irrI (x : Int32) : ¬ (x < x) := by simp
theorem own_irrJ (x : Int64) : ¬ (x < x) := by simp
theorem own_eqI {args : Array Value} {s : State} {t : Term} {n : Int32} (h : (Jvm.Cond.eq t (.int n)).value args s none s [] = some true) : t.eval args s none [] s = some (.int n) := by
  exact eqv_i (Term.int_eval n) h
theorem own_len {args : Array Value} {s : State} {t : Term} {n : Int32} {a : Addr} {cl : Cell} {ty : FieldType} {k : Nat} (h : (Term.length t).eval args s none [] s = some (.int n)) (ht : t.eval args s none [] s = some (.ref a)) (A : Arr s s.heap a cl ty) (hk : n.toInt = k) : cl.slots.size = k := by
  have ha := A.fin (U := s) (Vm.Alike.refl _)
  by_cases hl : cl.slots.size < 2 ^ 31
  · have e := (len_f ht ha hl).symm.trans h
    have e2 : cl.slots.size.toInt32 = n := by simpa using e
    have e3 := len_toInt hl
    rw [e2, hk] at e3
    omega
  · simp [Term.eval, ht, ha, hl] at h
theorem own_slots {cl : Cell} {vs : List Value} (h1 : cl.slots.size = vs.length) (h2 : ∀ (i : Nat) (v : Value), vs[i]? = some v → cl.slots[i]? = some v) : cl.slots = vs.toArray := by
  apply Array.ext
  · simp [h1]
  · intro i hi hj
    have hj' : i < vs.length := by simpa using hj
    have q := h2 i vs[i] (by simp [hj'])
    rw [Array.getElem?_eq_getElem hi] at q
    simpa using q
theorem own_eqR {args : Array Value} {s : State} {t u : Term} {a : Addr} (h : (Jvm.Cond.eq t u).value args s none s [] = some true) (hu : u.eval args s none [] s = some (.ref a)) : t.eval args s none [] s = some (.ref a) := by
  obtain ⟨x, y, h1, h2, k1, k2⟩ := cmp_v (Or.inl h)
  cases h2.symm.trans hu
  have q := gotT (eq_R h1 h2 k2.2 rfl) h
  rw [h1, q]
def Pins (Z : State) (h : Heap) (w : Nat → Addr) : Prop :=
  Sta Z h "com/example/anamnesis/anamnesis/rules/Type" "BOOLEAN" "Lcom/example/anamnesis/anamnesis/rules/Type;" (.ref (w 0)) ∧
  Sta Z h "com/example/anamnesis/anamnesis/rules/Type" "INTEGER" "Lcom/example/anamnesis/anamnesis/rules/Type;" (.ref (w 1)) ∧
  Sta Z h "com/example/anamnesis/anamnesis/rules/Type" "REAL" "Lcom/example/anamnesis/anamnesis/rules/Type;" (.ref (w 2)) ∧
  Sta Z h "com/example/anamnesis/anamnesis/rules/Type" "DATE" "Lcom/example/anamnesis/anamnesis/rules/Type;" (.ref (w 3)) ∧
  Sta Z h "com/example/anamnesis/anamnesis/rules/Type" "RECORD_VALUE" "Lcom/example/anamnesis/anamnesis/rules/Type;" (.ref (w 4)) ∧
  Sta Z h "com/example/anamnesis/anamnesis/rules/Type" "RECORD_NUMBER" "Lcom/example/anamnesis/anamnesis/rules/Type;" (.ref (w 5)) ∧
  Sta Z h "com/example/anamnesis/anamnesis/rules/Type" "STRING" "Lcom/example/anamnesis/anamnesis/rules/Type;" (.ref (w 6)) ∧
  Sta Z h "com/example/anamnesis/anamnesis/rules/Type" "DATE_TIME" "Lcom/example/anamnesis/anamnesis/rules/Type;" (.ref (w 7)) ∧
  Sta Z h "com/example/anamnesis/anamnesis/rules/Type" "TERMINOLOGY_CODE" "Lcom/example/anamnesis/anamnesis/rules/Type;" (.ref (w 8)) ∧
  Sta Z h "com/example/anamnesis/anamnesis/rules/Type" "OBJECT_REF" "Lcom/example/anamnesis/anamnesis/rules/Type;" (.ref (w 9)) ∧
  Sta Z h "com/example/anamnesis/anamnesis/rules/Type" "DURATION" "Lcom/example/anamnesis/anamnesis/rules/Type;" (.ref (w 10)) ∧
  Sta Z h "com/example/anamnesis/anamnesis/rules/Type" "TIME" "Lcom/example/anamnesis/anamnesis/rules/Type;" (.ref (w 11)) ∧
  Exa Z h (w 0) "com/example/anamnesis/anamnesis/rules/Type" ∧
  Exa Z h (w 1) "com/example/anamnesis/anamnesis/rules/Type" ∧
  Exa Z h (w 2) "com/example/anamnesis/anamnesis/rules/Type" ∧
  Exa Z h (w 3) "com/example/anamnesis/anamnesis/rules/Type" ∧
  Exa Z h (w 4) "com/example/anamnesis/anamnesis/rules/Type" ∧
  Exa Z h (w 5) "com/example/anamnesis/anamnesis/rules/Type" ∧
  Exa Z h (w 6) "com/example/anamnesis/anamnesis/rules/Type" ∧
  Exa Z h (w 7) "com/example/anamnesis/anamnesis/rules/Type" ∧
  Exa Z h (w 8) "com/example/anamnesis/anamnesis/rules/Type" ∧
  Exa Z h (w 9) "com/example/anamnesis/anamnesis/rules/Type" ∧
  Exa Z h (w 10) "com/example/anamnesis/anamnesis/rules/Type" ∧
  Exa Z h (w 11) "com/example/anamnesis/anamnesis/rules/Type" ∧
  Fld Z h (w 0) "java/lang/Enum" "ordinal" "I" (.int (0 : Int32)) ∧
  Fld Z h (w 1) "java/lang/Enum" "ordinal" "I" (.int (1 : Int32)) ∧
  Fld Z h (w 2) "java/lang/Enum" "ordinal" "I" (.int (2 : Int32)) ∧
  Fld Z h (w 3) "java/lang/Enum" "ordinal" "I" (.int (3 : Int32)) ∧
  Fld Z h (w 4) "java/lang/Enum" "ordinal" "I" (.int (10 : Int32)) ∧
  Fld Z h (w 5) "java/lang/Enum" "ordinal" "I" (.int (11 : Int32)) ∧
  Fld Z h (w 6) "java/lang/Enum" "ordinal" "I" (.int (7 : Int32)) ∧
  Fld Z h (w 7) "java/lang/Enum" "ordinal" "I" (.int (4 : Int32)) ∧
  Fld Z h (w 8) "java/lang/Enum" "ordinal" "I" (.int (8 : Int32)) ∧
  Fld Z h (w 9) "java/lang/Enum" "ordinal" "I" (.int (9 : Int32)) ∧
  Fld Z h (w 10) "java/lang/Enum" "ordinal" "I" (.int (6 : Int32)) ∧
  Fld Z h (w 11) "java/lang/Enum" "ordinal" "I" (.int (5 : Int32)) ∧
  True
theorem pin_0 {Z : State} {h : Heap} {w : Nat → Addr} (P : Pins Z h w) : Sta Z h "com/example/anamnesis/anamnesis/rules/Type" "BOOLEAN" "Lcom/example/anamnesis/anamnesis/rules/Type;" (.ref (w 0)) := P.1
theorem pin_1 {Z : State} {h : Heap} {w : Nat → Addr} (P : Pins Z h w) : Sta Z h "com/example/anamnesis/anamnesis/rules/Type" "INTEGER" "Lcom/example/anamnesis/anamnesis/rules/Type;" (.ref (w 1)) := P.2.1
theorem pin_2 {Z : State} {h : Heap} {w : Nat → Addr} (P : Pins Z h w) : Sta Z h "com/example/anamnesis/anamnesis/rules/Type" "REAL" "Lcom/example/anamnesis/anamnesis/rules/Type;" (.ref (w 2)) := P.2.2.1
theorem pin_3 {Z : State} {h : Heap} {w : Nat → Addr} (P : Pins Z h w) : Sta Z h "com/example/anamnesis/anamnesis/rules/Type" "DATE" "Lcom/example/anamnesis/anamnesis/rules/Type;" (.ref (w 3)) := P.2.2.2.1
theorem pin_4 {Z : State} {h : Heap} {w : Nat → Addr} (P : Pins Z h w) : Sta Z h "com/example/anamnesis/anamnesis/rules/Type" "RECORD_VALUE" "Lcom/example/anamnesis/anamnesis/rules/Type;" (.ref (w 4)) := P.2.2.2.2.1
theorem pin_5 {Z : State} {h : Heap} {w : Nat → Addr} (P : Pins Z h w) : Sta Z h "com/example/anamnesis/anamnesis/rules/Type" "RECORD_NUMBER" "Lcom/example/anamnesis/anamnesis/rules/Type;" (.ref (w 5)) := P.2.2.2.2.2.1
theorem pin_6 {Z : State} {h : Heap} {w : Nat → Addr} (P : Pins Z h w) : Sta Z h "com/example/anamnesis/anamnesis/rules/Type" "STRING" "Lcom/example/anamnesis/anamnesis/rules/Type;" (.ref (w 6)) := P.2.2.2.2.2.2.1
theorem pin_7 {Z : State} {h : Heap} {w : Nat → Addr} (P : Pins Z h w) : Sta Z h "com/example/anamnesis/anamnesis/rules/Type" "DATE_TIME" "Lcom/example/anamnesis/anamnesis/rules/Type;" (.ref (w 7)) := P.2.2.2.2.2.2.2.1
theorem pin_8 {Z : State} {h : Heap} {w : Nat → Addr} (P : Pins Z h w) : Sta Z h "com/example/anamnesis/anamnesis/rules/Type" "TERMINOLOGY_CODE" "Lcom/example/anamnesis/anamnesis/rules/Type;" (.ref (w 8)) := P.2.2.2.2.2.2.2.2.1
theorem pin_9 {Z : State} {h : Heap} {w : Nat → Addr} (P : Pins Z h w) : Sta Z h "com/example/anamnesis/anamnesis/rules/Type" "OBJECT_REF" "Lcom/example/anamnesis/anamnesis/rules/Type;" (.ref (w 9)) := P.2.2.2.2.2.2.2.2.2.1
theorem pin_10 {Z : State} {h : Heap} {w : Nat → Addr} (P : Pins Z h w) : Sta Z h "com/example/anamnesis/anamnesis/rules/Type" "DURATION" "Lcom/example/anamnesis/anamnesis/rules/Type;" (.ref (w 10)) := P.2.2.2.2.2.2.2.2.2.2.1
theorem pin_11 {Z : State} {h : Heap} {w : Nat → Addr} (P : Pins Z h w) : Sta Z h "com/example/anamnesis/anamnesis/rules/Type" "TIME" "Lcom/example/anamnesis/anamnesis/rules/Type;" (.ref (w 11)) := P.2.2.2.2.2.2.2.2.2.2.2.1
theorem pin_12 {Z : State} {h : Heap} {w : Nat → Addr} (P : Pins Z h w) : Exa Z h (w 0) "com/example/anamnesis/anamnesis/rules/Type" := P.2.2.2.2.2.2.2.2.2.2.2.2.1
theorem pin_13 {Z : State} {h : Heap} {w : Nat → Addr} (P : Pins Z h w) : Exa Z h (w 1) "com/example/anamnesis/anamnesis/rules/Type" := P.2.2.2.2.2.2.2.2.2.2.2.2.2.1
theorem pin_14 {Z : State} {h : Heap} {w : Nat → Addr} (P : Pins Z h w) : Exa Z h (w 2) "com/example/anamnesis/anamnesis/rules/Type" := P.2.2.2.2.2.2.2.2.2.2.2.2.2.2.1
theorem pin_15 {Z : State} {h : Heap} {w : Nat → Addr} (P : Pins Z h w) : Exa Z h (w 3) "com/example/anamnesis/anamnesis/rules/Type" := P.2.2.2.2.2.2.2.2.2.2.2.2.2.2.2.1
theorem pin_16 {Z : State} {h : Heap} {w : Nat → Addr} (P : Pins Z h w) : Exa Z h (w 4) "com/example/anamnesis/anamnesis/rules/Type" := P.2.2.2.2.2.2.2.2.2.2.2.2.2.2.2.2.1
theorem pin_17 {Z : State} {h : Heap} {w : Nat → Addr} (P : Pins Z h w) : Exa Z h (w 5) "com/example/anamnesis/anamnesis/rules/Type" := P.2.2.2.2.2.2.2.2.2.2.2.2.2.2.2.2.2.1
theorem pin_18 {Z : State} {h : Heap} {w : Nat → Addr} (P : Pins Z h w) : Exa Z h (w 6) "com/example/anamnesis/anamnesis/rules/Type" := P.2.2.2.2.2.2.2.2.2.2.2.2.2.2.2.2.2.2.1
theorem pin_19 {Z : State} {h : Heap} {w : Nat → Addr} (P : Pins Z h w) : Exa Z h (w 7) "com/example/anamnesis/anamnesis/rules/Type" := P.2.2.2.2.2.2.2.2.2.2.2.2.2.2.2.2.2.2.2.1
theorem pin_20 {Z : State} {h : Heap} {w : Nat → Addr} (P : Pins Z h w) : Exa Z h (w 8) "com/example/anamnesis/anamnesis/rules/Type" := P.2.2.2.2.2.2.2.2.2.2.2.2.2.2.2.2.2.2.2.2.1
theorem pin_21 {Z : State} {h : Heap} {w : Nat → Addr} (P : Pins Z h w) : Exa Z h (w 9) "com/example/anamnesis/anamnesis/rules/Type" := P.2.2.2.2.2.2.2.2.2.2.2.2.2.2.2.2.2.2.2.2.2.1
theorem pin_22 {Z : State} {h : Heap} {w : Nat → Addr} (P : Pins Z h w) : Exa Z h (w 10) "com/example/anamnesis/anamnesis/rules/Type" := P.2.2.2.2.2.2.2.2.2.2.2.2.2.2.2.2.2.2.2.2.2.2.1
theorem pin_23 {Z : State} {h : Heap} {w : Nat → Addr} (P : Pins Z h w) : Exa Z h (w 11) "com/example/anamnesis/anamnesis/rules/Type" := P.2.2.2.2.2.2.2.2.2.2.2.2.2.2.2.2.2.2.2.2.2.2.2.1
theorem pin_24 {Z : State} {h : Heap} {w : Nat → Addr} (P : Pins Z h w) : Fld Z h (w 0) "java/lang/Enum" "ordinal" "I" (.int (0 : Int32)) := P.2.2.2.2.2.2.2.2.2.2.2.2.2.2.2.2.2.2.2.2.2.2.2.2.1
theorem pin_25 {Z : State} {h : Heap} {w : Nat → Addr} (P : Pins Z h w) : Fld Z h (w 1) "java/lang/Enum" "ordinal" "I" (.int (1 : Int32)) := P.2.2.2.2.2.2.2.2.2.2.2.2.2.2.2.2.2.2.2.2.2.2.2.2.2.1
theorem pin_26 {Z : State} {h : Heap} {w : Nat → Addr} (P : Pins Z h w) : Fld Z h (w 2) "java/lang/Enum" "ordinal" "I" (.int (2 : Int32)) := P.2.2.2.2.2.2.2.2.2.2.2.2.2.2.2.2.2.2.2.2.2.2.2.2.2.2.1
theorem pin_27 {Z : State} {h : Heap} {w : Nat → Addr} (P : Pins Z h w) : Fld Z h (w 3) "java/lang/Enum" "ordinal" "I" (.int (3 : Int32)) := P.2.2.2.2.2.2.2.2.2.2.2.2.2.2.2.2.2.2.2.2.2.2.2.2.2.2.2.1
theorem pin_28 {Z : State} {h : Heap} {w : Nat → Addr} (P : Pins Z h w) : Fld Z h (w 4) "java/lang/Enum" "ordinal" "I" (.int (10 : Int32)) := P.2.2.2.2.2.2.2.2.2.2.2.2.2.2.2.2.2.2.2.2.2.2.2.2.2.2.2.2.1
theorem pin_29 {Z : State} {h : Heap} {w : Nat → Addr} (P : Pins Z h w) : Fld Z h (w 5) "java/lang/Enum" "ordinal" "I" (.int (11 : Int32)) := P.2.2.2.2.2.2.2.2.2.2.2.2.2.2.2.2.2.2.2.2.2.2.2.2.2.2.2.2.2.1
theorem pin_30 {Z : State} {h : Heap} {w : Nat → Addr} (P : Pins Z h w) : Fld Z h (w 6) "java/lang/Enum" "ordinal" "I" (.int (7 : Int32)) := P.2.2.2.2.2.2.2.2.2.2.2.2.2.2.2.2.2.2.2.2.2.2.2.2.2.2.2.2.2.2.1
theorem pin_31 {Z : State} {h : Heap} {w : Nat → Addr} (P : Pins Z h w) : Fld Z h (w 7) "java/lang/Enum" "ordinal" "I" (.int (4 : Int32)) := P.2.2.2.2.2.2.2.2.2.2.2.2.2.2.2.2.2.2.2.2.2.2.2.2.2.2.2.2.2.2.2.1
theorem pin_32 {Z : State} {h : Heap} {w : Nat → Addr} (P : Pins Z h w) : Fld Z h (w 8) "java/lang/Enum" "ordinal" "I" (.int (8 : Int32)) := P.2.2.2.2.2.2.2.2.2.2.2.2.2.2.2.2.2.2.2.2.2.2.2.2.2.2.2.2.2.2.2.2.1
theorem pin_33 {Z : State} {h : Heap} {w : Nat → Addr} (P : Pins Z h w) : Fld Z h (w 9) "java/lang/Enum" "ordinal" "I" (.int (9 : Int32)) := P.2.2.2.2.2.2.2.2.2.2.2.2.2.2.2.2.2.2.2.2.2.2.2.2.2.2.2.2.2.2.2.2.2.1
theorem pin_34 {Z : State} {h : Heap} {w : Nat → Addr} (P : Pins Z h w) : Fld Z h (w 10) "java/lang/Enum" "ordinal" "I" (.int (6 : Int32)) := P.2.2.2.2.2.2.2.2.2.2.2.2.2.2.2.2.2.2.2.2.2.2.2.2.2.2.2.2.2.2.2.2.2.2.1
theorem pin_35 {Z : State} {h : Heap} {w : Nat → Addr} (P : Pins Z h w) : Fld Z h (w 11) "java/lang/Enum" "ordinal" "I" (.int (5 : Int32)) := P.2.2.2.2.2.2.2.2.2.2.2.2.2.2.2.2.2.2.2.2.2.2.2.2.2.2.2.2.2.2.2.2.2.2.2.1
theorem pins_ext {Z : State} {h h' : Heap} {w : Nat → Addr} (E : Ext h h') (P : Pins Z h w) : Pins Z h' w :=
  ⟨(pin_0 P).ext E, (pin_1 P).ext E, (pin_2 P).ext E, (pin_3 P).ext E, (pin_4 P).ext E, (pin_5 P).ext E, (pin_6 P).ext E, (pin_7 P).ext E, (pin_8 P).ext E, (pin_9 P).ext E, (pin_10 P).ext E, (pin_11 P).ext E, (pin_12 P).ext E, (pin_13 P).ext E, (pin_14 P).ext E, (pin_15 P).ext E, (pin_16 P).ext E, (pin_17 P).ext E, (pin_18 P).ext E, (pin_19 P).ext E, (pin_20 P).ext E, (pin_21 P).ext E, (pin_22 P).ext E, (pin_23 P).ext E, (pin_24 P).ext E, (pin_25 P).ext E, (pin_26 P).ext E, (pin_27 P).ext E, (pin_28 P).ext E, (pin_29 P).ext E, (pin_30 P).ext E, (pin_31 P).ext E, (pin_32 P).ext E, (pin_33 P).ext E, (pin_34 P).ext E, (pin_35 P).ext E, trivial⟩
theorem own_mod12 (x : Int32) : ((x &&& (2147483647 : Int32)) % (12 : Int32)) = (0 : Int32) ∨ ((x &&& (2147483647 : Int32)) % (12 : Int32)) = (1 : Int32) ∨ ((x &&& (2147483647 : Int32)) % (12 : Int32)) = (2 : Int32) ∨ ((x &&& (2147483647 : Int32)) % (12 : Int32)) = (3 : Int32) ∨ ((x &&& (2147483647 : Int32)) % (12 : Int32)) = (4 : Int32) ∨ ((x &&& (2147483647 : Int32)) % (12 : Int32)) = (5 : Int32) ∨ ((x &&& (2147483647 : Int32)) % (12 : Int32)) = (6 : Int32) ∨ ((x &&& (2147483647 : Int32)) % (12 : Int32)) = (7 : Int32) ∨ ((x &&& (2147483647 : Int32)) % (12 : Int32)) = (8 : Int32) ∨ ((x &&& (2147483647 : Int32)) % (12 : Int32)) = (9 : Int32) ∨ ((x &&& (2147483647 : Int32)) % (12 : Int32)) = (10 : Int32) ∨ ((x &&& (2147483647 : Int32)) % (12 : Int32)) = (11 : Int32) := by
  have e := Jvm.Kit.i32_mask x 2147483647 (k := 31) (by decide) (by decide)
  have e2 : ((x &&& 2147483647) % (12 : Int32)).toInt = (x &&& 2147483647).toInt % (12 : Int32).toInt := Jvm.Kit.i32_rem_nonneg (by rw [e]; omega)
  have e3 : (12 : Int32).toInt = 12 := by decide
  rw [e3] at e2
  generalize ((x &&& 2147483647) % (12 : Int32)) = y at *
  simp only [← Int32.toInt_inj]
  show y.toInt = 0 ∨ y.toInt = 1 ∨ y.toInt = 2 ∨ y.toInt = 3 ∨ y.toInt = 4 ∨ y.toInt = 5 ∨ y.toInt = 6 ∨ y.toInt = 7 ∨ y.toInt = 8 ∨ y.toInt = 9 ∨ y.toInt = 10 ∨ y.toInt = 11
  omega
theorem d1_0 : decode method_2_code 0 = .ok (.iload_n 0, 1) := by decide +kernel
theorem d1_1 : decode method_2_code 1 = .ok (.ifCond .ne 7, 3) := by decide +kernel
theorem d1_4 : decode method_2_code 4 = .ok (.getstatic 7, 3) := by decide +kernel
theorem d1_7 : decode method_2_code 7 = .ok (.areturn, 1) := by decide +kernel
theorem pn_0 : plainName "com/example/anamnesis/anamnesis/rules/TypeIsNumberPinLaw" = true := by first | (simp [plainName, overriddenIn]; done) | decide +kernel
set_option maxRecDepth 65536 in
set_option maxHeartbeats 40000000 in
theorem rm1_0 (l : Launch) (Z : State) (a0 : Array Value) (hw : ∀ d ∈ tables_1, d.before a0 Z = true) (ws : List Jvm.Cond) (w : Nat → Addr) (h0 : Heap) (n0 : Nat) (Z0 : n0 ≤ h0.size) (hP : Pins Z h0 w) :
    MetFree l (⟨"com/example/anamnesis/anamnesis/rules/TypeIsNumberPinLaw", "pick", "(I)Lcom/example/anamnesis/anamnesis/rules/Type;"⟩ : MethodName) (head1 (Jvm.Cond.code (⟨"com/example/anamnesis/anamnesis/rules/TypeIsNumberPinLaw", "pick", "(I)Lcom/example/anamnesis/anamnesis/rules/Type;"⟩ : MethodName) method_2_code 1 (some (.object "com/example/anamnesis/anamnesis/rules/Type")) :: ws) ({ frames := 0, cells := 0, slots := 0, locals := 0 } : Room)) (fun a U => a = #[(.int (0 : Int32))] ∧ Z.Warmed39 U.vm ∧ U.heap = h0) (fun _ _ _ _ _ => True) (fun _ U o U' => ∃ v L, o = .returned v ∧ Qp (some (.ref (w 0))) h0 n0 v U'.heap L ∧ FrameEnd U o U' L ({ frames := 0, cells := 0, slots := 0, locals := 0 } : Room).cells ({ frames := 0, cells := 0, slots := 0, locals := 0 } : Room).slots) := by
  refine MetFree.of_bodySF (plainFor_of_name pn_0) hisR ?_
  intro p e s m args below meth c s₁ Bd hml0 hP0 hK
  obtain ⟨rfl, hZ, hh⟩ := hP0
  have hx := Bd.exec
  have hby := Bd.bytes
  have hml : c.maxLocals = 1 := hml0
  have hown : s.vm.findClass "com/example/anamnesis/anamnesis/rules/TypeIsNumberPinLaw" = some m.cls := findClass_of_methodNamed Bd.named
  have hnm := (name_of_methodNamed Bd.named Bd.method).1
  have X0 : Stand p l e ({ frames := 0, cells := 0, slots := 0, locals := 0 } : Room) s m #[(.int (0 : Int32))] below meth c s₁ [] 0 0 := Stand.of_body Bd
  have e0 : s₁.heap = h0 := by rw [← hh, Bd.state]; rfl
  have N0 := Fr.nil n0
  suffices hgo : Go p e below (fun o U' => ∃ v L, o = .returned v ∧ Qp (some (.ref (w 0))) h0 n0 v U'.heap L ∧ FrameEnd s o U' L ({ frames := 0, cells := 0, slots := 0, locals := 0 } : Room).cells ({ frames := 0, cells := 0, slots := 0, locals := 0 } : Room).slots) s₁ (mkF m 0 #[.val (.int (0 : Int32))] []) by
    obtain ⟨s2, o, g1, g2, g3, g4⟩ := hgo
    refine ⟨s2, o, castTop (?_ : entryFrame m #[(.int (0 : Int32))] 1 = _) g1, g2, g3, g4⟩
    first | (simp [entryFrame, mkF, argsToLocals, Value.category]; done) | rfl
  refine Go.on (T' := s₁) (g' := (mkF m 1 #[.val (.int (0 : Int32))] [(.int (0 : Int32))])) (fun t k => XS.iloadN X0.here hx rfl (hb hby d1_0) rfl k) ?_
  refine Go.on (T' := s₁) (g' := (mkF m 4 #[.val (.int (0 : Int32))] [])) (fun t k => XS.ifNo X0.here hx rfl (hb hby d1_1) rfl ((if0 _ _).trans (teq (by decide : (0 : Int32) = (0 : Int32))).2) k) ?_
  obtain ⟨T3, X3, e3, st3⟩ := getS2 X0 hx hZ hown (host := "") (Or.inl (hw _ (List.mem_of_getElem? (i := 5) rfl))) Via.refl e0 (pin_0 hP) (g := (mkF m 4 #[.val (.int (0 : Int32))] [])) rfl (hb hby d1_4)
  refine Go.on (T' := T3) (g' := (mkF m 7 #[.val (.int (0 : Int32))] [(.ref (w 0))])) st3 ?_
  obtain ⟨fs, hr, hrun, hended, hW, hsame⟩ := X3.leave (v := some (.ref (w 0))) (fun h => by rw [Bd.returns] at h; cases h)
  exact ⟨_, _, retOut X3 hx Bd.returns rfl (Or.inr (Or.inr (Or.inr (Or.inr ⟨rfl, rfl, rfl⟩)))) (hb hby d1_7) hr, hrun, hended, _, _, rfl, ⟨rfl, N0, e3⟩, ⟨_, rfl⟩, hW, hsame.mono (by decide) (by decide)⟩
theorem pd_0 : parseMethodDescriptor "(I)Lcom/example/anamnesis/anamnesis/rules/Type;" = some ⟨[.int], some (.object "com/example/anamnesis/anamnesis/rules/Type")⟩ := by decide +kernel
theorem d2_0 : decode prog_87_method_7_code 0 = .ok (.aload_n 0, 1) := by decide +kernel
theorem d2_1 : decode prog_87_method_7_code 1 = .ok (.getstatic 7, 3) := by decide +kernel
theorem d2_4 : decode prog_87_method_7_code 4 = .ok (.if_acmp .eq 10, 3) := by decide +kernel
theorem d2_7 : decode prog_87_method_7_code 7 = .ok (.aload_n 0, 1) := by decide +kernel
theorem d2_8 : decode prog_87_method_7_code 8 = .ok (.getstatic 10, 3) := by decide +kernel
theorem d2_11 : decode prog_87_method_7_code 11 = .ok (.if_acmp .ne 7, 3) := by decide +kernel
theorem d2_18 : decode prog_87_method_7_code 18 = .ok (.iconst 0, 1) := by decide +kernel
theorem d2_19 : decode prog_87_method_7_code 19 = .ok (.ireturn, 1) := by decide +kernel
theorem pn_1 : plainName "com/example/anamnesis/anamnesis/rules/Type" = true := by first | (simp [plainName, overriddenIn]; done) | decide +kernel
set_option maxRecDepth 65536 in
set_option maxHeartbeats 40000000 in
theorem rm2_0 (l : Launch) (Z : State) (a0 : Array Value) (hw : ∀ d ∈ tables_1, d.before a0 Z = true) (ws : List Jvm.Cond) (w : Nat → Addr) (h0 : Heap) (n0 : Nat) (Z0 : n0 ≤ h0.size) (hP : Pins Z h0 w) :
    MetFree l (⟨"com/example/anamnesis/anamnesis/rules/Type", "isNumber", "()Z"⟩ : MethodName) (head1 (Jvm.Cond.code (⟨"com/example/anamnesis/anamnesis/rules/Type", "isNumber", "()Z"⟩ : MethodName) prog_87_method_7_code 1 (some .boolean) :: ws) ({ frames := 0, cells := 0, slots := 0, locals := 0 } : Room)) (fun a U => a = #[(.ref (w 0))] ∧ Z.Warmed39 U.vm ∧ U.heap = h0) (fun _ _ _ _ _ => True) (fun _ U o U' => ∃ v L, o = .returned v ∧ Qp (some (.int (0 : Int32))) h0 n0 v U'.heap L ∧ FrameEnd U o U' L ({ frames := 0, cells := 0, slots := 0, locals := 0 } : Room).cells ({ frames := 0, cells := 0, slots := 0, locals := 0 } : Room).slots) := by
  refine MetFree.of_bodySF (plainFor_of_name pn_1) hisR ?_
  intro p e s m args below meth c s₁ Bd hml0 hP0 hK
  obtain ⟨rfl, hZ, hh⟩ := hP0
  have hx := Bd.exec
  have hby := Bd.bytes
  have hml : c.maxLocals = 1 := hml0
  have hown : s.vm.findClass "com/example/anamnesis/anamnesis/rules/Type" = some m.cls := findClass_of_methodNamed Bd.named
  have hnm := (name_of_methodNamed Bd.named Bd.method).1
  have X0 : Stand p l e ({ frames := 0, cells := 0, slots := 0, locals := 0 } : Room) s m #[(.ref (w 0))] below meth c s₁ [] 0 0 := Stand.of_body Bd
  have e0 : s₁.heap = h0 := by rw [← hh, Bd.state]; rfl
  have N0 := Fr.nil n0
  suffices hgo : Go p e below (fun o U' => ∃ v L, o = .returned v ∧ Qp (some (.int (0 : Int32))) h0 n0 v U'.heap L ∧ FrameEnd s o U' L ({ frames := 0, cells := 0, slots := 0, locals := 0 } : Room).cells ({ frames := 0, cells := 0, slots := 0, locals := 0 } : Room).slots) s₁ (mkF m 0 #[.val (.ref (w 0))] []) by
    obtain ⟨s2, o, g1, g2, g3, g4⟩ := hgo
    refine ⟨s2, o, castTop (?_ : entryFrame m #[(.ref (w 0))] 1 = _) g1, g2, g3, g4⟩
    first | (simp [entryFrame, mkF, argsToLocals, Value.category]; done) | rfl
  refine Go.on (T' := s₁) (g' := (mkF m 1 #[.val (.ref (w 0))] [(.ref (w 0))])) (fun t k => XS.aloadN X0.here hx rfl (hb hby d2_0) rfl rfl k) ?_
  obtain ⟨T7, X7, e7, st7⟩ := getS2 X0 hx hZ hown (host := "") (Or.inl (hw _ (List.mem_of_getElem? (i := 13) rfl))) Via.refl e0 (pin_1 hP) (g := (mkF m 1 #[.val (.ref (w 0))] [(.ref (w 0))])) rfl (hb hby d2_1)
  refine Go.on (T' := T7) (g' := (mkF m 4 #[.val (.ref (w 0))] [(.ref (w 1)), (.ref (w 0))])) st7 ?_
  refine Go.on (T' := T7) (g' := (mkF m 7 #[.val (.ref (w 0))] [])) (fun t k => Jvm.RoadKit.acmp (g := (mkF m 4 #[.val (.ref (w 0))] [(.ref (w 1)), (.ref (w 0))])) X7 hx rfl rfl rfl (pc0 := 4) (pc' := 7) (same := false) rfl (hb hby d2_4) rfl (decide_eq_false fun q => (own_ne (pin_24 hP) (pin_25 hP) (by decide)) (Value.ref.inj q)) (by decide) (by decide) k) ?_
  refine Go.on (T' := T7) (g' := (mkF m 8 #[.val (.ref (w 0))] [(.ref (w 0))])) (fun t k => XS.aloadN X7.here hx rfl (hb hby d2_7) rfl rfl k) ?_
  obtain ⟨T8, X8, e8, st8⟩ := getS2 X7 hx hZ hown (host := "") (Or.inl (hw _ (List.mem_of_getElem? (i := 15) rfl))) Via.refl e7 (pin_2 hP) (g := (mkF m 8 #[.val (.ref (w 0))] [(.ref (w 0))])) rfl (hb hby d2_8)
  refine Go.on (T' := T8) (g' := (mkF m 11 #[.val (.ref (w 0))] [(.ref (w 2)), (.ref (w 0))])) st8 ?_
  refine Go.on (T' := T8) (g' := (mkF m 18 #[.val (.ref (w 0))] [])) (fun t k => Jvm.RoadKit.acmp (g := (mkF m 11 #[.val (.ref (w 0))] [(.ref (w 2)), (.ref (w 0))])) X8 hx rfl rfl rfl (pc0 := 11) (pc' := 18) (same := false) rfl (hb hby d2_11) rfl (decide_eq_false fun q => (own_ne (pin_24 hP) (pin_26 hP) (by decide)) (Value.ref.inj q)) (by decide) (by decide) k) ?_
  refine Go.on (T' := T8) (g' := (mkF m 19 #[.val (.ref (w 0))] [(.int (0 : Int32))])) (fun t k => XS.iconst X8.here hx rfl (hb hby d2_18) k) ?_
  obtain ⟨fs, hr, hrun, hended, hW, hsame⟩ := X8.leave (v := some (.int (0 : Int32))) (fun h => by rw [Bd.returns] at h; cases h)
  exact ⟨_, _, retN X8 hx (t := .boolean) Bd.returns (by simp) (hb hby d2_19) hr, hrun, hended, _, _, rfl, ⟨rfl, N0, e8⟩, ⟨_, rfl⟩, hW, hsame.mono (by decide) (by decide)⟩
theorem pd_1 : parseMethodDescriptor "()Z" = some ⟨[], some .boolean⟩ := by decide +kernel
theorem d1_8 : decode method_2_code 8 = .ok (.iload_n 0, 1) := by decide +kernel
theorem d1_9 : decode method_2_code 9 = .ok (.iconst 1, 1) := by decide +kernel
theorem d1_10 : decode method_2_code 10 = .ok (.if_icmp .ne 7, 3) := by decide +kernel
theorem d1_13 : decode method_2_code 13 = .ok (.getstatic 13, 3) := by decide +kernel
theorem d1_16 : decode method_2_code 16 = .ok (.areturn, 1) := by decide +kernel
set_option maxRecDepth 65536 in
set_option maxHeartbeats 40000000 in
theorem rm1_1 (l : Launch) (Z : State) (a0 : Array Value) (hw : ∀ d ∈ tables_1, d.before a0 Z = true) (ws : List Jvm.Cond) (w : Nat → Addr) (h0 : Heap) (n0 : Nat) (Z0 : n0 ≤ h0.size) (hP : Pins Z h0 w) :
    MetFree l (⟨"com/example/anamnesis/anamnesis/rules/TypeIsNumberPinLaw", "pick", "(I)Lcom/example/anamnesis/anamnesis/rules/Type;"⟩ : MethodName) (head1 (Jvm.Cond.code (⟨"com/example/anamnesis/anamnesis/rules/TypeIsNumberPinLaw", "pick", "(I)Lcom/example/anamnesis/anamnesis/rules/Type;"⟩ : MethodName) method_2_code 1 (some (.object "com/example/anamnesis/anamnesis/rules/Type")) :: ws) ({ frames := 0, cells := 0, slots := 0, locals := 0 } : Room)) (fun a U => a = #[(.int (1 : Int32))] ∧ Z.Warmed39 U.vm ∧ U.heap = h0) (fun _ _ _ _ _ => True) (fun _ U o U' => ∃ v L, o = .returned v ∧ Qp (some (.ref (w 1))) h0 n0 v U'.heap L ∧ FrameEnd U o U' L ({ frames := 0, cells := 0, slots := 0, locals := 0 } : Room).cells ({ frames := 0, cells := 0, slots := 0, locals := 0 } : Room).slots) := by
  refine MetFree.of_bodySF (plainFor_of_name pn_0) hisR ?_
  intro p e s m args below meth c s₁ Bd hml0 hP0 hK
  obtain ⟨rfl, hZ, hh⟩ := hP0
  have hx := Bd.exec
  have hby := Bd.bytes
  have hml : c.maxLocals = 1 := hml0
  have hown : s.vm.findClass "com/example/anamnesis/anamnesis/rules/TypeIsNumberPinLaw" = some m.cls := findClass_of_methodNamed Bd.named
  have hnm := (name_of_methodNamed Bd.named Bd.method).1
  have X0 : Stand p l e ({ frames := 0, cells := 0, slots := 0, locals := 0 } : Room) s m #[(.int (1 : Int32))] below meth c s₁ [] 0 0 := Stand.of_body Bd
  have e0 : s₁.heap = h0 := by rw [← hh, Bd.state]; rfl
  have N0 := Fr.nil n0
  suffices hgo : Go p e below (fun o U' => ∃ v L, o = .returned v ∧ Qp (some (.ref (w 1))) h0 n0 v U'.heap L ∧ FrameEnd s o U' L ({ frames := 0, cells := 0, slots := 0, locals := 0 } : Room).cells ({ frames := 0, cells := 0, slots := 0, locals := 0 } : Room).slots) s₁ (mkF m 0 #[.val (.int (1 : Int32))] []) by
    obtain ⟨s2, o, g1, g2, g3, g4⟩ := hgo
    refine ⟨s2, o, castTop (?_ : entryFrame m #[(.int (1 : Int32))] 1 = _) g1, g2, g3, g4⟩
    first | (simp [entryFrame, mkF, argsToLocals, Value.category]; done) | rfl
  refine Go.on (T' := s₁) (g' := (mkF m 1 #[.val (.int (1 : Int32))] [(.int (1 : Int32))])) (fun t k => XS.iloadN X0.here hx rfl (hb hby d1_0) rfl k) ?_
  refine Go.on (T' := s₁) (g' := (mkF m 8 #[.val (.int (1 : Int32))] [])) (fun t k => XS.ifYes X0.here hx rfl (pc0 := 1) (pc' := 8) rfl (hb hby d1_1) rfl ((if0 _ _).trans (feq (by decide : ¬ ((1 : Int32) = (0 : Int32)))).2) (by decide) (by decide) k) ?_
  refine Go.on (T' := s₁) (g' := (mkF m 9 #[.val (.int (1 : Int32))] [(.int (1 : Int32))])) (fun t k => XS.iloadN X0.here hx rfl (hb hby d1_8) rfl k) ?_
  refine Go.on (T' := s₁) (g' := (mkF m 10 #[.val (.int (1 : Int32))] [(.int (1 : Int32)), (.int (1 : Int32))])) (fun t k => XS.iconst X0.here hx rfl (hb hby d1_9) k) ?_
  refine Go.on (T' := s₁) (g' := (mkF m 13 #[.val (.int (1 : Int32))] [])) (fun t k => XS.icmpNo X0.here hx rfl (hb hby d1_10) rfl (teq (by decide : (1 : Int32) = (1 : Int32))).2 k) ?_
  obtain ⟨T11, X11, e11, st11⟩ := getS2 X0 hx hZ hown (host := "") (Or.inl (hw _ (List.mem_of_getElem? (i := 42) rfl))) Via.refl e0 (pin_1 hP) (g := (mkF m 13 #[.val (.int (1 : Int32))] [])) rfl (hb hby d1_13)
  refine Go.on (T' := T11) (g' := (mkF m 16 #[.val (.int (1 : Int32))] [(.ref (w 1))])) st11 ?_
  obtain ⟨fs, hr, hrun, hended, hW, hsame⟩ := X11.leave (v := some (.ref (w 1))) (fun h => by rw [Bd.returns] at h; cases h)
  exact ⟨_, _, retOut X11 hx Bd.returns rfl (Or.inr (Or.inr (Or.inr (Or.inr ⟨rfl, rfl, rfl⟩)))) (hb hby d1_16) hr, hrun, hended, _, _, rfl, ⟨rfl, N0, e11⟩, ⟨_, rfl⟩, hW, hsame.mono (by decide) (by decide)⟩
theorem d2_14 : decode prog_87_method_7_code 14 = .ok (.iconst 1, 1) := by decide +kernel
theorem d2_15 : decode prog_87_method_7_code 15 = .ok (.goto 4, 3) := by decide +kernel
set_option maxRecDepth 65536 in
set_option maxHeartbeats 40000000 in
theorem rm2_1 (l : Launch) (Z : State) (a0 : Array Value) (hw : ∀ d ∈ tables_1, d.before a0 Z = true) (ws : List Jvm.Cond) (w : Nat → Addr) (h0 : Heap) (n0 : Nat) (Z0 : n0 ≤ h0.size) (hP : Pins Z h0 w) :
    MetFree l (⟨"com/example/anamnesis/anamnesis/rules/Type", "isNumber", "()Z"⟩ : MethodName) (head1 (Jvm.Cond.code (⟨"com/example/anamnesis/anamnesis/rules/Type", "isNumber", "()Z"⟩ : MethodName) prog_87_method_7_code 1 (some .boolean) :: ws) ({ frames := 0, cells := 0, slots := 0, locals := 0 } : Room)) (fun a U => a = #[(.ref (w 1))] ∧ Z.Warmed39 U.vm ∧ U.heap = h0) (fun _ _ _ _ _ => True) (fun _ U o U' => ∃ v L, o = .returned v ∧ Qp (some (.int (1 : Int32))) h0 n0 v U'.heap L ∧ FrameEnd U o U' L ({ frames := 0, cells := 0, slots := 0, locals := 0 } : Room).cells ({ frames := 0, cells := 0, slots := 0, locals := 0 } : Room).slots) := by
  refine MetFree.of_bodySF (plainFor_of_name pn_1) hisR ?_
  intro p e s m args below meth c s₁ Bd hml0 hP0 hK
  obtain ⟨rfl, hZ, hh⟩ := hP0
  have hx := Bd.exec
  have hby := Bd.bytes
  have hml : c.maxLocals = 1 := hml0
  have hown : s.vm.findClass "com/example/anamnesis/anamnesis/rules/Type" = some m.cls := findClass_of_methodNamed Bd.named
  have hnm := (name_of_methodNamed Bd.named Bd.method).1
  have X0 : Stand p l e ({ frames := 0, cells := 0, slots := 0, locals := 0 } : Room) s m #[(.ref (w 1))] below meth c s₁ [] 0 0 := Stand.of_body Bd
  have e0 : s₁.heap = h0 := by rw [← hh, Bd.state]; rfl
  have N0 := Fr.nil n0
  suffices hgo : Go p e below (fun o U' => ∃ v L, o = .returned v ∧ Qp (some (.int (1 : Int32))) h0 n0 v U'.heap L ∧ FrameEnd s o U' L ({ frames := 0, cells := 0, slots := 0, locals := 0 } : Room).cells ({ frames := 0, cells := 0, slots := 0, locals := 0 } : Room).slots) s₁ (mkF m 0 #[.val (.ref (w 1))] []) by
    obtain ⟨s2, o, g1, g2, g3, g4⟩ := hgo
    refine ⟨s2, o, castTop (?_ : entryFrame m #[(.ref (w 1))] 1 = _) g1, g2, g3, g4⟩
    first | (simp [entryFrame, mkF, argsToLocals, Value.category]; done) | rfl
  refine Go.on (T' := s₁) (g' := (mkF m 1 #[.val (.ref (w 1))] [(.ref (w 1))])) (fun t k => XS.aloadN X0.here hx rfl (hb hby d2_0) rfl rfl k) ?_
  obtain ⟨T14, X14, e14, st14⟩ := getS2 X0 hx hZ hown (host := "") (Or.inl (hw _ (List.mem_of_getElem? (i := 13) rfl))) Via.refl e0 (pin_1 hP) (g := (mkF m 1 #[.val (.ref (w 1))] [(.ref (w 1))])) rfl (hb hby d2_1)
  refine Go.on (T' := T14) (g' := (mkF m 4 #[.val (.ref (w 1))] [(.ref (w 1)), (.ref (w 1))])) st14 ?_
  refine Go.on (T' := T14) (g' := (mkF m 14 #[.val (.ref (w 1))] [])) (fun t k => Jvm.RoadKit.acmp (g := (mkF m 4 #[.val (.ref (w 1))] [(.ref (w 1)), (.ref (w 1))])) X14 hx rfl rfl rfl (pc0 := 4) (pc' := 14) (same := true) rfl (hb hby d2_4) rfl (decide_eq_true rfl) (by decide) (by decide) k) ?_
  refine Go.on (T' := T14) (g' := (mkF m 15 #[.val (.ref (w 1))] [(.int (1 : Int32))])) (fun t k => XS.iconst X14.here hx rfl (hb hby d2_14) k) ?_
  refine Go.on (T' := T14) (g' := (mkF m 19 #[.val (.ref (w 1))] [(.int (1 : Int32))])) (fun t k => XS.goto X14.here hx rfl (pc0 := 15) (pc' := 19) rfl (hb hby d2_15) (by decide) (by decide) k) ?_
  obtain ⟨fs, hr, hrun, hended, hW, hsame⟩ := X14.leave (v := some (.int (1 : Int32))) (fun h => by rw [Bd.returns] at h; cases h)
  exact ⟨_, _, retN X14 hx (t := .boolean) Bd.returns (by simp) (hb hby d2_19) hr, hrun, hended, _, _, rfl, ⟨rfl, N0, e14⟩, ⟨_, rfl⟩, hW, hsame.mono (by decide) (by decide)⟩
theorem d3_0 : decode prog_87_method_9_code 0 = .ok (.aload_n 0, 1) := by decide +kernel
theorem d3_1 : decode prog_87_method_9_code 1 = .ok (.invokevirtual 89, 3) := by decide +kernel
theorem d3_4 : decode prog_87_method_9_code 4 = .ok (.ifCond .ne 17, 3) := by decide +kernel
theorem d3_21 : decode prog_87_method_9_code 21 = .ok (.iconst 1, 1) := by decide +kernel
theorem d3_22 : decode prog_87_method_9_code 22 = .ok (.goto 4, 3) := by decide +kernel
theorem d3_26 : decode prog_87_method_9_code 26 = .ok (.ireturn, 1) := by decide +kernel
set_option maxRecDepth 65536 in
set_option maxHeartbeats 40000000 in
theorem rm3_0 (l : Launch) (Z : State) (a0 : Array Value) (hw : ∀ d ∈ tables_1, d.before a0 Z = true) (ws : List Jvm.Cond) (w : Nat → Addr) (h0 : Heap) (n0 : Nat) (Z0 : n0 ≤ h0.size) (hP : Pins Z h0 w) :
    MetFree l (⟨"com/example/anamnesis/anamnesis/rules/Type", "isOrdered", "()Z"⟩ : MethodName) (head1 (Jvm.Cond.code (⟨"com/example/anamnesis/anamnesis/rules/Type", "isOrdered", "()Z"⟩ : MethodName) prog_87_method_9_code 1 (some .boolean) :: ws) ({ frames := 1, cells := 0, slots := 0, locals := 12 } : Room)) (fun a U => a = #[(.ref (w 1))] ∧ Z.Warmed39 U.vm ∧ U.heap = h0) (fun _ _ _ _ _ => True) (fun _ U o U' => ∃ v L, o = .returned v ∧ Qp (some (.int (1 : Int32))) h0 n0 v U'.heap L ∧ FrameEnd U o U' L ({ frames := 1, cells := 0, slots := 0, locals := 12 } : Room).cells ({ frames := 1, cells := 0, slots := 0, locals := 12 } : Room).slots) := by
  refine MetFree.of_bodySF (plainFor_of_name pn_1) hisR ?_
  intro p e s m args below meth c s₁ Bd hml0 hP0 hK
  obtain ⟨rfl, hZ, hh⟩ := hP0
  have hx := Bd.exec
  have hby := Bd.bytes
  have hml : c.maxLocals = 1 := hml0
  have hown : s.vm.findClass "com/example/anamnesis/anamnesis/rules/Type" = some m.cls := findClass_of_methodNamed Bd.named
  have hnm := (name_of_methodNamed Bd.named Bd.method).1
  have X0 : Stand p l e ({ frames := 1, cells := 0, slots := 0, locals := 12 } : Room) s m #[(.ref (w 1))] below meth c s₁ [] 0 0 := Stand.of_body Bd
  have e0 : s₁.heap = h0 := by rw [← hh, Bd.state]; rfl
  have N0 := Fr.nil n0
  suffices hgo : Go p e below (fun o U' => ∃ v L, o = .returned v ∧ Qp (some (.int (1 : Int32))) h0 n0 v U'.heap L ∧ FrameEnd s o U' L ({ frames := 1, cells := 0, slots := 0, locals := 12 } : Room).cells ({ frames := 1, cells := 0, slots := 0, locals := 12 } : Room).slots) s₁ (mkF m 0 #[.val (.ref (w 1))] []) by
    obtain ⟨s2, o, g1, g2, g3, g4⟩ := hgo
    refine ⟨s2, o, castTop (?_ : entryFrame m #[(.ref (w 1))] 1 = _) g1, g2, g3, g4⟩
    first | (simp [entryFrame, mkF, argsToLocals, Value.category]; done) | rfl
  refine Go.on (T' := s₁) (g' := (mkF m 1 #[.val (.ref (w 1))] [(.ref (w 1))])) (fun t k => XS.aloadN X0.here hx rfl (hb hby d3_0) rfl rfl k) ?_
  obtain ⟨cq17, kq17, q17a, q17b, q17c⟩ := isOf hZ e0 (pin_13 hP)
  obtain ⟨_, _, ⟨T17, L17, k17, n17⟩, -, X17, ⟨Lc17, hQ17, l17, y17, z17⟩, st17⟩ := X0.virtualBack hx (y := (⟨"com/example/anamnesis/anamnesis/rules/Type", "isNumber", "()Z"⟩ : MethodName)) (z := (⟨"com/example/anamnesis/anamnesis/rules/Type", "isNumber", "()Z"⟩ : MethodName)) hown (mvT hZ (hw _ (List.mem_of_getElem? (i := 25) rfl))) (mvT hZ (hw _ (List.mem_of_getElem? (i := 9) rfl))) (notFace_of_selects (args := #[]) (mvT hZ (hw _ (List.mem_of_getElem? (i := 11) rfl)))) (mvT hZ (hw _ (List.mem_of_getElem? (i := 11) rfl))) (mvT hZ (hw _ (List.mem_of_getElem? (i := 10) rfl))) (by decide) (backOf (W := 0) (rm2_1 l Z a0 hw [] w h0 n0 (Nat.le_trans Z0 (own_ext0 h0).1) hP) hZ (hw _ (List.mem_of_getElem? (i := 12) rfl)) (hw _ (List.mem_of_getElem? (i := 6) rfl)) (by decide) (by decide)) q17a q17c (g := (mkF m 1 #[.val (.ref (w 1))] [(.ref (w 1))])) rfl (by rw [hml]; rfl) (Steps.refl _) (argsL := []) (rest := []) (lenOf pd_1 rfl) rfl (by show 2 * 0 + _ ≤ _; exact Nat.le_of_eq rfl) (hb hby d3_1) (fun _ _ => ⟨rfl, e0, (by decide : 0 + 0 ≤ _), (by decide : 0 + 0 ≤ _)⟩)
  dsimp only [Pt.U, Pt.locs, Pt.cells, Pt.slots] at X17 l17 y17 z17 st17 hQ17
  subst l17 y17 z17
  obtain ⟨rfl, N17q, e17⟩ := hQ17
  have N17 := Fr.app N0 N17q
  refine Go.on (T' := T17) (g' := (mkF m 4 #[.val (.ref (w 1))] [(.int (1 : Int32))])) (fun t k => st17.trans k) ?_
  refine Go.on (T' := T17) (g' := (mkF m 21 #[.val (.ref (w 1))] [])) (fun t k => XS.ifYes X17.here hx rfl (pc0 := 4) (pc' := 21) rfl (hb hby d3_4) rfl ((if0 _ _).trans (feq (by decide : ¬ ((1 : Int32) = (0 : Int32)))).2) (by decide) (by decide) k) ?_
  refine Go.on (T' := T17) (g' := (mkF m 22 #[.val (.ref (w 1))] [(.int (1 : Int32))])) (fun t k => XS.iconst X17.here hx rfl (hb hby d3_21) k) ?_
  refine Go.on (T' := T17) (g' := (mkF m 26 #[.val (.ref (w 1))] [(.int (1 : Int32))])) (fun t k => XS.goto X17.here hx rfl (pc0 := 22) (pc' := 26) rfl (hb hby d3_22) (by decide) (by decide) k) ?_
  obtain ⟨fs, hr, hrun, hended, hW, hsame⟩ := X17.leave (v := some (.int (1 : Int32))) (fun h => by rw [Bd.returns] at h; cases h)
  exact ⟨_, _, retN X17 hx (t := .boolean) Bd.returns (by simp) (hb hby d3_26) hr, hrun, hended, _, _, rfl, ⟨rfl, N17, e17⟩, ⟨_, rfl⟩, hW, hsame.mono (by decide) (by decide)⟩
theorem d4_0 : decode prog_87_method_6_code 0 = .ok (.aload_n 0, 1) := by decide +kernel
theorem d4_1 : decode prog_87_method_6_code 1 = .ok (.getstatic 34, 3) := by decide +kernel
theorem d4_4 : decode prog_87_method_6_code 4 = .ok (.if_acmp .eq 10, 3) := by decide +kernel
theorem d4_7 : decode prog_87_method_6_code 7 = .ok (.aload_n 0, 1) := by decide +kernel
theorem d4_8 : decode prog_87_method_6_code 8 = .ok (.getstatic 37, 3) := by decide +kernel
theorem d4_11 : decode prog_87_method_6_code 11 = .ok (.if_acmp .ne 7, 3) := by decide +kernel
theorem d4_18 : decode prog_87_method_6_code 18 = .ok (.iconst 0, 1) := by decide +kernel
theorem d4_19 : decode prog_87_method_6_code 19 = .ok (.ireturn, 1) := by decide +kernel
set_option maxRecDepth 65536 in
set_option maxHeartbeats 40000000 in
theorem rm4_0 (l : Launch) (Z : State) (a0 : Array Value) (hw : ∀ d ∈ tables_1, d.before a0 Z = true) (ws : List Jvm.Cond) (w : Nat → Addr) (h0 : Heap) (n0 : Nat) (Z0 : n0 ≤ h0.size) (hP : Pins Z h0 w) :
    MetFree l (⟨"com/example/anamnesis/anamnesis/rules/Type", "isRecord", "()Z"⟩ : MethodName) (head1 (Jvm.Cond.code (⟨"com/example/anamnesis/anamnesis/rules/Type", "isRecord", "()Z"⟩ : MethodName) prog_87_method_6_code 1 (some .boolean) :: ws) ({ frames := 0, cells := 0, slots := 0, locals := 0 } : Room)) (fun a U => a = #[(.ref (w 1))] ∧ Z.Warmed39 U.vm ∧ U.heap = h0) (fun _ _ _ _ _ => True) (fun _ U o U' => ∃ v L, o = .returned v ∧ Qp (some (.int (0 : Int32))) h0 n0 v U'.heap L ∧ FrameEnd U o U' L ({ frames := 0, cells := 0, slots := 0, locals := 0 } : Room).cells ({ frames := 0, cells := 0, slots := 0, locals := 0 } : Room).slots) := by
  refine MetFree.of_bodySF (plainFor_of_name pn_1) hisR ?_
  intro p e s m args below meth c s₁ Bd hml0 hP0 hK
  obtain ⟨rfl, hZ, hh⟩ := hP0
  have hx := Bd.exec
  have hby := Bd.bytes
  have hml : c.maxLocals = 1 := hml0
  have hown : s.vm.findClass "com/example/anamnesis/anamnesis/rules/Type" = some m.cls := findClass_of_methodNamed Bd.named
  have hnm := (name_of_methodNamed Bd.named Bd.method).1
  have X0 : Stand p l e ({ frames := 0, cells := 0, slots := 0, locals := 0 } : Room) s m #[(.ref (w 1))] below meth c s₁ [] 0 0 := Stand.of_body Bd
  have e0 : s₁.heap = h0 := by rw [← hh, Bd.state]; rfl
  have N0 := Fr.nil n0
  suffices hgo : Go p e below (fun o U' => ∃ v L, o = .returned v ∧ Qp (some (.int (0 : Int32))) h0 n0 v U'.heap L ∧ FrameEnd s o U' L ({ frames := 0, cells := 0, slots := 0, locals := 0 } : Room).cells ({ frames := 0, cells := 0, slots := 0, locals := 0 } : Room).slots) s₁ (mkF m 0 #[.val (.ref (w 1))] []) by
    obtain ⟨s2, o, g1, g2, g3, g4⟩ := hgo
    refine ⟨s2, o, castTop (?_ : entryFrame m #[(.ref (w 1))] 1 = _) g1, g2, g3, g4⟩
    first | (simp [entryFrame, mkF, argsToLocals, Value.category]; done) | rfl
  refine Go.on (T' := s₁) (g' := (mkF m 1 #[.val (.ref (w 1))] [(.ref (w 1))])) (fun t k => XS.aloadN X0.here hx rfl (hb hby d4_0) rfl rfl k) ?_
  obtain ⟨T21, X21, e21, st21⟩ := getS2 X0 hx hZ hown (host := "") (Or.inl (hw _ (List.mem_of_getElem? (i := 31) rfl))) Via.refl e0 (pin_4 hP) (g := (mkF m 1 #[.val (.ref (w 1))] [(.ref (w 1))])) rfl (hb hby d4_1)
  refine Go.on (T' := T21) (g' := (mkF m 4 #[.val (.ref (w 1))] [(.ref (w 4)), (.ref (w 1))])) st21 ?_
  refine Go.on (T' := T21) (g' := (mkF m 7 #[.val (.ref (w 1))] [])) (fun t k => Jvm.RoadKit.acmp (g := (mkF m 4 #[.val (.ref (w 1))] [(.ref (w 4)), (.ref (w 1))])) X21 hx rfl rfl rfl (pc0 := 4) (pc' := 7) (same := false) rfl (hb hby d4_4) rfl (decide_eq_false fun q => (own_ne (pin_25 hP) (pin_28 hP) (by decide)) (Value.ref.inj q)) (by decide) (by decide) k) ?_
  refine Go.on (T' := T21) (g' := (mkF m 8 #[.val (.ref (w 1))] [(.ref (w 1))])) (fun t k => XS.aloadN X21.here hx rfl (hb hby d4_7) rfl rfl k) ?_
  obtain ⟨T22, X22, e22, st22⟩ := getS2 X21 hx hZ hown (host := "") (Or.inl (hw _ (List.mem_of_getElem? (i := 33) rfl))) Via.refl e21 (pin_5 hP) (g := (mkF m 8 #[.val (.ref (w 1))] [(.ref (w 1))])) rfl (hb hby d4_8)
  refine Go.on (T' := T22) (g' := (mkF m 11 #[.val (.ref (w 1))] [(.ref (w 5)), (.ref (w 1))])) st22 ?_
  refine Go.on (T' := T22) (g' := (mkF m 18 #[.val (.ref (w 1))] [])) (fun t k => Jvm.RoadKit.acmp (g := (mkF m 11 #[.val (.ref (w 1))] [(.ref (w 5)), (.ref (w 1))])) X22 hx rfl rfl rfl (pc0 := 11) (pc' := 18) (same := false) rfl (hb hby d4_11) rfl (decide_eq_false fun q => (own_ne (pin_25 hP) (pin_29 hP) (by decide)) (Value.ref.inj q)) (by decide) (by decide) k) ?_
  refine Go.on (T' := T22) (g' := (mkF m 19 #[.val (.ref (w 1))] [(.int (0 : Int32))])) (fun t k => XS.iconst X22.here hx rfl (hb hby d4_18) k) ?_
  obtain ⟨fs, hr, hrun, hended, hW, hsame⟩ := X22.leave (v := some (.int (0 : Int32))) (fun h => by rw [Bd.returns] at h; cases h)
  exact ⟨_, _, retN X22 hx (t := .boolean) Bd.returns (by simp) (hb hby d4_19) hr, hrun, hended, _, _, rfl, ⟨rfl, N0, e22⟩, ⟨_, rfl⟩, hW, hsame.mono (by decide) (by decide)⟩
theorem d1_17 : decode method_2_code 17 = .ok (.iload_n 0, 1) := by decide +kernel
theorem d1_18 : decode method_2_code 18 = .ok (.iconst 2, 1) := by decide +kernel
theorem d1_19 : decode method_2_code 19 = .ok (.if_icmp .ne 7, 3) := by decide +kernel
theorem d1_22 : decode method_2_code 22 = .ok (.getstatic 16, 3) := by decide +kernel
theorem d1_25 : decode method_2_code 25 = .ok (.areturn, 1) := by decide +kernel
set_option maxRecDepth 65536 in
set_option maxHeartbeats 40000000 in
theorem rm1_2 (l : Launch) (Z : State) (a0 : Array Value) (hw : ∀ d ∈ tables_1, d.before a0 Z = true) (ws : List Jvm.Cond) (w : Nat → Addr) (h0 : Heap) (n0 : Nat) (Z0 : n0 ≤ h0.size) (hP : Pins Z h0 w) :
    MetFree l (⟨"com/example/anamnesis/anamnesis/rules/TypeIsNumberPinLaw", "pick", "(I)Lcom/example/anamnesis/anamnesis/rules/Type;"⟩ : MethodName) (head1 (Jvm.Cond.code (⟨"com/example/anamnesis/anamnesis/rules/TypeIsNumberPinLaw", "pick", "(I)Lcom/example/anamnesis/anamnesis/rules/Type;"⟩ : MethodName) method_2_code 1 (some (.object "com/example/anamnesis/anamnesis/rules/Type")) :: ws) ({ frames := 0, cells := 0, slots := 0, locals := 0 } : Room)) (fun a U => a = #[(.int (2 : Int32))] ∧ Z.Warmed39 U.vm ∧ U.heap = h0) (fun _ _ _ _ _ => True) (fun _ U o U' => ∃ v L, o = .returned v ∧ Qp (some (.ref (w 2))) h0 n0 v U'.heap L ∧ FrameEnd U o U' L ({ frames := 0, cells := 0, slots := 0, locals := 0 } : Room).cells ({ frames := 0, cells := 0, slots := 0, locals := 0 } : Room).slots) := by
  refine MetFree.of_bodySF (plainFor_of_name pn_0) hisR ?_
  intro p e s m args below meth c s₁ Bd hml0 hP0 hK
  obtain ⟨rfl, hZ, hh⟩ := hP0
  have hx := Bd.exec
  have hby := Bd.bytes
  have hml : c.maxLocals = 1 := hml0
  have hown : s.vm.findClass "com/example/anamnesis/anamnesis/rules/TypeIsNumberPinLaw" = some m.cls := findClass_of_methodNamed Bd.named
  have hnm := (name_of_methodNamed Bd.named Bd.method).1
  have X0 : Stand p l e ({ frames := 0, cells := 0, slots := 0, locals := 0 } : Room) s m #[(.int (2 : Int32))] below meth c s₁ [] 0 0 := Stand.of_body Bd
  have e0 : s₁.heap = h0 := by rw [← hh, Bd.state]; rfl
  have N0 := Fr.nil n0
  suffices hgo : Go p e below (fun o U' => ∃ v L, o = .returned v ∧ Qp (some (.ref (w 2))) h0 n0 v U'.heap L ∧ FrameEnd s o U' L ({ frames := 0, cells := 0, slots := 0, locals := 0 } : Room).cells ({ frames := 0, cells := 0, slots := 0, locals := 0 } : Room).slots) s₁ (mkF m 0 #[.val (.int (2 : Int32))] []) by
    obtain ⟨s2, o, g1, g2, g3, g4⟩ := hgo
    refine ⟨s2, o, castTop (?_ : entryFrame m #[(.int (2 : Int32))] 1 = _) g1, g2, g3, g4⟩
    first | (simp [entryFrame, mkF, argsToLocals, Value.category]; done) | rfl
  refine Go.on (T' := s₁) (g' := (mkF m 1 #[.val (.int (2 : Int32))] [(.int (2 : Int32))])) (fun t k => XS.iloadN X0.here hx rfl (hb hby d1_0) rfl k) ?_
  refine Go.on (T' := s₁) (g' := (mkF m 8 #[.val (.int (2 : Int32))] [])) (fun t k => XS.ifYes X0.here hx rfl (pc0 := 1) (pc' := 8) rfl (hb hby d1_1) rfl ((if0 _ _).trans (feq (by decide : ¬ ((2 : Int32) = (0 : Int32)))).2) (by decide) (by decide) k) ?_
  refine Go.on (T' := s₁) (g' := (mkF m 9 #[.val (.int (2 : Int32))] [(.int (2 : Int32))])) (fun t k => XS.iloadN X0.here hx rfl (hb hby d1_8) rfl k) ?_
  refine Go.on (T' := s₁) (g' := (mkF m 10 #[.val (.int (2 : Int32))] [(.int (1 : Int32)), (.int (2 : Int32))])) (fun t k => XS.iconst X0.here hx rfl (hb hby d1_9) k) ?_
  refine Go.on (T' := s₁) (g' := (mkF m 17 #[.val (.int (2 : Int32))] [])) (fun t k => XS.icmpYes X0.here hx rfl (pc0 := 10) (pc' := 17) rfl (hb hby d1_10) rfl (feq (by decide : ¬ ((2 : Int32) = (1 : Int32)))).2 (by decide) (by decide) k) ?_
  refine Go.on (T' := s₁) (g' := (mkF m 18 #[.val (.int (2 : Int32))] [(.int (2 : Int32))])) (fun t k => XS.iloadN X0.here hx rfl (hb hby d1_17) rfl k) ?_
  refine Go.on (T' := s₁) (g' := (mkF m 19 #[.val (.int (2 : Int32))] [(.int (2 : Int32)), (.int (2 : Int32))])) (fun t k => XS.iconst X0.here hx rfl (hb hby d1_18) k) ?_
  refine Go.on (T' := s₁) (g' := (mkF m 22 #[.val (.int (2 : Int32))] [])) (fun t k => XS.icmpNo X0.here hx rfl (hb hby d1_19) rfl (teq (by decide : (2 : Int32) = (2 : Int32))).2 k) ?_
  obtain ⟨T25, X25, e25, st25⟩ := getS2 X0 hx hZ hown (host := "") (Or.inl (hw _ (List.mem_of_getElem? (i := 19) rfl))) Via.refl e0 (pin_2 hP) (g := (mkF m 22 #[.val (.int (2 : Int32))] [])) rfl (hb hby d1_22)
  refine Go.on (T' := T25) (g' := (mkF m 25 #[.val (.int (2 : Int32))] [(.ref (w 2))])) st25 ?_
  obtain ⟨fs, hr, hrun, hended, hW, hsame⟩ := X25.leave (v := some (.ref (w 2))) (fun h => by rw [Bd.returns] at h; cases h)
  exact ⟨_, _, retOut X25 hx Bd.returns rfl (Or.inr (Or.inr (Or.inr (Or.inr ⟨rfl, rfl, rfl⟩)))) (hb hby d1_25) hr, hrun, hended, _, _, rfl, ⟨rfl, N0, e25⟩, ⟨_, rfl⟩, hW, hsame.mono (by decide) (by decide)⟩
set_option maxRecDepth 65536 in
set_option maxHeartbeats 40000000 in
theorem rm2_2 (l : Launch) (Z : State) (a0 : Array Value) (hw : ∀ d ∈ tables_1, d.before a0 Z = true) (ws : List Jvm.Cond) (w : Nat → Addr) (h0 : Heap) (n0 : Nat) (Z0 : n0 ≤ h0.size) (hP : Pins Z h0 w) :
    MetFree l (⟨"com/example/anamnesis/anamnesis/rules/Type", "isNumber", "()Z"⟩ : MethodName) (head1 (Jvm.Cond.code (⟨"com/example/anamnesis/anamnesis/rules/Type", "isNumber", "()Z"⟩ : MethodName) prog_87_method_7_code 1 (some .boolean) :: ws) ({ frames := 0, cells := 0, slots := 0, locals := 0 } : Room)) (fun a U => a = #[(.ref (w 2))] ∧ Z.Warmed39 U.vm ∧ U.heap = h0) (fun _ _ _ _ _ => True) (fun _ U o U' => ∃ v L, o = .returned v ∧ Qp (some (.int (1 : Int32))) h0 n0 v U'.heap L ∧ FrameEnd U o U' L ({ frames := 0, cells := 0, slots := 0, locals := 0 } : Room).cells ({ frames := 0, cells := 0, slots := 0, locals := 0 } : Room).slots) := by
  refine MetFree.of_bodySF (plainFor_of_name pn_1) hisR ?_
  intro p e s m args below meth c s₁ Bd hml0 hP0 hK
  obtain ⟨rfl, hZ, hh⟩ := hP0
  have hx := Bd.exec
  have hby := Bd.bytes
  have hml : c.maxLocals = 1 := hml0
  have hown : s.vm.findClass "com/example/anamnesis/anamnesis/rules/Type" = some m.cls := findClass_of_methodNamed Bd.named
  have hnm := (name_of_methodNamed Bd.named Bd.method).1
  have X0 : Stand p l e ({ frames := 0, cells := 0, slots := 0, locals := 0 } : Room) s m #[(.ref (w 2))] below meth c s₁ [] 0 0 := Stand.of_body Bd
  have e0 : s₁.heap = h0 := by rw [← hh, Bd.state]; rfl
  have N0 := Fr.nil n0
  suffices hgo : Go p e below (fun o U' => ∃ v L, o = .returned v ∧ Qp (some (.int (1 : Int32))) h0 n0 v U'.heap L ∧ FrameEnd s o U' L ({ frames := 0, cells := 0, slots := 0, locals := 0 } : Room).cells ({ frames := 0, cells := 0, slots := 0, locals := 0 } : Room).slots) s₁ (mkF m 0 #[.val (.ref (w 2))] []) by
    obtain ⟨s2, o, g1, g2, g3, g4⟩ := hgo
    refine ⟨s2, o, castTop (?_ : entryFrame m #[(.ref (w 2))] 1 = _) g1, g2, g3, g4⟩
    first | (simp [entryFrame, mkF, argsToLocals, Value.category]; done) | rfl
  refine Go.on (T' := s₁) (g' := (mkF m 1 #[.val (.ref (w 2))] [(.ref (w 2))])) (fun t k => XS.aloadN X0.here hx rfl (hb hby d2_0) rfl rfl k) ?_
  obtain ⟨T29, X29, e29, st29⟩ := getS2 X0 hx hZ hown (host := "") (Or.inl (hw _ (List.mem_of_getElem? (i := 13) rfl))) Via.refl e0 (pin_1 hP) (g := (mkF m 1 #[.val (.ref (w 2))] [(.ref (w 2))])) rfl (hb hby d2_1)
  refine Go.on (T' := T29) (g' := (mkF m 4 #[.val (.ref (w 2))] [(.ref (w 1)), (.ref (w 2))])) st29 ?_
  refine Go.on (T' := T29) (g' := (mkF m 7 #[.val (.ref (w 2))] [])) (fun t k => Jvm.RoadKit.acmp (g := (mkF m 4 #[.val (.ref (w 2))] [(.ref (w 1)), (.ref (w 2))])) X29 hx rfl rfl rfl (pc0 := 4) (pc' := 7) (same := false) rfl (hb hby d2_4) rfl (decide_eq_false fun q => (own_ne (pin_26 hP) (pin_25 hP) (by decide)) (Value.ref.inj q)) (by decide) (by decide) k) ?_
  refine Go.on (T' := T29) (g' := (mkF m 8 #[.val (.ref (w 2))] [(.ref (w 2))])) (fun t k => XS.aloadN X29.here hx rfl (hb hby d2_7) rfl rfl k) ?_
  obtain ⟨T30, X30, e30, st30⟩ := getS2 X29 hx hZ hown (host := "") (Or.inl (hw _ (List.mem_of_getElem? (i := 15) rfl))) Via.refl e29 (pin_2 hP) (g := (mkF m 8 #[.val (.ref (w 2))] [(.ref (w 2))])) rfl (hb hby d2_8)
  refine Go.on (T' := T30) (g' := (mkF m 11 #[.val (.ref (w 2))] [(.ref (w 2)), (.ref (w 2))])) st30 ?_
  refine Go.on (T' := T30) (g' := (mkF m 14 #[.val (.ref (w 2))] [])) (fun t k => Jvm.RoadKit.acmp (g := (mkF m 11 #[.val (.ref (w 2))] [(.ref (w 2)), (.ref (w 2))])) X30 hx rfl rfl rfl (pc0 := 11) (pc' := 14) (same := true) rfl (hb hby d2_11) rfl (decide_eq_true rfl) (by decide) (by decide) k) ?_
  refine Go.on (T' := T30) (g' := (mkF m 15 #[.val (.ref (w 2))] [(.int (1 : Int32))])) (fun t k => XS.iconst X30.here hx rfl (hb hby d2_14) k) ?_
  refine Go.on (T' := T30) (g' := (mkF m 19 #[.val (.ref (w 2))] [(.int (1 : Int32))])) (fun t k => XS.goto X30.here hx rfl (pc0 := 15) (pc' := 19) rfl (hb hby d2_15) (by decide) (by decide) k) ?_
  obtain ⟨fs, hr, hrun, hended, hW, hsame⟩ := X30.leave (v := some (.int (1 : Int32))) (fun h => by rw [Bd.returns] at h; cases h)
  exact ⟨_, _, retN X30 hx (t := .boolean) Bd.returns (by simp) (hb hby d2_19) hr, hrun, hended, _, _, rfl, ⟨rfl, N0, e30⟩, ⟨_, rfl⟩, hW, hsame.mono (by decide) (by decide)⟩
set_option maxRecDepth 65536 in
set_option maxHeartbeats 40000000 in
theorem rm3_1 (l : Launch) (Z : State) (a0 : Array Value) (hw : ∀ d ∈ tables_1, d.before a0 Z = true) (ws : List Jvm.Cond) (w : Nat → Addr) (h0 : Heap) (n0 : Nat) (Z0 : n0 ≤ h0.size) (hP : Pins Z h0 w) :
    MetFree l (⟨"com/example/anamnesis/anamnesis/rules/Type", "isOrdered", "()Z"⟩ : MethodName) (head1 (Jvm.Cond.code (⟨"com/example/anamnesis/anamnesis/rules/Type", "isOrdered", "()Z"⟩ : MethodName) prog_87_method_9_code 1 (some .boolean) :: ws) ({ frames := 1, cells := 0, slots := 0, locals := 12 } : Room)) (fun a U => a = #[(.ref (w 2))] ∧ Z.Warmed39 U.vm ∧ U.heap = h0) (fun _ _ _ _ _ => True) (fun _ U o U' => ∃ v L, o = .returned v ∧ Qp (some (.int (1 : Int32))) h0 n0 v U'.heap L ∧ FrameEnd U o U' L ({ frames := 1, cells := 0, slots := 0, locals := 12 } : Room).cells ({ frames := 1, cells := 0, slots := 0, locals := 12 } : Room).slots) := by
  refine MetFree.of_bodySF (plainFor_of_name pn_1) hisR ?_
  intro p e s m args below meth c s₁ Bd hml0 hP0 hK
  obtain ⟨rfl, hZ, hh⟩ := hP0
  have hx := Bd.exec
  have hby := Bd.bytes
  have hml : c.maxLocals = 1 := hml0
  have hown : s.vm.findClass "com/example/anamnesis/anamnesis/rules/Type" = some m.cls := findClass_of_methodNamed Bd.named
  have hnm := (name_of_methodNamed Bd.named Bd.method).1
  have X0 : Stand p l e ({ frames := 1, cells := 0, slots := 0, locals := 12 } : Room) s m #[(.ref (w 2))] below meth c s₁ [] 0 0 := Stand.of_body Bd
  have e0 : s₁.heap = h0 := by rw [← hh, Bd.state]; rfl
  have N0 := Fr.nil n0
  suffices hgo : Go p e below (fun o U' => ∃ v L, o = .returned v ∧ Qp (some (.int (1 : Int32))) h0 n0 v U'.heap L ∧ FrameEnd s o U' L ({ frames := 1, cells := 0, slots := 0, locals := 12 } : Room).cells ({ frames := 1, cells := 0, slots := 0, locals := 12 } : Room).slots) s₁ (mkF m 0 #[.val (.ref (w 2))] []) by
    obtain ⟨s2, o, g1, g2, g3, g4⟩ := hgo
    refine ⟨s2, o, castTop (?_ : entryFrame m #[(.ref (w 2))] 1 = _) g1, g2, g3, g4⟩
    first | (simp [entryFrame, mkF, argsToLocals, Value.category]; done) | rfl
  refine Go.on (T' := s₁) (g' := (mkF m 1 #[.val (.ref (w 2))] [(.ref (w 2))])) (fun t k => XS.aloadN X0.here hx rfl (hb hby d3_0) rfl rfl k) ?_
  obtain ⟨cq33, kq33, q33a, q33b, q33c⟩ := isOf hZ e0 (pin_14 hP)
  obtain ⟨_, _, ⟨T33, L33, k33, n33⟩, -, X33, ⟨Lc33, hQ33, l33, y33, z33⟩, st33⟩ := X0.virtualBack hx (y := (⟨"com/example/anamnesis/anamnesis/rules/Type", "isNumber", "()Z"⟩ : MethodName)) (z := (⟨"com/example/anamnesis/anamnesis/rules/Type", "isNumber", "()Z"⟩ : MethodName)) hown (mvT hZ (hw _ (List.mem_of_getElem? (i := 25) rfl))) (mvT hZ (hw _ (List.mem_of_getElem? (i := 9) rfl))) (notFace_of_selects (args := #[]) (mvT hZ (hw _ (List.mem_of_getElem? (i := 11) rfl)))) (mvT hZ (hw _ (List.mem_of_getElem? (i := 11) rfl))) (mvT hZ (hw _ (List.mem_of_getElem? (i := 10) rfl))) (by decide) (backOf (W := 0) (rm2_2 l Z a0 hw [] w h0 n0 (Nat.le_trans Z0 (own_ext0 h0).1) hP) hZ (hw _ (List.mem_of_getElem? (i := 12) rfl)) (hw _ (List.mem_of_getElem? (i := 6) rfl)) (by decide) (by decide)) q33a q33c (g := (mkF m 1 #[.val (.ref (w 2))] [(.ref (w 2))])) rfl (by rw [hml]; rfl) (Steps.refl _) (argsL := []) (rest := []) (lenOf pd_1 rfl) rfl (by show 2 * 0 + _ ≤ _; exact Nat.le_of_eq rfl) (hb hby d3_1) (fun _ _ => ⟨rfl, e0, (by decide : 0 + 0 ≤ _), (by decide : 0 + 0 ≤ _)⟩)
  dsimp only [Pt.U, Pt.locs, Pt.cells, Pt.slots] at X33 l33 y33 z33 st33 hQ33
  subst l33 y33 z33
  obtain ⟨rfl, N33q, e33⟩ := hQ33
  have N33 := Fr.app N0 N33q
  refine Go.on (T' := T33) (g' := (mkF m 4 #[.val (.ref (w 2))] [(.int (1 : Int32))])) (fun t k => st33.trans k) ?_
  refine Go.on (T' := T33) (g' := (mkF m 21 #[.val (.ref (w 2))] [])) (fun t k => XS.ifYes X33.here hx rfl (pc0 := 4) (pc' := 21) rfl (hb hby d3_4) rfl ((if0 _ _).trans (feq (by decide : ¬ ((1 : Int32) = (0 : Int32)))).2) (by decide) (by decide) k) ?_
  refine Go.on (T' := T33) (g' := (mkF m 22 #[.val (.ref (w 2))] [(.int (1 : Int32))])) (fun t k => XS.iconst X33.here hx rfl (hb hby d3_21) k) ?_
  refine Go.on (T' := T33) (g' := (mkF m 26 #[.val (.ref (w 2))] [(.int (1 : Int32))])) (fun t k => XS.goto X33.here hx rfl (pc0 := 22) (pc' := 26) rfl (hb hby d3_22) (by decide) (by decide) k) ?_
  obtain ⟨fs, hr, hrun, hended, hW, hsame⟩ := X33.leave (v := some (.int (1 : Int32))) (fun h => by rw [Bd.returns] at h; cases h)
  exact ⟨_, _, retN X33 hx (t := .boolean) Bd.returns (by simp) (hb hby d3_26) hr, hrun, hended, _, _, rfl, ⟨rfl, N33, e33⟩, ⟨_, rfl⟩, hW, hsame.mono (by decide) (by decide)⟩
set_option maxRecDepth 65536 in
set_option maxHeartbeats 40000000 in
theorem rm4_1 (l : Launch) (Z : State) (a0 : Array Value) (hw : ∀ d ∈ tables_1, d.before a0 Z = true) (ws : List Jvm.Cond) (w : Nat → Addr) (h0 : Heap) (n0 : Nat) (Z0 : n0 ≤ h0.size) (hP : Pins Z h0 w) :
    MetFree l (⟨"com/example/anamnesis/anamnesis/rules/Type", "isRecord", "()Z"⟩ : MethodName) (head1 (Jvm.Cond.code (⟨"com/example/anamnesis/anamnesis/rules/Type", "isRecord", "()Z"⟩ : MethodName) prog_87_method_6_code 1 (some .boolean) :: ws) ({ frames := 0, cells := 0, slots := 0, locals := 0 } : Room)) (fun a U => a = #[(.ref (w 2))] ∧ Z.Warmed39 U.vm ∧ U.heap = h0) (fun _ _ _ _ _ => True) (fun _ U o U' => ∃ v L, o = .returned v ∧ Qp (some (.int (0 : Int32))) h0 n0 v U'.heap L ∧ FrameEnd U o U' L ({ frames := 0, cells := 0, slots := 0, locals := 0 } : Room).cells ({ frames := 0, cells := 0, slots := 0, locals := 0 } : Room).slots) := by
  refine MetFree.of_bodySF (plainFor_of_name pn_1) hisR ?_
  intro p e s m args below meth c s₁ Bd hml0 hP0 hK
  obtain ⟨rfl, hZ, hh⟩ := hP0
  have hx := Bd.exec
  have hby := Bd.bytes
  have hml : c.maxLocals = 1 := hml0
  have hown : s.vm.findClass "com/example/anamnesis/anamnesis/rules/Type" = some m.cls := findClass_of_methodNamed Bd.named
  have hnm := (name_of_methodNamed Bd.named Bd.method).1
  have X0 : Stand p l e ({ frames := 0, cells := 0, slots := 0, locals := 0 } : Room) s m #[(.ref (w 2))] below meth c s₁ [] 0 0 := Stand.of_body Bd
  have e0 : s₁.heap = h0 := by rw [← hh, Bd.state]; rfl
  have N0 := Fr.nil n0
  suffices hgo : Go p e below (fun o U' => ∃ v L, o = .returned v ∧ Qp (some (.int (0 : Int32))) h0 n0 v U'.heap L ∧ FrameEnd s o U' L ({ frames := 0, cells := 0, slots := 0, locals := 0 } : Room).cells ({ frames := 0, cells := 0, slots := 0, locals := 0 } : Room).slots) s₁ (mkF m 0 #[.val (.ref (w 2))] []) by
    obtain ⟨s2, o, g1, g2, g3, g4⟩ := hgo
    refine ⟨s2, o, castTop (?_ : entryFrame m #[(.ref (w 2))] 1 = _) g1, g2, g3, g4⟩
    first | (simp [entryFrame, mkF, argsToLocals, Value.category]; done) | rfl
  refine Go.on (T' := s₁) (g' := (mkF m 1 #[.val (.ref (w 2))] [(.ref (w 2))])) (fun t k => XS.aloadN X0.here hx rfl (hb hby d4_0) rfl rfl k) ?_
  obtain ⟨T37, X37, e37, st37⟩ := getS2 X0 hx hZ hown (host := "") (Or.inl (hw _ (List.mem_of_getElem? (i := 31) rfl))) Via.refl e0 (pin_4 hP) (g := (mkF m 1 #[.val (.ref (w 2))] [(.ref (w 2))])) rfl (hb hby d4_1)
  refine Go.on (T' := T37) (g' := (mkF m 4 #[.val (.ref (w 2))] [(.ref (w 4)), (.ref (w 2))])) st37 ?_
  refine Go.on (T' := T37) (g' := (mkF m 7 #[.val (.ref (w 2))] [])) (fun t k => Jvm.RoadKit.acmp (g := (mkF m 4 #[.val (.ref (w 2))] [(.ref (w 4)), (.ref (w 2))])) X37 hx rfl rfl rfl (pc0 := 4) (pc' := 7) (same := false) rfl (hb hby d4_4) rfl (decide_eq_false fun q => (own_ne (pin_26 hP) (pin_28 hP) (by decide)) (Value.ref.inj q)) (by decide) (by decide) k) ?_
  refine Go.on (T' := T37) (g' := (mkF m 8 #[.val (.ref (w 2))] [(.ref (w 2))])) (fun t k => XS.aloadN X37.here hx rfl (hb hby d4_7) rfl rfl k) ?_
  obtain ⟨T38, X38, e38, st38⟩ := getS2 X37 hx hZ hown (host := "") (Or.inl (hw _ (List.mem_of_getElem? (i := 33) rfl))) Via.refl e37 (pin_5 hP) (g := (mkF m 8 #[.val (.ref (w 2))] [(.ref (w 2))])) rfl (hb hby d4_8)
  refine Go.on (T' := T38) (g' := (mkF m 11 #[.val (.ref (w 2))] [(.ref (w 5)), (.ref (w 2))])) st38 ?_
  refine Go.on (T' := T38) (g' := (mkF m 18 #[.val (.ref (w 2))] [])) (fun t k => Jvm.RoadKit.acmp (g := (mkF m 11 #[.val (.ref (w 2))] [(.ref (w 5)), (.ref (w 2))])) X38 hx rfl rfl rfl (pc0 := 11) (pc' := 18) (same := false) rfl (hb hby d4_11) rfl (decide_eq_false fun q => (own_ne (pin_26 hP) (pin_29 hP) (by decide)) (Value.ref.inj q)) (by decide) (by decide) k) ?_
  refine Go.on (T' := T38) (g' := (mkF m 19 #[.val (.ref (w 2))] [(.int (0 : Int32))])) (fun t k => XS.iconst X38.here hx rfl (hb hby d4_18) k) ?_
  obtain ⟨fs, hr, hrun, hended, hW, hsame⟩ := X38.leave (v := some (.int (0 : Int32))) (fun h => by rw [Bd.returns] at h; cases h)
  exact ⟨_, _, retN X38 hx (t := .boolean) Bd.returns (by simp) (hb hby d4_19) hr, hrun, hended, _, _, rfl, ⟨rfl, N0, e38⟩, ⟨_, rfl⟩, hW, hsame.mono (by decide) (by decide)⟩
theorem d1_26 : decode method_2_code 26 = .ok (.iload_n 0, 1) := by decide +kernel
theorem d1_27 : decode method_2_code 27 = .ok (.iconst 3, 1) := by decide +kernel
theorem d1_28 : decode method_2_code 28 = .ok (.if_icmp .ne 7, 3) := by decide +kernel
theorem d1_31 : decode method_2_code 31 = .ok (.getstatic 19, 3) := by decide +kernel
theorem d1_34 : decode method_2_code 34 = .ok (.areturn, 1) := by decide +kernel
set_option maxRecDepth 65536 in
set_option maxHeartbeats 40000000 in
theorem rm1_3 (l : Launch) (Z : State) (a0 : Array Value) (hw : ∀ d ∈ tables_1, d.before a0 Z = true) (ws : List Jvm.Cond) (w : Nat → Addr) (h0 : Heap) (n0 : Nat) (Z0 : n0 ≤ h0.size) (hP : Pins Z h0 w) :
    MetFree l (⟨"com/example/anamnesis/anamnesis/rules/TypeIsNumberPinLaw", "pick", "(I)Lcom/example/anamnesis/anamnesis/rules/Type;"⟩ : MethodName) (head1 (Jvm.Cond.code (⟨"com/example/anamnesis/anamnesis/rules/TypeIsNumberPinLaw", "pick", "(I)Lcom/example/anamnesis/anamnesis/rules/Type;"⟩ : MethodName) method_2_code 1 (some (.object "com/example/anamnesis/anamnesis/rules/Type")) :: ws) ({ frames := 0, cells := 0, slots := 0, locals := 0 } : Room)) (fun a U => a = #[(.int (3 : Int32))] ∧ Z.Warmed39 U.vm ∧ U.heap = h0) (fun _ _ _ _ _ => True) (fun _ U o U' => ∃ v L, o = .returned v ∧ Qp (some (.ref (w 3))) h0 n0 v U'.heap L ∧ FrameEnd U o U' L ({ frames := 0, cells := 0, slots := 0, locals := 0 } : Room).cells ({ frames := 0, cells := 0, slots := 0, locals := 0 } : Room).slots) := by
  refine MetFree.of_bodySF (plainFor_of_name pn_0) hisR ?_
  intro p e s m args below meth c s₁ Bd hml0 hP0 hK
  obtain ⟨rfl, hZ, hh⟩ := hP0
  have hx := Bd.exec
  have hby := Bd.bytes
  have hml : c.maxLocals = 1 := hml0
  have hown : s.vm.findClass "com/example/anamnesis/anamnesis/rules/TypeIsNumberPinLaw" = some m.cls := findClass_of_methodNamed Bd.named
  have hnm := (name_of_methodNamed Bd.named Bd.method).1
  have X0 : Stand p l e ({ frames := 0, cells := 0, slots := 0, locals := 0 } : Room) s m #[(.int (3 : Int32))] below meth c s₁ [] 0 0 := Stand.of_body Bd
  have e0 : s₁.heap = h0 := by rw [← hh, Bd.state]; rfl
  have N0 := Fr.nil n0
  suffices hgo : Go p e below (fun o U' => ∃ v L, o = .returned v ∧ Qp (some (.ref (w 3))) h0 n0 v U'.heap L ∧ FrameEnd s o U' L ({ frames := 0, cells := 0, slots := 0, locals := 0 } : Room).cells ({ frames := 0, cells := 0, slots := 0, locals := 0 } : Room).slots) s₁ (mkF m 0 #[.val (.int (3 : Int32))] []) by
    obtain ⟨s2, o, g1, g2, g3, g4⟩ := hgo
    refine ⟨s2, o, castTop (?_ : entryFrame m #[(.int (3 : Int32))] 1 = _) g1, g2, g3, g4⟩
    first | (simp [entryFrame, mkF, argsToLocals, Value.category]; done) | rfl
  refine Go.on (T' := s₁) (g' := (mkF m 1 #[.val (.int (3 : Int32))] [(.int (3 : Int32))])) (fun t k => XS.iloadN X0.here hx rfl (hb hby d1_0) rfl k) ?_
  refine Go.on (T' := s₁) (g' := (mkF m 8 #[.val (.int (3 : Int32))] [])) (fun t k => XS.ifYes X0.here hx rfl (pc0 := 1) (pc' := 8) rfl (hb hby d1_1) rfl ((if0 _ _).trans (feq (by decide : ¬ ((3 : Int32) = (0 : Int32)))).2) (by decide) (by decide) k) ?_
  refine Go.on (T' := s₁) (g' := (mkF m 9 #[.val (.int (3 : Int32))] [(.int (3 : Int32))])) (fun t k => XS.iloadN X0.here hx rfl (hb hby d1_8) rfl k) ?_
  refine Go.on (T' := s₁) (g' := (mkF m 10 #[.val (.int (3 : Int32))] [(.int (1 : Int32)), (.int (3 : Int32))])) (fun t k => XS.iconst X0.here hx rfl (hb hby d1_9) k) ?_
  refine Go.on (T' := s₁) (g' := (mkF m 17 #[.val (.int (3 : Int32))] [])) (fun t k => XS.icmpYes X0.here hx rfl (pc0 := 10) (pc' := 17) rfl (hb hby d1_10) rfl (feq (by decide : ¬ ((3 : Int32) = (1 : Int32)))).2 (by decide) (by decide) k) ?_
  refine Go.on (T' := s₁) (g' := (mkF m 18 #[.val (.int (3 : Int32))] [(.int (3 : Int32))])) (fun t k => XS.iloadN X0.here hx rfl (hb hby d1_17) rfl k) ?_
  refine Go.on (T' := s₁) (g' := (mkF m 19 #[.val (.int (3 : Int32))] [(.int (2 : Int32)), (.int (3 : Int32))])) (fun t k => XS.iconst X0.here hx rfl (hb hby d1_18) k) ?_
  refine Go.on (T' := s₁) (g' := (mkF m 26 #[.val (.int (3 : Int32))] [])) (fun t k => XS.icmpYes X0.here hx rfl (pc0 := 19) (pc' := 26) rfl (hb hby d1_19) rfl (feq (by decide : ¬ ((3 : Int32) = (2 : Int32)))).2 (by decide) (by decide) k) ?_
  refine Go.on (T' := s₁) (g' := (mkF m 27 #[.val (.int (3 : Int32))] [(.int (3 : Int32))])) (fun t k => XS.iloadN X0.here hx rfl (hb hby d1_26) rfl k) ?_
  refine Go.on (T' := s₁) (g' := (mkF m 28 #[.val (.int (3 : Int32))] [(.int (3 : Int32)), (.int (3 : Int32))])) (fun t k => XS.iconst X0.here hx rfl (hb hby d1_27) k) ?_
  refine Go.on (T' := s₁) (g' := (mkF m 31 #[.val (.int (3 : Int32))] [])) (fun t k => XS.icmpNo X0.here hx rfl (hb hby d1_28) rfl (teq (by decide : (3 : Int32) = (3 : Int32))).2 k) ?_
  obtain ⟨T41, X41, e41, st41⟩ := getS2 X0 hx hZ hown (host := "") (Or.inl (hw _ (List.mem_of_getElem? (i := 17) rfl))) Via.refl e0 (pin_3 hP) (g := (mkF m 31 #[.val (.int (3 : Int32))] [])) rfl (hb hby d1_31)
  refine Go.on (T' := T41) (g' := (mkF m 34 #[.val (.int (3 : Int32))] [(.ref (w 3))])) st41 ?_
  obtain ⟨fs, hr, hrun, hended, hW, hsame⟩ := X41.leave (v := some (.ref (w 3))) (fun h => by rw [Bd.returns] at h; cases h)
  exact ⟨_, _, retOut X41 hx Bd.returns rfl (Or.inr (Or.inr (Or.inr (Or.inr ⟨rfl, rfl, rfl⟩)))) (hb hby d1_34) hr, hrun, hended, _, _, rfl, ⟨rfl, N0, e41⟩, ⟨_, rfl⟩, hW, hsame.mono (by decide) (by decide)⟩
set_option maxRecDepth 65536 in
set_option maxHeartbeats 40000000 in
theorem rm2_3 (l : Launch) (Z : State) (a0 : Array Value) (hw : ∀ d ∈ tables_1, d.before a0 Z = true) (ws : List Jvm.Cond) (w : Nat → Addr) (h0 : Heap) (n0 : Nat) (Z0 : n0 ≤ h0.size) (hP : Pins Z h0 w) :
    MetFree l (⟨"com/example/anamnesis/anamnesis/rules/Type", "isNumber", "()Z"⟩ : MethodName) (head1 (Jvm.Cond.code (⟨"com/example/anamnesis/anamnesis/rules/Type", "isNumber", "()Z"⟩ : MethodName) prog_87_method_7_code 1 (some .boolean) :: ws) ({ frames := 0, cells := 0, slots := 0, locals := 0 } : Room)) (fun a U => a = #[(.ref (w 3))] ∧ Z.Warmed39 U.vm ∧ U.heap = h0) (fun _ _ _ _ _ => True) (fun _ U o U' => ∃ v L, o = .returned v ∧ Qp (some (.int (0 : Int32))) h0 n0 v U'.heap L ∧ FrameEnd U o U' L ({ frames := 0, cells := 0, slots := 0, locals := 0 } : Room).cells ({ frames := 0, cells := 0, slots := 0, locals := 0 } : Room).slots) := by
  refine MetFree.of_bodySF (plainFor_of_name pn_1) hisR ?_
  intro p e s m args below meth c s₁ Bd hml0 hP0 hK
  obtain ⟨rfl, hZ, hh⟩ := hP0
  have hx := Bd.exec
  have hby := Bd.bytes
  have hml : c.maxLocals = 1 := hml0
  have hown : s.vm.findClass "com/example/anamnesis/anamnesis/rules/Type" = some m.cls := findClass_of_methodNamed Bd.named
  have hnm := (name_of_methodNamed Bd.named Bd.method).1
  have X0 : Stand p l e ({ frames := 0, cells := 0, slots := 0, locals := 0 } : Room) s m #[(.ref (w 3))] below meth c s₁ [] 0 0 := Stand.of_body Bd
  have e0 : s₁.heap = h0 := by rw [← hh, Bd.state]; rfl
  have N0 := Fr.nil n0
  suffices hgo : Go p e below (fun o U' => ∃ v L, o = .returned v ∧ Qp (some (.int (0 : Int32))) h0 n0 v U'.heap L ∧ FrameEnd s o U' L ({ frames := 0, cells := 0, slots := 0, locals := 0 } : Room).cells ({ frames := 0, cells := 0, slots := 0, locals := 0 } : Room).slots) s₁ (mkF m 0 #[.val (.ref (w 3))] []) by
    obtain ⟨s2, o, g1, g2, g3, g4⟩ := hgo
    refine ⟨s2, o, castTop (?_ : entryFrame m #[(.ref (w 3))] 1 = _) g1, g2, g3, g4⟩
    first | (simp [entryFrame, mkF, argsToLocals, Value.category]; done) | rfl
  refine Go.on (T' := s₁) (g' := (mkF m 1 #[.val (.ref (w 3))] [(.ref (w 3))])) (fun t k => XS.aloadN X0.here hx rfl (hb hby d2_0) rfl rfl k) ?_
  obtain ⟨T45, X45, e45, st45⟩ := getS2 X0 hx hZ hown (host := "") (Or.inl (hw _ (List.mem_of_getElem? (i := 13) rfl))) Via.refl e0 (pin_1 hP) (g := (mkF m 1 #[.val (.ref (w 3))] [(.ref (w 3))])) rfl (hb hby d2_1)
  refine Go.on (T' := T45) (g' := (mkF m 4 #[.val (.ref (w 3))] [(.ref (w 1)), (.ref (w 3))])) st45 ?_
  refine Go.on (T' := T45) (g' := (mkF m 7 #[.val (.ref (w 3))] [])) (fun t k => Jvm.RoadKit.acmp (g := (mkF m 4 #[.val (.ref (w 3))] [(.ref (w 1)), (.ref (w 3))])) X45 hx rfl rfl rfl (pc0 := 4) (pc' := 7) (same := false) rfl (hb hby d2_4) rfl (decide_eq_false fun q => (own_ne (pin_27 hP) (pin_25 hP) (by decide)) (Value.ref.inj q)) (by decide) (by decide) k) ?_
  refine Go.on (T' := T45) (g' := (mkF m 8 #[.val (.ref (w 3))] [(.ref (w 3))])) (fun t k => XS.aloadN X45.here hx rfl (hb hby d2_7) rfl rfl k) ?_
  obtain ⟨T46, X46, e46, st46⟩ := getS2 X45 hx hZ hown (host := "") (Or.inl (hw _ (List.mem_of_getElem? (i := 15) rfl))) Via.refl e45 (pin_2 hP) (g := (mkF m 8 #[.val (.ref (w 3))] [(.ref (w 3))])) rfl (hb hby d2_8)
  refine Go.on (T' := T46) (g' := (mkF m 11 #[.val (.ref (w 3))] [(.ref (w 2)), (.ref (w 3))])) st46 ?_
  refine Go.on (T' := T46) (g' := (mkF m 18 #[.val (.ref (w 3))] [])) (fun t k => Jvm.RoadKit.acmp (g := (mkF m 11 #[.val (.ref (w 3))] [(.ref (w 2)), (.ref (w 3))])) X46 hx rfl rfl rfl (pc0 := 11) (pc' := 18) (same := false) rfl (hb hby d2_11) rfl (decide_eq_false fun q => (own_ne (pin_27 hP) (pin_26 hP) (by decide)) (Value.ref.inj q)) (by decide) (by decide) k) ?_
  refine Go.on (T' := T46) (g' := (mkF m 19 #[.val (.ref (w 3))] [(.int (0 : Int32))])) (fun t k => XS.iconst X46.here hx rfl (hb hby d2_18) k) ?_
  obtain ⟨fs, hr, hrun, hended, hW, hsame⟩ := X46.leave (v := some (.int (0 : Int32))) (fun h => by rw [Bd.returns] at h; cases h)
  exact ⟨_, _, retN X46 hx (t := .boolean) Bd.returns (by simp) (hb hby d2_19) hr, hrun, hended, _, _, rfl, ⟨rfl, N0, e46⟩, ⟨_, rfl⟩, hW, hsame.mono (by decide) (by decide)⟩
theorem d1_35 : decode method_2_code 35 = .ok (.iload_n 0, 1) := by decide +kernel
theorem d1_36 : decode method_2_code 36 = .ok (.iconst 4, 1) := by decide +kernel
theorem d1_37 : decode method_2_code 37 = .ok (.if_icmp .ne 7, 3) := by decide +kernel
theorem d1_40 : decode method_2_code 40 = .ok (.getstatic 22, 3) := by decide +kernel
theorem d1_43 : decode method_2_code 43 = .ok (.areturn, 1) := by decide +kernel
set_option maxRecDepth 65536 in
set_option maxHeartbeats 40000000 in
theorem rm1_4 (l : Launch) (Z : State) (a0 : Array Value) (hw : ∀ d ∈ tables_1, d.before a0 Z = true) (ws : List Jvm.Cond) (w : Nat → Addr) (h0 : Heap) (n0 : Nat) (Z0 : n0 ≤ h0.size) (hP : Pins Z h0 w) :
    MetFree l (⟨"com/example/anamnesis/anamnesis/rules/TypeIsNumberPinLaw", "pick", "(I)Lcom/example/anamnesis/anamnesis/rules/Type;"⟩ : MethodName) (head1 (Jvm.Cond.code (⟨"com/example/anamnesis/anamnesis/rules/TypeIsNumberPinLaw", "pick", "(I)Lcom/example/anamnesis/anamnesis/rules/Type;"⟩ : MethodName) method_2_code 1 (some (.object "com/example/anamnesis/anamnesis/rules/Type")) :: ws) ({ frames := 0, cells := 0, slots := 0, locals := 0 } : Room)) (fun a U => a = #[(.int (4 : Int32))] ∧ Z.Warmed39 U.vm ∧ U.heap = h0) (fun _ _ _ _ _ => True) (fun _ U o U' => ∃ v L, o = .returned v ∧ Qp (some (.ref (w 7))) h0 n0 v U'.heap L ∧ FrameEnd U o U' L ({ frames := 0, cells := 0, slots := 0, locals := 0 } : Room).cells ({ frames := 0, cells := 0, slots := 0, locals := 0 } : Room).slots) := by
  refine MetFree.of_bodySF (plainFor_of_name pn_0) hisR ?_
  intro p e s m args below meth c s₁ Bd hml0 hP0 hK
  obtain ⟨rfl, hZ, hh⟩ := hP0
  have hx := Bd.exec
  have hby := Bd.bytes
  have hml : c.maxLocals = 1 := hml0
  have hown : s.vm.findClass "com/example/anamnesis/anamnesis/rules/TypeIsNumberPinLaw" = some m.cls := findClass_of_methodNamed Bd.named
  have hnm := (name_of_methodNamed Bd.named Bd.method).1
  have X0 : Stand p l e ({ frames := 0, cells := 0, slots := 0, locals := 0 } : Room) s m #[(.int (4 : Int32))] below meth c s₁ [] 0 0 := Stand.of_body Bd
  have e0 : s₁.heap = h0 := by rw [← hh, Bd.state]; rfl
  have N0 := Fr.nil n0
  suffices hgo : Go p e below (fun o U' => ∃ v L, o = .returned v ∧ Qp (some (.ref (w 7))) h0 n0 v U'.heap L ∧ FrameEnd s o U' L ({ frames := 0, cells := 0, slots := 0, locals := 0 } : Room).cells ({ frames := 0, cells := 0, slots := 0, locals := 0 } : Room).slots) s₁ (mkF m 0 #[.val (.int (4 : Int32))] []) by
    obtain ⟨s2, o, g1, g2, g3, g4⟩ := hgo
    refine ⟨s2, o, castTop (?_ : entryFrame m #[(.int (4 : Int32))] 1 = _) g1, g2, g3, g4⟩
    first | (simp [entryFrame, mkF, argsToLocals, Value.category]; done) | rfl
  refine Go.on (T' := s₁) (g' := (mkF m 1 #[.val (.int (4 : Int32))] [(.int (4 : Int32))])) (fun t k => XS.iloadN X0.here hx rfl (hb hby d1_0) rfl k) ?_
  refine Go.on (T' := s₁) (g' := (mkF m 8 #[.val (.int (4 : Int32))] [])) (fun t k => XS.ifYes X0.here hx rfl (pc0 := 1) (pc' := 8) rfl (hb hby d1_1) rfl ((if0 _ _).trans (feq (by decide : ¬ ((4 : Int32) = (0 : Int32)))).2) (by decide) (by decide) k) ?_
  refine Go.on (T' := s₁) (g' := (mkF m 9 #[.val (.int (4 : Int32))] [(.int (4 : Int32))])) (fun t k => XS.iloadN X0.here hx rfl (hb hby d1_8) rfl k) ?_
  refine Go.on (T' := s₁) (g' := (mkF m 10 #[.val (.int (4 : Int32))] [(.int (1 : Int32)), (.int (4 : Int32))])) (fun t k => XS.iconst X0.here hx rfl (hb hby d1_9) k) ?_
  refine Go.on (T' := s₁) (g' := (mkF m 17 #[.val (.int (4 : Int32))] [])) (fun t k => XS.icmpYes X0.here hx rfl (pc0 := 10) (pc' := 17) rfl (hb hby d1_10) rfl (feq (by decide : ¬ ((4 : Int32) = (1 : Int32)))).2 (by decide) (by decide) k) ?_
  refine Go.on (T' := s₁) (g' := (mkF m 18 #[.val (.int (4 : Int32))] [(.int (4 : Int32))])) (fun t k => XS.iloadN X0.here hx rfl (hb hby d1_17) rfl k) ?_
  refine Go.on (T' := s₁) (g' := (mkF m 19 #[.val (.int (4 : Int32))] [(.int (2 : Int32)), (.int (4 : Int32))])) (fun t k => XS.iconst X0.here hx rfl (hb hby d1_18) k) ?_
  refine Go.on (T' := s₁) (g' := (mkF m 26 #[.val (.int (4 : Int32))] [])) (fun t k => XS.icmpYes X0.here hx rfl (pc0 := 19) (pc' := 26) rfl (hb hby d1_19) rfl (feq (by decide : ¬ ((4 : Int32) = (2 : Int32)))).2 (by decide) (by decide) k) ?_
  refine Go.on (T' := s₁) (g' := (mkF m 27 #[.val (.int (4 : Int32))] [(.int (4 : Int32))])) (fun t k => XS.iloadN X0.here hx rfl (hb hby d1_26) rfl k) ?_
  refine Go.on (T' := s₁) (g' := (mkF m 28 #[.val (.int (4 : Int32))] [(.int (3 : Int32)), (.int (4 : Int32))])) (fun t k => XS.iconst X0.here hx rfl (hb hby d1_27) k) ?_
  refine Go.on (T' := s₁) (g' := (mkF m 35 #[.val (.int (4 : Int32))] [])) (fun t k => XS.icmpYes X0.here hx rfl (pc0 := 28) (pc' := 35) rfl (hb hby d1_28) rfl (feq (by decide : ¬ ((4 : Int32) = (3 : Int32)))).2 (by decide) (by decide) k) ?_
  refine Go.on (T' := s₁) (g' := (mkF m 36 #[.val (.int (4 : Int32))] [(.int (4 : Int32))])) (fun t k => XS.iloadN X0.here hx rfl (hb hby d1_35) rfl k) ?_
  refine Go.on (T' := s₁) (g' := (mkF m 37 #[.val (.int (4 : Int32))] [(.int (4 : Int32)), (.int (4 : Int32))])) (fun t k => XS.iconst X0.here hx rfl (hb hby d1_36) k) ?_
  refine Go.on (T' := s₁) (g' := (mkF m 40 #[.val (.int (4 : Int32))] [])) (fun t k => XS.icmpNo X0.here hx rfl (hb hby d1_37) rfl (teq (by decide : (4 : Int32) = (4 : Int32))).2 k) ?_
  obtain ⟨T49, X49, e49, st49⟩ := getS2 X0 hx hZ hown (host := "") (Or.inl (hw _ (List.mem_of_getElem? (i := 38) rfl))) Via.refl e0 (pin_7 hP) (g := (mkF m 40 #[.val (.int (4 : Int32))] [])) rfl (hb hby d1_40)
  refine Go.on (T' := T49) (g' := (mkF m 43 #[.val (.int (4 : Int32))] [(.ref (w 7))])) st49 ?_
  obtain ⟨fs, hr, hrun, hended, hW, hsame⟩ := X49.leave (v := some (.ref (w 7))) (fun h => by rw [Bd.returns] at h; cases h)
  exact ⟨_, _, retOut X49 hx Bd.returns rfl (Or.inr (Or.inr (Or.inr (Or.inr ⟨rfl, rfl, rfl⟩)))) (hb hby d1_43) hr, hrun, hended, _, _, rfl, ⟨rfl, N0, e49⟩, ⟨_, rfl⟩, hW, hsame.mono (by decide) (by decide)⟩
set_option maxRecDepth 65536 in
set_option maxHeartbeats 40000000 in
theorem rm2_4 (l : Launch) (Z : State) (a0 : Array Value) (hw : ∀ d ∈ tables_1, d.before a0 Z = true) (ws : List Jvm.Cond) (w : Nat → Addr) (h0 : Heap) (n0 : Nat) (Z0 : n0 ≤ h0.size) (hP : Pins Z h0 w) :
    MetFree l (⟨"com/example/anamnesis/anamnesis/rules/Type", "isNumber", "()Z"⟩ : MethodName) (head1 (Jvm.Cond.code (⟨"com/example/anamnesis/anamnesis/rules/Type", "isNumber", "()Z"⟩ : MethodName) prog_87_method_7_code 1 (some .boolean) :: ws) ({ frames := 0, cells := 0, slots := 0, locals := 0 } : Room)) (fun a U => a = #[(.ref (w 7))] ∧ Z.Warmed39 U.vm ∧ U.heap = h0) (fun _ _ _ _ _ => True) (fun _ U o U' => ∃ v L, o = .returned v ∧ Qp (some (.int (0 : Int32))) h0 n0 v U'.heap L ∧ FrameEnd U o U' L ({ frames := 0, cells := 0, slots := 0, locals := 0 } : Room).cells ({ frames := 0, cells := 0, slots := 0, locals := 0 } : Room).slots) := by
  refine MetFree.of_bodySF (plainFor_of_name pn_1) hisR ?_
  intro p e s m args below meth c s₁ Bd hml0 hP0 hK
  obtain ⟨rfl, hZ, hh⟩ := hP0
  have hx := Bd.exec
  have hby := Bd.bytes
  have hml : c.maxLocals = 1 := hml0
  have hown : s.vm.findClass "com/example/anamnesis/anamnesis/rules/Type" = some m.cls := findClass_of_methodNamed Bd.named
  have hnm := (name_of_methodNamed Bd.named Bd.method).1
  have X0 : Stand p l e ({ frames := 0, cells := 0, slots := 0, locals := 0 } : Room) s m #[(.ref (w 7))] below meth c s₁ [] 0 0 := Stand.of_body Bd
  have e0 : s₁.heap = h0 := by rw [← hh, Bd.state]; rfl
  have N0 := Fr.nil n0
  suffices hgo : Go p e below (fun o U' => ∃ v L, o = .returned v ∧ Qp (some (.int (0 : Int32))) h0 n0 v U'.heap L ∧ FrameEnd s o U' L ({ frames := 0, cells := 0, slots := 0, locals := 0 } : Room).cells ({ frames := 0, cells := 0, slots := 0, locals := 0 } : Room).slots) s₁ (mkF m 0 #[.val (.ref (w 7))] []) by
    obtain ⟨s2, o, g1, g2, g3, g4⟩ := hgo
    refine ⟨s2, o, castTop (?_ : entryFrame m #[(.ref (w 7))] 1 = _) g1, g2, g3, g4⟩
    first | (simp [entryFrame, mkF, argsToLocals, Value.category]; done) | rfl
  refine Go.on (T' := s₁) (g' := (mkF m 1 #[.val (.ref (w 7))] [(.ref (w 7))])) (fun t k => XS.aloadN X0.here hx rfl (hb hby d2_0) rfl rfl k) ?_
  obtain ⟨T53, X53, e53, st53⟩ := getS2 X0 hx hZ hown (host := "") (Or.inl (hw _ (List.mem_of_getElem? (i := 13) rfl))) Via.refl e0 (pin_1 hP) (g := (mkF m 1 #[.val (.ref (w 7))] [(.ref (w 7))])) rfl (hb hby d2_1)
  refine Go.on (T' := T53) (g' := (mkF m 4 #[.val (.ref (w 7))] [(.ref (w 1)), (.ref (w 7))])) st53 ?_
  refine Go.on (T' := T53) (g' := (mkF m 7 #[.val (.ref (w 7))] [])) (fun t k => Jvm.RoadKit.acmp (g := (mkF m 4 #[.val (.ref (w 7))] [(.ref (w 1)), (.ref (w 7))])) X53 hx rfl rfl rfl (pc0 := 4) (pc' := 7) (same := false) rfl (hb hby d2_4) rfl (decide_eq_false fun q => (own_ne (pin_31 hP) (pin_25 hP) (by decide)) (Value.ref.inj q)) (by decide) (by decide) k) ?_
  refine Go.on (T' := T53) (g' := (mkF m 8 #[.val (.ref (w 7))] [(.ref (w 7))])) (fun t k => XS.aloadN X53.here hx rfl (hb hby d2_7) rfl rfl k) ?_
  obtain ⟨T54, X54, e54, st54⟩ := getS2 X53 hx hZ hown (host := "") (Or.inl (hw _ (List.mem_of_getElem? (i := 15) rfl))) Via.refl e53 (pin_2 hP) (g := (mkF m 8 #[.val (.ref (w 7))] [(.ref (w 7))])) rfl (hb hby d2_8)
  refine Go.on (T' := T54) (g' := (mkF m 11 #[.val (.ref (w 7))] [(.ref (w 2)), (.ref (w 7))])) st54 ?_
  refine Go.on (T' := T54) (g' := (mkF m 18 #[.val (.ref (w 7))] [])) (fun t k => Jvm.RoadKit.acmp (g := (mkF m 11 #[.val (.ref (w 7))] [(.ref (w 2)), (.ref (w 7))])) X54 hx rfl rfl rfl (pc0 := 11) (pc' := 18) (same := false) rfl (hb hby d2_11) rfl (decide_eq_false fun q => (own_ne (pin_31 hP) (pin_26 hP) (by decide)) (Value.ref.inj q)) (by decide) (by decide) k) ?_
  refine Go.on (T' := T54) (g' := (mkF m 19 #[.val (.ref (w 7))] [(.int (0 : Int32))])) (fun t k => XS.iconst X54.here hx rfl (hb hby d2_18) k) ?_
  obtain ⟨fs, hr, hrun, hended, hW, hsame⟩ := X54.leave (v := some (.int (0 : Int32))) (fun h => by rw [Bd.returns] at h; cases h)
  exact ⟨_, _, retN X54 hx (t := .boolean) Bd.returns (by simp) (hb hby d2_19) hr, hrun, hended, _, _, rfl, ⟨rfl, N0, e54⟩, ⟨_, rfl⟩, hW, hsame.mono (by decide) (by decide)⟩
theorem d1_44 : decode method_2_code 44 = .ok (.iload_n 0, 1) := by decide +kernel
theorem d1_45 : decode method_2_code 45 = .ok (.iconst 5, 1) := by decide +kernel
theorem d1_46 : decode method_2_code 46 = .ok (.if_icmp .ne 7, 3) := by decide +kernel
theorem d1_49 : decode method_2_code 49 = .ok (.getstatic 25, 3) := by decide +kernel
theorem d1_52 : decode method_2_code 52 = .ok (.areturn, 1) := by decide +kernel
set_option maxRecDepth 65536 in
set_option maxHeartbeats 40000000 in
theorem rm1_5 (l : Launch) (Z : State) (a0 : Array Value) (hw : ∀ d ∈ tables_1, d.before a0 Z = true) (ws : List Jvm.Cond) (w : Nat → Addr) (h0 : Heap) (n0 : Nat) (Z0 : n0 ≤ h0.size) (hP : Pins Z h0 w) :
    MetFree l (⟨"com/example/anamnesis/anamnesis/rules/TypeIsNumberPinLaw", "pick", "(I)Lcom/example/anamnesis/anamnesis/rules/Type;"⟩ : MethodName) (head1 (Jvm.Cond.code (⟨"com/example/anamnesis/anamnesis/rules/TypeIsNumberPinLaw", "pick", "(I)Lcom/example/anamnesis/anamnesis/rules/Type;"⟩ : MethodName) method_2_code 1 (some (.object "com/example/anamnesis/anamnesis/rules/Type")) :: ws) ({ frames := 0, cells := 0, slots := 0, locals := 0 } : Room)) (fun a U => a = #[(.int (5 : Int32))] ∧ Z.Warmed39 U.vm ∧ U.heap = h0) (fun _ _ _ _ _ => True) (fun _ U o U' => ∃ v L, o = .returned v ∧ Qp (some (.ref (w 11))) h0 n0 v U'.heap L ∧ FrameEnd U o U' L ({ frames := 0, cells := 0, slots := 0, locals := 0 } : Room).cells ({ frames := 0, cells := 0, slots := 0, locals := 0 } : Room).slots) := by
  refine MetFree.of_bodySF (plainFor_of_name pn_0) hisR ?_
  intro p e s m args below meth c s₁ Bd hml0 hP0 hK
  obtain ⟨rfl, hZ, hh⟩ := hP0
  have hx := Bd.exec
  have hby := Bd.bytes
  have hml : c.maxLocals = 1 := hml0
  have hown : s.vm.findClass "com/example/anamnesis/anamnesis/rules/TypeIsNumberPinLaw" = some m.cls := findClass_of_methodNamed Bd.named
  have hnm := (name_of_methodNamed Bd.named Bd.method).1
  have X0 : Stand p l e ({ frames := 0, cells := 0, slots := 0, locals := 0 } : Room) s m #[(.int (5 : Int32))] below meth c s₁ [] 0 0 := Stand.of_body Bd
  have e0 : s₁.heap = h0 := by rw [← hh, Bd.state]; rfl
  have N0 := Fr.nil n0
  suffices hgo : Go p e below (fun o U' => ∃ v L, o = .returned v ∧ Qp (some (.ref (w 11))) h0 n0 v U'.heap L ∧ FrameEnd s o U' L ({ frames := 0, cells := 0, slots := 0, locals := 0 } : Room).cells ({ frames := 0, cells := 0, slots := 0, locals := 0 } : Room).slots) s₁ (mkF m 0 #[.val (.int (5 : Int32))] []) by
    obtain ⟨s2, o, g1, g2, g3, g4⟩ := hgo
    refine ⟨s2, o, castTop (?_ : entryFrame m #[(.int (5 : Int32))] 1 = _) g1, g2, g3, g4⟩
    first | (simp [entryFrame, mkF, argsToLocals, Value.category]; done) | rfl
  refine Go.on (T' := s₁) (g' := (mkF m 1 #[.val (.int (5 : Int32))] [(.int (5 : Int32))])) (fun t k => XS.iloadN X0.here hx rfl (hb hby d1_0) rfl k) ?_
  refine Go.on (T' := s₁) (g' := (mkF m 8 #[.val (.int (5 : Int32))] [])) (fun t k => XS.ifYes X0.here hx rfl (pc0 := 1) (pc' := 8) rfl (hb hby d1_1) rfl ((if0 _ _).trans (feq (by decide : ¬ ((5 : Int32) = (0 : Int32)))).2) (by decide) (by decide) k) ?_
  refine Go.on (T' := s₁) (g' := (mkF m 9 #[.val (.int (5 : Int32))] [(.int (5 : Int32))])) (fun t k => XS.iloadN X0.here hx rfl (hb hby d1_8) rfl k) ?_
  refine Go.on (T' := s₁) (g' := (mkF m 10 #[.val (.int (5 : Int32))] [(.int (1 : Int32)), (.int (5 : Int32))])) (fun t k => XS.iconst X0.here hx rfl (hb hby d1_9) k) ?_
  refine Go.on (T' := s₁) (g' := (mkF m 17 #[.val (.int (5 : Int32))] [])) (fun t k => XS.icmpYes X0.here hx rfl (pc0 := 10) (pc' := 17) rfl (hb hby d1_10) rfl (feq (by decide : ¬ ((5 : Int32) = (1 : Int32)))).2 (by decide) (by decide) k) ?_
  refine Go.on (T' := s₁) (g' := (mkF m 18 #[.val (.int (5 : Int32))] [(.int (5 : Int32))])) (fun t k => XS.iloadN X0.here hx rfl (hb hby d1_17) rfl k) ?_
  refine Go.on (T' := s₁) (g' := (mkF m 19 #[.val (.int (5 : Int32))] [(.int (2 : Int32)), (.int (5 : Int32))])) (fun t k => XS.iconst X0.here hx rfl (hb hby d1_18) k) ?_
  refine Go.on (T' := s₁) (g' := (mkF m 26 #[.val (.int (5 : Int32))] [])) (fun t k => XS.icmpYes X0.here hx rfl (pc0 := 19) (pc' := 26) rfl (hb hby d1_19) rfl (feq (by decide : ¬ ((5 : Int32) = (2 : Int32)))).2 (by decide) (by decide) k) ?_
  refine Go.on (T' := s₁) (g' := (mkF m 27 #[.val (.int (5 : Int32))] [(.int (5 : Int32))])) (fun t k => XS.iloadN X0.here hx rfl (hb hby d1_26) rfl k) ?_
  refine Go.on (T' := s₁) (g' := (mkF m 28 #[.val (.int (5 : Int32))] [(.int (3 : Int32)), (.int (5 : Int32))])) (fun t k => XS.iconst X0.here hx rfl (hb hby d1_27) k) ?_
  refine Go.on (T' := s₁) (g' := (mkF m 35 #[.val (.int (5 : Int32))] [])) (fun t k => XS.icmpYes X0.here hx rfl (pc0 := 28) (pc' := 35) rfl (hb hby d1_28) rfl (feq (by decide : ¬ ((5 : Int32) = (3 : Int32)))).2 (by decide) (by decide) k) ?_
  refine Go.on (T' := s₁) (g' := (mkF m 36 #[.val (.int (5 : Int32))] [(.int (5 : Int32))])) (fun t k => XS.iloadN X0.here hx rfl (hb hby d1_35) rfl k) ?_
  refine Go.on (T' := s₁) (g' := (mkF m 37 #[.val (.int (5 : Int32))] [(.int (4 : Int32)), (.int (5 : Int32))])) (fun t k => XS.iconst X0.here hx rfl (hb hby d1_36) k) ?_
  refine Go.on (T' := s₁) (g' := (mkF m 44 #[.val (.int (5 : Int32))] [])) (fun t k => XS.icmpYes X0.here hx rfl (pc0 := 37) (pc' := 44) rfl (hb hby d1_37) rfl (feq (by decide : ¬ ((5 : Int32) = (4 : Int32)))).2 (by decide) (by decide) k) ?_
  refine Go.on (T' := s₁) (g' := (mkF m 45 #[.val (.int (5 : Int32))] [(.int (5 : Int32))])) (fun t k => XS.iloadN X0.here hx rfl (hb hby d1_44) rfl k) ?_
  refine Go.on (T' := s₁) (g' := (mkF m 46 #[.val (.int (5 : Int32))] [(.int (5 : Int32)), (.int (5 : Int32))])) (fun t k => XS.iconst X0.here hx rfl (hb hby d1_45) k) ?_
  refine Go.on (T' := s₁) (g' := (mkF m 49 #[.val (.int (5 : Int32))] [])) (fun t k => XS.icmpNo X0.here hx rfl (hb hby d1_46) rfl (teq (by decide : (5 : Int32) = (5 : Int32))).2 k) ?_
  obtain ⟨T57, X57, e57, st57⟩ := getS2 X0 hx hZ hown (host := "") (Or.inl (hw _ (List.mem_of_getElem? (i := 48) rfl))) Via.refl e0 (pin_11 hP) (g := (mkF m 49 #[.val (.int (5 : Int32))] [])) rfl (hb hby d1_49)
  refine Go.on (T' := T57) (g' := (mkF m 52 #[.val (.int (5 : Int32))] [(.ref (w 11))])) st57 ?_
  obtain ⟨fs, hr, hrun, hended, hW, hsame⟩ := X57.leave (v := some (.ref (w 11))) (fun h => by rw [Bd.returns] at h; cases h)
  exact ⟨_, _, retOut X57 hx Bd.returns rfl (Or.inr (Or.inr (Or.inr (Or.inr ⟨rfl, rfl, rfl⟩)))) (hb hby d1_52) hr, hrun, hended, _, _, rfl, ⟨rfl, N0, e57⟩, ⟨_, rfl⟩, hW, hsame.mono (by decide) (by decide)⟩
set_option maxRecDepth 65536 in
set_option maxHeartbeats 40000000 in
theorem rm2_5 (l : Launch) (Z : State) (a0 : Array Value) (hw : ∀ d ∈ tables_1, d.before a0 Z = true) (ws : List Jvm.Cond) (w : Nat → Addr) (h0 : Heap) (n0 : Nat) (Z0 : n0 ≤ h0.size) (hP : Pins Z h0 w) :
    MetFree l (⟨"com/example/anamnesis/anamnesis/rules/Type", "isNumber", "()Z"⟩ : MethodName) (head1 (Jvm.Cond.code (⟨"com/example/anamnesis/anamnesis/rules/Type", "isNumber", "()Z"⟩ : MethodName) prog_87_method_7_code 1 (some .boolean) :: ws) ({ frames := 0, cells := 0, slots := 0, locals := 0 } : Room)) (fun a U => a = #[(.ref (w 11))] ∧ Z.Warmed39 U.vm ∧ U.heap = h0) (fun _ _ _ _ _ => True) (fun _ U o U' => ∃ v L, o = .returned v ∧ Qp (some (.int (0 : Int32))) h0 n0 v U'.heap L ∧ FrameEnd U o U' L ({ frames := 0, cells := 0, slots := 0, locals := 0 } : Room).cells ({ frames := 0, cells := 0, slots := 0, locals := 0 } : Room).slots) := by
  refine MetFree.of_bodySF (plainFor_of_name pn_1) hisR ?_
  intro p e s m args below meth c s₁ Bd hml0 hP0 hK
  obtain ⟨rfl, hZ, hh⟩ := hP0
  have hx := Bd.exec
  have hby := Bd.bytes
  have hml : c.maxLocals = 1 := hml0
  have hown : s.vm.findClass "com/example/anamnesis/anamnesis/rules/Type" = some m.cls := findClass_of_methodNamed Bd.named
  have hnm := (name_of_methodNamed Bd.named Bd.method).1
  have X0 : Stand p l e ({ frames := 0, cells := 0, slots := 0, locals := 0 } : Room) s m #[(.ref (w 11))] below meth c s₁ [] 0 0 := Stand.of_body Bd
  have e0 : s₁.heap = h0 := by rw [← hh, Bd.state]; rfl
  have N0 := Fr.nil n0
  suffices hgo : Go p e below (fun o U' => ∃ v L, o = .returned v ∧ Qp (some (.int (0 : Int32))) h0 n0 v U'.heap L ∧ FrameEnd s o U' L ({ frames := 0, cells := 0, slots := 0, locals := 0 } : Room).cells ({ frames := 0, cells := 0, slots := 0, locals := 0 } : Room).slots) s₁ (mkF m 0 #[.val (.ref (w 11))] []) by
    obtain ⟨s2, o, g1, g2, g3, g4⟩ := hgo
    refine ⟨s2, o, castTop (?_ : entryFrame m #[(.ref (w 11))] 1 = _) g1, g2, g3, g4⟩
    first | (simp [entryFrame, mkF, argsToLocals, Value.category]; done) | rfl
  refine Go.on (T' := s₁) (g' := (mkF m 1 #[.val (.ref (w 11))] [(.ref (w 11))])) (fun t k => XS.aloadN X0.here hx rfl (hb hby d2_0) rfl rfl k) ?_
  obtain ⟨T61, X61, e61, st61⟩ := getS2 X0 hx hZ hown (host := "") (Or.inl (hw _ (List.mem_of_getElem? (i := 13) rfl))) Via.refl e0 (pin_1 hP) (g := (mkF m 1 #[.val (.ref (w 11))] [(.ref (w 11))])) rfl (hb hby d2_1)
  refine Go.on (T' := T61) (g' := (mkF m 4 #[.val (.ref (w 11))] [(.ref (w 1)), (.ref (w 11))])) st61 ?_
  refine Go.on (T' := T61) (g' := (mkF m 7 #[.val (.ref (w 11))] [])) (fun t k => Jvm.RoadKit.acmp (g := (mkF m 4 #[.val (.ref (w 11))] [(.ref (w 1)), (.ref (w 11))])) X61 hx rfl rfl rfl (pc0 := 4) (pc' := 7) (same := false) rfl (hb hby d2_4) rfl (decide_eq_false fun q => (own_ne (pin_35 hP) (pin_25 hP) (by decide)) (Value.ref.inj q)) (by decide) (by decide) k) ?_
  refine Go.on (T' := T61) (g' := (mkF m 8 #[.val (.ref (w 11))] [(.ref (w 11))])) (fun t k => XS.aloadN X61.here hx rfl (hb hby d2_7) rfl rfl k) ?_
  obtain ⟨T62, X62, e62, st62⟩ := getS2 X61 hx hZ hown (host := "") (Or.inl (hw _ (List.mem_of_getElem? (i := 15) rfl))) Via.refl e61 (pin_2 hP) (g := (mkF m 8 #[.val (.ref (w 11))] [(.ref (w 11))])) rfl (hb hby d2_8)
  refine Go.on (T' := T62) (g' := (mkF m 11 #[.val (.ref (w 11))] [(.ref (w 2)), (.ref (w 11))])) st62 ?_
  refine Go.on (T' := T62) (g' := (mkF m 18 #[.val (.ref (w 11))] [])) (fun t k => Jvm.RoadKit.acmp (g := (mkF m 11 #[.val (.ref (w 11))] [(.ref (w 2)), (.ref (w 11))])) X62 hx rfl rfl rfl (pc0 := 11) (pc' := 18) (same := false) rfl (hb hby d2_11) rfl (decide_eq_false fun q => (own_ne (pin_35 hP) (pin_26 hP) (by decide)) (Value.ref.inj q)) (by decide) (by decide) k) ?_
  refine Go.on (T' := T62) (g' := (mkF m 19 #[.val (.ref (w 11))] [(.int (0 : Int32))])) (fun t k => XS.iconst X62.here hx rfl (hb hby d2_18) k) ?_
  obtain ⟨fs, hr, hrun, hended, hW, hsame⟩ := X62.leave (v := some (.int (0 : Int32))) (fun h => by rw [Bd.returns] at h; cases h)
  exact ⟨_, _, retN X62 hx (t := .boolean) Bd.returns (by simp) (hb hby d2_19) hr, hrun, hended, _, _, rfl, ⟨rfl, N0, e62⟩, ⟨_, rfl⟩, hW, hsame.mono (by decide) (by decide)⟩
theorem d1_53 : decode method_2_code 53 = .ok (.iload_n 0, 1) := by decide +kernel
theorem d1_54 : decode method_2_code 54 = .ok (.bipush 6, 2) := by decide +kernel
theorem d1_56 : decode method_2_code 56 = .ok (.if_icmp .ne 7, 3) := by decide +kernel
theorem d1_59 : decode method_2_code 59 = .ok (.getstatic 28, 3) := by decide +kernel
theorem d1_62 : decode method_2_code 62 = .ok (.areturn, 1) := by decide +kernel
set_option maxRecDepth 65536 in
set_option maxHeartbeats 40000000 in
theorem rm1_6 (l : Launch) (Z : State) (a0 : Array Value) (hw : ∀ d ∈ tables_1, d.before a0 Z = true) (ws : List Jvm.Cond) (w : Nat → Addr) (h0 : Heap) (n0 : Nat) (Z0 : n0 ≤ h0.size) (hP : Pins Z h0 w) :
    MetFree l (⟨"com/example/anamnesis/anamnesis/rules/TypeIsNumberPinLaw", "pick", "(I)Lcom/example/anamnesis/anamnesis/rules/Type;"⟩ : MethodName) (head1 (Jvm.Cond.code (⟨"com/example/anamnesis/anamnesis/rules/TypeIsNumberPinLaw", "pick", "(I)Lcom/example/anamnesis/anamnesis/rules/Type;"⟩ : MethodName) method_2_code 1 (some (.object "com/example/anamnesis/anamnesis/rules/Type")) :: ws) ({ frames := 0, cells := 0, slots := 0, locals := 0 } : Room)) (fun a U => a = #[(.int (6 : Int32))] ∧ Z.Warmed39 U.vm ∧ U.heap = h0) (fun _ _ _ _ _ => True) (fun _ U o U' => ∃ v L, o = .returned v ∧ Qp (some (.ref (w 10))) h0 n0 v U'.heap L ∧ FrameEnd U o U' L ({ frames := 0, cells := 0, slots := 0, locals := 0 } : Room).cells ({ frames := 0, cells := 0, slots := 0, locals := 0 } : Room).slots) := by
  refine MetFree.of_bodySF (plainFor_of_name pn_0) hisR ?_
  intro p e s m args below meth c s₁ Bd hml0 hP0 hK
  obtain ⟨rfl, hZ, hh⟩ := hP0
  have hx := Bd.exec
  have hby := Bd.bytes
  have hml : c.maxLocals = 1 := hml0
  have hown : s.vm.findClass "com/example/anamnesis/anamnesis/rules/TypeIsNumberPinLaw" = some m.cls := findClass_of_methodNamed Bd.named
  have hnm := (name_of_methodNamed Bd.named Bd.method).1
  have X0 : Stand p l e ({ frames := 0, cells := 0, slots := 0, locals := 0 } : Room) s m #[(.int (6 : Int32))] below meth c s₁ [] 0 0 := Stand.of_body Bd
  have e0 : s₁.heap = h0 := by rw [← hh, Bd.state]; rfl
  have N0 := Fr.nil n0
  suffices hgo : Go p e below (fun o U' => ∃ v L, o = .returned v ∧ Qp (some (.ref (w 10))) h0 n0 v U'.heap L ∧ FrameEnd s o U' L ({ frames := 0, cells := 0, slots := 0, locals := 0 } : Room).cells ({ frames := 0, cells := 0, slots := 0, locals := 0 } : Room).slots) s₁ (mkF m 0 #[.val (.int (6 : Int32))] []) by
    obtain ⟨s2, o, g1, g2, g3, g4⟩ := hgo
    refine ⟨s2, o, castTop (?_ : entryFrame m #[(.int (6 : Int32))] 1 = _) g1, g2, g3, g4⟩
    first | (simp [entryFrame, mkF, argsToLocals, Value.category]; done) | rfl
  refine Go.on (T' := s₁) (g' := (mkF m 1 #[.val (.int (6 : Int32))] [(.int (6 : Int32))])) (fun t k => XS.iloadN X0.here hx rfl (hb hby d1_0) rfl k) ?_
  refine Go.on (T' := s₁) (g' := (mkF m 8 #[.val (.int (6 : Int32))] [])) (fun t k => XS.ifYes X0.here hx rfl (pc0 := 1) (pc' := 8) rfl (hb hby d1_1) rfl ((if0 _ _).trans (feq (by decide : ¬ ((6 : Int32) = (0 : Int32)))).2) (by decide) (by decide) k) ?_
  refine Go.on (T' := s₁) (g' := (mkF m 9 #[.val (.int (6 : Int32))] [(.int (6 : Int32))])) (fun t k => XS.iloadN X0.here hx rfl (hb hby d1_8) rfl k) ?_
  refine Go.on (T' := s₁) (g' := (mkF m 10 #[.val (.int (6 : Int32))] [(.int (1 : Int32)), (.int (6 : Int32))])) (fun t k => XS.iconst X0.here hx rfl (hb hby d1_9) k) ?_
  refine Go.on (T' := s₁) (g' := (mkF m 17 #[.val (.int (6 : Int32))] [])) (fun t k => XS.icmpYes X0.here hx rfl (pc0 := 10) (pc' := 17) rfl (hb hby d1_10) rfl (feq (by decide : ¬ ((6 : Int32) = (1 : Int32)))).2 (by decide) (by decide) k) ?_
  refine Go.on (T' := s₁) (g' := (mkF m 18 #[.val (.int (6 : Int32))] [(.int (6 : Int32))])) (fun t k => XS.iloadN X0.here hx rfl (hb hby d1_17) rfl k) ?_
  refine Go.on (T' := s₁) (g' := (mkF m 19 #[.val (.int (6 : Int32))] [(.int (2 : Int32)), (.int (6 : Int32))])) (fun t k => XS.iconst X0.here hx rfl (hb hby d1_18) k) ?_
  refine Go.on (T' := s₁) (g' := (mkF m 26 #[.val (.int (6 : Int32))] [])) (fun t k => XS.icmpYes X0.here hx rfl (pc0 := 19) (pc' := 26) rfl (hb hby d1_19) rfl (feq (by decide : ¬ ((6 : Int32) = (2 : Int32)))).2 (by decide) (by decide) k) ?_
  refine Go.on (T' := s₁) (g' := (mkF m 27 #[.val (.int (6 : Int32))] [(.int (6 : Int32))])) (fun t k => XS.iloadN X0.here hx rfl (hb hby d1_26) rfl k) ?_
  refine Go.on (T' := s₁) (g' := (mkF m 28 #[.val (.int (6 : Int32))] [(.int (3 : Int32)), (.int (6 : Int32))])) (fun t k => XS.iconst X0.here hx rfl (hb hby d1_27) k) ?_
  refine Go.on (T' := s₁) (g' := (mkF m 35 #[.val (.int (6 : Int32))] [])) (fun t k => XS.icmpYes X0.here hx rfl (pc0 := 28) (pc' := 35) rfl (hb hby d1_28) rfl (feq (by decide : ¬ ((6 : Int32) = (3 : Int32)))).2 (by decide) (by decide) k) ?_
  refine Go.on (T' := s₁) (g' := (mkF m 36 #[.val (.int (6 : Int32))] [(.int (6 : Int32))])) (fun t k => XS.iloadN X0.here hx rfl (hb hby d1_35) rfl k) ?_
  refine Go.on (T' := s₁) (g' := (mkF m 37 #[.val (.int (6 : Int32))] [(.int (4 : Int32)), (.int (6 : Int32))])) (fun t k => XS.iconst X0.here hx rfl (hb hby d1_36) k) ?_
  refine Go.on (T' := s₁) (g' := (mkF m 44 #[.val (.int (6 : Int32))] [])) (fun t k => XS.icmpYes X0.here hx rfl (pc0 := 37) (pc' := 44) rfl (hb hby d1_37) rfl (feq (by decide : ¬ ((6 : Int32) = (4 : Int32)))).2 (by decide) (by decide) k) ?_
  refine Go.on (T' := s₁) (g' := (mkF m 45 #[.val (.int (6 : Int32))] [(.int (6 : Int32))])) (fun t k => XS.iloadN X0.here hx rfl (hb hby d1_44) rfl k) ?_
  refine Go.on (T' := s₁) (g' := (mkF m 46 #[.val (.int (6 : Int32))] [(.int (5 : Int32)), (.int (6 : Int32))])) (fun t k => XS.iconst X0.here hx rfl (hb hby d1_45) k) ?_
  refine Go.on (T' := s₁) (g' := (mkF m 53 #[.val (.int (6 : Int32))] [])) (fun t k => XS.icmpYes X0.here hx rfl (pc0 := 46) (pc' := 53) rfl (hb hby d1_46) rfl (feq (by decide : ¬ ((6 : Int32) = (5 : Int32)))).2 (by decide) (by decide) k) ?_
  refine Go.on (T' := s₁) (g' := (mkF m 54 #[.val (.int (6 : Int32))] [(.int (6 : Int32))])) (fun t k => XS.iloadN X0.here hx rfl (hb hby d1_53) rfl k) ?_
  refine Go.on (T' := s₁) (g' := (mkF m 56 #[.val (.int (6 : Int32))] [(.int (6 : Int32)), (.int (6 : Int32))])) (fun t k => XS.bipush X0.here hx rfl (hb hby d1_54) k) ?_
  refine Go.on (T' := s₁) (g' := (mkF m 59 #[.val (.int (6 : Int32))] [])) (fun t k => XS.icmpNo X0.here hx rfl (hb hby d1_56) rfl (teq (by decide : (6 : Int32) = (6 : Int32))).2 k) ?_
  obtain ⟨T65, X65, e65, st65⟩ := getS2 X0 hx hZ hown (host := "") (Or.inl (hw _ (List.mem_of_getElem? (i := 46) rfl))) Via.refl e0 (pin_10 hP) (g := (mkF m 59 #[.val (.int (6 : Int32))] [])) rfl (hb hby d1_59)
  refine Go.on (T' := T65) (g' := (mkF m 62 #[.val (.int (6 : Int32))] [(.ref (w 10))])) st65 ?_
  obtain ⟨fs, hr, hrun, hended, hW, hsame⟩ := X65.leave (v := some (.ref (w 10))) (fun h => by rw [Bd.returns] at h; cases h)
  exact ⟨_, _, retOut X65 hx Bd.returns rfl (Or.inr (Or.inr (Or.inr (Or.inr ⟨rfl, rfl, rfl⟩)))) (hb hby d1_62) hr, hrun, hended, _, _, rfl, ⟨rfl, N0, e65⟩, ⟨_, rfl⟩, hW, hsame.mono (by decide) (by decide)⟩
set_option maxRecDepth 65536 in
set_option maxHeartbeats 40000000 in
theorem rm2_6 (l : Launch) (Z : State) (a0 : Array Value) (hw : ∀ d ∈ tables_1, d.before a0 Z = true) (ws : List Jvm.Cond) (w : Nat → Addr) (h0 : Heap) (n0 : Nat) (Z0 : n0 ≤ h0.size) (hP : Pins Z h0 w) :
    MetFree l (⟨"com/example/anamnesis/anamnesis/rules/Type", "isNumber", "()Z"⟩ : MethodName) (head1 (Jvm.Cond.code (⟨"com/example/anamnesis/anamnesis/rules/Type", "isNumber", "()Z"⟩ : MethodName) prog_87_method_7_code 1 (some .boolean) :: ws) ({ frames := 0, cells := 0, slots := 0, locals := 0 } : Room)) (fun a U => a = #[(.ref (w 10))] ∧ Z.Warmed39 U.vm ∧ U.heap = h0) (fun _ _ _ _ _ => True) (fun _ U o U' => ∃ v L, o = .returned v ∧ Qp (some (.int (0 : Int32))) h0 n0 v U'.heap L ∧ FrameEnd U o U' L ({ frames := 0, cells := 0, slots := 0, locals := 0 } : Room).cells ({ frames := 0, cells := 0, slots := 0, locals := 0 } : Room).slots) := by
  refine MetFree.of_bodySF (plainFor_of_name pn_1) hisR ?_
  intro p e s m args below meth c s₁ Bd hml0 hP0 hK
  obtain ⟨rfl, hZ, hh⟩ := hP0
  have hx := Bd.exec
  have hby := Bd.bytes
  have hml : c.maxLocals = 1 := hml0
  have hown : s.vm.findClass "com/example/anamnesis/anamnesis/rules/Type" = some m.cls := findClass_of_methodNamed Bd.named
  have hnm := (name_of_methodNamed Bd.named Bd.method).1
  have X0 : Stand p l e ({ frames := 0, cells := 0, slots := 0, locals := 0 } : Room) s m #[(.ref (w 10))] below meth c s₁ [] 0 0 := Stand.of_body Bd
  have e0 : s₁.heap = h0 := by rw [← hh, Bd.state]; rfl
  have N0 := Fr.nil n0
  suffices hgo : Go p e below (fun o U' => ∃ v L, o = .returned v ∧ Qp (some (.int (0 : Int32))) h0 n0 v U'.heap L ∧ FrameEnd s o U' L ({ frames := 0, cells := 0, slots := 0, locals := 0 } : Room).cells ({ frames := 0, cells := 0, slots := 0, locals := 0 } : Room).slots) s₁ (mkF m 0 #[.val (.ref (w 10))] []) by
    obtain ⟨s2, o, g1, g2, g3, g4⟩ := hgo
    refine ⟨s2, o, castTop (?_ : entryFrame m #[(.ref (w 10))] 1 = _) g1, g2, g3, g4⟩
    first | (simp [entryFrame, mkF, argsToLocals, Value.category]; done) | rfl
  refine Go.on (T' := s₁) (g' := (mkF m 1 #[.val (.ref (w 10))] [(.ref (w 10))])) (fun t k => XS.aloadN X0.here hx rfl (hb hby d2_0) rfl rfl k) ?_
  obtain ⟨T69, X69, e69, st69⟩ := getS2 X0 hx hZ hown (host := "") (Or.inl (hw _ (List.mem_of_getElem? (i := 13) rfl))) Via.refl e0 (pin_1 hP) (g := (mkF m 1 #[.val (.ref (w 10))] [(.ref (w 10))])) rfl (hb hby d2_1)
  refine Go.on (T' := T69) (g' := (mkF m 4 #[.val (.ref (w 10))] [(.ref (w 1)), (.ref (w 10))])) st69 ?_
  refine Go.on (T' := T69) (g' := (mkF m 7 #[.val (.ref (w 10))] [])) (fun t k => Jvm.RoadKit.acmp (g := (mkF m 4 #[.val (.ref (w 10))] [(.ref (w 1)), (.ref (w 10))])) X69 hx rfl rfl rfl (pc0 := 4) (pc' := 7) (same := false) rfl (hb hby d2_4) rfl (decide_eq_false fun q => (own_ne (pin_34 hP) (pin_25 hP) (by decide)) (Value.ref.inj q)) (by decide) (by decide) k) ?_
  refine Go.on (T' := T69) (g' := (mkF m 8 #[.val (.ref (w 10))] [(.ref (w 10))])) (fun t k => XS.aloadN X69.here hx rfl (hb hby d2_7) rfl rfl k) ?_
  obtain ⟨T70, X70, e70, st70⟩ := getS2 X69 hx hZ hown (host := "") (Or.inl (hw _ (List.mem_of_getElem? (i := 15) rfl))) Via.refl e69 (pin_2 hP) (g := (mkF m 8 #[.val (.ref (w 10))] [(.ref (w 10))])) rfl (hb hby d2_8)
  refine Go.on (T' := T70) (g' := (mkF m 11 #[.val (.ref (w 10))] [(.ref (w 2)), (.ref (w 10))])) st70 ?_
  refine Go.on (T' := T70) (g' := (mkF m 18 #[.val (.ref (w 10))] [])) (fun t k => Jvm.RoadKit.acmp (g := (mkF m 11 #[.val (.ref (w 10))] [(.ref (w 2)), (.ref (w 10))])) X70 hx rfl rfl rfl (pc0 := 11) (pc' := 18) (same := false) rfl (hb hby d2_11) rfl (decide_eq_false fun q => (own_ne (pin_34 hP) (pin_26 hP) (by decide)) (Value.ref.inj q)) (by decide) (by decide) k) ?_
  refine Go.on (T' := T70) (g' := (mkF m 19 #[.val (.ref (w 10))] [(.int (0 : Int32))])) (fun t k => XS.iconst X70.here hx rfl (hb hby d2_18) k) ?_
  obtain ⟨fs, hr, hrun, hended, hW, hsame⟩ := X70.leave (v := some (.int (0 : Int32))) (fun h => by rw [Bd.returns] at h; cases h)
  exact ⟨_, _, retN X70 hx (t := .boolean) Bd.returns (by simp) (hb hby d2_19) hr, hrun, hended, _, _, rfl, ⟨rfl, N0, e70⟩, ⟨_, rfl⟩, hW, hsame.mono (by decide) (by decide)⟩
theorem d1_63 : decode method_2_code 63 = .ok (.iload_n 0, 1) := by decide +kernel
theorem d1_64 : decode method_2_code 64 = .ok (.bipush 7, 2) := by decide +kernel
theorem d1_66 : decode method_2_code 66 = .ok (.if_icmp .ne 7, 3) := by decide +kernel
theorem d1_69 : decode method_2_code 69 = .ok (.getstatic 31, 3) := by decide +kernel
theorem d1_72 : decode method_2_code 72 = .ok (.areturn, 1) := by decide +kernel
set_option maxRecDepth 65536 in
set_option maxHeartbeats 40000000 in
theorem rm1_7 (l : Launch) (Z : State) (a0 : Array Value) (hw : ∀ d ∈ tables_1, d.before a0 Z = true) (ws : List Jvm.Cond) (w : Nat → Addr) (h0 : Heap) (n0 : Nat) (Z0 : n0 ≤ h0.size) (hP : Pins Z h0 w) :
    MetFree l (⟨"com/example/anamnesis/anamnesis/rules/TypeIsNumberPinLaw", "pick", "(I)Lcom/example/anamnesis/anamnesis/rules/Type;"⟩ : MethodName) (head1 (Jvm.Cond.code (⟨"com/example/anamnesis/anamnesis/rules/TypeIsNumberPinLaw", "pick", "(I)Lcom/example/anamnesis/anamnesis/rules/Type;"⟩ : MethodName) method_2_code 1 (some (.object "com/example/anamnesis/anamnesis/rules/Type")) :: ws) ({ frames := 0, cells := 0, slots := 0, locals := 0 } : Room)) (fun a U => a = #[(.int (7 : Int32))] ∧ Z.Warmed39 U.vm ∧ U.heap = h0) (fun _ _ _ _ _ => True) (fun _ U o U' => ∃ v L, o = .returned v ∧ Qp (some (.ref (w 6))) h0 n0 v U'.heap L ∧ FrameEnd U o U' L ({ frames := 0, cells := 0, slots := 0, locals := 0 } : Room).cells ({ frames := 0, cells := 0, slots := 0, locals := 0 } : Room).slots) := by
  refine MetFree.of_bodySF (plainFor_of_name pn_0) hisR ?_
  intro p e s m args below meth c s₁ Bd hml0 hP0 hK
  obtain ⟨rfl, hZ, hh⟩ := hP0
  have hx := Bd.exec
  have hby := Bd.bytes
  have hml : c.maxLocals = 1 := hml0
  have hown : s.vm.findClass "com/example/anamnesis/anamnesis/rules/TypeIsNumberPinLaw" = some m.cls := findClass_of_methodNamed Bd.named
  have hnm := (name_of_methodNamed Bd.named Bd.method).1
  have X0 : Stand p l e ({ frames := 0, cells := 0, slots := 0, locals := 0 } : Room) s m #[(.int (7 : Int32))] below meth c s₁ [] 0 0 := Stand.of_body Bd
  have e0 : s₁.heap = h0 := by rw [← hh, Bd.state]; rfl
  have N0 := Fr.nil n0
  suffices hgo : Go p e below (fun o U' => ∃ v L, o = .returned v ∧ Qp (some (.ref (w 6))) h0 n0 v U'.heap L ∧ FrameEnd s o U' L ({ frames := 0, cells := 0, slots := 0, locals := 0 } : Room).cells ({ frames := 0, cells := 0, slots := 0, locals := 0 } : Room).slots) s₁ (mkF m 0 #[.val (.int (7 : Int32))] []) by
    obtain ⟨s2, o, g1, g2, g3, g4⟩ := hgo
    refine ⟨s2, o, castTop (?_ : entryFrame m #[(.int (7 : Int32))] 1 = _) g1, g2, g3, g4⟩
    first | (simp [entryFrame, mkF, argsToLocals, Value.category]; done) | rfl
  refine Go.on (T' := s₁) (g' := (mkF m 1 #[.val (.int (7 : Int32))] [(.int (7 : Int32))])) (fun t k => XS.iloadN X0.here hx rfl (hb hby d1_0) rfl k) ?_
  refine Go.on (T' := s₁) (g' := (mkF m 8 #[.val (.int (7 : Int32))] [])) (fun t k => XS.ifYes X0.here hx rfl (pc0 := 1) (pc' := 8) rfl (hb hby d1_1) rfl ((if0 _ _).trans (feq (by decide : ¬ ((7 : Int32) = (0 : Int32)))).2) (by decide) (by decide) k) ?_
  refine Go.on (T' := s₁) (g' := (mkF m 9 #[.val (.int (7 : Int32))] [(.int (7 : Int32))])) (fun t k => XS.iloadN X0.here hx rfl (hb hby d1_8) rfl k) ?_
  refine Go.on (T' := s₁) (g' := (mkF m 10 #[.val (.int (7 : Int32))] [(.int (1 : Int32)), (.int (7 : Int32))])) (fun t k => XS.iconst X0.here hx rfl (hb hby d1_9) k) ?_
  refine Go.on (T' := s₁) (g' := (mkF m 17 #[.val (.int (7 : Int32))] [])) (fun t k => XS.icmpYes X0.here hx rfl (pc0 := 10) (pc' := 17) rfl (hb hby d1_10) rfl (feq (by decide : ¬ ((7 : Int32) = (1 : Int32)))).2 (by decide) (by decide) k) ?_
  refine Go.on (T' := s₁) (g' := (mkF m 18 #[.val (.int (7 : Int32))] [(.int (7 : Int32))])) (fun t k => XS.iloadN X0.here hx rfl (hb hby d1_17) rfl k) ?_
  refine Go.on (T' := s₁) (g' := (mkF m 19 #[.val (.int (7 : Int32))] [(.int (2 : Int32)), (.int (7 : Int32))])) (fun t k => XS.iconst X0.here hx rfl (hb hby d1_18) k) ?_
  refine Go.on (T' := s₁) (g' := (mkF m 26 #[.val (.int (7 : Int32))] [])) (fun t k => XS.icmpYes X0.here hx rfl (pc0 := 19) (pc' := 26) rfl (hb hby d1_19) rfl (feq (by decide : ¬ ((7 : Int32) = (2 : Int32)))).2 (by decide) (by decide) k) ?_
  refine Go.on (T' := s₁) (g' := (mkF m 27 #[.val (.int (7 : Int32))] [(.int (7 : Int32))])) (fun t k => XS.iloadN X0.here hx rfl (hb hby d1_26) rfl k) ?_
  refine Go.on (T' := s₁) (g' := (mkF m 28 #[.val (.int (7 : Int32))] [(.int (3 : Int32)), (.int (7 : Int32))])) (fun t k => XS.iconst X0.here hx rfl (hb hby d1_27) k) ?_
  refine Go.on (T' := s₁) (g' := (mkF m 35 #[.val (.int (7 : Int32))] [])) (fun t k => XS.icmpYes X0.here hx rfl (pc0 := 28) (pc' := 35) rfl (hb hby d1_28) rfl (feq (by decide : ¬ ((7 : Int32) = (3 : Int32)))).2 (by decide) (by decide) k) ?_
  refine Go.on (T' := s₁) (g' := (mkF m 36 #[.val (.int (7 : Int32))] [(.int (7 : Int32))])) (fun t k => XS.iloadN X0.here hx rfl (hb hby d1_35) rfl k) ?_
  refine Go.on (T' := s₁) (g' := (mkF m 37 #[.val (.int (7 : Int32))] [(.int (4 : Int32)), (.int (7 : Int32))])) (fun t k => XS.iconst X0.here hx rfl (hb hby d1_36) k) ?_
  refine Go.on (T' := s₁) (g' := (mkF m 44 #[.val (.int (7 : Int32))] [])) (fun t k => XS.icmpYes X0.here hx rfl (pc0 := 37) (pc' := 44) rfl (hb hby d1_37) rfl (feq (by decide : ¬ ((7 : Int32) = (4 : Int32)))).2 (by decide) (by decide) k) ?_
  refine Go.on (T' := s₁) (g' := (mkF m 45 #[.val (.int (7 : Int32))] [(.int (7 : Int32))])) (fun t k => XS.iloadN X0.here hx rfl (hb hby d1_44) rfl k) ?_
  refine Go.on (T' := s₁) (g' := (mkF m 46 #[.val (.int (7 : Int32))] [(.int (5 : Int32)), (.int (7 : Int32))])) (fun t k => XS.iconst X0.here hx rfl (hb hby d1_45) k) ?_
  refine Go.on (T' := s₁) (g' := (mkF m 53 #[.val (.int (7 : Int32))] [])) (fun t k => XS.icmpYes X0.here hx rfl (pc0 := 46) (pc' := 53) rfl (hb hby d1_46) rfl (feq (by decide : ¬ ((7 : Int32) = (5 : Int32)))).2 (by decide) (by decide) k) ?_
  refine Go.on (T' := s₁) (g' := (mkF m 54 #[.val (.int (7 : Int32))] [(.int (7 : Int32))])) (fun t k => XS.iloadN X0.here hx rfl (hb hby d1_53) rfl k) ?_
  refine Go.on (T' := s₁) (g' := (mkF m 56 #[.val (.int (7 : Int32))] [(.int (6 : Int32)), (.int (7 : Int32))])) (fun t k => XS.bipush X0.here hx rfl (hb hby d1_54) k) ?_
  refine Go.on (T' := s₁) (g' := (mkF m 63 #[.val (.int (7 : Int32))] [])) (fun t k => XS.icmpYes X0.here hx rfl (pc0 := 56) (pc' := 63) rfl (hb hby d1_56) rfl (feq (by decide : ¬ ((7 : Int32) = (6 : Int32)))).2 (by decide) (by decide) k) ?_
  refine Go.on (T' := s₁) (g' := (mkF m 64 #[.val (.int (7 : Int32))] [(.int (7 : Int32))])) (fun t k => XS.iloadN X0.here hx rfl (hb hby d1_63) rfl k) ?_
  refine Go.on (T' := s₁) (g' := (mkF m 66 #[.val (.int (7 : Int32))] [(.int (7 : Int32)), (.int (7 : Int32))])) (fun t k => XS.bipush X0.here hx rfl (hb hby d1_64) k) ?_
  refine Go.on (T' := s₁) (g' := (mkF m 69 #[.val (.int (7 : Int32))] [])) (fun t k => XS.icmpNo X0.here hx rfl (hb hby d1_66) rfl (teq (by decide : (7 : Int32) = (7 : Int32))).2 k) ?_
  obtain ⟨T73, X73, e73, st73⟩ := getS2 X0 hx hZ hown (host := "") (Or.inl (hw _ (List.mem_of_getElem? (i := 35) rfl))) Via.refl e0 (pin_6 hP) (g := (mkF m 69 #[.val (.int (7 : Int32))] [])) rfl (hb hby d1_69)
  refine Go.on (T' := T73) (g' := (mkF m 72 #[.val (.int (7 : Int32))] [(.ref (w 6))])) st73 ?_
  obtain ⟨fs, hr, hrun, hended, hW, hsame⟩ := X73.leave (v := some (.ref (w 6))) (fun h => by rw [Bd.returns] at h; cases h)
  exact ⟨_, _, retOut X73 hx Bd.returns rfl (Or.inr (Or.inr (Or.inr (Or.inr ⟨rfl, rfl, rfl⟩)))) (hb hby d1_72) hr, hrun, hended, _, _, rfl, ⟨rfl, N0, e73⟩, ⟨_, rfl⟩, hW, hsame.mono (by decide) (by decide)⟩
set_option maxRecDepth 65536 in
set_option maxHeartbeats 40000000 in
theorem rm2_7 (l : Launch) (Z : State) (a0 : Array Value) (hw : ∀ d ∈ tables_1, d.before a0 Z = true) (ws : List Jvm.Cond) (w : Nat → Addr) (h0 : Heap) (n0 : Nat) (Z0 : n0 ≤ h0.size) (hP : Pins Z h0 w) :
    MetFree l (⟨"com/example/anamnesis/anamnesis/rules/Type", "isNumber", "()Z"⟩ : MethodName) (head1 (Jvm.Cond.code (⟨"com/example/anamnesis/anamnesis/rules/Type", "isNumber", "()Z"⟩ : MethodName) prog_87_method_7_code 1 (some .boolean) :: ws) ({ frames := 0, cells := 0, slots := 0, locals := 0 } : Room)) (fun a U => a = #[(.ref (w 6))] ∧ Z.Warmed39 U.vm ∧ U.heap = h0) (fun _ _ _ _ _ => True) (fun _ U o U' => ∃ v L, o = .returned v ∧ Qp (some (.int (0 : Int32))) h0 n0 v U'.heap L ∧ FrameEnd U o U' L ({ frames := 0, cells := 0, slots := 0, locals := 0 } : Room).cells ({ frames := 0, cells := 0, slots := 0, locals := 0 } : Room).slots) := by
  refine MetFree.of_bodySF (plainFor_of_name pn_1) hisR ?_
  intro p e s m args below meth c s₁ Bd hml0 hP0 hK
  obtain ⟨rfl, hZ, hh⟩ := hP0
  have hx := Bd.exec
  have hby := Bd.bytes
  have hml : c.maxLocals = 1 := hml0
  have hown : s.vm.findClass "com/example/anamnesis/anamnesis/rules/Type" = some m.cls := findClass_of_methodNamed Bd.named
  have hnm := (name_of_methodNamed Bd.named Bd.method).1
  have X0 : Stand p l e ({ frames := 0, cells := 0, slots := 0, locals := 0 } : Room) s m #[(.ref (w 6))] below meth c s₁ [] 0 0 := Stand.of_body Bd
  have e0 : s₁.heap = h0 := by rw [← hh, Bd.state]; rfl
  have N0 := Fr.nil n0
  suffices hgo : Go p e below (fun o U' => ∃ v L, o = .returned v ∧ Qp (some (.int (0 : Int32))) h0 n0 v U'.heap L ∧ FrameEnd s o U' L ({ frames := 0, cells := 0, slots := 0, locals := 0 } : Room).cells ({ frames := 0, cells := 0, slots := 0, locals := 0 } : Room).slots) s₁ (mkF m 0 #[.val (.ref (w 6))] []) by
    obtain ⟨s2, o, g1, g2, g3, g4⟩ := hgo
    refine ⟨s2, o, castTop (?_ : entryFrame m #[(.ref (w 6))] 1 = _) g1, g2, g3, g4⟩
    first | (simp [entryFrame, mkF, argsToLocals, Value.category]; done) | rfl
  refine Go.on (T' := s₁) (g' := (mkF m 1 #[.val (.ref (w 6))] [(.ref (w 6))])) (fun t k => XS.aloadN X0.here hx rfl (hb hby d2_0) rfl rfl k) ?_
  obtain ⟨T77, X77, e77, st77⟩ := getS2 X0 hx hZ hown (host := "") (Or.inl (hw _ (List.mem_of_getElem? (i := 13) rfl))) Via.refl e0 (pin_1 hP) (g := (mkF m 1 #[.val (.ref (w 6))] [(.ref (w 6))])) rfl (hb hby d2_1)
  refine Go.on (T' := T77) (g' := (mkF m 4 #[.val (.ref (w 6))] [(.ref (w 1)), (.ref (w 6))])) st77 ?_
  refine Go.on (T' := T77) (g' := (mkF m 7 #[.val (.ref (w 6))] [])) (fun t k => Jvm.RoadKit.acmp (g := (mkF m 4 #[.val (.ref (w 6))] [(.ref (w 1)), (.ref (w 6))])) X77 hx rfl rfl rfl (pc0 := 4) (pc' := 7) (same := false) rfl (hb hby d2_4) rfl (decide_eq_false fun q => (own_ne (pin_30 hP) (pin_25 hP) (by decide)) (Value.ref.inj q)) (by decide) (by decide) k) ?_
  refine Go.on (T' := T77) (g' := (mkF m 8 #[.val (.ref (w 6))] [(.ref (w 6))])) (fun t k => XS.aloadN X77.here hx rfl (hb hby d2_7) rfl rfl k) ?_
  obtain ⟨T78, X78, e78, st78⟩ := getS2 X77 hx hZ hown (host := "") (Or.inl (hw _ (List.mem_of_getElem? (i := 15) rfl))) Via.refl e77 (pin_2 hP) (g := (mkF m 8 #[.val (.ref (w 6))] [(.ref (w 6))])) rfl (hb hby d2_8)
  refine Go.on (T' := T78) (g' := (mkF m 11 #[.val (.ref (w 6))] [(.ref (w 2)), (.ref (w 6))])) st78 ?_
  refine Go.on (T' := T78) (g' := (mkF m 18 #[.val (.ref (w 6))] [])) (fun t k => Jvm.RoadKit.acmp (g := (mkF m 11 #[.val (.ref (w 6))] [(.ref (w 2)), (.ref (w 6))])) X78 hx rfl rfl rfl (pc0 := 11) (pc' := 18) (same := false) rfl (hb hby d2_11) rfl (decide_eq_false fun q => (own_ne (pin_30 hP) (pin_26 hP) (by decide)) (Value.ref.inj q)) (by decide) (by decide) k) ?_
  refine Go.on (T' := T78) (g' := (mkF m 19 #[.val (.ref (w 6))] [(.int (0 : Int32))])) (fun t k => XS.iconst X78.here hx rfl (hb hby d2_18) k) ?_
  obtain ⟨fs, hr, hrun, hended, hW, hsame⟩ := X78.leave (v := some (.int (0 : Int32))) (fun h => by rw [Bd.returns] at h; cases h)
  exact ⟨_, _, retN X78 hx (t := .boolean) Bd.returns (by simp) (hb hby d2_19) hr, hrun, hended, _, _, rfl, ⟨rfl, N0, e78⟩, ⟨_, rfl⟩, hW, hsame.mono (by decide) (by decide)⟩
theorem d1_73 : decode method_2_code 73 = .ok (.iload_n 0, 1) := by decide +kernel
theorem d1_74 : decode method_2_code 74 = .ok (.bipush 8, 2) := by decide +kernel
theorem d1_76 : decode method_2_code 76 = .ok (.if_icmp .ne 7, 3) := by decide +kernel
theorem d1_79 : decode method_2_code 79 = .ok (.getstatic 34, 3) := by decide +kernel
theorem d1_82 : decode method_2_code 82 = .ok (.areturn, 1) := by decide +kernel
set_option maxRecDepth 65536 in
set_option maxHeartbeats 40000000 in
theorem rm1_8 (l : Launch) (Z : State) (a0 : Array Value) (hw : ∀ d ∈ tables_1, d.before a0 Z = true) (ws : List Jvm.Cond) (w : Nat → Addr) (h0 : Heap) (n0 : Nat) (Z0 : n0 ≤ h0.size) (hP : Pins Z h0 w) :
    MetFree l (⟨"com/example/anamnesis/anamnesis/rules/TypeIsNumberPinLaw", "pick", "(I)Lcom/example/anamnesis/anamnesis/rules/Type;"⟩ : MethodName) (head1 (Jvm.Cond.code (⟨"com/example/anamnesis/anamnesis/rules/TypeIsNumberPinLaw", "pick", "(I)Lcom/example/anamnesis/anamnesis/rules/Type;"⟩ : MethodName) method_2_code 1 (some (.object "com/example/anamnesis/anamnesis/rules/Type")) :: ws) ({ frames := 0, cells := 0, slots := 0, locals := 0 } : Room)) (fun a U => a = #[(.int (8 : Int32))] ∧ Z.Warmed39 U.vm ∧ U.heap = h0) (fun _ _ _ _ _ => True) (fun _ U o U' => ∃ v L, o = .returned v ∧ Qp (some (.ref (w 8))) h0 n0 v U'.heap L ∧ FrameEnd U o U' L ({ frames := 0, cells := 0, slots := 0, locals := 0 } : Room).cells ({ frames := 0, cells := 0, slots := 0, locals := 0 } : Room).slots) := by
  refine MetFree.of_bodySF (plainFor_of_name pn_0) hisR ?_
  intro p e s m args below meth c s₁ Bd hml0 hP0 hK
  obtain ⟨rfl, hZ, hh⟩ := hP0
  have hx := Bd.exec
  have hby := Bd.bytes
  have hml : c.maxLocals = 1 := hml0
  have hown : s.vm.findClass "com/example/anamnesis/anamnesis/rules/TypeIsNumberPinLaw" = some m.cls := findClass_of_methodNamed Bd.named
  have hnm := (name_of_methodNamed Bd.named Bd.method).1
  have X0 : Stand p l e ({ frames := 0, cells := 0, slots := 0, locals := 0 } : Room) s m #[(.int (8 : Int32))] below meth c s₁ [] 0 0 := Stand.of_body Bd
  have e0 : s₁.heap = h0 := by rw [← hh, Bd.state]; rfl
  have N0 := Fr.nil n0
  suffices hgo : Go p e below (fun o U' => ∃ v L, o = .returned v ∧ Qp (some (.ref (w 8))) h0 n0 v U'.heap L ∧ FrameEnd s o U' L ({ frames := 0, cells := 0, slots := 0, locals := 0 } : Room).cells ({ frames := 0, cells := 0, slots := 0, locals := 0 } : Room).slots) s₁ (mkF m 0 #[.val (.int (8 : Int32))] []) by
    obtain ⟨s2, o, g1, g2, g3, g4⟩ := hgo
    refine ⟨s2, o, castTop (?_ : entryFrame m #[(.int (8 : Int32))] 1 = _) g1, g2, g3, g4⟩
    first | (simp [entryFrame, mkF, argsToLocals, Value.category]; done) | rfl
  refine Go.on (T' := s₁) (g' := (mkF m 1 #[.val (.int (8 : Int32))] [(.int (8 : Int32))])) (fun t k => XS.iloadN X0.here hx rfl (hb hby d1_0) rfl k) ?_
  refine Go.on (T' := s₁) (g' := (mkF m 8 #[.val (.int (8 : Int32))] [])) (fun t k => XS.ifYes X0.here hx rfl (pc0 := 1) (pc' := 8) rfl (hb hby d1_1) rfl ((if0 _ _).trans (feq (by decide : ¬ ((8 : Int32) = (0 : Int32)))).2) (by decide) (by decide) k) ?_
  refine Go.on (T' := s₁) (g' := (mkF m 9 #[.val (.int (8 : Int32))] [(.int (8 : Int32))])) (fun t k => XS.iloadN X0.here hx rfl (hb hby d1_8) rfl k) ?_
  refine Go.on (T' := s₁) (g' := (mkF m 10 #[.val (.int (8 : Int32))] [(.int (1 : Int32)), (.int (8 : Int32))])) (fun t k => XS.iconst X0.here hx rfl (hb hby d1_9) k) ?_
  refine Go.on (T' := s₁) (g' := (mkF m 17 #[.val (.int (8 : Int32))] [])) (fun t k => XS.icmpYes X0.here hx rfl (pc0 := 10) (pc' := 17) rfl (hb hby d1_10) rfl (feq (by decide : ¬ ((8 : Int32) = (1 : Int32)))).2 (by decide) (by decide) k) ?_
  refine Go.on (T' := s₁) (g' := (mkF m 18 #[.val (.int (8 : Int32))] [(.int (8 : Int32))])) (fun t k => XS.iloadN X0.here hx rfl (hb hby d1_17) rfl k) ?_
  refine Go.on (T' := s₁) (g' := (mkF m 19 #[.val (.int (8 : Int32))] [(.int (2 : Int32)), (.int (8 : Int32))])) (fun t k => XS.iconst X0.here hx rfl (hb hby d1_18) k) ?_
  refine Go.on (T' := s₁) (g' := (mkF m 26 #[.val (.int (8 : Int32))] [])) (fun t k => XS.icmpYes X0.here hx rfl (pc0 := 19) (pc' := 26) rfl (hb hby d1_19) rfl (feq (by decide : ¬ ((8 : Int32) = (2 : Int32)))).2 (by decide) (by decide) k) ?_
  refine Go.on (T' := s₁) (g' := (mkF m 27 #[.val (.int (8 : Int32))] [(.int (8 : Int32))])) (fun t k => XS.iloadN X0.here hx rfl (hb hby d1_26) rfl k) ?_
  refine Go.on (T' := s₁) (g' := (mkF m 28 #[.val (.int (8 : Int32))] [(.int (3 : Int32)), (.int (8 : Int32))])) (fun t k => XS.iconst X0.here hx rfl (hb hby d1_27) k) ?_
  refine Go.on (T' := s₁) (g' := (mkF m 35 #[.val (.int (8 : Int32))] [])) (fun t k => XS.icmpYes X0.here hx rfl (pc0 := 28) (pc' := 35) rfl (hb hby d1_28) rfl (feq (by decide : ¬ ((8 : Int32) = (3 : Int32)))).2 (by decide) (by decide) k) ?_
  refine Go.on (T' := s₁) (g' := (mkF m 36 #[.val (.int (8 : Int32))] [(.int (8 : Int32))])) (fun t k => XS.iloadN X0.here hx rfl (hb hby d1_35) rfl k) ?_
  refine Go.on (T' := s₁) (g' := (mkF m 37 #[.val (.int (8 : Int32))] [(.int (4 : Int32)), (.int (8 : Int32))])) (fun t k => XS.iconst X0.here hx rfl (hb hby d1_36) k) ?_
  refine Go.on (T' := s₁) (g' := (mkF m 44 #[.val (.int (8 : Int32))] [])) (fun t k => XS.icmpYes X0.here hx rfl (pc0 := 37) (pc' := 44) rfl (hb hby d1_37) rfl (feq (by decide : ¬ ((8 : Int32) = (4 : Int32)))).2 (by decide) (by decide) k) ?_
  refine Go.on (T' := s₁) (g' := (mkF m 45 #[.val (.int (8 : Int32))] [(.int (8 : Int32))])) (fun t k => XS.iloadN X0.here hx rfl (hb hby d1_44) rfl k) ?_
  refine Go.on (T' := s₁) (g' := (mkF m 46 #[.val (.int (8 : Int32))] [(.int (5 : Int32)), (.int (8 : Int32))])) (fun t k => XS.iconst X0.here hx rfl (hb hby d1_45) k) ?_
  refine Go.on (T' := s₁) (g' := (mkF m 53 #[.val (.int (8 : Int32))] [])) (fun t k => XS.icmpYes X0.here hx rfl (pc0 := 46) (pc' := 53) rfl (hb hby d1_46) rfl (feq (by decide : ¬ ((8 : Int32) = (5 : Int32)))).2 (by decide) (by decide) k) ?_
  refine Go.on (T' := s₁) (g' := (mkF m 54 #[.val (.int (8 : Int32))] [(.int (8 : Int32))])) (fun t k => XS.iloadN X0.here hx rfl (hb hby d1_53) rfl k) ?_
  refine Go.on (T' := s₁) (g' := (mkF m 56 #[.val (.int (8 : Int32))] [(.int (6 : Int32)), (.int (8 : Int32))])) (fun t k => XS.bipush X0.here hx rfl (hb hby d1_54) k) ?_
  refine Go.on (T' := s₁) (g' := (mkF m 63 #[.val (.int (8 : Int32))] [])) (fun t k => XS.icmpYes X0.here hx rfl (pc0 := 56) (pc' := 63) rfl (hb hby d1_56) rfl (feq (by decide : ¬ ((8 : Int32) = (6 : Int32)))).2 (by decide) (by decide) k) ?_
  refine Go.on (T' := s₁) (g' := (mkF m 64 #[.val (.int (8 : Int32))] [(.int (8 : Int32))])) (fun t k => XS.iloadN X0.here hx rfl (hb hby d1_63) rfl k) ?_
  refine Go.on (T' := s₁) (g' := (mkF m 66 #[.val (.int (8 : Int32))] [(.int (7 : Int32)), (.int (8 : Int32))])) (fun t k => XS.bipush X0.here hx rfl (hb hby d1_64) k) ?_
  refine Go.on (T' := s₁) (g' := (mkF m 73 #[.val (.int (8 : Int32))] [])) (fun t k => XS.icmpYes X0.here hx rfl (pc0 := 66) (pc' := 73) rfl (hb hby d1_66) rfl (feq (by decide : ¬ ((8 : Int32) = (7 : Int32)))).2 (by decide) (by decide) k) ?_
  refine Go.on (T' := s₁) (g' := (mkF m 74 #[.val (.int (8 : Int32))] [(.int (8 : Int32))])) (fun t k => XS.iloadN X0.here hx rfl (hb hby d1_73) rfl k) ?_
  refine Go.on (T' := s₁) (g' := (mkF m 76 #[.val (.int (8 : Int32))] [(.int (8 : Int32)), (.int (8 : Int32))])) (fun t k => XS.bipush X0.here hx rfl (hb hby d1_74) k) ?_
  refine Go.on (T' := s₁) (g' := (mkF m 79 #[.val (.int (8 : Int32))] [])) (fun t k => XS.icmpNo X0.here hx rfl (hb hby d1_76) rfl (teq (by decide : (8 : Int32) = (8 : Int32))).2 k) ?_
  obtain ⟨T81, X81, e81, st81⟩ := getS2 X0 hx hZ hown (host := "") (Or.inl (hw _ (List.mem_of_getElem? (i := 40) rfl))) Via.refl e0 (pin_8 hP) (g := (mkF m 79 #[.val (.int (8 : Int32))] [])) rfl (hb hby d1_79)
  refine Go.on (T' := T81) (g' := (mkF m 82 #[.val (.int (8 : Int32))] [(.ref (w 8))])) st81 ?_
  obtain ⟨fs, hr, hrun, hended, hW, hsame⟩ := X81.leave (v := some (.ref (w 8))) (fun h => by rw [Bd.returns] at h; cases h)
  exact ⟨_, _, retOut X81 hx Bd.returns rfl (Or.inr (Or.inr (Or.inr (Or.inr ⟨rfl, rfl, rfl⟩)))) (hb hby d1_82) hr, hrun, hended, _, _, rfl, ⟨rfl, N0, e81⟩, ⟨_, rfl⟩, hW, hsame.mono (by decide) (by decide)⟩
set_option maxRecDepth 65536 in
set_option maxHeartbeats 40000000 in
theorem rm2_8 (l : Launch) (Z : State) (a0 : Array Value) (hw : ∀ d ∈ tables_1, d.before a0 Z = true) (ws : List Jvm.Cond) (w : Nat → Addr) (h0 : Heap) (n0 : Nat) (Z0 : n0 ≤ h0.size) (hP : Pins Z h0 w) :
    MetFree l (⟨"com/example/anamnesis/anamnesis/rules/Type", "isNumber", "()Z"⟩ : MethodName) (head1 (Jvm.Cond.code (⟨"com/example/anamnesis/anamnesis/rules/Type", "isNumber", "()Z"⟩ : MethodName) prog_87_method_7_code 1 (some .boolean) :: ws) ({ frames := 0, cells := 0, slots := 0, locals := 0 } : Room)) (fun a U => a = #[(.ref (w 8))] ∧ Z.Warmed39 U.vm ∧ U.heap = h0) (fun _ _ _ _ _ => True) (fun _ U o U' => ∃ v L, o = .returned v ∧ Qp (some (.int (0 : Int32))) h0 n0 v U'.heap L ∧ FrameEnd U o U' L ({ frames := 0, cells := 0, slots := 0, locals := 0 } : Room).cells ({ frames := 0, cells := 0, slots := 0, locals := 0 } : Room).slots) := by
  refine MetFree.of_bodySF (plainFor_of_name pn_1) hisR ?_
  intro p e s m args below meth c s₁ Bd hml0 hP0 hK
  obtain ⟨rfl, hZ, hh⟩ := hP0
  have hx := Bd.exec
  have hby := Bd.bytes
  have hml : c.maxLocals = 1 := hml0
  have hown : s.vm.findClass "com/example/anamnesis/anamnesis/rules/Type" = some m.cls := findClass_of_methodNamed Bd.named
  have hnm := (name_of_methodNamed Bd.named Bd.method).1
  have X0 : Stand p l e ({ frames := 0, cells := 0, slots := 0, locals := 0 } : Room) s m #[(.ref (w 8))] below meth c s₁ [] 0 0 := Stand.of_body Bd
  have e0 : s₁.heap = h0 := by rw [← hh, Bd.state]; rfl
  have N0 := Fr.nil n0
  suffices hgo : Go p e below (fun o U' => ∃ v L, o = .returned v ∧ Qp (some (.int (0 : Int32))) h0 n0 v U'.heap L ∧ FrameEnd s o U' L ({ frames := 0, cells := 0, slots := 0, locals := 0 } : Room).cells ({ frames := 0, cells := 0, slots := 0, locals := 0 } : Room).slots) s₁ (mkF m 0 #[.val (.ref (w 8))] []) by
    obtain ⟨s2, o, g1, g2, g3, g4⟩ := hgo
    refine ⟨s2, o, castTop (?_ : entryFrame m #[(.ref (w 8))] 1 = _) g1, g2, g3, g4⟩
    first | (simp [entryFrame, mkF, argsToLocals, Value.category]; done) | rfl
  refine Go.on (T' := s₁) (g' := (mkF m 1 #[.val (.ref (w 8))] [(.ref (w 8))])) (fun t k => XS.aloadN X0.here hx rfl (hb hby d2_0) rfl rfl k) ?_
  obtain ⟨T85, X85, e85, st85⟩ := getS2 X0 hx hZ hown (host := "") (Or.inl (hw _ (List.mem_of_getElem? (i := 13) rfl))) Via.refl e0 (pin_1 hP) (g := (mkF m 1 #[.val (.ref (w 8))] [(.ref (w 8))])) rfl (hb hby d2_1)
  refine Go.on (T' := T85) (g' := (mkF m 4 #[.val (.ref (w 8))] [(.ref (w 1)), (.ref (w 8))])) st85 ?_
  refine Go.on (T' := T85) (g' := (mkF m 7 #[.val (.ref (w 8))] [])) (fun t k => Jvm.RoadKit.acmp (g := (mkF m 4 #[.val (.ref (w 8))] [(.ref (w 1)), (.ref (w 8))])) X85 hx rfl rfl rfl (pc0 := 4) (pc' := 7) (same := false) rfl (hb hby d2_4) rfl (decide_eq_false fun q => (own_ne (pin_32 hP) (pin_25 hP) (by decide)) (Value.ref.inj q)) (by decide) (by decide) k) ?_
  refine Go.on (T' := T85) (g' := (mkF m 8 #[.val (.ref (w 8))] [(.ref (w 8))])) (fun t k => XS.aloadN X85.here hx rfl (hb hby d2_7) rfl rfl k) ?_
  obtain ⟨T86, X86, e86, st86⟩ := getS2 X85 hx hZ hown (host := "") (Or.inl (hw _ (List.mem_of_getElem? (i := 15) rfl))) Via.refl e85 (pin_2 hP) (g := (mkF m 8 #[.val (.ref (w 8))] [(.ref (w 8))])) rfl (hb hby d2_8)
  refine Go.on (T' := T86) (g' := (mkF m 11 #[.val (.ref (w 8))] [(.ref (w 2)), (.ref (w 8))])) st86 ?_
  refine Go.on (T' := T86) (g' := (mkF m 18 #[.val (.ref (w 8))] [])) (fun t k => Jvm.RoadKit.acmp (g := (mkF m 11 #[.val (.ref (w 8))] [(.ref (w 2)), (.ref (w 8))])) X86 hx rfl rfl rfl (pc0 := 11) (pc' := 18) (same := false) rfl (hb hby d2_11) rfl (decide_eq_false fun q => (own_ne (pin_32 hP) (pin_26 hP) (by decide)) (Value.ref.inj q)) (by decide) (by decide) k) ?_
  refine Go.on (T' := T86) (g' := (mkF m 19 #[.val (.ref (w 8))] [(.int (0 : Int32))])) (fun t k => XS.iconst X86.here hx rfl (hb hby d2_18) k) ?_
  obtain ⟨fs, hr, hrun, hended, hW, hsame⟩ := X86.leave (v := some (.int (0 : Int32))) (fun h => by rw [Bd.returns] at h; cases h)
  exact ⟨_, _, retN X86 hx (t := .boolean) Bd.returns (by simp) (hb hby d2_19) hr, hrun, hended, _, _, rfl, ⟨rfl, N0, e86⟩, ⟨_, rfl⟩, hW, hsame.mono (by decide) (by decide)⟩
theorem d1_83 : decode method_2_code 83 = .ok (.iload_n 0, 1) := by decide +kernel
theorem d1_84 : decode method_2_code 84 = .ok (.bipush 9, 2) := by decide +kernel
theorem d1_86 : decode method_2_code 86 = .ok (.if_icmp .ne 7, 3) := by decide +kernel
theorem d1_89 : decode method_2_code 89 = .ok (.getstatic 37, 3) := by decide +kernel
theorem d1_92 : decode method_2_code 92 = .ok (.areturn, 1) := by decide +kernel
set_option maxRecDepth 65536 in
set_option maxHeartbeats 40000000 in
theorem rm1_9 (l : Launch) (Z : State) (a0 : Array Value) (hw : ∀ d ∈ tables_1, d.before a0 Z = true) (ws : List Jvm.Cond) (w : Nat → Addr) (h0 : Heap) (n0 : Nat) (Z0 : n0 ≤ h0.size) (hP : Pins Z h0 w) :
    MetFree l (⟨"com/example/anamnesis/anamnesis/rules/TypeIsNumberPinLaw", "pick", "(I)Lcom/example/anamnesis/anamnesis/rules/Type;"⟩ : MethodName) (head1 (Jvm.Cond.code (⟨"com/example/anamnesis/anamnesis/rules/TypeIsNumberPinLaw", "pick", "(I)Lcom/example/anamnesis/anamnesis/rules/Type;"⟩ : MethodName) method_2_code 1 (some (.object "com/example/anamnesis/anamnesis/rules/Type")) :: ws) ({ frames := 0, cells := 0, slots := 0, locals := 0 } : Room)) (fun a U => a = #[(.int (9 : Int32))] ∧ Z.Warmed39 U.vm ∧ U.heap = h0) (fun _ _ _ _ _ => True) (fun _ U o U' => ∃ v L, o = .returned v ∧ Qp (some (.ref (w 9))) h0 n0 v U'.heap L ∧ FrameEnd U o U' L ({ frames := 0, cells := 0, slots := 0, locals := 0 } : Room).cells ({ frames := 0, cells := 0, slots := 0, locals := 0 } : Room).slots) := by
  refine MetFree.of_bodySF (plainFor_of_name pn_0) hisR ?_
  intro p e s m args below meth c s₁ Bd hml0 hP0 hK
  obtain ⟨rfl, hZ, hh⟩ := hP0
  have hx := Bd.exec
  have hby := Bd.bytes
  have hml : c.maxLocals = 1 := hml0
  have hown : s.vm.findClass "com/example/anamnesis/anamnesis/rules/TypeIsNumberPinLaw" = some m.cls := findClass_of_methodNamed Bd.named
  have hnm := (name_of_methodNamed Bd.named Bd.method).1
  have X0 : Stand p l e ({ frames := 0, cells := 0, slots := 0, locals := 0 } : Room) s m #[(.int (9 : Int32))] below meth c s₁ [] 0 0 := Stand.of_body Bd
  have e0 : s₁.heap = h0 := by rw [← hh, Bd.state]; rfl
  have N0 := Fr.nil n0
  suffices hgo : Go p e below (fun o U' => ∃ v L, o = .returned v ∧ Qp (some (.ref (w 9))) h0 n0 v U'.heap L ∧ FrameEnd s o U' L ({ frames := 0, cells := 0, slots := 0, locals := 0 } : Room).cells ({ frames := 0, cells := 0, slots := 0, locals := 0 } : Room).slots) s₁ (mkF m 0 #[.val (.int (9 : Int32))] []) by
    obtain ⟨s2, o, g1, g2, g3, g4⟩ := hgo
    refine ⟨s2, o, castTop (?_ : entryFrame m #[(.int (9 : Int32))] 1 = _) g1, g2, g3, g4⟩
    first | (simp [entryFrame, mkF, argsToLocals, Value.category]; done) | rfl
  refine Go.on (T' := s₁) (g' := (mkF m 1 #[.val (.int (9 : Int32))] [(.int (9 : Int32))])) (fun t k => XS.iloadN X0.here hx rfl (hb hby d1_0) rfl k) ?_
  refine Go.on (T' := s₁) (g' := (mkF m 8 #[.val (.int (9 : Int32))] [])) (fun t k => XS.ifYes X0.here hx rfl (pc0 := 1) (pc' := 8) rfl (hb hby d1_1) rfl ((if0 _ _).trans (feq (by decide : ¬ ((9 : Int32) = (0 : Int32)))).2) (by decide) (by decide) k) ?_
  refine Go.on (T' := s₁) (g' := (mkF m 9 #[.val (.int (9 : Int32))] [(.int (9 : Int32))])) (fun t k => XS.iloadN X0.here hx rfl (hb hby d1_8) rfl k) ?_
  refine Go.on (T' := s₁) (g' := (mkF m 10 #[.val (.int (9 : Int32))] [(.int (1 : Int32)), (.int (9 : Int32))])) (fun t k => XS.iconst X0.here hx rfl (hb hby d1_9) k) ?_
  refine Go.on (T' := s₁) (g' := (mkF m 17 #[.val (.int (9 : Int32))] [])) (fun t k => XS.icmpYes X0.here hx rfl (pc0 := 10) (pc' := 17) rfl (hb hby d1_10) rfl (feq (by decide : ¬ ((9 : Int32) = (1 : Int32)))).2 (by decide) (by decide) k) ?_
  refine Go.on (T' := s₁) (g' := (mkF m 18 #[.val (.int (9 : Int32))] [(.int (9 : Int32))])) (fun t k => XS.iloadN X0.here hx rfl (hb hby d1_17) rfl k) ?_
  refine Go.on (T' := s₁) (g' := (mkF m 19 #[.val (.int (9 : Int32))] [(.int (2 : Int32)), (.int (9 : Int32))])) (fun t k => XS.iconst X0.here hx rfl (hb hby d1_18) k) ?_
  refine Go.on (T' := s₁) (g' := (mkF m 26 #[.val (.int (9 : Int32))] [])) (fun t k => XS.icmpYes X0.here hx rfl (pc0 := 19) (pc' := 26) rfl (hb hby d1_19) rfl (feq (by decide : ¬ ((9 : Int32) = (2 : Int32)))).2 (by decide) (by decide) k) ?_
  refine Go.on (T' := s₁) (g' := (mkF m 27 #[.val (.int (9 : Int32))] [(.int (9 : Int32))])) (fun t k => XS.iloadN X0.here hx rfl (hb hby d1_26) rfl k) ?_
  refine Go.on (T' := s₁) (g' := (mkF m 28 #[.val (.int (9 : Int32))] [(.int (3 : Int32)), (.int (9 : Int32))])) (fun t k => XS.iconst X0.here hx rfl (hb hby d1_27) k) ?_
  refine Go.on (T' := s₁) (g' := (mkF m 35 #[.val (.int (9 : Int32))] [])) (fun t k => XS.icmpYes X0.here hx rfl (pc0 := 28) (pc' := 35) rfl (hb hby d1_28) rfl (feq (by decide : ¬ ((9 : Int32) = (3 : Int32)))).2 (by decide) (by decide) k) ?_
  refine Go.on (T' := s₁) (g' := (mkF m 36 #[.val (.int (9 : Int32))] [(.int (9 : Int32))])) (fun t k => XS.iloadN X0.here hx rfl (hb hby d1_35) rfl k) ?_
  refine Go.on (T' := s₁) (g' := (mkF m 37 #[.val (.int (9 : Int32))] [(.int (4 : Int32)), (.int (9 : Int32))])) (fun t k => XS.iconst X0.here hx rfl (hb hby d1_36) k) ?_
  refine Go.on (T' := s₁) (g' := (mkF m 44 #[.val (.int (9 : Int32))] [])) (fun t k => XS.icmpYes X0.here hx rfl (pc0 := 37) (pc' := 44) rfl (hb hby d1_37) rfl (feq (by decide : ¬ ((9 : Int32) = (4 : Int32)))).2 (by decide) (by decide) k) ?_
  refine Go.on (T' := s₁) (g' := (mkF m 45 #[.val (.int (9 : Int32))] [(.int (9 : Int32))])) (fun t k => XS.iloadN X0.here hx rfl (hb hby d1_44) rfl k) ?_
  refine Go.on (T' := s₁) (g' := (mkF m 46 #[.val (.int (9 : Int32))] [(.int (5 : Int32)), (.int (9 : Int32))])) (fun t k => XS.iconst X0.here hx rfl (hb hby d1_45) k) ?_
  refine Go.on (T' := s₁) (g' := (mkF m 53 #[.val (.int (9 : Int32))] [])) (fun t k => XS.icmpYes X0.here hx rfl (pc0 := 46) (pc' := 53) rfl (hb hby d1_46) rfl (feq (by decide : ¬ ((9 : Int32) = (5 : Int32)))).2 (by decide) (by decide) k) ?_
  refine Go.on (T' := s₁) (g' := (mkF m 54 #[.val (.int (9 : Int32))] [(.int (9 : Int32))])) (fun t k => XS.iloadN X0.here hx rfl (hb hby d1_53) rfl k) ?_
  refine Go.on (T' := s₁) (g' := (mkF m 56 #[.val (.int (9 : Int32))] [(.int (6 : Int32)), (.int (9 : Int32))])) (fun t k => XS.bipush X0.here hx rfl (hb hby d1_54) k) ?_
  refine Go.on (T' := s₁) (g' := (mkF m 63 #[.val (.int (9 : Int32))] [])) (fun t k => XS.icmpYes X0.here hx rfl (pc0 := 56) (pc' := 63) rfl (hb hby d1_56) rfl (feq (by decide : ¬ ((9 : Int32) = (6 : Int32)))).2 (by decide) (by decide) k) ?_
  refine Go.on (T' := s₁) (g' := (mkF m 64 #[.val (.int (9 : Int32))] [(.int (9 : Int32))])) (fun t k => XS.iloadN X0.here hx rfl (hb hby d1_63) rfl k) ?_
  refine Go.on (T' := s₁) (g' := (mkF m 66 #[.val (.int (9 : Int32))] [(.int (7 : Int32)), (.int (9 : Int32))])) (fun t k => XS.bipush X0.here hx rfl (hb hby d1_64) k) ?_
  refine Go.on (T' := s₁) (g' := (mkF m 73 #[.val (.int (9 : Int32))] [])) (fun t k => XS.icmpYes X0.here hx rfl (pc0 := 66) (pc' := 73) rfl (hb hby d1_66) rfl (feq (by decide : ¬ ((9 : Int32) = (7 : Int32)))).2 (by decide) (by decide) k) ?_
  refine Go.on (T' := s₁) (g' := (mkF m 74 #[.val (.int (9 : Int32))] [(.int (9 : Int32))])) (fun t k => XS.iloadN X0.here hx rfl (hb hby d1_73) rfl k) ?_
  refine Go.on (T' := s₁) (g' := (mkF m 76 #[.val (.int (9 : Int32))] [(.int (8 : Int32)), (.int (9 : Int32))])) (fun t k => XS.bipush X0.here hx rfl (hb hby d1_74) k) ?_
  refine Go.on (T' := s₁) (g' := (mkF m 83 #[.val (.int (9 : Int32))] [])) (fun t k => XS.icmpYes X0.here hx rfl (pc0 := 76) (pc' := 83) rfl (hb hby d1_76) rfl (feq (by decide : ¬ ((9 : Int32) = (8 : Int32)))).2 (by decide) (by decide) k) ?_
  refine Go.on (T' := s₁) (g' := (mkF m 84 #[.val (.int (9 : Int32))] [(.int (9 : Int32))])) (fun t k => XS.iloadN X0.here hx rfl (hb hby d1_83) rfl k) ?_
  refine Go.on (T' := s₁) (g' := (mkF m 86 #[.val (.int (9 : Int32))] [(.int (9 : Int32)), (.int (9 : Int32))])) (fun t k => XS.bipush X0.here hx rfl (hb hby d1_84) k) ?_
  refine Go.on (T' := s₁) (g' := (mkF m 89 #[.val (.int (9 : Int32))] [])) (fun t k => XS.icmpNo X0.here hx rfl (hb hby d1_86) rfl (teq (by decide : (9 : Int32) = (9 : Int32))).2 k) ?_
  obtain ⟨T89, X89, e89, st89⟩ := getS2 X0 hx hZ hown (host := "") (Or.inl (hw _ (List.mem_of_getElem? (i := 44) rfl))) Via.refl e0 (pin_9 hP) (g := (mkF m 89 #[.val (.int (9 : Int32))] [])) rfl (hb hby d1_89)
  refine Go.on (T' := T89) (g' := (mkF m 92 #[.val (.int (9 : Int32))] [(.ref (w 9))])) st89 ?_
  obtain ⟨fs, hr, hrun, hended, hW, hsame⟩ := X89.leave (v := some (.ref (w 9))) (fun h => by rw [Bd.returns] at h; cases h)
  exact ⟨_, _, retOut X89 hx Bd.returns rfl (Or.inr (Or.inr (Or.inr (Or.inr ⟨rfl, rfl, rfl⟩)))) (hb hby d1_92) hr, hrun, hended, _, _, rfl, ⟨rfl, N0, e89⟩, ⟨_, rfl⟩, hW, hsame.mono (by decide) (by decide)⟩
set_option maxRecDepth 65536 in
set_option maxHeartbeats 40000000 in
theorem rm2_9 (l : Launch) (Z : State) (a0 : Array Value) (hw : ∀ d ∈ tables_1, d.before a0 Z = true) (ws : List Jvm.Cond) (w : Nat → Addr) (h0 : Heap) (n0 : Nat) (Z0 : n0 ≤ h0.size) (hP : Pins Z h0 w) :
    MetFree l (⟨"com/example/anamnesis/anamnesis/rules/Type", "isNumber", "()Z"⟩ : MethodName) (head1 (Jvm.Cond.code (⟨"com/example/anamnesis/anamnesis/rules/Type", "isNumber", "()Z"⟩ : MethodName) prog_87_method_7_code 1 (some .boolean) :: ws) ({ frames := 0, cells := 0, slots := 0, locals := 0 } : Room)) (fun a U => a = #[(.ref (w 9))] ∧ Z.Warmed39 U.vm ∧ U.heap = h0) (fun _ _ _ _ _ => True) (fun _ U o U' => ∃ v L, o = .returned v ∧ Qp (some (.int (0 : Int32))) h0 n0 v U'.heap L ∧ FrameEnd U o U' L ({ frames := 0, cells := 0, slots := 0, locals := 0 } : Room).cells ({ frames := 0, cells := 0, slots := 0, locals := 0 } : Room).slots) := by
  refine MetFree.of_bodySF (plainFor_of_name pn_1) hisR ?_
  intro p e s m args below meth c s₁ Bd hml0 hP0 hK
  obtain ⟨rfl, hZ, hh⟩ := hP0
  have hx := Bd.exec
  have hby := Bd.bytes
  have hml : c.maxLocals = 1 := hml0
  have hown : s.vm.findClass "com/example/anamnesis/anamnesis/rules/Type" = some m.cls := findClass_of_methodNamed Bd.named
  have hnm := (name_of_methodNamed Bd.named Bd.method).1
  have X0 : Stand p l e ({ frames := 0, cells := 0, slots := 0, locals := 0 } : Room) s m #[(.ref (w 9))] below meth c s₁ [] 0 0 := Stand.of_body Bd
  have e0 : s₁.heap = h0 := by rw [← hh, Bd.state]; rfl
  have N0 := Fr.nil n0
  suffices hgo : Go p e below (fun o U' => ∃ v L, o = .returned v ∧ Qp (some (.int (0 : Int32))) h0 n0 v U'.heap L ∧ FrameEnd s o U' L ({ frames := 0, cells := 0, slots := 0, locals := 0 } : Room).cells ({ frames := 0, cells := 0, slots := 0, locals := 0 } : Room).slots) s₁ (mkF m 0 #[.val (.ref (w 9))] []) by
    obtain ⟨s2, o, g1, g2, g3, g4⟩ := hgo
    refine ⟨s2, o, castTop (?_ : entryFrame m #[(.ref (w 9))] 1 = _) g1, g2, g3, g4⟩
    first | (simp [entryFrame, mkF, argsToLocals, Value.category]; done) | rfl
  refine Go.on (T' := s₁) (g' := (mkF m 1 #[.val (.ref (w 9))] [(.ref (w 9))])) (fun t k => XS.aloadN X0.here hx rfl (hb hby d2_0) rfl rfl k) ?_
  obtain ⟨T93, X93, e93, st93⟩ := getS2 X0 hx hZ hown (host := "") (Or.inl (hw _ (List.mem_of_getElem? (i := 13) rfl))) Via.refl e0 (pin_1 hP) (g := (mkF m 1 #[.val (.ref (w 9))] [(.ref (w 9))])) rfl (hb hby d2_1)
  refine Go.on (T' := T93) (g' := (mkF m 4 #[.val (.ref (w 9))] [(.ref (w 1)), (.ref (w 9))])) st93 ?_
  refine Go.on (T' := T93) (g' := (mkF m 7 #[.val (.ref (w 9))] [])) (fun t k => Jvm.RoadKit.acmp (g := (mkF m 4 #[.val (.ref (w 9))] [(.ref (w 1)), (.ref (w 9))])) X93 hx rfl rfl rfl (pc0 := 4) (pc' := 7) (same := false) rfl (hb hby d2_4) rfl (decide_eq_false fun q => (own_ne (pin_33 hP) (pin_25 hP) (by decide)) (Value.ref.inj q)) (by decide) (by decide) k) ?_
  refine Go.on (T' := T93) (g' := (mkF m 8 #[.val (.ref (w 9))] [(.ref (w 9))])) (fun t k => XS.aloadN X93.here hx rfl (hb hby d2_7) rfl rfl k) ?_
  obtain ⟨T94, X94, e94, st94⟩ := getS2 X93 hx hZ hown (host := "") (Or.inl (hw _ (List.mem_of_getElem? (i := 15) rfl))) Via.refl e93 (pin_2 hP) (g := (mkF m 8 #[.val (.ref (w 9))] [(.ref (w 9))])) rfl (hb hby d2_8)
  refine Go.on (T' := T94) (g' := (mkF m 11 #[.val (.ref (w 9))] [(.ref (w 2)), (.ref (w 9))])) st94 ?_
  refine Go.on (T' := T94) (g' := (mkF m 18 #[.val (.ref (w 9))] [])) (fun t k => Jvm.RoadKit.acmp (g := (mkF m 11 #[.val (.ref (w 9))] [(.ref (w 2)), (.ref (w 9))])) X94 hx rfl rfl rfl (pc0 := 11) (pc' := 18) (same := false) rfl (hb hby d2_11) rfl (decide_eq_false fun q => (own_ne (pin_33 hP) (pin_26 hP) (by decide)) (Value.ref.inj q)) (by decide) (by decide) k) ?_
  refine Go.on (T' := T94) (g' := (mkF m 19 #[.val (.ref (w 9))] [(.int (0 : Int32))])) (fun t k => XS.iconst X94.here hx rfl (hb hby d2_18) k) ?_
  obtain ⟨fs, hr, hrun, hended, hW, hsame⟩ := X94.leave (v := some (.int (0 : Int32))) (fun h => by rw [Bd.returns] at h; cases h)
  exact ⟨_, _, retN X94 hx (t := .boolean) Bd.returns (by simp) (hb hby d2_19) hr, hrun, hended, _, _, rfl, ⟨rfl, N0, e94⟩, ⟨_, rfl⟩, hW, hsame.mono (by decide) (by decide)⟩
theorem d1_93 : decode method_2_code 93 = .ok (.iload_n 0, 1) := by decide +kernel
theorem d1_94 : decode method_2_code 94 = .ok (.bipush 10, 2) := by decide +kernel
theorem d1_96 : decode method_2_code 96 = .ok (.if_icmp .ne 7, 3) := by decide +kernel
theorem d1_99 : decode method_2_code 99 = .ok (.getstatic 40, 3) := by decide +kernel
theorem d1_102 : decode method_2_code 102 = .ok (.areturn, 1) := by decide +kernel
set_option maxRecDepth 65536 in
set_option maxHeartbeats 40000000 in
theorem rm1_10 (l : Launch) (Z : State) (a0 : Array Value) (hw : ∀ d ∈ tables_1, d.before a0 Z = true) (ws : List Jvm.Cond) (w : Nat → Addr) (h0 : Heap) (n0 : Nat) (Z0 : n0 ≤ h0.size) (hP : Pins Z h0 w) :
    MetFree l (⟨"com/example/anamnesis/anamnesis/rules/TypeIsNumberPinLaw", "pick", "(I)Lcom/example/anamnesis/anamnesis/rules/Type;"⟩ : MethodName) (head1 (Jvm.Cond.code (⟨"com/example/anamnesis/anamnesis/rules/TypeIsNumberPinLaw", "pick", "(I)Lcom/example/anamnesis/anamnesis/rules/Type;"⟩ : MethodName) method_2_code 1 (some (.object "com/example/anamnesis/anamnesis/rules/Type")) :: ws) ({ frames := 0, cells := 0, slots := 0, locals := 0 } : Room)) (fun a U => a = #[(.int (10 : Int32))] ∧ Z.Warmed39 U.vm ∧ U.heap = h0) (fun _ _ _ _ _ => True) (fun _ U o U' => ∃ v L, o = .returned v ∧ Qp (some (.ref (w 4))) h0 n0 v U'.heap L ∧ FrameEnd U o U' L ({ frames := 0, cells := 0, slots := 0, locals := 0 } : Room).cells ({ frames := 0, cells := 0, slots := 0, locals := 0 } : Room).slots) := by
  refine MetFree.of_bodySF (plainFor_of_name pn_0) hisR ?_
  intro p e s m args below meth c s₁ Bd hml0 hP0 hK
  obtain ⟨rfl, hZ, hh⟩ := hP0
  have hx := Bd.exec
  have hby := Bd.bytes
  have hml : c.maxLocals = 1 := hml0
  have hown : s.vm.findClass "com/example/anamnesis/anamnesis/rules/TypeIsNumberPinLaw" = some m.cls := findClass_of_methodNamed Bd.named
  have hnm := (name_of_methodNamed Bd.named Bd.method).1
  have X0 : Stand p l e ({ frames := 0, cells := 0, slots := 0, locals := 0 } : Room) s m #[(.int (10 : Int32))] below meth c s₁ [] 0 0 := Stand.of_body Bd
  have e0 : s₁.heap = h0 := by rw [← hh, Bd.state]; rfl
  have N0 := Fr.nil n0
  suffices hgo : Go p e below (fun o U' => ∃ v L, o = .returned v ∧ Qp (some (.ref (w 4))) h0 n0 v U'.heap L ∧ FrameEnd s o U' L ({ frames := 0, cells := 0, slots := 0, locals := 0 } : Room).cells ({ frames := 0, cells := 0, slots := 0, locals := 0 } : Room).slots) s₁ (mkF m 0 #[.val (.int (10 : Int32))] []) by
    obtain ⟨s2, o, g1, g2, g3, g4⟩ := hgo
    refine ⟨s2, o, castTop (?_ : entryFrame m #[(.int (10 : Int32))] 1 = _) g1, g2, g3, g4⟩
    first | (simp [entryFrame, mkF, argsToLocals, Value.category]; done) | rfl
  refine Go.on (T' := s₁) (g' := (mkF m 1 #[.val (.int (10 : Int32))] [(.int (10 : Int32))])) (fun t k => XS.iloadN X0.here hx rfl (hb hby d1_0) rfl k) ?_
  refine Go.on (T' := s₁) (g' := (mkF m 8 #[.val (.int (10 : Int32))] [])) (fun t k => XS.ifYes X0.here hx rfl (pc0 := 1) (pc' := 8) rfl (hb hby d1_1) rfl ((if0 _ _).trans (feq (by decide : ¬ ((10 : Int32) = (0 : Int32)))).2) (by decide) (by decide) k) ?_
  refine Go.on (T' := s₁) (g' := (mkF m 9 #[.val (.int (10 : Int32))] [(.int (10 : Int32))])) (fun t k => XS.iloadN X0.here hx rfl (hb hby d1_8) rfl k) ?_
  refine Go.on (T' := s₁) (g' := (mkF m 10 #[.val (.int (10 : Int32))] [(.int (1 : Int32)), (.int (10 : Int32))])) (fun t k => XS.iconst X0.here hx rfl (hb hby d1_9) k) ?_
  refine Go.on (T' := s₁) (g' := (mkF m 17 #[.val (.int (10 : Int32))] [])) (fun t k => XS.icmpYes X0.here hx rfl (pc0 := 10) (pc' := 17) rfl (hb hby d1_10) rfl (feq (by decide : ¬ ((10 : Int32) = (1 : Int32)))).2 (by decide) (by decide) k) ?_
  refine Go.on (T' := s₁) (g' := (mkF m 18 #[.val (.int (10 : Int32))] [(.int (10 : Int32))])) (fun t k => XS.iloadN X0.here hx rfl (hb hby d1_17) rfl k) ?_
  refine Go.on (T' := s₁) (g' := (mkF m 19 #[.val (.int (10 : Int32))] [(.int (2 : Int32)), (.int (10 : Int32))])) (fun t k => XS.iconst X0.here hx rfl (hb hby d1_18) k) ?_
  refine Go.on (T' := s₁) (g' := (mkF m 26 #[.val (.int (10 : Int32))] [])) (fun t k => XS.icmpYes X0.here hx rfl (pc0 := 19) (pc' := 26) rfl (hb hby d1_19) rfl (feq (by decide : ¬ ((10 : Int32) = (2 : Int32)))).2 (by decide) (by decide) k) ?_
  refine Go.on (T' := s₁) (g' := (mkF m 27 #[.val (.int (10 : Int32))] [(.int (10 : Int32))])) (fun t k => XS.iloadN X0.here hx rfl (hb hby d1_26) rfl k) ?_
  refine Go.on (T' := s₁) (g' := (mkF m 28 #[.val (.int (10 : Int32))] [(.int (3 : Int32)), (.int (10 : Int32))])) (fun t k => XS.iconst X0.here hx rfl (hb hby d1_27) k) ?_
  refine Go.on (T' := s₁) (g' := (mkF m 35 #[.val (.int (10 : Int32))] [])) (fun t k => XS.icmpYes X0.here hx rfl (pc0 := 28) (pc' := 35) rfl (hb hby d1_28) rfl (feq (by decide : ¬ ((10 : Int32) = (3 : Int32)))).2 (by decide) (by decide) k) ?_
  refine Go.on (T' := s₁) (g' := (mkF m 36 #[.val (.int (10 : Int32))] [(.int (10 : Int32))])) (fun t k => XS.iloadN X0.here hx rfl (hb hby d1_35) rfl k) ?_
  refine Go.on (T' := s₁) (g' := (mkF m 37 #[.val (.int (10 : Int32))] [(.int (4 : Int32)), (.int (10 : Int32))])) (fun t k => XS.iconst X0.here hx rfl (hb hby d1_36) k) ?_
  refine Go.on (T' := s₁) (g' := (mkF m 44 #[.val (.int (10 : Int32))] [])) (fun t k => XS.icmpYes X0.here hx rfl (pc0 := 37) (pc' := 44) rfl (hb hby d1_37) rfl (feq (by decide : ¬ ((10 : Int32) = (4 : Int32)))).2 (by decide) (by decide) k) ?_
  refine Go.on (T' := s₁) (g' := (mkF m 45 #[.val (.int (10 : Int32))] [(.int (10 : Int32))])) (fun t k => XS.iloadN X0.here hx rfl (hb hby d1_44) rfl k) ?_
  refine Go.on (T' := s₁) (g' := (mkF m 46 #[.val (.int (10 : Int32))] [(.int (5 : Int32)), (.int (10 : Int32))])) (fun t k => XS.iconst X0.here hx rfl (hb hby d1_45) k) ?_
  refine Go.on (T' := s₁) (g' := (mkF m 53 #[.val (.int (10 : Int32))] [])) (fun t k => XS.icmpYes X0.here hx rfl (pc0 := 46) (pc' := 53) rfl (hb hby d1_46) rfl (feq (by decide : ¬ ((10 : Int32) = (5 : Int32)))).2 (by decide) (by decide) k) ?_
  refine Go.on (T' := s₁) (g' := (mkF m 54 #[.val (.int (10 : Int32))] [(.int (10 : Int32))])) (fun t k => XS.iloadN X0.here hx rfl (hb hby d1_53) rfl k) ?_
  refine Go.on (T' := s₁) (g' := (mkF m 56 #[.val (.int (10 : Int32))] [(.int (6 : Int32)), (.int (10 : Int32))])) (fun t k => XS.bipush X0.here hx rfl (hb hby d1_54) k) ?_
  refine Go.on (T' := s₁) (g' := (mkF m 63 #[.val (.int (10 : Int32))] [])) (fun t k => XS.icmpYes X0.here hx rfl (pc0 := 56) (pc' := 63) rfl (hb hby d1_56) rfl (feq (by decide : ¬ ((10 : Int32) = (6 : Int32)))).2 (by decide) (by decide) k) ?_
  refine Go.on (T' := s₁) (g' := (mkF m 64 #[.val (.int (10 : Int32))] [(.int (10 : Int32))])) (fun t k => XS.iloadN X0.here hx rfl (hb hby d1_63) rfl k) ?_
  refine Go.on (T' := s₁) (g' := (mkF m 66 #[.val (.int (10 : Int32))] [(.int (7 : Int32)), (.int (10 : Int32))])) (fun t k => XS.bipush X0.here hx rfl (hb hby d1_64) k) ?_
  refine Go.on (T' := s₁) (g' := (mkF m 73 #[.val (.int (10 : Int32))] [])) (fun t k => XS.icmpYes X0.here hx rfl (pc0 := 66) (pc' := 73) rfl (hb hby d1_66) rfl (feq (by decide : ¬ ((10 : Int32) = (7 : Int32)))).2 (by decide) (by decide) k) ?_
  refine Go.on (T' := s₁) (g' := (mkF m 74 #[.val (.int (10 : Int32))] [(.int (10 : Int32))])) (fun t k => XS.iloadN X0.here hx rfl (hb hby d1_73) rfl k) ?_
  refine Go.on (T' := s₁) (g' := (mkF m 76 #[.val (.int (10 : Int32))] [(.int (8 : Int32)), (.int (10 : Int32))])) (fun t k => XS.bipush X0.here hx rfl (hb hby d1_74) k) ?_
  refine Go.on (T' := s₁) (g' := (mkF m 83 #[.val (.int (10 : Int32))] [])) (fun t k => XS.icmpYes X0.here hx rfl (pc0 := 76) (pc' := 83) rfl (hb hby d1_76) rfl (feq (by decide : ¬ ((10 : Int32) = (8 : Int32)))).2 (by decide) (by decide) k) ?_
  refine Go.on (T' := s₁) (g' := (mkF m 84 #[.val (.int (10 : Int32))] [(.int (10 : Int32))])) (fun t k => XS.iloadN X0.here hx rfl (hb hby d1_83) rfl k) ?_
  refine Go.on (T' := s₁) (g' := (mkF m 86 #[.val (.int (10 : Int32))] [(.int (9 : Int32)), (.int (10 : Int32))])) (fun t k => XS.bipush X0.here hx rfl (hb hby d1_84) k) ?_
  refine Go.on (T' := s₁) (g' := (mkF m 93 #[.val (.int (10 : Int32))] [])) (fun t k => XS.icmpYes X0.here hx rfl (pc0 := 86) (pc' := 93) rfl (hb hby d1_86) rfl (feq (by decide : ¬ ((10 : Int32) = (9 : Int32)))).2 (by decide) (by decide) k) ?_
  refine Go.on (T' := s₁) (g' := (mkF m 94 #[.val (.int (10 : Int32))] [(.int (10 : Int32))])) (fun t k => XS.iloadN X0.here hx rfl (hb hby d1_93) rfl k) ?_
  refine Go.on (T' := s₁) (g' := (mkF m 96 #[.val (.int (10 : Int32))] [(.int (10 : Int32)), (.int (10 : Int32))])) (fun t k => XS.bipush X0.here hx rfl (hb hby d1_94) k) ?_
  refine Go.on (T' := s₁) (g' := (mkF m 99 #[.val (.int (10 : Int32))] [])) (fun t k => XS.icmpNo X0.here hx rfl (hb hby d1_96) rfl (teq (by decide : (10 : Int32) = (10 : Int32))).2 k) ?_
  obtain ⟨T97, X97, e97, st97⟩ := getS2 X0 hx hZ hown (host := "") (Or.inl (hw _ (List.mem_of_getElem? (i := 43) rfl))) Via.refl e0 (pin_4 hP) (g := (mkF m 99 #[.val (.int (10 : Int32))] [])) rfl (hb hby d1_99)
  refine Go.on (T' := T97) (g' := (mkF m 102 #[.val (.int (10 : Int32))] [(.ref (w 4))])) st97 ?_
  obtain ⟨fs, hr, hrun, hended, hW, hsame⟩ := X97.leave (v := some (.ref (w 4))) (fun h => by rw [Bd.returns] at h; cases h)
  exact ⟨_, _, retOut X97 hx Bd.returns rfl (Or.inr (Or.inr (Or.inr (Or.inr ⟨rfl, rfl, rfl⟩)))) (hb hby d1_102) hr, hrun, hended, _, _, rfl, ⟨rfl, N0, e97⟩, ⟨_, rfl⟩, hW, hsame.mono (by decide) (by decide)⟩
set_option maxRecDepth 65536 in
set_option maxHeartbeats 40000000 in
theorem rm2_10 (l : Launch) (Z : State) (a0 : Array Value) (hw : ∀ d ∈ tables_1, d.before a0 Z = true) (ws : List Jvm.Cond) (w : Nat → Addr) (h0 : Heap) (n0 : Nat) (Z0 : n0 ≤ h0.size) (hP : Pins Z h0 w) :
    MetFree l (⟨"com/example/anamnesis/anamnesis/rules/Type", "isNumber", "()Z"⟩ : MethodName) (head1 (Jvm.Cond.code (⟨"com/example/anamnesis/anamnesis/rules/Type", "isNumber", "()Z"⟩ : MethodName) prog_87_method_7_code 1 (some .boolean) :: ws) ({ frames := 0, cells := 0, slots := 0, locals := 0 } : Room)) (fun a U => a = #[(.ref (w 4))] ∧ Z.Warmed39 U.vm ∧ U.heap = h0) (fun _ _ _ _ _ => True) (fun _ U o U' => ∃ v L, o = .returned v ∧ Qp (some (.int (0 : Int32))) h0 n0 v U'.heap L ∧ FrameEnd U o U' L ({ frames := 0, cells := 0, slots := 0, locals := 0 } : Room).cells ({ frames := 0, cells := 0, slots := 0, locals := 0 } : Room).slots) := by
  refine MetFree.of_bodySF (plainFor_of_name pn_1) hisR ?_
  intro p e s m args below meth c s₁ Bd hml0 hP0 hK
  obtain ⟨rfl, hZ, hh⟩ := hP0
  have hx := Bd.exec
  have hby := Bd.bytes
  have hml : c.maxLocals = 1 := hml0
  have hown : s.vm.findClass "com/example/anamnesis/anamnesis/rules/Type" = some m.cls := findClass_of_methodNamed Bd.named
  have hnm := (name_of_methodNamed Bd.named Bd.method).1
  have X0 : Stand p l e ({ frames := 0, cells := 0, slots := 0, locals := 0 } : Room) s m #[(.ref (w 4))] below meth c s₁ [] 0 0 := Stand.of_body Bd
  have e0 : s₁.heap = h0 := by rw [← hh, Bd.state]; rfl
  have N0 := Fr.nil n0
  suffices hgo : Go p e below (fun o U' => ∃ v L, o = .returned v ∧ Qp (some (.int (0 : Int32))) h0 n0 v U'.heap L ∧ FrameEnd s o U' L ({ frames := 0, cells := 0, slots := 0, locals := 0 } : Room).cells ({ frames := 0, cells := 0, slots := 0, locals := 0 } : Room).slots) s₁ (mkF m 0 #[.val (.ref (w 4))] []) by
    obtain ⟨s2, o, g1, g2, g3, g4⟩ := hgo
    refine ⟨s2, o, castTop (?_ : entryFrame m #[(.ref (w 4))] 1 = _) g1, g2, g3, g4⟩
    first | (simp [entryFrame, mkF, argsToLocals, Value.category]; done) | rfl
  refine Go.on (T' := s₁) (g' := (mkF m 1 #[.val (.ref (w 4))] [(.ref (w 4))])) (fun t k => XS.aloadN X0.here hx rfl (hb hby d2_0) rfl rfl k) ?_
  obtain ⟨T101, X101, e101, st101⟩ := getS2 X0 hx hZ hown (host := "") (Or.inl (hw _ (List.mem_of_getElem? (i := 13) rfl))) Via.refl e0 (pin_1 hP) (g := (mkF m 1 #[.val (.ref (w 4))] [(.ref (w 4))])) rfl (hb hby d2_1)
  refine Go.on (T' := T101) (g' := (mkF m 4 #[.val (.ref (w 4))] [(.ref (w 1)), (.ref (w 4))])) st101 ?_
  refine Go.on (T' := T101) (g' := (mkF m 7 #[.val (.ref (w 4))] [])) (fun t k => Jvm.RoadKit.acmp (g := (mkF m 4 #[.val (.ref (w 4))] [(.ref (w 1)), (.ref (w 4))])) X101 hx rfl rfl rfl (pc0 := 4) (pc' := 7) (same := false) rfl (hb hby d2_4) rfl (decide_eq_false fun q => (own_ne (pin_28 hP) (pin_25 hP) (by decide)) (Value.ref.inj q)) (by decide) (by decide) k) ?_
  refine Go.on (T' := T101) (g' := (mkF m 8 #[.val (.ref (w 4))] [(.ref (w 4))])) (fun t k => XS.aloadN X101.here hx rfl (hb hby d2_7) rfl rfl k) ?_
  obtain ⟨T102, X102, e102, st102⟩ := getS2 X101 hx hZ hown (host := "") (Or.inl (hw _ (List.mem_of_getElem? (i := 15) rfl))) Via.refl e101 (pin_2 hP) (g := (mkF m 8 #[.val (.ref (w 4))] [(.ref (w 4))])) rfl (hb hby d2_8)
  refine Go.on (T' := T102) (g' := (mkF m 11 #[.val (.ref (w 4))] [(.ref (w 2)), (.ref (w 4))])) st102 ?_
  refine Go.on (T' := T102) (g' := (mkF m 18 #[.val (.ref (w 4))] [])) (fun t k => Jvm.RoadKit.acmp (g := (mkF m 11 #[.val (.ref (w 4))] [(.ref (w 2)), (.ref (w 4))])) X102 hx rfl rfl rfl (pc0 := 11) (pc' := 18) (same := false) rfl (hb hby d2_11) rfl (decide_eq_false fun q => (own_ne (pin_28 hP) (pin_26 hP) (by decide)) (Value.ref.inj q)) (by decide) (by decide) k) ?_
  refine Go.on (T' := T102) (g' := (mkF m 19 #[.val (.ref (w 4))] [(.int (0 : Int32))])) (fun t k => XS.iconst X102.here hx rfl (hb hby d2_18) k) ?_
  obtain ⟨fs, hr, hrun, hended, hW, hsame⟩ := X102.leave (v := some (.int (0 : Int32))) (fun h => by rw [Bd.returns] at h; cases h)
  exact ⟨_, _, retN X102 hx (t := .boolean) Bd.returns (by simp) (hb hby d2_19) hr, hrun, hended, _, _, rfl, ⟨rfl, N0, e102⟩, ⟨_, rfl⟩, hW, hsame.mono (by decide) (by decide)⟩
theorem d1_103 : decode method_2_code 103 = .ok (.getstatic 43, 3) := by decide +kernel
theorem d1_106 : decode method_2_code 106 = .ok (.areturn, 1) := by decide +kernel
set_option maxRecDepth 65536 in
set_option maxHeartbeats 40000000 in
theorem rm1_11 (l : Launch) (Z : State) (a0 : Array Value) (hw : ∀ d ∈ tables_1, d.before a0 Z = true) (ws : List Jvm.Cond) (w : Nat → Addr) (h0 : Heap) (n0 : Nat) (Z0 : n0 ≤ h0.size) (hP : Pins Z h0 w) :
    MetFree l (⟨"com/example/anamnesis/anamnesis/rules/TypeIsNumberPinLaw", "pick", "(I)Lcom/example/anamnesis/anamnesis/rules/Type;"⟩ : MethodName) (head1 (Jvm.Cond.code (⟨"com/example/anamnesis/anamnesis/rules/TypeIsNumberPinLaw", "pick", "(I)Lcom/example/anamnesis/anamnesis/rules/Type;"⟩ : MethodName) method_2_code 1 (some (.object "com/example/anamnesis/anamnesis/rules/Type")) :: ws) ({ frames := 0, cells := 0, slots := 0, locals := 0 } : Room)) (fun a U => a = #[(.int (11 : Int32))] ∧ Z.Warmed39 U.vm ∧ U.heap = h0) (fun _ _ _ _ _ => True) (fun _ U o U' => ∃ v L, o = .returned v ∧ Qp (some (.ref (w 5))) h0 n0 v U'.heap L ∧ FrameEnd U o U' L ({ frames := 0, cells := 0, slots := 0, locals := 0 } : Room).cells ({ frames := 0, cells := 0, slots := 0, locals := 0 } : Room).slots) := by
  refine MetFree.of_bodySF (plainFor_of_name pn_0) hisR ?_
  intro p e s m args below meth c s₁ Bd hml0 hP0 hK
  obtain ⟨rfl, hZ, hh⟩ := hP0
  have hx := Bd.exec
  have hby := Bd.bytes
  have hml : c.maxLocals = 1 := hml0
  have hown : s.vm.findClass "com/example/anamnesis/anamnesis/rules/TypeIsNumberPinLaw" = some m.cls := findClass_of_methodNamed Bd.named
  have hnm := (name_of_methodNamed Bd.named Bd.method).1
  have X0 : Stand p l e ({ frames := 0, cells := 0, slots := 0, locals := 0 } : Room) s m #[(.int (11 : Int32))] below meth c s₁ [] 0 0 := Stand.of_body Bd
  have e0 : s₁.heap = h0 := by rw [← hh, Bd.state]; rfl
  have N0 := Fr.nil n0
  suffices hgo : Go p e below (fun o U' => ∃ v L, o = .returned v ∧ Qp (some (.ref (w 5))) h0 n0 v U'.heap L ∧ FrameEnd s o U' L ({ frames := 0, cells := 0, slots := 0, locals := 0 } : Room).cells ({ frames := 0, cells := 0, slots := 0, locals := 0 } : Room).slots) s₁ (mkF m 0 #[.val (.int (11 : Int32))] []) by
    obtain ⟨s2, o, g1, g2, g3, g4⟩ := hgo
    refine ⟨s2, o, castTop (?_ : entryFrame m #[(.int (11 : Int32))] 1 = _) g1, g2, g3, g4⟩
    first | (simp [entryFrame, mkF, argsToLocals, Value.category]; done) | rfl
  refine Go.on (T' := s₁) (g' := (mkF m 1 #[.val (.int (11 : Int32))] [(.int (11 : Int32))])) (fun t k => XS.iloadN X0.here hx rfl (hb hby d1_0) rfl k) ?_
  refine Go.on (T' := s₁) (g' := (mkF m 8 #[.val (.int (11 : Int32))] [])) (fun t k => XS.ifYes X0.here hx rfl (pc0 := 1) (pc' := 8) rfl (hb hby d1_1) rfl ((if0 _ _).trans (feq (by decide : ¬ ((11 : Int32) = (0 : Int32)))).2) (by decide) (by decide) k) ?_
  refine Go.on (T' := s₁) (g' := (mkF m 9 #[.val (.int (11 : Int32))] [(.int (11 : Int32))])) (fun t k => XS.iloadN X0.here hx rfl (hb hby d1_8) rfl k) ?_
  refine Go.on (T' := s₁) (g' := (mkF m 10 #[.val (.int (11 : Int32))] [(.int (1 : Int32)), (.int (11 : Int32))])) (fun t k => XS.iconst X0.here hx rfl (hb hby d1_9) k) ?_
  refine Go.on (T' := s₁) (g' := (mkF m 17 #[.val (.int (11 : Int32))] [])) (fun t k => XS.icmpYes X0.here hx rfl (pc0 := 10) (pc' := 17) rfl (hb hby d1_10) rfl (feq (by decide : ¬ ((11 : Int32) = (1 : Int32)))).2 (by decide) (by decide) k) ?_
  refine Go.on (T' := s₁) (g' := (mkF m 18 #[.val (.int (11 : Int32))] [(.int (11 : Int32))])) (fun t k => XS.iloadN X0.here hx rfl (hb hby d1_17) rfl k) ?_
  refine Go.on (T' := s₁) (g' := (mkF m 19 #[.val (.int (11 : Int32))] [(.int (2 : Int32)), (.int (11 : Int32))])) (fun t k => XS.iconst X0.here hx rfl (hb hby d1_18) k) ?_
  refine Go.on (T' := s₁) (g' := (mkF m 26 #[.val (.int (11 : Int32))] [])) (fun t k => XS.icmpYes X0.here hx rfl (pc0 := 19) (pc' := 26) rfl (hb hby d1_19) rfl (feq (by decide : ¬ ((11 : Int32) = (2 : Int32)))).2 (by decide) (by decide) k) ?_
  refine Go.on (T' := s₁) (g' := (mkF m 27 #[.val (.int (11 : Int32))] [(.int (11 : Int32))])) (fun t k => XS.iloadN X0.here hx rfl (hb hby d1_26) rfl k) ?_
  refine Go.on (T' := s₁) (g' := (mkF m 28 #[.val (.int (11 : Int32))] [(.int (3 : Int32)), (.int (11 : Int32))])) (fun t k => XS.iconst X0.here hx rfl (hb hby d1_27) k) ?_
  refine Go.on (T' := s₁) (g' := (mkF m 35 #[.val (.int (11 : Int32))] [])) (fun t k => XS.icmpYes X0.here hx rfl (pc0 := 28) (pc' := 35) rfl (hb hby d1_28) rfl (feq (by decide : ¬ ((11 : Int32) = (3 : Int32)))).2 (by decide) (by decide) k) ?_
  refine Go.on (T' := s₁) (g' := (mkF m 36 #[.val (.int (11 : Int32))] [(.int (11 : Int32))])) (fun t k => XS.iloadN X0.here hx rfl (hb hby d1_35) rfl k) ?_
  refine Go.on (T' := s₁) (g' := (mkF m 37 #[.val (.int (11 : Int32))] [(.int (4 : Int32)), (.int (11 : Int32))])) (fun t k => XS.iconst X0.here hx rfl (hb hby d1_36) k) ?_
  refine Go.on (T' := s₁) (g' := (mkF m 44 #[.val (.int (11 : Int32))] [])) (fun t k => XS.icmpYes X0.here hx rfl (pc0 := 37) (pc' := 44) rfl (hb hby d1_37) rfl (feq (by decide : ¬ ((11 : Int32) = (4 : Int32)))).2 (by decide) (by decide) k) ?_
  refine Go.on (T' := s₁) (g' := (mkF m 45 #[.val (.int (11 : Int32))] [(.int (11 : Int32))])) (fun t k => XS.iloadN X0.here hx rfl (hb hby d1_44) rfl k) ?_
  refine Go.on (T' := s₁) (g' := (mkF m 46 #[.val (.int (11 : Int32))] [(.int (5 : Int32)), (.int (11 : Int32))])) (fun t k => XS.iconst X0.here hx rfl (hb hby d1_45) k) ?_
  refine Go.on (T' := s₁) (g' := (mkF m 53 #[.val (.int (11 : Int32))] [])) (fun t k => XS.icmpYes X0.here hx rfl (pc0 := 46) (pc' := 53) rfl (hb hby d1_46) rfl (feq (by decide : ¬ ((11 : Int32) = (5 : Int32)))).2 (by decide) (by decide) k) ?_
  refine Go.on (T' := s₁) (g' := (mkF m 54 #[.val (.int (11 : Int32))] [(.int (11 : Int32))])) (fun t k => XS.iloadN X0.here hx rfl (hb hby d1_53) rfl k) ?_
  refine Go.on (T' := s₁) (g' := (mkF m 56 #[.val (.int (11 : Int32))] [(.int (6 : Int32)), (.int (11 : Int32))])) (fun t k => XS.bipush X0.here hx rfl (hb hby d1_54) k) ?_
  refine Go.on (T' := s₁) (g' := (mkF m 63 #[.val (.int (11 : Int32))] [])) (fun t k => XS.icmpYes X0.here hx rfl (pc0 := 56) (pc' := 63) rfl (hb hby d1_56) rfl (feq (by decide : ¬ ((11 : Int32) = (6 : Int32)))).2 (by decide) (by decide) k) ?_
  refine Go.on (T' := s₁) (g' := (mkF m 64 #[.val (.int (11 : Int32))] [(.int (11 : Int32))])) (fun t k => XS.iloadN X0.here hx rfl (hb hby d1_63) rfl k) ?_
  refine Go.on (T' := s₁) (g' := (mkF m 66 #[.val (.int (11 : Int32))] [(.int (7 : Int32)), (.int (11 : Int32))])) (fun t k => XS.bipush X0.here hx rfl (hb hby d1_64) k) ?_
  refine Go.on (T' := s₁) (g' := (mkF m 73 #[.val (.int (11 : Int32))] [])) (fun t k => XS.icmpYes X0.here hx rfl (pc0 := 66) (pc' := 73) rfl (hb hby d1_66) rfl (feq (by decide : ¬ ((11 : Int32) = (7 : Int32)))).2 (by decide) (by decide) k) ?_
  refine Go.on (T' := s₁) (g' := (mkF m 74 #[.val (.int (11 : Int32))] [(.int (11 : Int32))])) (fun t k => XS.iloadN X0.here hx rfl (hb hby d1_73) rfl k) ?_
  refine Go.on (T' := s₁) (g' := (mkF m 76 #[.val (.int (11 : Int32))] [(.int (8 : Int32)), (.int (11 : Int32))])) (fun t k => XS.bipush X0.here hx rfl (hb hby d1_74) k) ?_
  refine Go.on (T' := s₁) (g' := (mkF m 83 #[.val (.int (11 : Int32))] [])) (fun t k => XS.icmpYes X0.here hx rfl (pc0 := 76) (pc' := 83) rfl (hb hby d1_76) rfl (feq (by decide : ¬ ((11 : Int32) = (8 : Int32)))).2 (by decide) (by decide) k) ?_
  refine Go.on (T' := s₁) (g' := (mkF m 84 #[.val (.int (11 : Int32))] [(.int (11 : Int32))])) (fun t k => XS.iloadN X0.here hx rfl (hb hby d1_83) rfl k) ?_
  refine Go.on (T' := s₁) (g' := (mkF m 86 #[.val (.int (11 : Int32))] [(.int (9 : Int32)), (.int (11 : Int32))])) (fun t k => XS.bipush X0.here hx rfl (hb hby d1_84) k) ?_
  refine Go.on (T' := s₁) (g' := (mkF m 93 #[.val (.int (11 : Int32))] [])) (fun t k => XS.icmpYes X0.here hx rfl (pc0 := 86) (pc' := 93) rfl (hb hby d1_86) rfl (feq (by decide : ¬ ((11 : Int32) = (9 : Int32)))).2 (by decide) (by decide) k) ?_
  refine Go.on (T' := s₁) (g' := (mkF m 94 #[.val (.int (11 : Int32))] [(.int (11 : Int32))])) (fun t k => XS.iloadN X0.here hx rfl (hb hby d1_93) rfl k) ?_
  refine Go.on (T' := s₁) (g' := (mkF m 96 #[.val (.int (11 : Int32))] [(.int (10 : Int32)), (.int (11 : Int32))])) (fun t k => XS.bipush X0.here hx rfl (hb hby d1_94) k) ?_
  refine Go.on (T' := s₁) (g' := (mkF m 103 #[.val (.int (11 : Int32))] [])) (fun t k => XS.icmpYes X0.here hx rfl (pc0 := 96) (pc' := 103) rfl (hb hby d1_96) rfl (feq (by decide : ¬ ((11 : Int32) = (10 : Int32)))).2 (by decide) (by decide) k) ?_
  obtain ⟨T105, X105, e105, st105⟩ := getS2 X0 hx hZ hown (host := "") (Or.inl (hw _ (List.mem_of_getElem? (i := 37) rfl))) Via.refl e0 (pin_5 hP) (g := (mkF m 103 #[.val (.int (11 : Int32))] [])) rfl (hb hby d1_103)
  refine Go.on (T' := T105) (g' := (mkF m 106 #[.val (.int (11 : Int32))] [(.ref (w 5))])) st105 ?_
  obtain ⟨fs, hr, hrun, hended, hW, hsame⟩ := X105.leave (v := some (.ref (w 5))) (fun h => by rw [Bd.returns] at h; cases h)
  exact ⟨_, _, retOut X105 hx Bd.returns rfl (Or.inr (Or.inr (Or.inr (Or.inr ⟨rfl, rfl, rfl⟩)))) (hb hby d1_106) hr, hrun, hended, _, _, rfl, ⟨rfl, N0, e105⟩, ⟨_, rfl⟩, hW, hsame.mono (by decide) (by decide)⟩
set_option maxRecDepth 65536 in
set_option maxHeartbeats 40000000 in
theorem rm2_11 (l : Launch) (Z : State) (a0 : Array Value) (hw : ∀ d ∈ tables_1, d.before a0 Z = true) (ws : List Jvm.Cond) (w : Nat → Addr) (h0 : Heap) (n0 : Nat) (Z0 : n0 ≤ h0.size) (hP : Pins Z h0 w) :
    MetFree l (⟨"com/example/anamnesis/anamnesis/rules/Type", "isNumber", "()Z"⟩ : MethodName) (head1 (Jvm.Cond.code (⟨"com/example/anamnesis/anamnesis/rules/Type", "isNumber", "()Z"⟩ : MethodName) prog_87_method_7_code 1 (some .boolean) :: ws) ({ frames := 0, cells := 0, slots := 0, locals := 0 } : Room)) (fun a U => a = #[(.ref (w 5))] ∧ Z.Warmed39 U.vm ∧ U.heap = h0) (fun _ _ _ _ _ => True) (fun _ U o U' => ∃ v L, o = .returned v ∧ Qp (some (.int (0 : Int32))) h0 n0 v U'.heap L ∧ FrameEnd U o U' L ({ frames := 0, cells := 0, slots := 0, locals := 0 } : Room).cells ({ frames := 0, cells := 0, slots := 0, locals := 0 } : Room).slots) := by
  refine MetFree.of_bodySF (plainFor_of_name pn_1) hisR ?_
  intro p e s m args below meth c s₁ Bd hml0 hP0 hK
  obtain ⟨rfl, hZ, hh⟩ := hP0
  have hx := Bd.exec
  have hby := Bd.bytes
  have hml : c.maxLocals = 1 := hml0
  have hown : s.vm.findClass "com/example/anamnesis/anamnesis/rules/Type" = some m.cls := findClass_of_methodNamed Bd.named
  have hnm := (name_of_methodNamed Bd.named Bd.method).1
  have X0 : Stand p l e ({ frames := 0, cells := 0, slots := 0, locals := 0 } : Room) s m #[(.ref (w 5))] below meth c s₁ [] 0 0 := Stand.of_body Bd
  have e0 : s₁.heap = h0 := by rw [← hh, Bd.state]; rfl
  have N0 := Fr.nil n0
  suffices hgo : Go p e below (fun o U' => ∃ v L, o = .returned v ∧ Qp (some (.int (0 : Int32))) h0 n0 v U'.heap L ∧ FrameEnd s o U' L ({ frames := 0, cells := 0, slots := 0, locals := 0 } : Room).cells ({ frames := 0, cells := 0, slots := 0, locals := 0 } : Room).slots) s₁ (mkF m 0 #[.val (.ref (w 5))] []) by
    obtain ⟨s2, o, g1, g2, g3, g4⟩ := hgo
    refine ⟨s2, o, castTop (?_ : entryFrame m #[(.ref (w 5))] 1 = _) g1, g2, g3, g4⟩
    first | (simp [entryFrame, mkF, argsToLocals, Value.category]; done) | rfl
  refine Go.on (T' := s₁) (g' := (mkF m 1 #[.val (.ref (w 5))] [(.ref (w 5))])) (fun t k => XS.aloadN X0.here hx rfl (hb hby d2_0) rfl rfl k) ?_
  obtain ⟨T109, X109, e109, st109⟩ := getS2 X0 hx hZ hown (host := "") (Or.inl (hw _ (List.mem_of_getElem? (i := 13) rfl))) Via.refl e0 (pin_1 hP) (g := (mkF m 1 #[.val (.ref (w 5))] [(.ref (w 5))])) rfl (hb hby d2_1)
  refine Go.on (T' := T109) (g' := (mkF m 4 #[.val (.ref (w 5))] [(.ref (w 1)), (.ref (w 5))])) st109 ?_
  refine Go.on (T' := T109) (g' := (mkF m 7 #[.val (.ref (w 5))] [])) (fun t k => Jvm.RoadKit.acmp (g := (mkF m 4 #[.val (.ref (w 5))] [(.ref (w 1)), (.ref (w 5))])) X109 hx rfl rfl rfl (pc0 := 4) (pc' := 7) (same := false) rfl (hb hby d2_4) rfl (decide_eq_false fun q => (own_ne (pin_29 hP) (pin_25 hP) (by decide)) (Value.ref.inj q)) (by decide) (by decide) k) ?_
  refine Go.on (T' := T109) (g' := (mkF m 8 #[.val (.ref (w 5))] [(.ref (w 5))])) (fun t k => XS.aloadN X109.here hx rfl (hb hby d2_7) rfl rfl k) ?_
  obtain ⟨T110, X110, e110, st110⟩ := getS2 X109 hx hZ hown (host := "") (Or.inl (hw _ (List.mem_of_getElem? (i := 15) rfl))) Via.refl e109 (pin_2 hP) (g := (mkF m 8 #[.val (.ref (w 5))] [(.ref (w 5))])) rfl (hb hby d2_8)
  refine Go.on (T' := T110) (g' := (mkF m 11 #[.val (.ref (w 5))] [(.ref (w 2)), (.ref (w 5))])) st110 ?_
  refine Go.on (T' := T110) (g' := (mkF m 18 #[.val (.ref (w 5))] [])) (fun t k => Jvm.RoadKit.acmp (g := (mkF m 11 #[.val (.ref (w 5))] [(.ref (w 2)), (.ref (w 5))])) X110 hx rfl rfl rfl (pc0 := 11) (pc' := 18) (same := false) rfl (hb hby d2_11) rfl (decide_eq_false fun q => (own_ne (pin_29 hP) (pin_26 hP) (by decide)) (Value.ref.inj q)) (by decide) (by decide) k) ?_
  refine Go.on (T' := T110) (g' := (mkF m 19 #[.val (.ref (w 5))] [(.int (0 : Int32))])) (fun t k => XS.iconst X110.here hx rfl (hb hby d2_18) k) ?_
  obtain ⟨fs, hr, hrun, hended, hW, hsame⟩ := X110.leave (v := some (.int (0 : Int32))) (fun h => by rw [Bd.returns] at h; cases h)
  exact ⟨_, _, retN X110 hx (t := .boolean) Bd.returns (by simp) (hb hby d2_19) hr, hrun, hended, _, _, rfl, ⟨rfl, N0, e110⟩, ⟨_, rfl⟩, hW, hsame.mono (by decide) (by decide)⟩
set_option maxRecDepth 65536 in
set_option maxHeartbeats 40000000 in
theorem rm0 (l : Launch) (Z : State) (a0 : Array Value) (hw : ∀ d ∈ tables_1, d.before a0 Z = true) (ws : List Jvm.Cond) (w : Nat → Addr) (h0 : Heap) (n0 : Nat) (Z0 : n0 ≤ h0.size) (hP : Pins Z h0 w) (i0 : Int32) :
    MetFree l x (head1 (Jvm.Cond.code x code maxLocals ret :: ws) room_1) (fun a U => a = #[(.int i0)] ∧ Z.Warmed39 U.vm ∧ U.heap = h0) (fun _ _ _ _ _ => True) (fun _ U o U' => ∃ v L, o = .returned v ∧ Ql (some (.int (1 : Int32))) n0 v L ∧ FrameEnd U o U' L 0 0) := by
  refine MetFree.of_bodySF (plainFor_of_name pn_0) hisR ?_
  intro p e s m args below meth c s₁ Bd hml0 hP0 hK
  obtain ⟨rfl, hZ, hh⟩ := hP0
  have hx := Bd.exec
  have hby := Bd.bytes
  have hml : c.maxLocals = 5 := hml0
  have hown : s.vm.findClass "com/example/anamnesis/anamnesis/rules/TypeIsNumberPinLaw" = some m.cls := findClass_of_methodNamed Bd.named
  have hnm := (name_of_methodNamed Bd.named Bd.method).1
  have X0 : Stand p l e room_1 s m #[(.int i0)] below meth c s₁ [] 0 0 := Stand.of_body Bd
  have e0 : s₁.heap = h0 := by rw [← hh, Bd.state]; rfl
  have N0 := Fr.nil n0
  suffices hgo : Go p e below (fun o U' => ∃ v L, o = .returned v ∧ Ql (some (.int (1 : Int32))) n0 v L ∧ FrameEnd s o U' L 0 0) s₁ (mkF m 0 #[.val (.int i0), .unset, .unset, .unset, .unset] []) by
    obtain ⟨s2, o, g1, g2, g3, g4⟩ := hgo
    refine ⟨s2, o, castTop (?_ : entryFrame m #[(.int i0)] maxLocals = _) g1, g2, g3, g4⟩
    first | (simp [entryFrame, mkF, argsToLocals, Value.category, maxLocals]; done) | rfl
  refine Go.on (T' := s₁) (g' := (mkF m 1 #[.val (.int i0), .unset, .unset, .unset, .unset] [(.int i0)])) (fun t k => XS.iloadN X0.here hx rfl (hb hby at_0) rfl k) ?_
  refine Go.on (T' := s₁) (g' := (mkF m 3 #[.val (.int i0), .unset, .unset, .unset, .unset] [(.int (2147483647 : Int32)), (.int i0)])) (X0.ldcInt hx hown (mvT hZ (hw _ (List.mem_of_getElem? (i := 0) rfl))) (g := (mkF m 1 #[.val (.int i0), .unset, .unset, .unset, .unset] [(.int i0)])) rfl (hb hby at_1)) ?_
  refine Go.on (T' := s₁) (g' := (mkF m 4 #[.val (.int i0), .unset, .unset, .unset, .unset] [(.int (i0 &&& (2147483647 : Int32)))])) (fun t k => XS.iand X0.here hx rfl (hb hby at_3) rfl k) ?_
  refine Go.on (T' := s₁) (g' := (mkF m 6 #[.val (.int i0), .unset, .unset, .unset, .unset] [(.int (12 : Int32)), (.int (i0 &&& (2147483647 : Int32)))])) (fun t k => XS.bipush X0.here hx rfl (hb hby at_4) k) ?_
  refine Go.on (T' := s₁) (g' := (mkF m 7 #[.val (.int i0), .unset, .unset, .unset, .unset] [(.int ((i0 &&& (2147483647 : Int32)) % (12 : Int32)))])) (fun t k => iremM X0 hx rfl (hb hby at_6) rfl (by decide) k) ?_
  rcases own_mod12 i0 with h1 | h1 | h1 | h1 | h1 | h1 | h1 | h1 | h1 | h1 | h1 | h1
  · skip
    rw [h1]
    refine Go.on (T' := s₁) (g' := (mkF m 8 #[.val (.int i0), .val (.int (0 : Int32)), .unset, .unset, .unset] [])) (fun t k => XS.istoreN X0.here hx rfl (hb hby at_7) rfl (l' := #[.val (.int i0), .val (.int (0 : Int32)), .unset, .unset, .unset]) rfl k) ?_
    refine Go.on (T' := s₁) (g' := (mkF m 9 #[.val (.int i0), .val (.int (0 : Int32)), .unset, .unset, .unset] [(.int (0 : Int32))])) (fun t k => XS.iloadN X0.here hx rfl (hb hby at_8) rfl k) ?_
    obtain ⟨_, _, ⟨T4, L4, k4, n4⟩, -, X4, ⟨Lc4, hQ4, l4, y4, z4⟩, st4⟩ := Jvm.LawKit.callS X0 hx (y := (⟨"com/example/anamnesis/anamnesis/rules/TypeIsNumberPinLaw", "pick", "(I)Lcom/example/anamnesis/anamnesis/rules/Type;"⟩ : MethodName)) hown (mvT hZ (hw _ (List.mem_of_getElem? (i := 1) rfl))) (mvT hZ (hw _ (List.mem_of_getElem? (i := 2) rfl))) (mvT hZ (hw _ (List.mem_of_getElem? (i := 3) rfl))) (mvT hZ (hw _ (List.mem_of_getElem? (i := 4) rfl))) (by decide) (backOf (W := 0) (rm1_0 l Z a0 hw [] w h0 n0 (Nat.le_trans Z0 (own_ext0 h0).1) hP) hZ (hw _ (List.mem_of_getElem? (i := 4) rfl)) (hw _ (List.mem_of_getElem? (i := 3) rfl)) (by decide) (by decide)) (g := (mkF m 9 #[.val (.int i0), .val (.int (0 : Int32)), .unset, .unset, .unset] [(.int (0 : Int32))])) rfl (by rw [hml]; rfl) (argsL := [(.int (0 : Int32))]) (rest := []) (lenOf pd_0 rfl) rfl (by show 2 * 0 + _ ≤ _; exact Nat.le_of_eq rfl) (hb hby at_9) (fun _ _ => ⟨rfl, e0, (by decide : 0 + 0 ≤ _), (by decide : 0 + 0 ≤ _)⟩)
    dsimp only [Pt.U, Pt.locs, Pt.cells, Pt.slots] at X4 l4 y4 z4 st4 hQ4
    subst l4 y4 z4
    obtain ⟨rfl, N4q, e4⟩ := hQ4
    have N4 := Fr.app N0 N4q
    refine Go.on (T' := T4) (g' := (mkF m 12 #[.val (.int i0), .val (.int (0 : Int32)), .unset, .unset, .unset] [(.ref (w 0))])) st4 ?_
    refine Go.on (T' := T4) (g' := (mkF m 13 #[.val (.int i0), .val (.int (0 : Int32)), .val (.ref (w 0)), .unset, .unset] [])) (fun t k => XS.astoreN X4.here hx rfl (hb hby at_12) rfl rfl (l' := #[.val (.int i0), .val (.int (0 : Int32)), .val (.ref (w 0)), .unset, .unset]) rfl k) ?_
    refine Go.on (T' := T4) (g' := (mkF m 14 #[.val (.int i0), .val (.int (0 : Int32)), .val (.ref (w 0)), .unset, .unset] [(.int (0 : Int32))])) (fun t k => XS.iloadN X4.here hx rfl (hb hby at_13) rfl k) ?_
    refine Go.on (T' := T4) (g' := (mkF m 15 #[.val (.int i0), .val (.int (0 : Int32)), .val (.ref (w 0)), .unset, .unset] [(.int (1 : Int32)), (.int (0 : Int32))])) (fun t k => XS.iconst X4.here hx rfl (hb hby at_14) k) ?_
    refine Go.on (T' := T4) (g' := (mkF m 18 #[.val (.int i0), .val (.int (0 : Int32)), .val (.ref (w 0)), .unset, .unset] [])) (fun t k => XS.icmpNo X4.here hx rfl (hb hby at_15) rfl (feq (by decide : ¬ ((0 : Int32) = (1 : Int32)))).1 k) ?_
    refine Go.on (T' := T4) (g' := (mkF m 19 #[.val (.int i0), .val (.int (0 : Int32)), .val (.ref (w 0)), .unset, .unset] [(.int (0 : Int32))])) (fun t k => XS.iloadN X4.here hx rfl (hb hby at_18) rfl k) ?_
    refine Go.on (T' := T4) (g' := (mkF m 20 #[.val (.int i0), .val (.int (0 : Int32)), .val (.ref (w 0)), .unset, .unset] [(.int (2 : Int32)), (.int (0 : Int32))])) (fun t k => XS.iconst X4.here hx rfl (hb hby at_19) k) ?_
    refine Go.on (T' := T4) (g' := (mkF m 27 #[.val (.int i0), .val (.int (0 : Int32)), .val (.ref (w 0)), .unset, .unset] [])) (fun t k => XS.icmpYes X4.here hx rfl (pc0 := 20) (pc' := 27) rfl (hb hby at_20) rfl (feq (by decide : ¬ ((0 : Int32) = (2 : Int32)))).2 (by decide) (by decide) k) ?_
    refine Go.on (T' := T4) (g' := (mkF m 28 #[.val (.int i0), .val (.int (0 : Int32)), .val (.ref (w 0)), .unset, .unset] [(.int (0 : Int32))])) (fun t k => XS.iconst X4.here hx rfl (hb hby at_27) k) ?_
    refine Go.on (T' := T4) (g' := (mkF m 29 #[.val (.int i0), .val (.int (0 : Int32)), .val (.ref (w 0)), .val (.int (0 : Int32)), .unset] [])) (fun t k => XS.istoreN X4.here hx rfl (hb hby at_28) rfl (l' := #[.val (.int i0), .val (.int (0 : Int32)), .val (.ref (w 0)), .val (.int (0 : Int32)), .unset]) rfl k) ?_
    refine Go.on (T' := T4) (g' := (mkF m 30 #[.val (.int i0), .val (.int (0 : Int32)), .val (.ref (w 0)), .val (.int (0 : Int32)), .unset] [(.ref (w 0))])) (fun t k => XS.aloadN X4.here hx rfl (hb hby at_29) rfl rfl k) ?_
    obtain ⟨cq9, kq9, q9a, q9b, q9c⟩ := isOf hZ e4 (pin_12 hP)
    obtain ⟨_, _, ⟨T9, L9, k9, n9⟩, -, X9, ⟨Lc9, hQ9, l9, y9, z9⟩, st9⟩ := X4.virtualBack hx (y := (⟨"com/example/anamnesis/anamnesis/rules/Type", "isNumber", "()Z"⟩ : MethodName)) (z := (⟨"com/example/anamnesis/anamnesis/rules/Type", "isNumber", "()Z"⟩ : MethodName)) hown (mvT hZ (hw _ (List.mem_of_getElem? (i := 8) rfl))) (mvT hZ (hw _ (List.mem_of_getElem? (i := 9) rfl))) (notFace_of_selects (args := #[]) (mvT hZ (hw _ (List.mem_of_getElem? (i := 11) rfl)))) (mvT hZ (hw _ (List.mem_of_getElem? (i := 11) rfl))) (mvT hZ (hw _ (List.mem_of_getElem? (i := 10) rfl))) (by decide) (backOf (W := 0) (rm2_0 l Z a0 hw [] w h0 n0 (Nat.le_trans Z0 (own_ext0 h0).1) hP) hZ (hw _ (List.mem_of_getElem? (i := 12) rfl)) (hw _ (List.mem_of_getElem? (i := 6) rfl)) (by decide) (by decide)) q9a q9c (g := (mkF m 30 #[.val (.int i0), .val (.int (0 : Int32)), .val (.ref (w 0)), .val (.int (0 : Int32)), .unset] [(.ref (w 0))])) rfl (by rw [hml]; rfl) (Steps.refl _) (argsL := []) (rest := []) (lenOf pd_1 rfl) rfl (by show 2 * 0 + _ ≤ _; exact Nat.le_of_eq rfl) (hb hby at_30) (fun _ _ => ⟨rfl, e4, (by decide : 0 + 0 ≤ _), (by decide : 0 + 0 ≤ _)⟩)
    dsimp only [Pt.U, Pt.locs, Pt.cells, Pt.slots] at X9 l9 y9 z9 st9 hQ9
    subst l9 y9 z9
    obtain ⟨rfl, N9q, e9⟩ := hQ9
    have N9 := Fr.app N4 N9q
    refine Go.on (T' := T9) (g' := (mkF m 33 #[.val (.int i0), .val (.int (0 : Int32)), .val (.ref (w 0)), .val (.int (0 : Int32)), .unset] [(.int (0 : Int32))])) (fun t k => st9.trans k) ?_
    refine Go.on (T' := T9) (g' := (mkF m 35 #[.val (.int i0), .val (.int (0 : Int32)), .val (.ref (w 0)), .val (.int (0 : Int32)), .val (.int (0 : Int32))] [])) (fun t k => XS.istore X9.here hx rfl (hb hby at_33) rfl (l' := #[.val (.int i0), .val (.int (0 : Int32)), .val (.ref (w 0)), .val (.int (0 : Int32)), .val (.int (0 : Int32))]) rfl k) ?_
    refine Go.on (T' := T9) (g' := (mkF m 37 #[.val (.int i0), .val (.int (0 : Int32)), .val (.ref (w 0)), .val (.int (0 : Int32)), .val (.int (0 : Int32))] [(.int (0 : Int32))])) (fun t k => XS.iload X9.here hx rfl (hb hby at_35) rfl k) ?_
    refine Go.on (T' := T9) (g' := (mkF m 38 #[.val (.int i0), .val (.int (0 : Int32)), .val (.ref (w 0)), .val (.int (0 : Int32)), .val (.int (0 : Int32))] [(.int (0 : Int32)), (.int (0 : Int32))])) (fun t k => XS.iloadN X9.here hx rfl (hb hby at_37) rfl k) ?_
    refine Go.on (T' := T9) (g' := (mkF m 43 #[.val (.int i0), .val (.int (0 : Int32)), .val (.ref (w 0)), .val (.int (0 : Int32)), .val (.int (0 : Int32))] [])) (fun t k => XS.icmpYes X9.here hx rfl (pc0 := 38) (pc' := 43) rfl (hb hby at_38) rfl (teq (by decide : (0 : Int32) = (0 : Int32))).1 (by decide) (by decide) k) ?_
    refine Go.on (T' := T9) (g' := (mkF m 45 #[.val (.int i0), .val (.int (0 : Int32)), .val (.ref (w 0)), .val (.int (0 : Int32)), .val (.int (0 : Int32))] [(.int (0 : Int32))])) (fun t k => XS.iload X9.here hx rfl (hb hby at_43) rfl k) ?_
    refine Go.on (T' := T9) (g' := (mkF m 64 #[.val (.int i0), .val (.int (0 : Int32)), .val (.ref (w 0)), .val (.int (0 : Int32)), .val (.int (0 : Int32))] [])) (fun t k => XS.ifYes X9.here hx rfl (pc0 := 45) (pc' := 64) rfl (hb hby at_45) rfl ((if0 _ _).trans (teq (by decide : (0 : Int32) = (0 : Int32))).1) (by decide) (by decide) k) ?_
    refine Go.on (T' := T9) (g' := (mkF m 65 #[.val (.int i0), .val (.int (0 : Int32)), .val (.ref (w 0)), .val (.int (0 : Int32)), .val (.int (0 : Int32))] [(.int (1 : Int32))])) (fun t k => XS.iconst X9.here hx rfl (hb hby at_64) k) ?_
    obtain ⟨fs, hr, hrun, hended, hW, hsame⟩ := X9.leave (v := some (.int (1 : Int32))) (fun h => by rw [Bd.returns] at h; cases h)
    exact ⟨_, _, retN X9 hx (t := .boolean) Bd.returns (by simp) (hb hby at_65) hr, hrun, hended, _, _, rfl, ⟨rfl, N9⟩, ⟨_, rfl⟩, hW, hsame.mono (by decide) (by decide)⟩
  · skip
    rw [h1]
    refine Go.on (T' := s₁) (g' := (mkF m 8 #[.val (.int i0), .val (.int (1 : Int32)), .unset, .unset, .unset] [])) (fun t k => XS.istoreN X0.here hx rfl (hb hby at_7) rfl (l' := #[.val (.int i0), .val (.int (1 : Int32)), .unset, .unset, .unset]) rfl k) ?_
    refine Go.on (T' := s₁) (g' := (mkF m 9 #[.val (.int i0), .val (.int (1 : Int32)), .unset, .unset, .unset] [(.int (1 : Int32))])) (fun t k => XS.iloadN X0.here hx rfl (hb hby at_8) rfl k) ?_
    obtain ⟨_, _, ⟨T12, L12, k12, n12⟩, -, X12, ⟨Lc12, hQ12, l12, y12, z12⟩, st12⟩ := Jvm.LawKit.callS X0 hx (y := (⟨"com/example/anamnesis/anamnesis/rules/TypeIsNumberPinLaw", "pick", "(I)Lcom/example/anamnesis/anamnesis/rules/Type;"⟩ : MethodName)) hown (mvT hZ (hw _ (List.mem_of_getElem? (i := 1) rfl))) (mvT hZ (hw _ (List.mem_of_getElem? (i := 2) rfl))) (mvT hZ (hw _ (List.mem_of_getElem? (i := 3) rfl))) (mvT hZ (hw _ (List.mem_of_getElem? (i := 4) rfl))) (by decide) (backOf (W := 0) (rm1_1 l Z a0 hw [] w h0 n0 (Nat.le_trans Z0 (own_ext0 h0).1) hP) hZ (hw _ (List.mem_of_getElem? (i := 4) rfl)) (hw _ (List.mem_of_getElem? (i := 3) rfl)) (by decide) (by decide)) (g := (mkF m 9 #[.val (.int i0), .val (.int (1 : Int32)), .unset, .unset, .unset] [(.int (1 : Int32))])) rfl (by rw [hml]; rfl) (argsL := [(.int (1 : Int32))]) (rest := []) (lenOf pd_0 rfl) rfl (by show 2 * 0 + _ ≤ _; exact Nat.le_of_eq rfl) (hb hby at_9) (fun _ _ => ⟨rfl, e0, (by decide : 0 + 0 ≤ _), (by decide : 0 + 0 ≤ _)⟩)
    dsimp only [Pt.U, Pt.locs, Pt.cells, Pt.slots] at X12 l12 y12 z12 st12 hQ12
    subst l12 y12 z12
    obtain ⟨rfl, N12q, e12⟩ := hQ12
    have N12 := Fr.app N0 N12q
    refine Go.on (T' := T12) (g' := (mkF m 12 #[.val (.int i0), .val (.int (1 : Int32)), .unset, .unset, .unset] [(.ref (w 1))])) st12 ?_
    refine Go.on (T' := T12) (g' := (mkF m 13 #[.val (.int i0), .val (.int (1 : Int32)), .val (.ref (w 1)), .unset, .unset] [])) (fun t k => XS.astoreN X12.here hx rfl (hb hby at_12) rfl rfl (l' := #[.val (.int i0), .val (.int (1 : Int32)), .val (.ref (w 1)), .unset, .unset]) rfl k) ?_
    refine Go.on (T' := T12) (g' := (mkF m 14 #[.val (.int i0), .val (.int (1 : Int32)), .val (.ref (w 1)), .unset, .unset] [(.int (1 : Int32))])) (fun t k => XS.iloadN X12.here hx rfl (hb hby at_13) rfl k) ?_
    refine Go.on (T' := T12) (g' := (mkF m 15 #[.val (.int i0), .val (.int (1 : Int32)), .val (.ref (w 1)), .unset, .unset] [(.int (1 : Int32)), (.int (1 : Int32))])) (fun t k => XS.iconst X12.here hx rfl (hb hby at_14) k) ?_
    refine Go.on (T' := T12) (g' := (mkF m 23 #[.val (.int i0), .val (.int (1 : Int32)), .val (.ref (w 1)), .unset, .unset] [])) (fun t k => XS.icmpYes X12.here hx rfl (pc0 := 15) (pc' := 23) rfl (hb hby at_15) rfl (teq (by decide : (1 : Int32) = (1 : Int32))).1 (by decide) (by decide) k) ?_
    refine Go.on (T' := T12) (g' := (mkF m 24 #[.val (.int i0), .val (.int (1 : Int32)), .val (.ref (w 1)), .unset, .unset] [(.int (1 : Int32))])) (fun t k => XS.iconst X12.here hx rfl (hb hby at_23) k) ?_
    refine Go.on (T' := T12) (g' := (mkF m 28 #[.val (.int i0), .val (.int (1 : Int32)), .val (.ref (w 1)), .unset, .unset] [(.int (1 : Int32))])) (fun t k => XS.goto X12.here hx rfl (pc0 := 24) (pc' := 28) rfl (hb hby at_24) (by decide) (by decide) k) ?_
    refine Go.on (T' := T12) (g' := (mkF m 29 #[.val (.int i0), .val (.int (1 : Int32)), .val (.ref (w 1)), .val (.int (1 : Int32)), .unset] [])) (fun t k => XS.istoreN X12.here hx rfl (hb hby at_28) rfl (l' := #[.val (.int i0), .val (.int (1 : Int32)), .val (.ref (w 1)), .val (.int (1 : Int32)), .unset]) rfl k) ?_
    refine Go.on (T' := T12) (g' := (mkF m 30 #[.val (.int i0), .val (.int (1 : Int32)), .val (.ref (w 1)), .val (.int (1 : Int32)), .unset] [(.ref (w 1))])) (fun t k => XS.aloadN X12.here hx rfl (hb hby at_29) rfl rfl k) ?_
    obtain ⟨cq15, kq15, q15a, q15b, q15c⟩ := isOf hZ e12 (pin_13 hP)
    obtain ⟨_, _, ⟨T15, L15, k15, n15⟩, -, X15, ⟨Lc15, hQ15, l15, y15, z15⟩, st15⟩ := X12.virtualBack hx (y := (⟨"com/example/anamnesis/anamnesis/rules/Type", "isNumber", "()Z"⟩ : MethodName)) (z := (⟨"com/example/anamnesis/anamnesis/rules/Type", "isNumber", "()Z"⟩ : MethodName)) hown (mvT hZ (hw _ (List.mem_of_getElem? (i := 8) rfl))) (mvT hZ (hw _ (List.mem_of_getElem? (i := 9) rfl))) (notFace_of_selects (args := #[]) (mvT hZ (hw _ (List.mem_of_getElem? (i := 11) rfl)))) (mvT hZ (hw _ (List.mem_of_getElem? (i := 11) rfl))) (mvT hZ (hw _ (List.mem_of_getElem? (i := 10) rfl))) (by decide) (backOf (W := 0) (rm2_1 l Z a0 hw [] w h0 n0 (Nat.le_trans Z0 (own_ext0 h0).1) hP) hZ (hw _ (List.mem_of_getElem? (i := 12) rfl)) (hw _ (List.mem_of_getElem? (i := 6) rfl)) (by decide) (by decide)) q15a q15c (g := (mkF m 30 #[.val (.int i0), .val (.int (1 : Int32)), .val (.ref (w 1)), .val (.int (1 : Int32)), .unset] [(.ref (w 1))])) rfl (by rw [hml]; rfl) (Steps.refl _) (argsL := []) (rest := []) (lenOf pd_1 rfl) rfl (by show 2 * 0 + _ ≤ _; exact Nat.le_of_eq rfl) (hb hby at_30) (fun _ _ => ⟨rfl, e12, (by decide : 0 + 0 ≤ _), (by decide : 0 + 0 ≤ _)⟩)
    dsimp only [Pt.U, Pt.locs, Pt.cells, Pt.slots] at X15 l15 y15 z15 st15 hQ15
    subst l15 y15 z15
    obtain ⟨rfl, N15q, e15⟩ := hQ15
    have N15 := Fr.app N12 N15q
    refine Go.on (T' := T15) (g' := (mkF m 33 #[.val (.int i0), .val (.int (1 : Int32)), .val (.ref (w 1)), .val (.int (1 : Int32)), .unset] [(.int (1 : Int32))])) (fun t k => st15.trans k) ?_
    refine Go.on (T' := T15) (g' := (mkF m 35 #[.val (.int i0), .val (.int (1 : Int32)), .val (.ref (w 1)), .val (.int (1 : Int32)), .val (.int (1 : Int32))] [])) (fun t k => XS.istore X15.here hx rfl (hb hby at_33) rfl (l' := #[.val (.int i0), .val (.int (1 : Int32)), .val (.ref (w 1)), .val (.int (1 : Int32)), .val (.int (1 : Int32))]) rfl k) ?_
    refine Go.on (T' := T15) (g' := (mkF m 37 #[.val (.int i0), .val (.int (1 : Int32)), .val (.ref (w 1)), .val (.int (1 : Int32)), .val (.int (1 : Int32))] [(.int (1 : Int32))])) (fun t k => XS.iload X15.here hx rfl (hb hby at_35) rfl k) ?_
    refine Go.on (T' := T15) (g' := (mkF m 38 #[.val (.int i0), .val (.int (1 : Int32)), .val (.ref (w 1)), .val (.int (1 : Int32)), .val (.int (1 : Int32))] [(.int (1 : Int32)), (.int (1 : Int32))])) (fun t k => XS.iloadN X15.here hx rfl (hb hby at_37) rfl k) ?_
    refine Go.on (T' := T15) (g' := (mkF m 43 #[.val (.int i0), .val (.int (1 : Int32)), .val (.ref (w 1)), .val (.int (1 : Int32)), .val (.int (1 : Int32))] [])) (fun t k => XS.icmpYes X15.here hx rfl (pc0 := 38) (pc' := 43) rfl (hb hby at_38) rfl (teq (by decide : (1 : Int32) = (1 : Int32))).1 (by decide) (by decide) k) ?_
    refine Go.on (T' := T15) (g' := (mkF m 45 #[.val (.int i0), .val (.int (1 : Int32)), .val (.ref (w 1)), .val (.int (1 : Int32)), .val (.int (1 : Int32))] [(.int (1 : Int32))])) (fun t k => XS.iload X15.here hx rfl (hb hby at_43) rfl k) ?_
    refine Go.on (T' := T15) (g' := (mkF m 48 #[.val (.int i0), .val (.int (1 : Int32)), .val (.ref (w 1)), .val (.int (1 : Int32)), .val (.int (1 : Int32))] [])) (fun t k => XS.ifNo X15.here hx rfl (hb hby at_45) rfl ((if0 _ _).trans (feq (by decide : ¬ ((1 : Int32) = (0 : Int32)))).1) k) ?_
    refine Go.on (T' := T15) (g' := (mkF m 49 #[.val (.int i0), .val (.int (1 : Int32)), .val (.ref (w 1)), .val (.int (1 : Int32)), .val (.int (1 : Int32))] [(.ref (w 1))])) (fun t k => XS.aloadN X15.here hx rfl (hb hby at_48) rfl rfl k) ?_
    obtain ⟨cq18, kq18, q18a, q18b, q18c⟩ := isOf hZ e15 (pin_13 hP)
    obtain ⟨_, _, ⟨T18, L18, k18, n18⟩, -, X18, ⟨Lc18, hQ18, l18, y18, z18⟩, st18⟩ := X15.virtualBack hx (y := (⟨"com/example/anamnesis/anamnesis/rules/Type", "isOrdered", "()Z"⟩ : MethodName)) (z := (⟨"com/example/anamnesis/anamnesis/rules/Type", "isOrdered", "()Z"⟩ : MethodName)) hown (mvT hZ (hw _ (List.mem_of_getElem? (i := 20) rfl))) (mvT hZ (hw _ (List.mem_of_getElem? (i := 21) rfl))) (notFace_of_selects (args := #[]) (mvT hZ (hw _ (List.mem_of_getElem? (i := 23) rfl)))) (mvT hZ (hw _ (List.mem_of_getElem? (i := 23) rfl))) (mvT hZ (hw _ (List.mem_of_getElem? (i := 22) rfl))) (by decide) (backOf (W := 0) (rm3_0 l Z a0 hw [] w h0 n0 (Nat.le_trans Z0 (own_ext0 h0).1) hP) hZ (hw _ (List.mem_of_getElem? (i := 24) rfl)) (hw _ (List.mem_of_getElem? (i := 6) rfl)) (by decide) (by decide)) q18a q18c (g := (mkF m 49 #[.val (.int i0), .val (.int (1 : Int32)), .val (.ref (w 1)), .val (.int (1 : Int32)), .val (.int (1 : Int32))] [(.ref (w 1))])) rfl (by rw [hml]; rfl) (Steps.refl _) (argsL := []) (rest := []) (lenOf pd_1 rfl) rfl (by show 2 * 0 + _ ≤ _; exact Nat.le_of_eq rfl) (hb hby at_49) (fun _ _ => ⟨rfl, e15, (by decide : 0 + 0 ≤ _), (by decide : 0 + 0 ≤ _)⟩)
    dsimp only [Pt.U, Pt.locs, Pt.cells, Pt.slots] at X18 l18 y18 z18 st18 hQ18
    subst l18 y18 z18
    obtain ⟨rfl, N18q, e18⟩ := hQ18
    have N18 := Fr.app N15 N18q
    refine Go.on (T' := T18) (g' := (mkF m 52 #[.val (.int i0), .val (.int (1 : Int32)), .val (.ref (w 1)), .val (.int (1 : Int32)), .val (.int (1 : Int32))] [(.int (1 : Int32))])) (fun t k => st18.trans k) ?_
    refine Go.on (T' := T18) (g' := (mkF m 55 #[.val (.int i0), .val (.int (1 : Int32)), .val (.ref (w 1)), .val (.int (1 : Int32)), .val (.int (1 : Int32))] [])) (fun t k => XS.ifNo X18.here hx rfl (hb hby at_52) rfl ((if0 _ _).trans (feq (by decide : ¬ ((1 : Int32) = (0 : Int32)))).1) k) ?_
    refine Go.on (T' := T18) (g' := (mkF m 56 #[.val (.int i0), .val (.int (1 : Int32)), .val (.ref (w 1)), .val (.int (1 : Int32)), .val (.int (1 : Int32))] [(.ref (w 1))])) (fun t k => XS.aloadN X18.here hx rfl (hb hby at_55) rfl rfl k) ?_
    obtain ⟨cq23, kq23, q23a, q23b, q23c⟩ := isOf hZ e18 (pin_13 hP)
    obtain ⟨_, _, ⟨T23, L23, k23, n23⟩, -, X23, ⟨Lc23, hQ23, l23, y23, z23⟩, st23⟩ := X18.virtualBack hx (y := (⟨"com/example/anamnesis/anamnesis/rules/Type", "isRecord", "()Z"⟩ : MethodName)) (z := (⟨"com/example/anamnesis/anamnesis/rules/Type", "isRecord", "()Z"⟩ : MethodName)) hown (mvT hZ (hw _ (List.mem_of_getElem? (i := 26) rfl))) (mvT hZ (hw _ (List.mem_of_getElem? (i := 27) rfl))) (notFace_of_selects (args := #[]) (mvT hZ (hw _ (List.mem_of_getElem? (i := 29) rfl)))) (mvT hZ (hw _ (List.mem_of_getElem? (i := 29) rfl))) (mvT hZ (hw _ (List.mem_of_getElem? (i := 28) rfl))) (by decide) (backOf (W := 0) (rm4_0 l Z a0 hw [] w h0 n0 (Nat.le_trans Z0 (own_ext0 h0).1) hP) hZ (hw _ (List.mem_of_getElem? (i := 30) rfl)) (hw _ (List.mem_of_getElem? (i := 6) rfl)) (by decide) (by decide)) q23a q23c (g := (mkF m 56 #[.val (.int i0), .val (.int (1 : Int32)), .val (.ref (w 1)), .val (.int (1 : Int32)), .val (.int (1 : Int32))] [(.ref (w 1))])) rfl (by rw [hml]; rfl) (Steps.refl _) (argsL := []) (rest := []) (lenOf pd_1 rfl) rfl (by show 2 * 0 + _ ≤ _; exact Nat.le_of_eq rfl) (hb hby at_56) (fun _ _ => ⟨rfl, e18, (by decide : 0 + 0 ≤ _), (by decide : 0 + 0 ≤ _)⟩)
    dsimp only [Pt.U, Pt.locs, Pt.cells, Pt.slots] at X23 l23 y23 z23 st23 hQ23
    subst l23 y23 z23
    obtain ⟨rfl, N23q, e23⟩ := hQ23
    have N23 := Fr.app N18 N23q
    refine Go.on (T' := T23) (g' := (mkF m 59 #[.val (.int i0), .val (.int (1 : Int32)), .val (.ref (w 1)), .val (.int (1 : Int32)), .val (.int (1 : Int32))] [(.int (0 : Int32))])) (fun t k => st23.trans k) ?_
    refine Go.on (T' := T23) (g' := (mkF m 64 #[.val (.int i0), .val (.int (1 : Int32)), .val (.ref (w 1)), .val (.int (1 : Int32)), .val (.int (1 : Int32))] [])) (fun t k => XS.ifYes X23.here hx rfl (pc0 := 59) (pc' := 64) rfl (hb hby at_59) rfl ((if0 _ _).trans (teq (by decide : (0 : Int32) = (0 : Int32))).1) (by decide) (by decide) k) ?_
    refine Go.on (T' := T23) (g' := (mkF m 65 #[.val (.int i0), .val (.int (1 : Int32)), .val (.ref (w 1)), .val (.int (1 : Int32)), .val (.int (1 : Int32))] [(.int (1 : Int32))])) (fun t k => XS.iconst X23.here hx rfl (hb hby at_64) k) ?_
    obtain ⟨fs, hr, hrun, hended, hW, hsame⟩ := X23.leave (v := some (.int (1 : Int32))) (fun h => by rw [Bd.returns] at h; cases h)
    exact ⟨_, _, retN X23 hx (t := .boolean) Bd.returns (by simp) (hb hby at_65) hr, hrun, hended, _, _, rfl, ⟨rfl, N23⟩, ⟨_, rfl⟩, hW, hsame.mono (by decide) (by decide)⟩
  · skip
    rw [h1]
    refine Go.on (T' := s₁) (g' := (mkF m 8 #[.val (.int i0), .val (.int (2 : Int32)), .unset, .unset, .unset] [])) (fun t k => XS.istoreN X0.here hx rfl (hb hby at_7) rfl (l' := #[.val (.int i0), .val (.int (2 : Int32)), .unset, .unset, .unset]) rfl k) ?_
    refine Go.on (T' := s₁) (g' := (mkF m 9 #[.val (.int i0), .val (.int (2 : Int32)), .unset, .unset, .unset] [(.int (2 : Int32))])) (fun t k => XS.iloadN X0.here hx rfl (hb hby at_8) rfl k) ?_
    obtain ⟨_, _, ⟨T26, L26, k26, n26⟩, -, X26, ⟨Lc26, hQ26, l26, y26, z26⟩, st26⟩ := Jvm.LawKit.callS X0 hx (y := (⟨"com/example/anamnesis/anamnesis/rules/TypeIsNumberPinLaw", "pick", "(I)Lcom/example/anamnesis/anamnesis/rules/Type;"⟩ : MethodName)) hown (mvT hZ (hw _ (List.mem_of_getElem? (i := 1) rfl))) (mvT hZ (hw _ (List.mem_of_getElem? (i := 2) rfl))) (mvT hZ (hw _ (List.mem_of_getElem? (i := 3) rfl))) (mvT hZ (hw _ (List.mem_of_getElem? (i := 4) rfl))) (by decide) (backOf (W := 0) (rm1_2 l Z a0 hw [] w h0 n0 (Nat.le_trans Z0 (own_ext0 h0).1) hP) hZ (hw _ (List.mem_of_getElem? (i := 4) rfl)) (hw _ (List.mem_of_getElem? (i := 3) rfl)) (by decide) (by decide)) (g := (mkF m 9 #[.val (.int i0), .val (.int (2 : Int32)), .unset, .unset, .unset] [(.int (2 : Int32))])) rfl (by rw [hml]; rfl) (argsL := [(.int (2 : Int32))]) (rest := []) (lenOf pd_0 rfl) rfl (by show 2 * 0 + _ ≤ _; exact Nat.le_of_eq rfl) (hb hby at_9) (fun _ _ => ⟨rfl, e0, (by decide : 0 + 0 ≤ _), (by decide : 0 + 0 ≤ _)⟩)
    dsimp only [Pt.U, Pt.locs, Pt.cells, Pt.slots] at X26 l26 y26 z26 st26 hQ26
    subst l26 y26 z26
    obtain ⟨rfl, N26q, e26⟩ := hQ26
    have N26 := Fr.app N0 N26q
    refine Go.on (T' := T26) (g' := (mkF m 12 #[.val (.int i0), .val (.int (2 : Int32)), .unset, .unset, .unset] [(.ref (w 2))])) st26 ?_
    refine Go.on (T' := T26) (g' := (mkF m 13 #[.val (.int i0), .val (.int (2 : Int32)), .val (.ref (w 2)), .unset, .unset] [])) (fun t k => XS.astoreN X26.here hx rfl (hb hby at_12) rfl rfl (l' := #[.val (.int i0), .val (.int (2 : Int32)), .val (.ref (w 2)), .unset, .unset]) rfl k) ?_
    refine Go.on (T' := T26) (g' := (mkF m 14 #[.val (.int i0), .val (.int (2 : Int32)), .val (.ref (w 2)), .unset, .unset] [(.int (2 : Int32))])) (fun t k => XS.iloadN X26.here hx rfl (hb hby at_13) rfl k) ?_
    refine Go.on (T' := T26) (g' := (mkF m 15 #[.val (.int i0), .val (.int (2 : Int32)), .val (.ref (w 2)), .unset, .unset] [(.int (1 : Int32)), (.int (2 : Int32))])) (fun t k => XS.iconst X26.here hx rfl (hb hby at_14) k) ?_
    refine Go.on (T' := T26) (g' := (mkF m 18 #[.val (.int i0), .val (.int (2 : Int32)), .val (.ref (w 2)), .unset, .unset] [])) (fun t k => XS.icmpNo X26.here hx rfl (hb hby at_15) rfl (feq (by decide : ¬ ((2 : Int32) = (1 : Int32)))).1 k) ?_
    refine Go.on (T' := T26) (g' := (mkF m 19 #[.val (.int i0), .val (.int (2 : Int32)), .val (.ref (w 2)), .unset, .unset] [(.int (2 : Int32))])) (fun t k => XS.iloadN X26.here hx rfl (hb hby at_18) rfl k) ?_
    refine Go.on (T' := T26) (g' := (mkF m 20 #[.val (.int i0), .val (.int (2 : Int32)), .val (.ref (w 2)), .unset, .unset] [(.int (2 : Int32)), (.int (2 : Int32))])) (fun t k => XS.iconst X26.here hx rfl (hb hby at_19) k) ?_
    refine Go.on (T' := T26) (g' := (mkF m 23 #[.val (.int i0), .val (.int (2 : Int32)), .val (.ref (w 2)), .unset, .unset] [])) (fun t k => XS.icmpNo X26.here hx rfl (hb hby at_20) rfl (teq (by decide : (2 : Int32) = (2 : Int32))).2 k) ?_
    refine Go.on (T' := T26) (g' := (mkF m 24 #[.val (.int i0), .val (.int (2 : Int32)), .val (.ref (w 2)), .unset, .unset] [(.int (1 : Int32))])) (fun t k => XS.iconst X26.here hx rfl (hb hby at_23) k) ?_
    refine Go.on (T' := T26) (g' := (mkF m 28 #[.val (.int i0), .val (.int (2 : Int32)), .val (.ref (w 2)), .unset, .unset] [(.int (1 : Int32))])) (fun t k => XS.goto X26.here hx rfl (pc0 := 24) (pc' := 28) rfl (hb hby at_24) (by decide) (by decide) k) ?_
    refine Go.on (T' := T26) (g' := (mkF m 29 #[.val (.int i0), .val (.int (2 : Int32)), .val (.ref (w 2)), .val (.int (1 : Int32)), .unset] [])) (fun t k => XS.istoreN X26.here hx rfl (hb hby at_28) rfl (l' := #[.val (.int i0), .val (.int (2 : Int32)), .val (.ref (w 2)), .val (.int (1 : Int32)), .unset]) rfl k) ?_
    refine Go.on (T' := T26) (g' := (mkF m 30 #[.val (.int i0), .val (.int (2 : Int32)), .val (.ref (w 2)), .val (.int (1 : Int32)), .unset] [(.ref (w 2))])) (fun t k => XS.aloadN X26.here hx rfl (hb hby at_29) rfl rfl k) ?_
    obtain ⟨cq31, kq31, q31a, q31b, q31c⟩ := isOf hZ e26 (pin_14 hP)
    obtain ⟨_, _, ⟨T31, L31, k31, n31⟩, -, X31, ⟨Lc31, hQ31, l31, y31, z31⟩, st31⟩ := X26.virtualBack hx (y := (⟨"com/example/anamnesis/anamnesis/rules/Type", "isNumber", "()Z"⟩ : MethodName)) (z := (⟨"com/example/anamnesis/anamnesis/rules/Type", "isNumber", "()Z"⟩ : MethodName)) hown (mvT hZ (hw _ (List.mem_of_getElem? (i := 8) rfl))) (mvT hZ (hw _ (List.mem_of_getElem? (i := 9) rfl))) (notFace_of_selects (args := #[]) (mvT hZ (hw _ (List.mem_of_getElem? (i := 11) rfl)))) (mvT hZ (hw _ (List.mem_of_getElem? (i := 11) rfl))) (mvT hZ (hw _ (List.mem_of_getElem? (i := 10) rfl))) (by decide) (backOf (W := 0) (rm2_2 l Z a0 hw [] w h0 n0 (Nat.le_trans Z0 (own_ext0 h0).1) hP) hZ (hw _ (List.mem_of_getElem? (i := 12) rfl)) (hw _ (List.mem_of_getElem? (i := 6) rfl)) (by decide) (by decide)) q31a q31c (g := (mkF m 30 #[.val (.int i0), .val (.int (2 : Int32)), .val (.ref (w 2)), .val (.int (1 : Int32)), .unset] [(.ref (w 2))])) rfl (by rw [hml]; rfl) (Steps.refl _) (argsL := []) (rest := []) (lenOf pd_1 rfl) rfl (by show 2 * 0 + _ ≤ _; exact Nat.le_of_eq rfl) (hb hby at_30) (fun _ _ => ⟨rfl, e26, (by decide : 0 + 0 ≤ _), (by decide : 0 + 0 ≤ _)⟩)
    dsimp only [Pt.U, Pt.locs, Pt.cells, Pt.slots] at X31 l31 y31 z31 st31 hQ31
    subst l31 y31 z31
    obtain ⟨rfl, N31q, e31⟩ := hQ31
    have N31 := Fr.app N26 N31q
    refine Go.on (T' := T31) (g' := (mkF m 33 #[.val (.int i0), .val (.int (2 : Int32)), .val (.ref (w 2)), .val (.int (1 : Int32)), .unset] [(.int (1 : Int32))])) (fun t k => st31.trans k) ?_
    refine Go.on (T' := T31) (g' := (mkF m 35 #[.val (.int i0), .val (.int (2 : Int32)), .val (.ref (w 2)), .val (.int (1 : Int32)), .val (.int (1 : Int32))] [])) (fun t k => XS.istore X31.here hx rfl (hb hby at_33) rfl (l' := #[.val (.int i0), .val (.int (2 : Int32)), .val (.ref (w 2)), .val (.int (1 : Int32)), .val (.int (1 : Int32))]) rfl k) ?_
    refine Go.on (T' := T31) (g' := (mkF m 37 #[.val (.int i0), .val (.int (2 : Int32)), .val (.ref (w 2)), .val (.int (1 : Int32)), .val (.int (1 : Int32))] [(.int (1 : Int32))])) (fun t k => XS.iload X31.here hx rfl (hb hby at_35) rfl k) ?_
    refine Go.on (T' := T31) (g' := (mkF m 38 #[.val (.int i0), .val (.int (2 : Int32)), .val (.ref (w 2)), .val (.int (1 : Int32)), .val (.int (1 : Int32))] [(.int (1 : Int32)), (.int (1 : Int32))])) (fun t k => XS.iloadN X31.here hx rfl (hb hby at_37) rfl k) ?_
    refine Go.on (T' := T31) (g' := (mkF m 43 #[.val (.int i0), .val (.int (2 : Int32)), .val (.ref (w 2)), .val (.int (1 : Int32)), .val (.int (1 : Int32))] [])) (fun t k => XS.icmpYes X31.here hx rfl (pc0 := 38) (pc' := 43) rfl (hb hby at_38) rfl (teq (by decide : (1 : Int32) = (1 : Int32))).1 (by decide) (by decide) k) ?_
    refine Go.on (T' := T31) (g' := (mkF m 45 #[.val (.int i0), .val (.int (2 : Int32)), .val (.ref (w 2)), .val (.int (1 : Int32)), .val (.int (1 : Int32))] [(.int (1 : Int32))])) (fun t k => XS.iload X31.here hx rfl (hb hby at_43) rfl k) ?_
    refine Go.on (T' := T31) (g' := (mkF m 48 #[.val (.int i0), .val (.int (2 : Int32)), .val (.ref (w 2)), .val (.int (1 : Int32)), .val (.int (1 : Int32))] [])) (fun t k => XS.ifNo X31.here hx rfl (hb hby at_45) rfl ((if0 _ _).trans (feq (by decide : ¬ ((1 : Int32) = (0 : Int32)))).1) k) ?_
    refine Go.on (T' := T31) (g' := (mkF m 49 #[.val (.int i0), .val (.int (2 : Int32)), .val (.ref (w 2)), .val (.int (1 : Int32)), .val (.int (1 : Int32))] [(.ref (w 2))])) (fun t k => XS.aloadN X31.here hx rfl (hb hby at_48) rfl rfl k) ?_
    obtain ⟨cq34, kq34, q34a, q34b, q34c⟩ := isOf hZ e31 (pin_14 hP)
    obtain ⟨_, _, ⟨T34, L34, k34, n34⟩, -, X34, ⟨Lc34, hQ34, l34, y34, z34⟩, st34⟩ := X31.virtualBack hx (y := (⟨"com/example/anamnesis/anamnesis/rules/Type", "isOrdered", "()Z"⟩ : MethodName)) (z := (⟨"com/example/anamnesis/anamnesis/rules/Type", "isOrdered", "()Z"⟩ : MethodName)) hown (mvT hZ (hw _ (List.mem_of_getElem? (i := 20) rfl))) (mvT hZ (hw _ (List.mem_of_getElem? (i := 21) rfl))) (notFace_of_selects (args := #[]) (mvT hZ (hw _ (List.mem_of_getElem? (i := 23) rfl)))) (mvT hZ (hw _ (List.mem_of_getElem? (i := 23) rfl))) (mvT hZ (hw _ (List.mem_of_getElem? (i := 22) rfl))) (by decide) (backOf (W := 0) (rm3_1 l Z a0 hw [] w h0 n0 (Nat.le_trans Z0 (own_ext0 h0).1) hP) hZ (hw _ (List.mem_of_getElem? (i := 24) rfl)) (hw _ (List.mem_of_getElem? (i := 6) rfl)) (by decide) (by decide)) q34a q34c (g := (mkF m 49 #[.val (.int i0), .val (.int (2 : Int32)), .val (.ref (w 2)), .val (.int (1 : Int32)), .val (.int (1 : Int32))] [(.ref (w 2))])) rfl (by rw [hml]; rfl) (Steps.refl _) (argsL := []) (rest := []) (lenOf pd_1 rfl) rfl (by show 2 * 0 + _ ≤ _; exact Nat.le_of_eq rfl) (hb hby at_49) (fun _ _ => ⟨rfl, e31, (by decide : 0 + 0 ≤ _), (by decide : 0 + 0 ≤ _)⟩)
    dsimp only [Pt.U, Pt.locs, Pt.cells, Pt.slots] at X34 l34 y34 z34 st34 hQ34
    subst l34 y34 z34
    obtain ⟨rfl, N34q, e34⟩ := hQ34
    have N34 := Fr.app N31 N34q
    refine Go.on (T' := T34) (g' := (mkF m 52 #[.val (.int i0), .val (.int (2 : Int32)), .val (.ref (w 2)), .val (.int (1 : Int32)), .val (.int (1 : Int32))] [(.int (1 : Int32))])) (fun t k => st34.trans k) ?_
    refine Go.on (T' := T34) (g' := (mkF m 55 #[.val (.int i0), .val (.int (2 : Int32)), .val (.ref (w 2)), .val (.int (1 : Int32)), .val (.int (1 : Int32))] [])) (fun t k => XS.ifNo X34.here hx rfl (hb hby at_52) rfl ((if0 _ _).trans (feq (by decide : ¬ ((1 : Int32) = (0 : Int32)))).1) k) ?_
    refine Go.on (T' := T34) (g' := (mkF m 56 #[.val (.int i0), .val (.int (2 : Int32)), .val (.ref (w 2)), .val (.int (1 : Int32)), .val (.int (1 : Int32))] [(.ref (w 2))])) (fun t k => XS.aloadN X34.here hx rfl (hb hby at_55) rfl rfl k) ?_
    obtain ⟨cq39, kq39, q39a, q39b, q39c⟩ := isOf hZ e34 (pin_14 hP)
    obtain ⟨_, _, ⟨T39, L39, k39, n39⟩, -, X39, ⟨Lc39, hQ39, l39, y39, z39⟩, st39⟩ := X34.virtualBack hx (y := (⟨"com/example/anamnesis/anamnesis/rules/Type", "isRecord", "()Z"⟩ : MethodName)) (z := (⟨"com/example/anamnesis/anamnesis/rules/Type", "isRecord", "()Z"⟩ : MethodName)) hown (mvT hZ (hw _ (List.mem_of_getElem? (i := 26) rfl))) (mvT hZ (hw _ (List.mem_of_getElem? (i := 27) rfl))) (notFace_of_selects (args := #[]) (mvT hZ (hw _ (List.mem_of_getElem? (i := 29) rfl)))) (mvT hZ (hw _ (List.mem_of_getElem? (i := 29) rfl))) (mvT hZ (hw _ (List.mem_of_getElem? (i := 28) rfl))) (by decide) (backOf (W := 0) (rm4_1 l Z a0 hw [] w h0 n0 (Nat.le_trans Z0 (own_ext0 h0).1) hP) hZ (hw _ (List.mem_of_getElem? (i := 30) rfl)) (hw _ (List.mem_of_getElem? (i := 6) rfl)) (by decide) (by decide)) q39a q39c (g := (mkF m 56 #[.val (.int i0), .val (.int (2 : Int32)), .val (.ref (w 2)), .val (.int (1 : Int32)), .val (.int (1 : Int32))] [(.ref (w 2))])) rfl (by rw [hml]; rfl) (Steps.refl _) (argsL := []) (rest := []) (lenOf pd_1 rfl) rfl (by show 2 * 0 + _ ≤ _; exact Nat.le_of_eq rfl) (hb hby at_56) (fun _ _ => ⟨rfl, e34, (by decide : 0 + 0 ≤ _), (by decide : 0 + 0 ≤ _)⟩)
    dsimp only [Pt.U, Pt.locs, Pt.cells, Pt.slots] at X39 l39 y39 z39 st39 hQ39
    subst l39 y39 z39
    obtain ⟨rfl, N39q, e39⟩ := hQ39
    have N39 := Fr.app N34 N39q
    refine Go.on (T' := T39) (g' := (mkF m 59 #[.val (.int i0), .val (.int (2 : Int32)), .val (.ref (w 2)), .val (.int (1 : Int32)), .val (.int (1 : Int32))] [(.int (0 : Int32))])) (fun t k => st39.trans k) ?_
    refine Go.on (T' := T39) (g' := (mkF m 64 #[.val (.int i0), .val (.int (2 : Int32)), .val (.ref (w 2)), .val (.int (1 : Int32)), .val (.int (1 : Int32))] [])) (fun t k => XS.ifYes X39.here hx rfl (pc0 := 59) (pc' := 64) rfl (hb hby at_59) rfl ((if0 _ _).trans (teq (by decide : (0 : Int32) = (0 : Int32))).1) (by decide) (by decide) k) ?_
    refine Go.on (T' := T39) (g' := (mkF m 65 #[.val (.int i0), .val (.int (2 : Int32)), .val (.ref (w 2)), .val (.int (1 : Int32)), .val (.int (1 : Int32))] [(.int (1 : Int32))])) (fun t k => XS.iconst X39.here hx rfl (hb hby at_64) k) ?_
    obtain ⟨fs, hr, hrun, hended, hW, hsame⟩ := X39.leave (v := some (.int (1 : Int32))) (fun h => by rw [Bd.returns] at h; cases h)
    exact ⟨_, _, retN X39 hx (t := .boolean) Bd.returns (by simp) (hb hby at_65) hr, hrun, hended, _, _, rfl, ⟨rfl, N39⟩, ⟨_, rfl⟩, hW, hsame.mono (by decide) (by decide)⟩
  · skip
    rw [h1]
    refine Go.on (T' := s₁) (g' := (mkF m 8 #[.val (.int i0), .val (.int (3 : Int32)), .unset, .unset, .unset] [])) (fun t k => XS.istoreN X0.here hx rfl (hb hby at_7) rfl (l' := #[.val (.int i0), .val (.int (3 : Int32)), .unset, .unset, .unset]) rfl k) ?_
    refine Go.on (T' := s₁) (g' := (mkF m 9 #[.val (.int i0), .val (.int (3 : Int32)), .unset, .unset, .unset] [(.int (3 : Int32))])) (fun t k => XS.iloadN X0.here hx rfl (hb hby at_8) rfl k) ?_
    obtain ⟨_, _, ⟨T42, L42, k42, n42⟩, -, X42, ⟨Lc42, hQ42, l42, y42, z42⟩, st42⟩ := Jvm.LawKit.callS X0 hx (y := (⟨"com/example/anamnesis/anamnesis/rules/TypeIsNumberPinLaw", "pick", "(I)Lcom/example/anamnesis/anamnesis/rules/Type;"⟩ : MethodName)) hown (mvT hZ (hw _ (List.mem_of_getElem? (i := 1) rfl))) (mvT hZ (hw _ (List.mem_of_getElem? (i := 2) rfl))) (mvT hZ (hw _ (List.mem_of_getElem? (i := 3) rfl))) (mvT hZ (hw _ (List.mem_of_getElem? (i := 4) rfl))) (by decide) (backOf (W := 0) (rm1_3 l Z a0 hw [] w h0 n0 (Nat.le_trans Z0 (own_ext0 h0).1) hP) hZ (hw _ (List.mem_of_getElem? (i := 4) rfl)) (hw _ (List.mem_of_getElem? (i := 3) rfl)) (by decide) (by decide)) (g := (mkF m 9 #[.val (.int i0), .val (.int (3 : Int32)), .unset, .unset, .unset] [(.int (3 : Int32))])) rfl (by rw [hml]; rfl) (argsL := [(.int (3 : Int32))]) (rest := []) (lenOf pd_0 rfl) rfl (by show 2 * 0 + _ ≤ _; exact Nat.le_of_eq rfl) (hb hby at_9) (fun _ _ => ⟨rfl, e0, (by decide : 0 + 0 ≤ _), (by decide : 0 + 0 ≤ _)⟩)
    dsimp only [Pt.U, Pt.locs, Pt.cells, Pt.slots] at X42 l42 y42 z42 st42 hQ42
    subst l42 y42 z42
    obtain ⟨rfl, N42q, e42⟩ := hQ42
    have N42 := Fr.app N0 N42q
    refine Go.on (T' := T42) (g' := (mkF m 12 #[.val (.int i0), .val (.int (3 : Int32)), .unset, .unset, .unset] [(.ref (w 3))])) st42 ?_
    refine Go.on (T' := T42) (g' := (mkF m 13 #[.val (.int i0), .val (.int (3 : Int32)), .val (.ref (w 3)), .unset, .unset] [])) (fun t k => XS.astoreN X42.here hx rfl (hb hby at_12) rfl rfl (l' := #[.val (.int i0), .val (.int (3 : Int32)), .val (.ref (w 3)), .unset, .unset]) rfl k) ?_
    refine Go.on (T' := T42) (g' := (mkF m 14 #[.val (.int i0), .val (.int (3 : Int32)), .val (.ref (w 3)), .unset, .unset] [(.int (3 : Int32))])) (fun t k => XS.iloadN X42.here hx rfl (hb hby at_13) rfl k) ?_
    refine Go.on (T' := T42) (g' := (mkF m 15 #[.val (.int i0), .val (.int (3 : Int32)), .val (.ref (w 3)), .unset, .unset] [(.int (1 : Int32)), (.int (3 : Int32))])) (fun t k => XS.iconst X42.here hx rfl (hb hby at_14) k) ?_
    refine Go.on (T' := T42) (g' := (mkF m 18 #[.val (.int i0), .val (.int (3 : Int32)), .val (.ref (w 3)), .unset, .unset] [])) (fun t k => XS.icmpNo X42.here hx rfl (hb hby at_15) rfl (feq (by decide : ¬ ((3 : Int32) = (1 : Int32)))).1 k) ?_
    refine Go.on (T' := T42) (g' := (mkF m 19 #[.val (.int i0), .val (.int (3 : Int32)), .val (.ref (w 3)), .unset, .unset] [(.int (3 : Int32))])) (fun t k => XS.iloadN X42.here hx rfl (hb hby at_18) rfl k) ?_
    refine Go.on (T' := T42) (g' := (mkF m 20 #[.val (.int i0), .val (.int (3 : Int32)), .val (.ref (w 3)), .unset, .unset] [(.int (2 : Int32)), (.int (3 : Int32))])) (fun t k => XS.iconst X42.here hx rfl (hb hby at_19) k) ?_
    refine Go.on (T' := T42) (g' := (mkF m 27 #[.val (.int i0), .val (.int (3 : Int32)), .val (.ref (w 3)), .unset, .unset] [])) (fun t k => XS.icmpYes X42.here hx rfl (pc0 := 20) (pc' := 27) rfl (hb hby at_20) rfl (feq (by decide : ¬ ((3 : Int32) = (2 : Int32)))).2 (by decide) (by decide) k) ?_
    refine Go.on (T' := T42) (g' := (mkF m 28 #[.val (.int i0), .val (.int (3 : Int32)), .val (.ref (w 3)), .unset, .unset] [(.int (0 : Int32))])) (fun t k => XS.iconst X42.here hx rfl (hb hby at_27) k) ?_
    refine Go.on (T' := T42) (g' := (mkF m 29 #[.val (.int i0), .val (.int (3 : Int32)), .val (.ref (w 3)), .val (.int (0 : Int32)), .unset] [])) (fun t k => XS.istoreN X42.here hx rfl (hb hby at_28) rfl (l' := #[.val (.int i0), .val (.int (3 : Int32)), .val (.ref (w 3)), .val (.int (0 : Int32)), .unset]) rfl k) ?_
    refine Go.on (T' := T42) (g' := (mkF m 30 #[.val (.int i0), .val (.int (3 : Int32)), .val (.ref (w 3)), .val (.int (0 : Int32)), .unset] [(.ref (w 3))])) (fun t k => XS.aloadN X42.here hx rfl (hb hby at_29) rfl rfl k) ?_
    obtain ⟨cq47, kq47, q47a, q47b, q47c⟩ := isOf hZ e42 (pin_15 hP)
    obtain ⟨_, _, ⟨T47, L47, k47, n47⟩, -, X47, ⟨Lc47, hQ47, l47, y47, z47⟩, st47⟩ := X42.virtualBack hx (y := (⟨"com/example/anamnesis/anamnesis/rules/Type", "isNumber", "()Z"⟩ : MethodName)) (z := (⟨"com/example/anamnesis/anamnesis/rules/Type", "isNumber", "()Z"⟩ : MethodName)) hown (mvT hZ (hw _ (List.mem_of_getElem? (i := 8) rfl))) (mvT hZ (hw _ (List.mem_of_getElem? (i := 9) rfl))) (notFace_of_selects (args := #[]) (mvT hZ (hw _ (List.mem_of_getElem? (i := 11) rfl)))) (mvT hZ (hw _ (List.mem_of_getElem? (i := 11) rfl))) (mvT hZ (hw _ (List.mem_of_getElem? (i := 10) rfl))) (by decide) (backOf (W := 0) (rm2_3 l Z a0 hw [] w h0 n0 (Nat.le_trans Z0 (own_ext0 h0).1) hP) hZ (hw _ (List.mem_of_getElem? (i := 12) rfl)) (hw _ (List.mem_of_getElem? (i := 6) rfl)) (by decide) (by decide)) q47a q47c (g := (mkF m 30 #[.val (.int i0), .val (.int (3 : Int32)), .val (.ref (w 3)), .val (.int (0 : Int32)), .unset] [(.ref (w 3))])) rfl (by rw [hml]; rfl) (Steps.refl _) (argsL := []) (rest := []) (lenOf pd_1 rfl) rfl (by show 2 * 0 + _ ≤ _; exact Nat.le_of_eq rfl) (hb hby at_30) (fun _ _ => ⟨rfl, e42, (by decide : 0 + 0 ≤ _), (by decide : 0 + 0 ≤ _)⟩)
    dsimp only [Pt.U, Pt.locs, Pt.cells, Pt.slots] at X47 l47 y47 z47 st47 hQ47
    subst l47 y47 z47
    obtain ⟨rfl, N47q, e47⟩ := hQ47
    have N47 := Fr.app N42 N47q
    refine Go.on (T' := T47) (g' := (mkF m 33 #[.val (.int i0), .val (.int (3 : Int32)), .val (.ref (w 3)), .val (.int (0 : Int32)), .unset] [(.int (0 : Int32))])) (fun t k => st47.trans k) ?_
    refine Go.on (T' := T47) (g' := (mkF m 35 #[.val (.int i0), .val (.int (3 : Int32)), .val (.ref (w 3)), .val (.int (0 : Int32)), .val (.int (0 : Int32))] [])) (fun t k => XS.istore X47.here hx rfl (hb hby at_33) rfl (l' := #[.val (.int i0), .val (.int (3 : Int32)), .val (.ref (w 3)), .val (.int (0 : Int32)), .val (.int (0 : Int32))]) rfl k) ?_
    refine Go.on (T' := T47) (g' := (mkF m 37 #[.val (.int i0), .val (.int (3 : Int32)), .val (.ref (w 3)), .val (.int (0 : Int32)), .val (.int (0 : Int32))] [(.int (0 : Int32))])) (fun t k => XS.iload X47.here hx rfl (hb hby at_35) rfl k) ?_
    refine Go.on (T' := T47) (g' := (mkF m 38 #[.val (.int i0), .val (.int (3 : Int32)), .val (.ref (w 3)), .val (.int (0 : Int32)), .val (.int (0 : Int32))] [(.int (0 : Int32)), (.int (0 : Int32))])) (fun t k => XS.iloadN X47.here hx rfl (hb hby at_37) rfl k) ?_
    refine Go.on (T' := T47) (g' := (mkF m 43 #[.val (.int i0), .val (.int (3 : Int32)), .val (.ref (w 3)), .val (.int (0 : Int32)), .val (.int (0 : Int32))] [])) (fun t k => XS.icmpYes X47.here hx rfl (pc0 := 38) (pc' := 43) rfl (hb hby at_38) rfl (teq (by decide : (0 : Int32) = (0 : Int32))).1 (by decide) (by decide) k) ?_
    refine Go.on (T' := T47) (g' := (mkF m 45 #[.val (.int i0), .val (.int (3 : Int32)), .val (.ref (w 3)), .val (.int (0 : Int32)), .val (.int (0 : Int32))] [(.int (0 : Int32))])) (fun t k => XS.iload X47.here hx rfl (hb hby at_43) rfl k) ?_
    refine Go.on (T' := T47) (g' := (mkF m 64 #[.val (.int i0), .val (.int (3 : Int32)), .val (.ref (w 3)), .val (.int (0 : Int32)), .val (.int (0 : Int32))] [])) (fun t k => XS.ifYes X47.here hx rfl (pc0 := 45) (pc' := 64) rfl (hb hby at_45) rfl ((if0 _ _).trans (teq (by decide : (0 : Int32) = (0 : Int32))).1) (by decide) (by decide) k) ?_
    refine Go.on (T' := T47) (g' := (mkF m 65 #[.val (.int i0), .val (.int (3 : Int32)), .val (.ref (w 3)), .val (.int (0 : Int32)), .val (.int (0 : Int32))] [(.int (1 : Int32))])) (fun t k => XS.iconst X47.here hx rfl (hb hby at_64) k) ?_
    obtain ⟨fs, hr, hrun, hended, hW, hsame⟩ := X47.leave (v := some (.int (1 : Int32))) (fun h => by rw [Bd.returns] at h; cases h)
    exact ⟨_, _, retN X47 hx (t := .boolean) Bd.returns (by simp) (hb hby at_65) hr, hrun, hended, _, _, rfl, ⟨rfl, N47⟩, ⟨_, rfl⟩, hW, hsame.mono (by decide) (by decide)⟩
  · skip
    rw [h1]
    refine Go.on (T' := s₁) (g' := (mkF m 8 #[.val (.int i0), .val (.int (4 : Int32)), .unset, .unset, .unset] [])) (fun t k => XS.istoreN X0.here hx rfl (hb hby at_7) rfl (l' := #[.val (.int i0), .val (.int (4 : Int32)), .unset, .unset, .unset]) rfl k) ?_
    refine Go.on (T' := s₁) (g' := (mkF m 9 #[.val (.int i0), .val (.int (4 : Int32)), .unset, .unset, .unset] [(.int (4 : Int32))])) (fun t k => XS.iloadN X0.here hx rfl (hb hby at_8) rfl k) ?_
    obtain ⟨_, _, ⟨T50, L50, k50, n50⟩, -, X50, ⟨Lc50, hQ50, l50, y50, z50⟩, st50⟩ := Jvm.LawKit.callS X0 hx (y := (⟨"com/example/anamnesis/anamnesis/rules/TypeIsNumberPinLaw", "pick", "(I)Lcom/example/anamnesis/anamnesis/rules/Type;"⟩ : MethodName)) hown (mvT hZ (hw _ (List.mem_of_getElem? (i := 1) rfl))) (mvT hZ (hw _ (List.mem_of_getElem? (i := 2) rfl))) (mvT hZ (hw _ (List.mem_of_getElem? (i := 3) rfl))) (mvT hZ (hw _ (List.mem_of_getElem? (i := 4) rfl))) (by decide) (backOf (W := 0) (rm1_4 l Z a0 hw [] w h0 n0 (Nat.le_trans Z0 (own_ext0 h0).1) hP) hZ (hw _ (List.mem_of_getElem? (i := 4) rfl)) (hw _ (List.mem_of_getElem? (i := 3) rfl)) (by decide) (by decide)) (g := (mkF m 9 #[.val (.int i0), .val (.int (4 : Int32)), .unset, .unset, .unset] [(.int (4 : Int32))])) rfl (by rw [hml]; rfl) (argsL := [(.int (4 : Int32))]) (rest := []) (lenOf pd_0 rfl) rfl (by show 2 * 0 + _ ≤ _; exact Nat.le_of_eq rfl) (hb hby at_9) (fun _ _ => ⟨rfl, e0, (by decide : 0 + 0 ≤ _), (by decide : 0 + 0 ≤ _)⟩)
    dsimp only [Pt.U, Pt.locs, Pt.cells, Pt.slots] at X50 l50 y50 z50 st50 hQ50
    subst l50 y50 z50
    obtain ⟨rfl, N50q, e50⟩ := hQ50
    have N50 := Fr.app N0 N50q
    refine Go.on (T' := T50) (g' := (mkF m 12 #[.val (.int i0), .val (.int (4 : Int32)), .unset, .unset, .unset] [(.ref (w 7))])) st50 ?_
    refine Go.on (T' := T50) (g' := (mkF m 13 #[.val (.int i0), .val (.int (4 : Int32)), .val (.ref (w 7)), .unset, .unset] [])) (fun t k => XS.astoreN X50.here hx rfl (hb hby at_12) rfl rfl (l' := #[.val (.int i0), .val (.int (4 : Int32)), .val (.ref (w 7)), .unset, .unset]) rfl k) ?_
    refine Go.on (T' := T50) (g' := (mkF m 14 #[.val (.int i0), .val (.int (4 : Int32)), .val (.ref (w 7)), .unset, .unset] [(.int (4 : Int32))])) (fun t k => XS.iloadN X50.here hx rfl (hb hby at_13) rfl k) ?_
    refine Go.on (T' := T50) (g' := (mkF m 15 #[.val (.int i0), .val (.int (4 : Int32)), .val (.ref (w 7)), .unset, .unset] [(.int (1 : Int32)), (.int (4 : Int32))])) (fun t k => XS.iconst X50.here hx rfl (hb hby at_14) k) ?_
    refine Go.on (T' := T50) (g' := (mkF m 18 #[.val (.int i0), .val (.int (4 : Int32)), .val (.ref (w 7)), .unset, .unset] [])) (fun t k => XS.icmpNo X50.here hx rfl (hb hby at_15) rfl (feq (by decide : ¬ ((4 : Int32) = (1 : Int32)))).1 k) ?_
    refine Go.on (T' := T50) (g' := (mkF m 19 #[.val (.int i0), .val (.int (4 : Int32)), .val (.ref (w 7)), .unset, .unset] [(.int (4 : Int32))])) (fun t k => XS.iloadN X50.here hx rfl (hb hby at_18) rfl k) ?_
    refine Go.on (T' := T50) (g' := (mkF m 20 #[.val (.int i0), .val (.int (4 : Int32)), .val (.ref (w 7)), .unset, .unset] [(.int (2 : Int32)), (.int (4 : Int32))])) (fun t k => XS.iconst X50.here hx rfl (hb hby at_19) k) ?_
    refine Go.on (T' := T50) (g' := (mkF m 27 #[.val (.int i0), .val (.int (4 : Int32)), .val (.ref (w 7)), .unset, .unset] [])) (fun t k => XS.icmpYes X50.here hx rfl (pc0 := 20) (pc' := 27) rfl (hb hby at_20) rfl (feq (by decide : ¬ ((4 : Int32) = (2 : Int32)))).2 (by decide) (by decide) k) ?_
    refine Go.on (T' := T50) (g' := (mkF m 28 #[.val (.int i0), .val (.int (4 : Int32)), .val (.ref (w 7)), .unset, .unset] [(.int (0 : Int32))])) (fun t k => XS.iconst X50.here hx rfl (hb hby at_27) k) ?_
    refine Go.on (T' := T50) (g' := (mkF m 29 #[.val (.int i0), .val (.int (4 : Int32)), .val (.ref (w 7)), .val (.int (0 : Int32)), .unset] [])) (fun t k => XS.istoreN X50.here hx rfl (hb hby at_28) rfl (l' := #[.val (.int i0), .val (.int (4 : Int32)), .val (.ref (w 7)), .val (.int (0 : Int32)), .unset]) rfl k) ?_
    refine Go.on (T' := T50) (g' := (mkF m 30 #[.val (.int i0), .val (.int (4 : Int32)), .val (.ref (w 7)), .val (.int (0 : Int32)), .unset] [(.ref (w 7))])) (fun t k => XS.aloadN X50.here hx rfl (hb hby at_29) rfl rfl k) ?_
    obtain ⟨cq55, kq55, q55a, q55b, q55c⟩ := isOf hZ e50 (pin_19 hP)
    obtain ⟨_, _, ⟨T55, L55, k55, n55⟩, -, X55, ⟨Lc55, hQ55, l55, y55, z55⟩, st55⟩ := X50.virtualBack hx (y := (⟨"com/example/anamnesis/anamnesis/rules/Type", "isNumber", "()Z"⟩ : MethodName)) (z := (⟨"com/example/anamnesis/anamnesis/rules/Type", "isNumber", "()Z"⟩ : MethodName)) hown (mvT hZ (hw _ (List.mem_of_getElem? (i := 8) rfl))) (mvT hZ (hw _ (List.mem_of_getElem? (i := 9) rfl))) (notFace_of_selects (args := #[]) (mvT hZ (hw _ (List.mem_of_getElem? (i := 11) rfl)))) (mvT hZ (hw _ (List.mem_of_getElem? (i := 11) rfl))) (mvT hZ (hw _ (List.mem_of_getElem? (i := 10) rfl))) (by decide) (backOf (W := 0) (rm2_4 l Z a0 hw [] w h0 n0 (Nat.le_trans Z0 (own_ext0 h0).1) hP) hZ (hw _ (List.mem_of_getElem? (i := 12) rfl)) (hw _ (List.mem_of_getElem? (i := 6) rfl)) (by decide) (by decide)) q55a q55c (g := (mkF m 30 #[.val (.int i0), .val (.int (4 : Int32)), .val (.ref (w 7)), .val (.int (0 : Int32)), .unset] [(.ref (w 7))])) rfl (by rw [hml]; rfl) (Steps.refl _) (argsL := []) (rest := []) (lenOf pd_1 rfl) rfl (by show 2 * 0 + _ ≤ _; exact Nat.le_of_eq rfl) (hb hby at_30) (fun _ _ => ⟨rfl, e50, (by decide : 0 + 0 ≤ _), (by decide : 0 + 0 ≤ _)⟩)
    dsimp only [Pt.U, Pt.locs, Pt.cells, Pt.slots] at X55 l55 y55 z55 st55 hQ55
    subst l55 y55 z55
    obtain ⟨rfl, N55q, e55⟩ := hQ55
    have N55 := Fr.app N50 N55q
    refine Go.on (T' := T55) (g' := (mkF m 33 #[.val (.int i0), .val (.int (4 : Int32)), .val (.ref (w 7)), .val (.int (0 : Int32)), .unset] [(.int (0 : Int32))])) (fun t k => st55.trans k) ?_
    refine Go.on (T' := T55) (g' := (mkF m 35 #[.val (.int i0), .val (.int (4 : Int32)), .val (.ref (w 7)), .val (.int (0 : Int32)), .val (.int (0 : Int32))] [])) (fun t k => XS.istore X55.here hx rfl (hb hby at_33) rfl (l' := #[.val (.int i0), .val (.int (4 : Int32)), .val (.ref (w 7)), .val (.int (0 : Int32)), .val (.int (0 : Int32))]) rfl k) ?_
    refine Go.on (T' := T55) (g' := (mkF m 37 #[.val (.int i0), .val (.int (4 : Int32)), .val (.ref (w 7)), .val (.int (0 : Int32)), .val (.int (0 : Int32))] [(.int (0 : Int32))])) (fun t k => XS.iload X55.here hx rfl (hb hby at_35) rfl k) ?_
    refine Go.on (T' := T55) (g' := (mkF m 38 #[.val (.int i0), .val (.int (4 : Int32)), .val (.ref (w 7)), .val (.int (0 : Int32)), .val (.int (0 : Int32))] [(.int (0 : Int32)), (.int (0 : Int32))])) (fun t k => XS.iloadN X55.here hx rfl (hb hby at_37) rfl k) ?_
    refine Go.on (T' := T55) (g' := (mkF m 43 #[.val (.int i0), .val (.int (4 : Int32)), .val (.ref (w 7)), .val (.int (0 : Int32)), .val (.int (0 : Int32))] [])) (fun t k => XS.icmpYes X55.here hx rfl (pc0 := 38) (pc' := 43) rfl (hb hby at_38) rfl (teq (by decide : (0 : Int32) = (0 : Int32))).1 (by decide) (by decide) k) ?_
    refine Go.on (T' := T55) (g' := (mkF m 45 #[.val (.int i0), .val (.int (4 : Int32)), .val (.ref (w 7)), .val (.int (0 : Int32)), .val (.int (0 : Int32))] [(.int (0 : Int32))])) (fun t k => XS.iload X55.here hx rfl (hb hby at_43) rfl k) ?_
    refine Go.on (T' := T55) (g' := (mkF m 64 #[.val (.int i0), .val (.int (4 : Int32)), .val (.ref (w 7)), .val (.int (0 : Int32)), .val (.int (0 : Int32))] [])) (fun t k => XS.ifYes X55.here hx rfl (pc0 := 45) (pc' := 64) rfl (hb hby at_45) rfl ((if0 _ _).trans (teq (by decide : (0 : Int32) = (0 : Int32))).1) (by decide) (by decide) k) ?_
    refine Go.on (T' := T55) (g' := (mkF m 65 #[.val (.int i0), .val (.int (4 : Int32)), .val (.ref (w 7)), .val (.int (0 : Int32)), .val (.int (0 : Int32))] [(.int (1 : Int32))])) (fun t k => XS.iconst X55.here hx rfl (hb hby at_64) k) ?_
    obtain ⟨fs, hr, hrun, hended, hW, hsame⟩ := X55.leave (v := some (.int (1 : Int32))) (fun h => by rw [Bd.returns] at h; cases h)
    exact ⟨_, _, retN X55 hx (t := .boolean) Bd.returns (by simp) (hb hby at_65) hr, hrun, hended, _, _, rfl, ⟨rfl, N55⟩, ⟨_, rfl⟩, hW, hsame.mono (by decide) (by decide)⟩
  · skip
    rw [h1]
    refine Go.on (T' := s₁) (g' := (mkF m 8 #[.val (.int i0), .val (.int (5 : Int32)), .unset, .unset, .unset] [])) (fun t k => XS.istoreN X0.here hx rfl (hb hby at_7) rfl (l' := #[.val (.int i0), .val (.int (5 : Int32)), .unset, .unset, .unset]) rfl k) ?_
    refine Go.on (T' := s₁) (g' := (mkF m 9 #[.val (.int i0), .val (.int (5 : Int32)), .unset, .unset, .unset] [(.int (5 : Int32))])) (fun t k => XS.iloadN X0.here hx rfl (hb hby at_8) rfl k) ?_
    obtain ⟨_, _, ⟨T58, L58, k58, n58⟩, -, X58, ⟨Lc58, hQ58, l58, y58, z58⟩, st58⟩ := Jvm.LawKit.callS X0 hx (y := (⟨"com/example/anamnesis/anamnesis/rules/TypeIsNumberPinLaw", "pick", "(I)Lcom/example/anamnesis/anamnesis/rules/Type;"⟩ : MethodName)) hown (mvT hZ (hw _ (List.mem_of_getElem? (i := 1) rfl))) (mvT hZ (hw _ (List.mem_of_getElem? (i := 2) rfl))) (mvT hZ (hw _ (List.mem_of_getElem? (i := 3) rfl))) (mvT hZ (hw _ (List.mem_of_getElem? (i := 4) rfl))) (by decide) (backOf (W := 0) (rm1_5 l Z a0 hw [] w h0 n0 (Nat.le_trans Z0 (own_ext0 h0).1) hP) hZ (hw _ (List.mem_of_getElem? (i := 4) rfl)) (hw _ (List.mem_of_getElem? (i := 3) rfl)) (by decide) (by decide)) (g := (mkF m 9 #[.val (.int i0), .val (.int (5 : Int32)), .unset, .unset, .unset] [(.int (5 : Int32))])) rfl (by rw [hml]; rfl) (argsL := [(.int (5 : Int32))]) (rest := []) (lenOf pd_0 rfl) rfl (by show 2 * 0 + _ ≤ _; exact Nat.le_of_eq rfl) (hb hby at_9) (fun _ _ => ⟨rfl, e0, (by decide : 0 + 0 ≤ _), (by decide : 0 + 0 ≤ _)⟩)
    dsimp only [Pt.U, Pt.locs, Pt.cells, Pt.slots] at X58 l58 y58 z58 st58 hQ58
    subst l58 y58 z58
    obtain ⟨rfl, N58q, e58⟩ := hQ58
    have N58 := Fr.app N0 N58q
    refine Go.on (T' := T58) (g' := (mkF m 12 #[.val (.int i0), .val (.int (5 : Int32)), .unset, .unset, .unset] [(.ref (w 11))])) st58 ?_
    refine Go.on (T' := T58) (g' := (mkF m 13 #[.val (.int i0), .val (.int (5 : Int32)), .val (.ref (w 11)), .unset, .unset] [])) (fun t k => XS.astoreN X58.here hx rfl (hb hby at_12) rfl rfl (l' := #[.val (.int i0), .val (.int (5 : Int32)), .val (.ref (w 11)), .unset, .unset]) rfl k) ?_
    refine Go.on (T' := T58) (g' := (mkF m 14 #[.val (.int i0), .val (.int (5 : Int32)), .val (.ref (w 11)), .unset, .unset] [(.int (5 : Int32))])) (fun t k => XS.iloadN X58.here hx rfl (hb hby at_13) rfl k) ?_
    refine Go.on (T' := T58) (g' := (mkF m 15 #[.val (.int i0), .val (.int (5 : Int32)), .val (.ref (w 11)), .unset, .unset] [(.int (1 : Int32)), (.int (5 : Int32))])) (fun t k => XS.iconst X58.here hx rfl (hb hby at_14) k) ?_
    refine Go.on (T' := T58) (g' := (mkF m 18 #[.val (.int i0), .val (.int (5 : Int32)), .val (.ref (w 11)), .unset, .unset] [])) (fun t k => XS.icmpNo X58.here hx rfl (hb hby at_15) rfl (feq (by decide : ¬ ((5 : Int32) = (1 : Int32)))).1 k) ?_
    refine Go.on (T' := T58) (g' := (mkF m 19 #[.val (.int i0), .val (.int (5 : Int32)), .val (.ref (w 11)), .unset, .unset] [(.int (5 : Int32))])) (fun t k => XS.iloadN X58.here hx rfl (hb hby at_18) rfl k) ?_
    refine Go.on (T' := T58) (g' := (mkF m 20 #[.val (.int i0), .val (.int (5 : Int32)), .val (.ref (w 11)), .unset, .unset] [(.int (2 : Int32)), (.int (5 : Int32))])) (fun t k => XS.iconst X58.here hx rfl (hb hby at_19) k) ?_
    refine Go.on (T' := T58) (g' := (mkF m 27 #[.val (.int i0), .val (.int (5 : Int32)), .val (.ref (w 11)), .unset, .unset] [])) (fun t k => XS.icmpYes X58.here hx rfl (pc0 := 20) (pc' := 27) rfl (hb hby at_20) rfl (feq (by decide : ¬ ((5 : Int32) = (2 : Int32)))).2 (by decide) (by decide) k) ?_
    refine Go.on (T' := T58) (g' := (mkF m 28 #[.val (.int i0), .val (.int (5 : Int32)), .val (.ref (w 11)), .unset, .unset] [(.int (0 : Int32))])) (fun t k => XS.iconst X58.here hx rfl (hb hby at_27) k) ?_
    refine Go.on (T' := T58) (g' := (mkF m 29 #[.val (.int i0), .val (.int (5 : Int32)), .val (.ref (w 11)), .val (.int (0 : Int32)), .unset] [])) (fun t k => XS.istoreN X58.here hx rfl (hb hby at_28) rfl (l' := #[.val (.int i0), .val (.int (5 : Int32)), .val (.ref (w 11)), .val (.int (0 : Int32)), .unset]) rfl k) ?_
    refine Go.on (T' := T58) (g' := (mkF m 30 #[.val (.int i0), .val (.int (5 : Int32)), .val (.ref (w 11)), .val (.int (0 : Int32)), .unset] [(.ref (w 11))])) (fun t k => XS.aloadN X58.here hx rfl (hb hby at_29) rfl rfl k) ?_
    obtain ⟨cq63, kq63, q63a, q63b, q63c⟩ := isOf hZ e58 (pin_23 hP)
    obtain ⟨_, _, ⟨T63, L63, k63, n63⟩, -, X63, ⟨Lc63, hQ63, l63, y63, z63⟩, st63⟩ := X58.virtualBack hx (y := (⟨"com/example/anamnesis/anamnesis/rules/Type", "isNumber", "()Z"⟩ : MethodName)) (z := (⟨"com/example/anamnesis/anamnesis/rules/Type", "isNumber", "()Z"⟩ : MethodName)) hown (mvT hZ (hw _ (List.mem_of_getElem? (i := 8) rfl))) (mvT hZ (hw _ (List.mem_of_getElem? (i := 9) rfl))) (notFace_of_selects (args := #[]) (mvT hZ (hw _ (List.mem_of_getElem? (i := 11) rfl)))) (mvT hZ (hw _ (List.mem_of_getElem? (i := 11) rfl))) (mvT hZ (hw _ (List.mem_of_getElem? (i := 10) rfl))) (by decide) (backOf (W := 0) (rm2_5 l Z a0 hw [] w h0 n0 (Nat.le_trans Z0 (own_ext0 h0).1) hP) hZ (hw _ (List.mem_of_getElem? (i := 12) rfl)) (hw _ (List.mem_of_getElem? (i := 6) rfl)) (by decide) (by decide)) q63a q63c (g := (mkF m 30 #[.val (.int i0), .val (.int (5 : Int32)), .val (.ref (w 11)), .val (.int (0 : Int32)), .unset] [(.ref (w 11))])) rfl (by rw [hml]; rfl) (Steps.refl _) (argsL := []) (rest := []) (lenOf pd_1 rfl) rfl (by show 2 * 0 + _ ≤ _; exact Nat.le_of_eq rfl) (hb hby at_30) (fun _ _ => ⟨rfl, e58, (by decide : 0 + 0 ≤ _), (by decide : 0 + 0 ≤ _)⟩)
    dsimp only [Pt.U, Pt.locs, Pt.cells, Pt.slots] at X63 l63 y63 z63 st63 hQ63
    subst l63 y63 z63
    obtain ⟨rfl, N63q, e63⟩ := hQ63
    have N63 := Fr.app N58 N63q
    refine Go.on (T' := T63) (g' := (mkF m 33 #[.val (.int i0), .val (.int (5 : Int32)), .val (.ref (w 11)), .val (.int (0 : Int32)), .unset] [(.int (0 : Int32))])) (fun t k => st63.trans k) ?_
    refine Go.on (T' := T63) (g' := (mkF m 35 #[.val (.int i0), .val (.int (5 : Int32)), .val (.ref (w 11)), .val (.int (0 : Int32)), .val (.int (0 : Int32))] [])) (fun t k => XS.istore X63.here hx rfl (hb hby at_33) rfl (l' := #[.val (.int i0), .val (.int (5 : Int32)), .val (.ref (w 11)), .val (.int (0 : Int32)), .val (.int (0 : Int32))]) rfl k) ?_
    refine Go.on (T' := T63) (g' := (mkF m 37 #[.val (.int i0), .val (.int (5 : Int32)), .val (.ref (w 11)), .val (.int (0 : Int32)), .val (.int (0 : Int32))] [(.int (0 : Int32))])) (fun t k => XS.iload X63.here hx rfl (hb hby at_35) rfl k) ?_
    refine Go.on (T' := T63) (g' := (mkF m 38 #[.val (.int i0), .val (.int (5 : Int32)), .val (.ref (w 11)), .val (.int (0 : Int32)), .val (.int (0 : Int32))] [(.int (0 : Int32)), (.int (0 : Int32))])) (fun t k => XS.iloadN X63.here hx rfl (hb hby at_37) rfl k) ?_
    refine Go.on (T' := T63) (g' := (mkF m 43 #[.val (.int i0), .val (.int (5 : Int32)), .val (.ref (w 11)), .val (.int (0 : Int32)), .val (.int (0 : Int32))] [])) (fun t k => XS.icmpYes X63.here hx rfl (pc0 := 38) (pc' := 43) rfl (hb hby at_38) rfl (teq (by decide : (0 : Int32) = (0 : Int32))).1 (by decide) (by decide) k) ?_
    refine Go.on (T' := T63) (g' := (mkF m 45 #[.val (.int i0), .val (.int (5 : Int32)), .val (.ref (w 11)), .val (.int (0 : Int32)), .val (.int (0 : Int32))] [(.int (0 : Int32))])) (fun t k => XS.iload X63.here hx rfl (hb hby at_43) rfl k) ?_
    refine Go.on (T' := T63) (g' := (mkF m 64 #[.val (.int i0), .val (.int (5 : Int32)), .val (.ref (w 11)), .val (.int (0 : Int32)), .val (.int (0 : Int32))] [])) (fun t k => XS.ifYes X63.here hx rfl (pc0 := 45) (pc' := 64) rfl (hb hby at_45) rfl ((if0 _ _).trans (teq (by decide : (0 : Int32) = (0 : Int32))).1) (by decide) (by decide) k) ?_
    refine Go.on (T' := T63) (g' := (mkF m 65 #[.val (.int i0), .val (.int (5 : Int32)), .val (.ref (w 11)), .val (.int (0 : Int32)), .val (.int (0 : Int32))] [(.int (1 : Int32))])) (fun t k => XS.iconst X63.here hx rfl (hb hby at_64) k) ?_
    obtain ⟨fs, hr, hrun, hended, hW, hsame⟩ := X63.leave (v := some (.int (1 : Int32))) (fun h => by rw [Bd.returns] at h; cases h)
    exact ⟨_, _, retN X63 hx (t := .boolean) Bd.returns (by simp) (hb hby at_65) hr, hrun, hended, _, _, rfl, ⟨rfl, N63⟩, ⟨_, rfl⟩, hW, hsame.mono (by decide) (by decide)⟩
  · skip
    rw [h1]
    refine Go.on (T' := s₁) (g' := (mkF m 8 #[.val (.int i0), .val (.int (6 : Int32)), .unset, .unset, .unset] [])) (fun t k => XS.istoreN X0.here hx rfl (hb hby at_7) rfl (l' := #[.val (.int i0), .val (.int (6 : Int32)), .unset, .unset, .unset]) rfl k) ?_
    refine Go.on (T' := s₁) (g' := (mkF m 9 #[.val (.int i0), .val (.int (6 : Int32)), .unset, .unset, .unset] [(.int (6 : Int32))])) (fun t k => XS.iloadN X0.here hx rfl (hb hby at_8) rfl k) ?_
    obtain ⟨_, _, ⟨T66, L66, k66, n66⟩, -, X66, ⟨Lc66, hQ66, l66, y66, z66⟩, st66⟩ := Jvm.LawKit.callS X0 hx (y := (⟨"com/example/anamnesis/anamnesis/rules/TypeIsNumberPinLaw", "pick", "(I)Lcom/example/anamnesis/anamnesis/rules/Type;"⟩ : MethodName)) hown (mvT hZ (hw _ (List.mem_of_getElem? (i := 1) rfl))) (mvT hZ (hw _ (List.mem_of_getElem? (i := 2) rfl))) (mvT hZ (hw _ (List.mem_of_getElem? (i := 3) rfl))) (mvT hZ (hw _ (List.mem_of_getElem? (i := 4) rfl))) (by decide) (backOf (W := 0) (rm1_6 l Z a0 hw [] w h0 n0 (Nat.le_trans Z0 (own_ext0 h0).1) hP) hZ (hw _ (List.mem_of_getElem? (i := 4) rfl)) (hw _ (List.mem_of_getElem? (i := 3) rfl)) (by decide) (by decide)) (g := (mkF m 9 #[.val (.int i0), .val (.int (6 : Int32)), .unset, .unset, .unset] [(.int (6 : Int32))])) rfl (by rw [hml]; rfl) (argsL := [(.int (6 : Int32))]) (rest := []) (lenOf pd_0 rfl) rfl (by show 2 * 0 + _ ≤ _; exact Nat.le_of_eq rfl) (hb hby at_9) (fun _ _ => ⟨rfl, e0, (by decide : 0 + 0 ≤ _), (by decide : 0 + 0 ≤ _)⟩)
    dsimp only [Pt.U, Pt.locs, Pt.cells, Pt.slots] at X66 l66 y66 z66 st66 hQ66
    subst l66 y66 z66
    obtain ⟨rfl, N66q, e66⟩ := hQ66
    have N66 := Fr.app N0 N66q
    refine Go.on (T' := T66) (g' := (mkF m 12 #[.val (.int i0), .val (.int (6 : Int32)), .unset, .unset, .unset] [(.ref (w 10))])) st66 ?_
    refine Go.on (T' := T66) (g' := (mkF m 13 #[.val (.int i0), .val (.int (6 : Int32)), .val (.ref (w 10)), .unset, .unset] [])) (fun t k => XS.astoreN X66.here hx rfl (hb hby at_12) rfl rfl (l' := #[.val (.int i0), .val (.int (6 : Int32)), .val (.ref (w 10)), .unset, .unset]) rfl k) ?_
    refine Go.on (T' := T66) (g' := (mkF m 14 #[.val (.int i0), .val (.int (6 : Int32)), .val (.ref (w 10)), .unset, .unset] [(.int (6 : Int32))])) (fun t k => XS.iloadN X66.here hx rfl (hb hby at_13) rfl k) ?_
    refine Go.on (T' := T66) (g' := (mkF m 15 #[.val (.int i0), .val (.int (6 : Int32)), .val (.ref (w 10)), .unset, .unset] [(.int (1 : Int32)), (.int (6 : Int32))])) (fun t k => XS.iconst X66.here hx rfl (hb hby at_14) k) ?_
    refine Go.on (T' := T66) (g' := (mkF m 18 #[.val (.int i0), .val (.int (6 : Int32)), .val (.ref (w 10)), .unset, .unset] [])) (fun t k => XS.icmpNo X66.here hx rfl (hb hby at_15) rfl (feq (by decide : ¬ ((6 : Int32) = (1 : Int32)))).1 k) ?_
    refine Go.on (T' := T66) (g' := (mkF m 19 #[.val (.int i0), .val (.int (6 : Int32)), .val (.ref (w 10)), .unset, .unset] [(.int (6 : Int32))])) (fun t k => XS.iloadN X66.here hx rfl (hb hby at_18) rfl k) ?_
    refine Go.on (T' := T66) (g' := (mkF m 20 #[.val (.int i0), .val (.int (6 : Int32)), .val (.ref (w 10)), .unset, .unset] [(.int (2 : Int32)), (.int (6 : Int32))])) (fun t k => XS.iconst X66.here hx rfl (hb hby at_19) k) ?_
    refine Go.on (T' := T66) (g' := (mkF m 27 #[.val (.int i0), .val (.int (6 : Int32)), .val (.ref (w 10)), .unset, .unset] [])) (fun t k => XS.icmpYes X66.here hx rfl (pc0 := 20) (pc' := 27) rfl (hb hby at_20) rfl (feq (by decide : ¬ ((6 : Int32) = (2 : Int32)))).2 (by decide) (by decide) k) ?_
    refine Go.on (T' := T66) (g' := (mkF m 28 #[.val (.int i0), .val (.int (6 : Int32)), .val (.ref (w 10)), .unset, .unset] [(.int (0 : Int32))])) (fun t k => XS.iconst X66.here hx rfl (hb hby at_27) k) ?_
    refine Go.on (T' := T66) (g' := (mkF m 29 #[.val (.int i0), .val (.int (6 : Int32)), .val (.ref (w 10)), .val (.int (0 : Int32)), .unset] [])) (fun t k => XS.istoreN X66.here hx rfl (hb hby at_28) rfl (l' := #[.val (.int i0), .val (.int (6 : Int32)), .val (.ref (w 10)), .val (.int (0 : Int32)), .unset]) rfl k) ?_
    refine Go.on (T' := T66) (g' := (mkF m 30 #[.val (.int i0), .val (.int (6 : Int32)), .val (.ref (w 10)), .val (.int (0 : Int32)), .unset] [(.ref (w 10))])) (fun t k => XS.aloadN X66.here hx rfl (hb hby at_29) rfl rfl k) ?_
    obtain ⟨cq71, kq71, q71a, q71b, q71c⟩ := isOf hZ e66 (pin_22 hP)
    obtain ⟨_, _, ⟨T71, L71, k71, n71⟩, -, X71, ⟨Lc71, hQ71, l71, y71, z71⟩, st71⟩ := X66.virtualBack hx (y := (⟨"com/example/anamnesis/anamnesis/rules/Type", "isNumber", "()Z"⟩ : MethodName)) (z := (⟨"com/example/anamnesis/anamnesis/rules/Type", "isNumber", "()Z"⟩ : MethodName)) hown (mvT hZ (hw _ (List.mem_of_getElem? (i := 8) rfl))) (mvT hZ (hw _ (List.mem_of_getElem? (i := 9) rfl))) (notFace_of_selects (args := #[]) (mvT hZ (hw _ (List.mem_of_getElem? (i := 11) rfl)))) (mvT hZ (hw _ (List.mem_of_getElem? (i := 11) rfl))) (mvT hZ (hw _ (List.mem_of_getElem? (i := 10) rfl))) (by decide) (backOf (W := 0) (rm2_6 l Z a0 hw [] w h0 n0 (Nat.le_trans Z0 (own_ext0 h0).1) hP) hZ (hw _ (List.mem_of_getElem? (i := 12) rfl)) (hw _ (List.mem_of_getElem? (i := 6) rfl)) (by decide) (by decide)) q71a q71c (g := (mkF m 30 #[.val (.int i0), .val (.int (6 : Int32)), .val (.ref (w 10)), .val (.int (0 : Int32)), .unset] [(.ref (w 10))])) rfl (by rw [hml]; rfl) (Steps.refl _) (argsL := []) (rest := []) (lenOf pd_1 rfl) rfl (by show 2 * 0 + _ ≤ _; exact Nat.le_of_eq rfl) (hb hby at_30) (fun _ _ => ⟨rfl, e66, (by decide : 0 + 0 ≤ _), (by decide : 0 + 0 ≤ _)⟩)
    dsimp only [Pt.U, Pt.locs, Pt.cells, Pt.slots] at X71 l71 y71 z71 st71 hQ71
    subst l71 y71 z71
    obtain ⟨rfl, N71q, e71⟩ := hQ71
    have N71 := Fr.app N66 N71q
    refine Go.on (T' := T71) (g' := (mkF m 33 #[.val (.int i0), .val (.int (6 : Int32)), .val (.ref (w 10)), .val (.int (0 : Int32)), .unset] [(.int (0 : Int32))])) (fun t k => st71.trans k) ?_
    refine Go.on (T' := T71) (g' := (mkF m 35 #[.val (.int i0), .val (.int (6 : Int32)), .val (.ref (w 10)), .val (.int (0 : Int32)), .val (.int (0 : Int32))] [])) (fun t k => XS.istore X71.here hx rfl (hb hby at_33) rfl (l' := #[.val (.int i0), .val (.int (6 : Int32)), .val (.ref (w 10)), .val (.int (0 : Int32)), .val (.int (0 : Int32))]) rfl k) ?_
    refine Go.on (T' := T71) (g' := (mkF m 37 #[.val (.int i0), .val (.int (6 : Int32)), .val (.ref (w 10)), .val (.int (0 : Int32)), .val (.int (0 : Int32))] [(.int (0 : Int32))])) (fun t k => XS.iload X71.here hx rfl (hb hby at_35) rfl k) ?_
    refine Go.on (T' := T71) (g' := (mkF m 38 #[.val (.int i0), .val (.int (6 : Int32)), .val (.ref (w 10)), .val (.int (0 : Int32)), .val (.int (0 : Int32))] [(.int (0 : Int32)), (.int (0 : Int32))])) (fun t k => XS.iloadN X71.here hx rfl (hb hby at_37) rfl k) ?_
    refine Go.on (T' := T71) (g' := (mkF m 43 #[.val (.int i0), .val (.int (6 : Int32)), .val (.ref (w 10)), .val (.int (0 : Int32)), .val (.int (0 : Int32))] [])) (fun t k => XS.icmpYes X71.here hx rfl (pc0 := 38) (pc' := 43) rfl (hb hby at_38) rfl (teq (by decide : (0 : Int32) = (0 : Int32))).1 (by decide) (by decide) k) ?_
    refine Go.on (T' := T71) (g' := (mkF m 45 #[.val (.int i0), .val (.int (6 : Int32)), .val (.ref (w 10)), .val (.int (0 : Int32)), .val (.int (0 : Int32))] [(.int (0 : Int32))])) (fun t k => XS.iload X71.here hx rfl (hb hby at_43) rfl k) ?_
    refine Go.on (T' := T71) (g' := (mkF m 64 #[.val (.int i0), .val (.int (6 : Int32)), .val (.ref (w 10)), .val (.int (0 : Int32)), .val (.int (0 : Int32))] [])) (fun t k => XS.ifYes X71.here hx rfl (pc0 := 45) (pc' := 64) rfl (hb hby at_45) rfl ((if0 _ _).trans (teq (by decide : (0 : Int32) = (0 : Int32))).1) (by decide) (by decide) k) ?_
    refine Go.on (T' := T71) (g' := (mkF m 65 #[.val (.int i0), .val (.int (6 : Int32)), .val (.ref (w 10)), .val (.int (0 : Int32)), .val (.int (0 : Int32))] [(.int (1 : Int32))])) (fun t k => XS.iconst X71.here hx rfl (hb hby at_64) k) ?_
    obtain ⟨fs, hr, hrun, hended, hW, hsame⟩ := X71.leave (v := some (.int (1 : Int32))) (fun h => by rw [Bd.returns] at h; cases h)
    exact ⟨_, _, retN X71 hx (t := .boolean) Bd.returns (by simp) (hb hby at_65) hr, hrun, hended, _, _, rfl, ⟨rfl, N71⟩, ⟨_, rfl⟩, hW, hsame.mono (by decide) (by decide)⟩
  · skip
    rw [h1]
    refine Go.on (T' := s₁) (g' := (mkF m 8 #[.val (.int i0), .val (.int (7 : Int32)), .unset, .unset, .unset] [])) (fun t k => XS.istoreN X0.here hx rfl (hb hby at_7) rfl (l' := #[.val (.int i0), .val (.int (7 : Int32)), .unset, .unset, .unset]) rfl k) ?_
    refine Go.on (T' := s₁) (g' := (mkF m 9 #[.val (.int i0), .val (.int (7 : Int32)), .unset, .unset, .unset] [(.int (7 : Int32))])) (fun t k => XS.iloadN X0.here hx rfl (hb hby at_8) rfl k) ?_
    obtain ⟨_, _, ⟨T74, L74, k74, n74⟩, -, X74, ⟨Lc74, hQ74, l74, y74, z74⟩, st74⟩ := Jvm.LawKit.callS X0 hx (y := (⟨"com/example/anamnesis/anamnesis/rules/TypeIsNumberPinLaw", "pick", "(I)Lcom/example/anamnesis/anamnesis/rules/Type;"⟩ : MethodName)) hown (mvT hZ (hw _ (List.mem_of_getElem? (i := 1) rfl))) (mvT hZ (hw _ (List.mem_of_getElem? (i := 2) rfl))) (mvT hZ (hw _ (List.mem_of_getElem? (i := 3) rfl))) (mvT hZ (hw _ (List.mem_of_getElem? (i := 4) rfl))) (by decide) (backOf (W := 0) (rm1_7 l Z a0 hw [] w h0 n0 (Nat.le_trans Z0 (own_ext0 h0).1) hP) hZ (hw _ (List.mem_of_getElem? (i := 4) rfl)) (hw _ (List.mem_of_getElem? (i := 3) rfl)) (by decide) (by decide)) (g := (mkF m 9 #[.val (.int i0), .val (.int (7 : Int32)), .unset, .unset, .unset] [(.int (7 : Int32))])) rfl (by rw [hml]; rfl) (argsL := [(.int (7 : Int32))]) (rest := []) (lenOf pd_0 rfl) rfl (by show 2 * 0 + _ ≤ _; exact Nat.le_of_eq rfl) (hb hby at_9) (fun _ _ => ⟨rfl, e0, (by decide : 0 + 0 ≤ _), (by decide : 0 + 0 ≤ _)⟩)
    dsimp only [Pt.U, Pt.locs, Pt.cells, Pt.slots] at X74 l74 y74 z74 st74 hQ74
    subst l74 y74 z74
    obtain ⟨rfl, N74q, e74⟩ := hQ74
    have N74 := Fr.app N0 N74q
    refine Go.on (T' := T74) (g' := (mkF m 12 #[.val (.int i0), .val (.int (7 : Int32)), .unset, .unset, .unset] [(.ref (w 6))])) st74 ?_
    refine Go.on (T' := T74) (g' := (mkF m 13 #[.val (.int i0), .val (.int (7 : Int32)), .val (.ref (w 6)), .unset, .unset] [])) (fun t k => XS.astoreN X74.here hx rfl (hb hby at_12) rfl rfl (l' := #[.val (.int i0), .val (.int (7 : Int32)), .val (.ref (w 6)), .unset, .unset]) rfl k) ?_
    refine Go.on (T' := T74) (g' := (mkF m 14 #[.val (.int i0), .val (.int (7 : Int32)), .val (.ref (w 6)), .unset, .unset] [(.int (7 : Int32))])) (fun t k => XS.iloadN X74.here hx rfl (hb hby at_13) rfl k) ?_
    refine Go.on (T' := T74) (g' := (mkF m 15 #[.val (.int i0), .val (.int (7 : Int32)), .val (.ref (w 6)), .unset, .unset] [(.int (1 : Int32)), (.int (7 : Int32))])) (fun t k => XS.iconst X74.here hx rfl (hb hby at_14) k) ?_
    refine Go.on (T' := T74) (g' := (mkF m 18 #[.val (.int i0), .val (.int (7 : Int32)), .val (.ref (w 6)), .unset, .unset] [])) (fun t k => XS.icmpNo X74.here hx rfl (hb hby at_15) rfl (feq (by decide : ¬ ((7 : Int32) = (1 : Int32)))).1 k) ?_
    refine Go.on (T' := T74) (g' := (mkF m 19 #[.val (.int i0), .val (.int (7 : Int32)), .val (.ref (w 6)), .unset, .unset] [(.int (7 : Int32))])) (fun t k => XS.iloadN X74.here hx rfl (hb hby at_18) rfl k) ?_
    refine Go.on (T' := T74) (g' := (mkF m 20 #[.val (.int i0), .val (.int (7 : Int32)), .val (.ref (w 6)), .unset, .unset] [(.int (2 : Int32)), (.int (7 : Int32))])) (fun t k => XS.iconst X74.here hx rfl (hb hby at_19) k) ?_
    refine Go.on (T' := T74) (g' := (mkF m 27 #[.val (.int i0), .val (.int (7 : Int32)), .val (.ref (w 6)), .unset, .unset] [])) (fun t k => XS.icmpYes X74.here hx rfl (pc0 := 20) (pc' := 27) rfl (hb hby at_20) rfl (feq (by decide : ¬ ((7 : Int32) = (2 : Int32)))).2 (by decide) (by decide) k) ?_
    refine Go.on (T' := T74) (g' := (mkF m 28 #[.val (.int i0), .val (.int (7 : Int32)), .val (.ref (w 6)), .unset, .unset] [(.int (0 : Int32))])) (fun t k => XS.iconst X74.here hx rfl (hb hby at_27) k) ?_
    refine Go.on (T' := T74) (g' := (mkF m 29 #[.val (.int i0), .val (.int (7 : Int32)), .val (.ref (w 6)), .val (.int (0 : Int32)), .unset] [])) (fun t k => XS.istoreN X74.here hx rfl (hb hby at_28) rfl (l' := #[.val (.int i0), .val (.int (7 : Int32)), .val (.ref (w 6)), .val (.int (0 : Int32)), .unset]) rfl k) ?_
    refine Go.on (T' := T74) (g' := (mkF m 30 #[.val (.int i0), .val (.int (7 : Int32)), .val (.ref (w 6)), .val (.int (0 : Int32)), .unset] [(.ref (w 6))])) (fun t k => XS.aloadN X74.here hx rfl (hb hby at_29) rfl rfl k) ?_
    obtain ⟨cq79, kq79, q79a, q79b, q79c⟩ := isOf hZ e74 (pin_18 hP)
    obtain ⟨_, _, ⟨T79, L79, k79, n79⟩, -, X79, ⟨Lc79, hQ79, l79, y79, z79⟩, st79⟩ := X74.virtualBack hx (y := (⟨"com/example/anamnesis/anamnesis/rules/Type", "isNumber", "()Z"⟩ : MethodName)) (z := (⟨"com/example/anamnesis/anamnesis/rules/Type", "isNumber", "()Z"⟩ : MethodName)) hown (mvT hZ (hw _ (List.mem_of_getElem? (i := 8) rfl))) (mvT hZ (hw _ (List.mem_of_getElem? (i := 9) rfl))) (notFace_of_selects (args := #[]) (mvT hZ (hw _ (List.mem_of_getElem? (i := 11) rfl)))) (mvT hZ (hw _ (List.mem_of_getElem? (i := 11) rfl))) (mvT hZ (hw _ (List.mem_of_getElem? (i := 10) rfl))) (by decide) (backOf (W := 0) (rm2_7 l Z a0 hw [] w h0 n0 (Nat.le_trans Z0 (own_ext0 h0).1) hP) hZ (hw _ (List.mem_of_getElem? (i := 12) rfl)) (hw _ (List.mem_of_getElem? (i := 6) rfl)) (by decide) (by decide)) q79a q79c (g := (mkF m 30 #[.val (.int i0), .val (.int (7 : Int32)), .val (.ref (w 6)), .val (.int (0 : Int32)), .unset] [(.ref (w 6))])) rfl (by rw [hml]; rfl) (Steps.refl _) (argsL := []) (rest := []) (lenOf pd_1 rfl) rfl (by show 2 * 0 + _ ≤ _; exact Nat.le_of_eq rfl) (hb hby at_30) (fun _ _ => ⟨rfl, e74, (by decide : 0 + 0 ≤ _), (by decide : 0 + 0 ≤ _)⟩)
    dsimp only [Pt.U, Pt.locs, Pt.cells, Pt.slots] at X79 l79 y79 z79 st79 hQ79
    subst l79 y79 z79
    obtain ⟨rfl, N79q, e79⟩ := hQ79
    have N79 := Fr.app N74 N79q
    refine Go.on (T' := T79) (g' := (mkF m 33 #[.val (.int i0), .val (.int (7 : Int32)), .val (.ref (w 6)), .val (.int (0 : Int32)), .unset] [(.int (0 : Int32))])) (fun t k => st79.trans k) ?_
    refine Go.on (T' := T79) (g' := (mkF m 35 #[.val (.int i0), .val (.int (7 : Int32)), .val (.ref (w 6)), .val (.int (0 : Int32)), .val (.int (0 : Int32))] [])) (fun t k => XS.istore X79.here hx rfl (hb hby at_33) rfl (l' := #[.val (.int i0), .val (.int (7 : Int32)), .val (.ref (w 6)), .val (.int (0 : Int32)), .val (.int (0 : Int32))]) rfl k) ?_
    refine Go.on (T' := T79) (g' := (mkF m 37 #[.val (.int i0), .val (.int (7 : Int32)), .val (.ref (w 6)), .val (.int (0 : Int32)), .val (.int (0 : Int32))] [(.int (0 : Int32))])) (fun t k => XS.iload X79.here hx rfl (hb hby at_35) rfl k) ?_
    refine Go.on (T' := T79) (g' := (mkF m 38 #[.val (.int i0), .val (.int (7 : Int32)), .val (.ref (w 6)), .val (.int (0 : Int32)), .val (.int (0 : Int32))] [(.int (0 : Int32)), (.int (0 : Int32))])) (fun t k => XS.iloadN X79.here hx rfl (hb hby at_37) rfl k) ?_
    refine Go.on (T' := T79) (g' := (mkF m 43 #[.val (.int i0), .val (.int (7 : Int32)), .val (.ref (w 6)), .val (.int (0 : Int32)), .val (.int (0 : Int32))] [])) (fun t k => XS.icmpYes X79.here hx rfl (pc0 := 38) (pc' := 43) rfl (hb hby at_38) rfl (teq (by decide : (0 : Int32) = (0 : Int32))).1 (by decide) (by decide) k) ?_
    refine Go.on (T' := T79) (g' := (mkF m 45 #[.val (.int i0), .val (.int (7 : Int32)), .val (.ref (w 6)), .val (.int (0 : Int32)), .val (.int (0 : Int32))] [(.int (0 : Int32))])) (fun t k => XS.iload X79.here hx rfl (hb hby at_43) rfl k) ?_
    refine Go.on (T' := T79) (g' := (mkF m 64 #[.val (.int i0), .val (.int (7 : Int32)), .val (.ref (w 6)), .val (.int (0 : Int32)), .val (.int (0 : Int32))] [])) (fun t k => XS.ifYes X79.here hx rfl (pc0 := 45) (pc' := 64) rfl (hb hby at_45) rfl ((if0 _ _).trans (teq (by decide : (0 : Int32) = (0 : Int32))).1) (by decide) (by decide) k) ?_
    refine Go.on (T' := T79) (g' := (mkF m 65 #[.val (.int i0), .val (.int (7 : Int32)), .val (.ref (w 6)), .val (.int (0 : Int32)), .val (.int (0 : Int32))] [(.int (1 : Int32))])) (fun t k => XS.iconst X79.here hx rfl (hb hby at_64) k) ?_
    obtain ⟨fs, hr, hrun, hended, hW, hsame⟩ := X79.leave (v := some (.int (1 : Int32))) (fun h => by rw [Bd.returns] at h; cases h)
    exact ⟨_, _, retN X79 hx (t := .boolean) Bd.returns (by simp) (hb hby at_65) hr, hrun, hended, _, _, rfl, ⟨rfl, N79⟩, ⟨_, rfl⟩, hW, hsame.mono (by decide) (by decide)⟩
  · skip
    rw [h1]
    refine Go.on (T' := s₁) (g' := (mkF m 8 #[.val (.int i0), .val (.int (8 : Int32)), .unset, .unset, .unset] [])) (fun t k => XS.istoreN X0.here hx rfl (hb hby at_7) rfl (l' := #[.val (.int i0), .val (.int (8 : Int32)), .unset, .unset, .unset]) rfl k) ?_
    refine Go.on (T' := s₁) (g' := (mkF m 9 #[.val (.int i0), .val (.int (8 : Int32)), .unset, .unset, .unset] [(.int (8 : Int32))])) (fun t k => XS.iloadN X0.here hx rfl (hb hby at_8) rfl k) ?_
    obtain ⟨_, _, ⟨T82, L82, k82, n82⟩, -, X82, ⟨Lc82, hQ82, l82, y82, z82⟩, st82⟩ := Jvm.LawKit.callS X0 hx (y := (⟨"com/example/anamnesis/anamnesis/rules/TypeIsNumberPinLaw", "pick", "(I)Lcom/example/anamnesis/anamnesis/rules/Type;"⟩ : MethodName)) hown (mvT hZ (hw _ (List.mem_of_getElem? (i := 1) rfl))) (mvT hZ (hw _ (List.mem_of_getElem? (i := 2) rfl))) (mvT hZ (hw _ (List.mem_of_getElem? (i := 3) rfl))) (mvT hZ (hw _ (List.mem_of_getElem? (i := 4) rfl))) (by decide) (backOf (W := 0) (rm1_8 l Z a0 hw [] w h0 n0 (Nat.le_trans Z0 (own_ext0 h0).1) hP) hZ (hw _ (List.mem_of_getElem? (i := 4) rfl)) (hw _ (List.mem_of_getElem? (i := 3) rfl)) (by decide) (by decide)) (g := (mkF m 9 #[.val (.int i0), .val (.int (8 : Int32)), .unset, .unset, .unset] [(.int (8 : Int32))])) rfl (by rw [hml]; rfl) (argsL := [(.int (8 : Int32))]) (rest := []) (lenOf pd_0 rfl) rfl (by show 2 * 0 + _ ≤ _; exact Nat.le_of_eq rfl) (hb hby at_9) (fun _ _ => ⟨rfl, e0, (by decide : 0 + 0 ≤ _), (by decide : 0 + 0 ≤ _)⟩)
    dsimp only [Pt.U, Pt.locs, Pt.cells, Pt.slots] at X82 l82 y82 z82 st82 hQ82
    subst l82 y82 z82
    obtain ⟨rfl, N82q, e82⟩ := hQ82
    have N82 := Fr.app N0 N82q
    refine Go.on (T' := T82) (g' := (mkF m 12 #[.val (.int i0), .val (.int (8 : Int32)), .unset, .unset, .unset] [(.ref (w 8))])) st82 ?_
    refine Go.on (T' := T82) (g' := (mkF m 13 #[.val (.int i0), .val (.int (8 : Int32)), .val (.ref (w 8)), .unset, .unset] [])) (fun t k => XS.astoreN X82.here hx rfl (hb hby at_12) rfl rfl (l' := #[.val (.int i0), .val (.int (8 : Int32)), .val (.ref (w 8)), .unset, .unset]) rfl k) ?_
    refine Go.on (T' := T82) (g' := (mkF m 14 #[.val (.int i0), .val (.int (8 : Int32)), .val (.ref (w 8)), .unset, .unset] [(.int (8 : Int32))])) (fun t k => XS.iloadN X82.here hx rfl (hb hby at_13) rfl k) ?_
    refine Go.on (T' := T82) (g' := (mkF m 15 #[.val (.int i0), .val (.int (8 : Int32)), .val (.ref (w 8)), .unset, .unset] [(.int (1 : Int32)), (.int (8 : Int32))])) (fun t k => XS.iconst X82.here hx rfl (hb hby at_14) k) ?_
    refine Go.on (T' := T82) (g' := (mkF m 18 #[.val (.int i0), .val (.int (8 : Int32)), .val (.ref (w 8)), .unset, .unset] [])) (fun t k => XS.icmpNo X82.here hx rfl (hb hby at_15) rfl (feq (by decide : ¬ ((8 : Int32) = (1 : Int32)))).1 k) ?_
    refine Go.on (T' := T82) (g' := (mkF m 19 #[.val (.int i0), .val (.int (8 : Int32)), .val (.ref (w 8)), .unset, .unset] [(.int (8 : Int32))])) (fun t k => XS.iloadN X82.here hx rfl (hb hby at_18) rfl k) ?_
    refine Go.on (T' := T82) (g' := (mkF m 20 #[.val (.int i0), .val (.int (8 : Int32)), .val (.ref (w 8)), .unset, .unset] [(.int (2 : Int32)), (.int (8 : Int32))])) (fun t k => XS.iconst X82.here hx rfl (hb hby at_19) k) ?_
    refine Go.on (T' := T82) (g' := (mkF m 27 #[.val (.int i0), .val (.int (8 : Int32)), .val (.ref (w 8)), .unset, .unset] [])) (fun t k => XS.icmpYes X82.here hx rfl (pc0 := 20) (pc' := 27) rfl (hb hby at_20) rfl (feq (by decide : ¬ ((8 : Int32) = (2 : Int32)))).2 (by decide) (by decide) k) ?_
    refine Go.on (T' := T82) (g' := (mkF m 28 #[.val (.int i0), .val (.int (8 : Int32)), .val (.ref (w 8)), .unset, .unset] [(.int (0 : Int32))])) (fun t k => XS.iconst X82.here hx rfl (hb hby at_27) k) ?_
    refine Go.on (T' := T82) (g' := (mkF m 29 #[.val (.int i0), .val (.int (8 : Int32)), .val (.ref (w 8)), .val (.int (0 : Int32)), .unset] [])) (fun t k => XS.istoreN X82.here hx rfl (hb hby at_28) rfl (l' := #[.val (.int i0), .val (.int (8 : Int32)), .val (.ref (w 8)), .val (.int (0 : Int32)), .unset]) rfl k) ?_
    refine Go.on (T' := T82) (g' := (mkF m 30 #[.val (.int i0), .val (.int (8 : Int32)), .val (.ref (w 8)), .val (.int (0 : Int32)), .unset] [(.ref (w 8))])) (fun t k => XS.aloadN X82.here hx rfl (hb hby at_29) rfl rfl k) ?_
    obtain ⟨cq87, kq87, q87a, q87b, q87c⟩ := isOf hZ e82 (pin_20 hP)
    obtain ⟨_, _, ⟨T87, L87, k87, n87⟩, -, X87, ⟨Lc87, hQ87, l87, y87, z87⟩, st87⟩ := X82.virtualBack hx (y := (⟨"com/example/anamnesis/anamnesis/rules/Type", "isNumber", "()Z"⟩ : MethodName)) (z := (⟨"com/example/anamnesis/anamnesis/rules/Type", "isNumber", "()Z"⟩ : MethodName)) hown (mvT hZ (hw _ (List.mem_of_getElem? (i := 8) rfl))) (mvT hZ (hw _ (List.mem_of_getElem? (i := 9) rfl))) (notFace_of_selects (args := #[]) (mvT hZ (hw _ (List.mem_of_getElem? (i := 11) rfl)))) (mvT hZ (hw _ (List.mem_of_getElem? (i := 11) rfl))) (mvT hZ (hw _ (List.mem_of_getElem? (i := 10) rfl))) (by decide) (backOf (W := 0) (rm2_8 l Z a0 hw [] w h0 n0 (Nat.le_trans Z0 (own_ext0 h0).1) hP) hZ (hw _ (List.mem_of_getElem? (i := 12) rfl)) (hw _ (List.mem_of_getElem? (i := 6) rfl)) (by decide) (by decide)) q87a q87c (g := (mkF m 30 #[.val (.int i0), .val (.int (8 : Int32)), .val (.ref (w 8)), .val (.int (0 : Int32)), .unset] [(.ref (w 8))])) rfl (by rw [hml]; rfl) (Steps.refl _) (argsL := []) (rest := []) (lenOf pd_1 rfl) rfl (by show 2 * 0 + _ ≤ _; exact Nat.le_of_eq rfl) (hb hby at_30) (fun _ _ => ⟨rfl, e82, (by decide : 0 + 0 ≤ _), (by decide : 0 + 0 ≤ _)⟩)
    dsimp only [Pt.U, Pt.locs, Pt.cells, Pt.slots] at X87 l87 y87 z87 st87 hQ87
    subst l87 y87 z87
    obtain ⟨rfl, N87q, e87⟩ := hQ87
    have N87 := Fr.app N82 N87q
    refine Go.on (T' := T87) (g' := (mkF m 33 #[.val (.int i0), .val (.int (8 : Int32)), .val (.ref (w 8)), .val (.int (0 : Int32)), .unset] [(.int (0 : Int32))])) (fun t k => st87.trans k) ?_
    refine Go.on (T' := T87) (g' := (mkF m 35 #[.val (.int i0), .val (.int (8 : Int32)), .val (.ref (w 8)), .val (.int (0 : Int32)), .val (.int (0 : Int32))] [])) (fun t k => XS.istore X87.here hx rfl (hb hby at_33) rfl (l' := #[.val (.int i0), .val (.int (8 : Int32)), .val (.ref (w 8)), .val (.int (0 : Int32)), .val (.int (0 : Int32))]) rfl k) ?_
    refine Go.on (T' := T87) (g' := (mkF m 37 #[.val (.int i0), .val (.int (8 : Int32)), .val (.ref (w 8)), .val (.int (0 : Int32)), .val (.int (0 : Int32))] [(.int (0 : Int32))])) (fun t k => XS.iload X87.here hx rfl (hb hby at_35) rfl k) ?_
    refine Go.on (T' := T87) (g' := (mkF m 38 #[.val (.int i0), .val (.int (8 : Int32)), .val (.ref (w 8)), .val (.int (0 : Int32)), .val (.int (0 : Int32))] [(.int (0 : Int32)), (.int (0 : Int32))])) (fun t k => XS.iloadN X87.here hx rfl (hb hby at_37) rfl k) ?_
    refine Go.on (T' := T87) (g' := (mkF m 43 #[.val (.int i0), .val (.int (8 : Int32)), .val (.ref (w 8)), .val (.int (0 : Int32)), .val (.int (0 : Int32))] [])) (fun t k => XS.icmpYes X87.here hx rfl (pc0 := 38) (pc' := 43) rfl (hb hby at_38) rfl (teq (by decide : (0 : Int32) = (0 : Int32))).1 (by decide) (by decide) k) ?_
    refine Go.on (T' := T87) (g' := (mkF m 45 #[.val (.int i0), .val (.int (8 : Int32)), .val (.ref (w 8)), .val (.int (0 : Int32)), .val (.int (0 : Int32))] [(.int (0 : Int32))])) (fun t k => XS.iload X87.here hx rfl (hb hby at_43) rfl k) ?_
    refine Go.on (T' := T87) (g' := (mkF m 64 #[.val (.int i0), .val (.int (8 : Int32)), .val (.ref (w 8)), .val (.int (0 : Int32)), .val (.int (0 : Int32))] [])) (fun t k => XS.ifYes X87.here hx rfl (pc0 := 45) (pc' := 64) rfl (hb hby at_45) rfl ((if0 _ _).trans (teq (by decide : (0 : Int32) = (0 : Int32))).1) (by decide) (by decide) k) ?_
    refine Go.on (T' := T87) (g' := (mkF m 65 #[.val (.int i0), .val (.int (8 : Int32)), .val (.ref (w 8)), .val (.int (0 : Int32)), .val (.int (0 : Int32))] [(.int (1 : Int32))])) (fun t k => XS.iconst X87.here hx rfl (hb hby at_64) k) ?_
    obtain ⟨fs, hr, hrun, hended, hW, hsame⟩ := X87.leave (v := some (.int (1 : Int32))) (fun h => by rw [Bd.returns] at h; cases h)
    exact ⟨_, _, retN X87 hx (t := .boolean) Bd.returns (by simp) (hb hby at_65) hr, hrun, hended, _, _, rfl, ⟨rfl, N87⟩, ⟨_, rfl⟩, hW, hsame.mono (by decide) (by decide)⟩
  · skip
    rw [h1]
    refine Go.on (T' := s₁) (g' := (mkF m 8 #[.val (.int i0), .val (.int (9 : Int32)), .unset, .unset, .unset] [])) (fun t k => XS.istoreN X0.here hx rfl (hb hby at_7) rfl (l' := #[.val (.int i0), .val (.int (9 : Int32)), .unset, .unset, .unset]) rfl k) ?_
    refine Go.on (T' := s₁) (g' := (mkF m 9 #[.val (.int i0), .val (.int (9 : Int32)), .unset, .unset, .unset] [(.int (9 : Int32))])) (fun t k => XS.iloadN X0.here hx rfl (hb hby at_8) rfl k) ?_
    obtain ⟨_, _, ⟨T90, L90, k90, n90⟩, -, X90, ⟨Lc90, hQ90, l90, y90, z90⟩, st90⟩ := Jvm.LawKit.callS X0 hx (y := (⟨"com/example/anamnesis/anamnesis/rules/TypeIsNumberPinLaw", "pick", "(I)Lcom/example/anamnesis/anamnesis/rules/Type;"⟩ : MethodName)) hown (mvT hZ (hw _ (List.mem_of_getElem? (i := 1) rfl))) (mvT hZ (hw _ (List.mem_of_getElem? (i := 2) rfl))) (mvT hZ (hw _ (List.mem_of_getElem? (i := 3) rfl))) (mvT hZ (hw _ (List.mem_of_getElem? (i := 4) rfl))) (by decide) (backOf (W := 0) (rm1_9 l Z a0 hw [] w h0 n0 (Nat.le_trans Z0 (own_ext0 h0).1) hP) hZ (hw _ (List.mem_of_getElem? (i := 4) rfl)) (hw _ (List.mem_of_getElem? (i := 3) rfl)) (by decide) (by decide)) (g := (mkF m 9 #[.val (.int i0), .val (.int (9 : Int32)), .unset, .unset, .unset] [(.int (9 : Int32))])) rfl (by rw [hml]; rfl) (argsL := [(.int (9 : Int32))]) (rest := []) (lenOf pd_0 rfl) rfl (by show 2 * 0 + _ ≤ _; exact Nat.le_of_eq rfl) (hb hby at_9) (fun _ _ => ⟨rfl, e0, (by decide : 0 + 0 ≤ _), (by decide : 0 + 0 ≤ _)⟩)
    dsimp only [Pt.U, Pt.locs, Pt.cells, Pt.slots] at X90 l90 y90 z90 st90 hQ90
    subst l90 y90 z90
    obtain ⟨rfl, N90q, e90⟩ := hQ90
    have N90 := Fr.app N0 N90q
    refine Go.on (T' := T90) (g' := (mkF m 12 #[.val (.int i0), .val (.int (9 : Int32)), .unset, .unset, .unset] [(.ref (w 9))])) st90 ?_
    refine Go.on (T' := T90) (g' := (mkF m 13 #[.val (.int i0), .val (.int (9 : Int32)), .val (.ref (w 9)), .unset, .unset] [])) (fun t k => XS.astoreN X90.here hx rfl (hb hby at_12) rfl rfl (l' := #[.val (.int i0), .val (.int (9 : Int32)), .val (.ref (w 9)), .unset, .unset]) rfl k) ?_
    refine Go.on (T' := T90) (g' := (mkF m 14 #[.val (.int i0), .val (.int (9 : Int32)), .val (.ref (w 9)), .unset, .unset] [(.int (9 : Int32))])) (fun t k => XS.iloadN X90.here hx rfl (hb hby at_13) rfl k) ?_
    refine Go.on (T' := T90) (g' := (mkF m 15 #[.val (.int i0), .val (.int (9 : Int32)), .val (.ref (w 9)), .unset, .unset] [(.int (1 : Int32)), (.int (9 : Int32))])) (fun t k => XS.iconst X90.here hx rfl (hb hby at_14) k) ?_
    refine Go.on (T' := T90) (g' := (mkF m 18 #[.val (.int i0), .val (.int (9 : Int32)), .val (.ref (w 9)), .unset, .unset] [])) (fun t k => XS.icmpNo X90.here hx rfl (hb hby at_15) rfl (feq (by decide : ¬ ((9 : Int32) = (1 : Int32)))).1 k) ?_
    refine Go.on (T' := T90) (g' := (mkF m 19 #[.val (.int i0), .val (.int (9 : Int32)), .val (.ref (w 9)), .unset, .unset] [(.int (9 : Int32))])) (fun t k => XS.iloadN X90.here hx rfl (hb hby at_18) rfl k) ?_
    refine Go.on (T' := T90) (g' := (mkF m 20 #[.val (.int i0), .val (.int (9 : Int32)), .val (.ref (w 9)), .unset, .unset] [(.int (2 : Int32)), (.int (9 : Int32))])) (fun t k => XS.iconst X90.here hx rfl (hb hby at_19) k) ?_
    refine Go.on (T' := T90) (g' := (mkF m 27 #[.val (.int i0), .val (.int (9 : Int32)), .val (.ref (w 9)), .unset, .unset] [])) (fun t k => XS.icmpYes X90.here hx rfl (pc0 := 20) (pc' := 27) rfl (hb hby at_20) rfl (feq (by decide : ¬ ((9 : Int32) = (2 : Int32)))).2 (by decide) (by decide) k) ?_
    refine Go.on (T' := T90) (g' := (mkF m 28 #[.val (.int i0), .val (.int (9 : Int32)), .val (.ref (w 9)), .unset, .unset] [(.int (0 : Int32))])) (fun t k => XS.iconst X90.here hx rfl (hb hby at_27) k) ?_
    refine Go.on (T' := T90) (g' := (mkF m 29 #[.val (.int i0), .val (.int (9 : Int32)), .val (.ref (w 9)), .val (.int (0 : Int32)), .unset] [])) (fun t k => XS.istoreN X90.here hx rfl (hb hby at_28) rfl (l' := #[.val (.int i0), .val (.int (9 : Int32)), .val (.ref (w 9)), .val (.int (0 : Int32)), .unset]) rfl k) ?_
    refine Go.on (T' := T90) (g' := (mkF m 30 #[.val (.int i0), .val (.int (9 : Int32)), .val (.ref (w 9)), .val (.int (0 : Int32)), .unset] [(.ref (w 9))])) (fun t k => XS.aloadN X90.here hx rfl (hb hby at_29) rfl rfl k) ?_
    obtain ⟨cq95, kq95, q95a, q95b, q95c⟩ := isOf hZ e90 (pin_21 hP)
    obtain ⟨_, _, ⟨T95, L95, k95, n95⟩, -, X95, ⟨Lc95, hQ95, l95, y95, z95⟩, st95⟩ := X90.virtualBack hx (y := (⟨"com/example/anamnesis/anamnesis/rules/Type", "isNumber", "()Z"⟩ : MethodName)) (z := (⟨"com/example/anamnesis/anamnesis/rules/Type", "isNumber", "()Z"⟩ : MethodName)) hown (mvT hZ (hw _ (List.mem_of_getElem? (i := 8) rfl))) (mvT hZ (hw _ (List.mem_of_getElem? (i := 9) rfl))) (notFace_of_selects (args := #[]) (mvT hZ (hw _ (List.mem_of_getElem? (i := 11) rfl)))) (mvT hZ (hw _ (List.mem_of_getElem? (i := 11) rfl))) (mvT hZ (hw _ (List.mem_of_getElem? (i := 10) rfl))) (by decide) (backOf (W := 0) (rm2_9 l Z a0 hw [] w h0 n0 (Nat.le_trans Z0 (own_ext0 h0).1) hP) hZ (hw _ (List.mem_of_getElem? (i := 12) rfl)) (hw _ (List.mem_of_getElem? (i := 6) rfl)) (by decide) (by decide)) q95a q95c (g := (mkF m 30 #[.val (.int i0), .val (.int (9 : Int32)), .val (.ref (w 9)), .val (.int (0 : Int32)), .unset] [(.ref (w 9))])) rfl (by rw [hml]; rfl) (Steps.refl _) (argsL := []) (rest := []) (lenOf pd_1 rfl) rfl (by show 2 * 0 + _ ≤ _; exact Nat.le_of_eq rfl) (hb hby at_30) (fun _ _ => ⟨rfl, e90, (by decide : 0 + 0 ≤ _), (by decide : 0 + 0 ≤ _)⟩)
    dsimp only [Pt.U, Pt.locs, Pt.cells, Pt.slots] at X95 l95 y95 z95 st95 hQ95
    subst l95 y95 z95
    obtain ⟨rfl, N95q, e95⟩ := hQ95
    have N95 := Fr.app N90 N95q
    refine Go.on (T' := T95) (g' := (mkF m 33 #[.val (.int i0), .val (.int (9 : Int32)), .val (.ref (w 9)), .val (.int (0 : Int32)), .unset] [(.int (0 : Int32))])) (fun t k => st95.trans k) ?_
    refine Go.on (T' := T95) (g' := (mkF m 35 #[.val (.int i0), .val (.int (9 : Int32)), .val (.ref (w 9)), .val (.int (0 : Int32)), .val (.int (0 : Int32))] [])) (fun t k => XS.istore X95.here hx rfl (hb hby at_33) rfl (l' := #[.val (.int i0), .val (.int (9 : Int32)), .val (.ref (w 9)), .val (.int (0 : Int32)), .val (.int (0 : Int32))]) rfl k) ?_
    refine Go.on (T' := T95) (g' := (mkF m 37 #[.val (.int i0), .val (.int (9 : Int32)), .val (.ref (w 9)), .val (.int (0 : Int32)), .val (.int (0 : Int32))] [(.int (0 : Int32))])) (fun t k => XS.iload X95.here hx rfl (hb hby at_35) rfl k) ?_
    refine Go.on (T' := T95) (g' := (mkF m 38 #[.val (.int i0), .val (.int (9 : Int32)), .val (.ref (w 9)), .val (.int (0 : Int32)), .val (.int (0 : Int32))] [(.int (0 : Int32)), (.int (0 : Int32))])) (fun t k => XS.iloadN X95.here hx rfl (hb hby at_37) rfl k) ?_
    refine Go.on (T' := T95) (g' := (mkF m 43 #[.val (.int i0), .val (.int (9 : Int32)), .val (.ref (w 9)), .val (.int (0 : Int32)), .val (.int (0 : Int32))] [])) (fun t k => XS.icmpYes X95.here hx rfl (pc0 := 38) (pc' := 43) rfl (hb hby at_38) rfl (teq (by decide : (0 : Int32) = (0 : Int32))).1 (by decide) (by decide) k) ?_
    refine Go.on (T' := T95) (g' := (mkF m 45 #[.val (.int i0), .val (.int (9 : Int32)), .val (.ref (w 9)), .val (.int (0 : Int32)), .val (.int (0 : Int32))] [(.int (0 : Int32))])) (fun t k => XS.iload X95.here hx rfl (hb hby at_43) rfl k) ?_
    refine Go.on (T' := T95) (g' := (mkF m 64 #[.val (.int i0), .val (.int (9 : Int32)), .val (.ref (w 9)), .val (.int (0 : Int32)), .val (.int (0 : Int32))] [])) (fun t k => XS.ifYes X95.here hx rfl (pc0 := 45) (pc' := 64) rfl (hb hby at_45) rfl ((if0 _ _).trans (teq (by decide : (0 : Int32) = (0 : Int32))).1) (by decide) (by decide) k) ?_
    refine Go.on (T' := T95) (g' := (mkF m 65 #[.val (.int i0), .val (.int (9 : Int32)), .val (.ref (w 9)), .val (.int (0 : Int32)), .val (.int (0 : Int32))] [(.int (1 : Int32))])) (fun t k => XS.iconst X95.here hx rfl (hb hby at_64) k) ?_
    obtain ⟨fs, hr, hrun, hended, hW, hsame⟩ := X95.leave (v := some (.int (1 : Int32))) (fun h => by rw [Bd.returns] at h; cases h)
    exact ⟨_, _, retN X95 hx (t := .boolean) Bd.returns (by simp) (hb hby at_65) hr, hrun, hended, _, _, rfl, ⟨rfl, N95⟩, ⟨_, rfl⟩, hW, hsame.mono (by decide) (by decide)⟩
  · skip
    rw [h1]
    refine Go.on (T' := s₁) (g' := (mkF m 8 #[.val (.int i0), .val (.int (10 : Int32)), .unset, .unset, .unset] [])) (fun t k => XS.istoreN X0.here hx rfl (hb hby at_7) rfl (l' := #[.val (.int i0), .val (.int (10 : Int32)), .unset, .unset, .unset]) rfl k) ?_
    refine Go.on (T' := s₁) (g' := (mkF m 9 #[.val (.int i0), .val (.int (10 : Int32)), .unset, .unset, .unset] [(.int (10 : Int32))])) (fun t k => XS.iloadN X0.here hx rfl (hb hby at_8) rfl k) ?_
    obtain ⟨_, _, ⟨T98, L98, k98, n98⟩, -, X98, ⟨Lc98, hQ98, l98, y98, z98⟩, st98⟩ := Jvm.LawKit.callS X0 hx (y := (⟨"com/example/anamnesis/anamnesis/rules/TypeIsNumberPinLaw", "pick", "(I)Lcom/example/anamnesis/anamnesis/rules/Type;"⟩ : MethodName)) hown (mvT hZ (hw _ (List.mem_of_getElem? (i := 1) rfl))) (mvT hZ (hw _ (List.mem_of_getElem? (i := 2) rfl))) (mvT hZ (hw _ (List.mem_of_getElem? (i := 3) rfl))) (mvT hZ (hw _ (List.mem_of_getElem? (i := 4) rfl))) (by decide) (backOf (W := 0) (rm1_10 l Z a0 hw [] w h0 n0 (Nat.le_trans Z0 (own_ext0 h0).1) hP) hZ (hw _ (List.mem_of_getElem? (i := 4) rfl)) (hw _ (List.mem_of_getElem? (i := 3) rfl)) (by decide) (by decide)) (g := (mkF m 9 #[.val (.int i0), .val (.int (10 : Int32)), .unset, .unset, .unset] [(.int (10 : Int32))])) rfl (by rw [hml]; rfl) (argsL := [(.int (10 : Int32))]) (rest := []) (lenOf pd_0 rfl) rfl (by show 2 * 0 + _ ≤ _; exact Nat.le_of_eq rfl) (hb hby at_9) (fun _ _ => ⟨rfl, e0, (by decide : 0 + 0 ≤ _), (by decide : 0 + 0 ≤ _)⟩)
    dsimp only [Pt.U, Pt.locs, Pt.cells, Pt.slots] at X98 l98 y98 z98 st98 hQ98
    subst l98 y98 z98
    obtain ⟨rfl, N98q, e98⟩ := hQ98
    have N98 := Fr.app N0 N98q
    refine Go.on (T' := T98) (g' := (mkF m 12 #[.val (.int i0), .val (.int (10 : Int32)), .unset, .unset, .unset] [(.ref (w 4))])) st98 ?_
    refine Go.on (T' := T98) (g' := (mkF m 13 #[.val (.int i0), .val (.int (10 : Int32)), .val (.ref (w 4)), .unset, .unset] [])) (fun t k => XS.astoreN X98.here hx rfl (hb hby at_12) rfl rfl (l' := #[.val (.int i0), .val (.int (10 : Int32)), .val (.ref (w 4)), .unset, .unset]) rfl k) ?_
    refine Go.on (T' := T98) (g' := (mkF m 14 #[.val (.int i0), .val (.int (10 : Int32)), .val (.ref (w 4)), .unset, .unset] [(.int (10 : Int32))])) (fun t k => XS.iloadN X98.here hx rfl (hb hby at_13) rfl k) ?_
    refine Go.on (T' := T98) (g' := (mkF m 15 #[.val (.int i0), .val (.int (10 : Int32)), .val (.ref (w 4)), .unset, .unset] [(.int (1 : Int32)), (.int (10 : Int32))])) (fun t k => XS.iconst X98.here hx rfl (hb hby at_14) k) ?_
    refine Go.on (T' := T98) (g' := (mkF m 18 #[.val (.int i0), .val (.int (10 : Int32)), .val (.ref (w 4)), .unset, .unset] [])) (fun t k => XS.icmpNo X98.here hx rfl (hb hby at_15) rfl (feq (by decide : ¬ ((10 : Int32) = (1 : Int32)))).1 k) ?_
    refine Go.on (T' := T98) (g' := (mkF m 19 #[.val (.int i0), .val (.int (10 : Int32)), .val (.ref (w 4)), .unset, .unset] [(.int (10 : Int32))])) (fun t k => XS.iloadN X98.here hx rfl (hb hby at_18) rfl k) ?_
    refine Go.on (T' := T98) (g' := (mkF m 20 #[.val (.int i0), .val (.int (10 : Int32)), .val (.ref (w 4)), .unset, .unset] [(.int (2 : Int32)), (.int (10 : Int32))])) (fun t k => XS.iconst X98.here hx rfl (hb hby at_19) k) ?_
    refine Go.on (T' := T98) (g' := (mkF m 27 #[.val (.int i0), .val (.int (10 : Int32)), .val (.ref (w 4)), .unset, .unset] [])) (fun t k => XS.icmpYes X98.here hx rfl (pc0 := 20) (pc' := 27) rfl (hb hby at_20) rfl (feq (by decide : ¬ ((10 : Int32) = (2 : Int32)))).2 (by decide) (by decide) k) ?_
    refine Go.on (T' := T98) (g' := (mkF m 28 #[.val (.int i0), .val (.int (10 : Int32)), .val (.ref (w 4)), .unset, .unset] [(.int (0 : Int32))])) (fun t k => XS.iconst X98.here hx rfl (hb hby at_27) k) ?_
    refine Go.on (T' := T98) (g' := (mkF m 29 #[.val (.int i0), .val (.int (10 : Int32)), .val (.ref (w 4)), .val (.int (0 : Int32)), .unset] [])) (fun t k => XS.istoreN X98.here hx rfl (hb hby at_28) rfl (l' := #[.val (.int i0), .val (.int (10 : Int32)), .val (.ref (w 4)), .val (.int (0 : Int32)), .unset]) rfl k) ?_
    refine Go.on (T' := T98) (g' := (mkF m 30 #[.val (.int i0), .val (.int (10 : Int32)), .val (.ref (w 4)), .val (.int (0 : Int32)), .unset] [(.ref (w 4))])) (fun t k => XS.aloadN X98.here hx rfl (hb hby at_29) rfl rfl k) ?_
    obtain ⟨cq103, kq103, q103a, q103b, q103c⟩ := isOf hZ e98 (pin_16 hP)
    obtain ⟨_, _, ⟨T103, L103, k103, n103⟩, -, X103, ⟨Lc103, hQ103, l103, y103, z103⟩, st103⟩ := X98.virtualBack hx (y := (⟨"com/example/anamnesis/anamnesis/rules/Type", "isNumber", "()Z"⟩ : MethodName)) (z := (⟨"com/example/anamnesis/anamnesis/rules/Type", "isNumber", "()Z"⟩ : MethodName)) hown (mvT hZ (hw _ (List.mem_of_getElem? (i := 8) rfl))) (mvT hZ (hw _ (List.mem_of_getElem? (i := 9) rfl))) (notFace_of_selects (args := #[]) (mvT hZ (hw _ (List.mem_of_getElem? (i := 11) rfl)))) (mvT hZ (hw _ (List.mem_of_getElem? (i := 11) rfl))) (mvT hZ (hw _ (List.mem_of_getElem? (i := 10) rfl))) (by decide) (backOf (W := 0) (rm2_10 l Z a0 hw [] w h0 n0 (Nat.le_trans Z0 (own_ext0 h0).1) hP) hZ (hw _ (List.mem_of_getElem? (i := 12) rfl)) (hw _ (List.mem_of_getElem? (i := 6) rfl)) (by decide) (by decide)) q103a q103c (g := (mkF m 30 #[.val (.int i0), .val (.int (10 : Int32)), .val (.ref (w 4)), .val (.int (0 : Int32)), .unset] [(.ref (w 4))])) rfl (by rw [hml]; rfl) (Steps.refl _) (argsL := []) (rest := []) (lenOf pd_1 rfl) rfl (by show 2 * 0 + _ ≤ _; exact Nat.le_of_eq rfl) (hb hby at_30) (fun _ _ => ⟨rfl, e98, (by decide : 0 + 0 ≤ _), (by decide : 0 + 0 ≤ _)⟩)
    dsimp only [Pt.U, Pt.locs, Pt.cells, Pt.slots] at X103 l103 y103 z103 st103 hQ103
    subst l103 y103 z103
    obtain ⟨rfl, N103q, e103⟩ := hQ103
    have N103 := Fr.app N98 N103q
    refine Go.on (T' := T103) (g' := (mkF m 33 #[.val (.int i0), .val (.int (10 : Int32)), .val (.ref (w 4)), .val (.int (0 : Int32)), .unset] [(.int (0 : Int32))])) (fun t k => st103.trans k) ?_
    refine Go.on (T' := T103) (g' := (mkF m 35 #[.val (.int i0), .val (.int (10 : Int32)), .val (.ref (w 4)), .val (.int (0 : Int32)), .val (.int (0 : Int32))] [])) (fun t k => XS.istore X103.here hx rfl (hb hby at_33) rfl (l' := #[.val (.int i0), .val (.int (10 : Int32)), .val (.ref (w 4)), .val (.int (0 : Int32)), .val (.int (0 : Int32))]) rfl k) ?_
    refine Go.on (T' := T103) (g' := (mkF m 37 #[.val (.int i0), .val (.int (10 : Int32)), .val (.ref (w 4)), .val (.int (0 : Int32)), .val (.int (0 : Int32))] [(.int (0 : Int32))])) (fun t k => XS.iload X103.here hx rfl (hb hby at_35) rfl k) ?_
    refine Go.on (T' := T103) (g' := (mkF m 38 #[.val (.int i0), .val (.int (10 : Int32)), .val (.ref (w 4)), .val (.int (0 : Int32)), .val (.int (0 : Int32))] [(.int (0 : Int32)), (.int (0 : Int32))])) (fun t k => XS.iloadN X103.here hx rfl (hb hby at_37) rfl k) ?_
    refine Go.on (T' := T103) (g' := (mkF m 43 #[.val (.int i0), .val (.int (10 : Int32)), .val (.ref (w 4)), .val (.int (0 : Int32)), .val (.int (0 : Int32))] [])) (fun t k => XS.icmpYes X103.here hx rfl (pc0 := 38) (pc' := 43) rfl (hb hby at_38) rfl (teq (by decide : (0 : Int32) = (0 : Int32))).1 (by decide) (by decide) k) ?_
    refine Go.on (T' := T103) (g' := (mkF m 45 #[.val (.int i0), .val (.int (10 : Int32)), .val (.ref (w 4)), .val (.int (0 : Int32)), .val (.int (0 : Int32))] [(.int (0 : Int32))])) (fun t k => XS.iload X103.here hx rfl (hb hby at_43) rfl k) ?_
    refine Go.on (T' := T103) (g' := (mkF m 64 #[.val (.int i0), .val (.int (10 : Int32)), .val (.ref (w 4)), .val (.int (0 : Int32)), .val (.int (0 : Int32))] [])) (fun t k => XS.ifYes X103.here hx rfl (pc0 := 45) (pc' := 64) rfl (hb hby at_45) rfl ((if0 _ _).trans (teq (by decide : (0 : Int32) = (0 : Int32))).1) (by decide) (by decide) k) ?_
    refine Go.on (T' := T103) (g' := (mkF m 65 #[.val (.int i0), .val (.int (10 : Int32)), .val (.ref (w 4)), .val (.int (0 : Int32)), .val (.int (0 : Int32))] [(.int (1 : Int32))])) (fun t k => XS.iconst X103.here hx rfl (hb hby at_64) k) ?_
    obtain ⟨fs, hr, hrun, hended, hW, hsame⟩ := X103.leave (v := some (.int (1 : Int32))) (fun h => by rw [Bd.returns] at h; cases h)
    exact ⟨_, _, retN X103 hx (t := .boolean) Bd.returns (by simp) (hb hby at_65) hr, hrun, hended, _, _, rfl, ⟨rfl, N103⟩, ⟨_, rfl⟩, hW, hsame.mono (by decide) (by decide)⟩
  · skip
    rw [h1]
    refine Go.on (T' := s₁) (g' := (mkF m 8 #[.val (.int i0), .val (.int (11 : Int32)), .unset, .unset, .unset] [])) (fun t k => XS.istoreN X0.here hx rfl (hb hby at_7) rfl (l' := #[.val (.int i0), .val (.int (11 : Int32)), .unset, .unset, .unset]) rfl k) ?_
    refine Go.on (T' := s₁) (g' := (mkF m 9 #[.val (.int i0), .val (.int (11 : Int32)), .unset, .unset, .unset] [(.int (11 : Int32))])) (fun t k => XS.iloadN X0.here hx rfl (hb hby at_8) rfl k) ?_
    obtain ⟨_, _, ⟨T106, L106, k106, n106⟩, -, X106, ⟨Lc106, hQ106, l106, y106, z106⟩, st106⟩ := Jvm.LawKit.callS X0 hx (y := (⟨"com/example/anamnesis/anamnesis/rules/TypeIsNumberPinLaw", "pick", "(I)Lcom/example/anamnesis/anamnesis/rules/Type;"⟩ : MethodName)) hown (mvT hZ (hw _ (List.mem_of_getElem? (i := 1) rfl))) (mvT hZ (hw _ (List.mem_of_getElem? (i := 2) rfl))) (mvT hZ (hw _ (List.mem_of_getElem? (i := 3) rfl))) (mvT hZ (hw _ (List.mem_of_getElem? (i := 4) rfl))) (by decide) (backOf (W := 0) (rm1_11 l Z a0 hw [] w h0 n0 (Nat.le_trans Z0 (own_ext0 h0).1) hP) hZ (hw _ (List.mem_of_getElem? (i := 4) rfl)) (hw _ (List.mem_of_getElem? (i := 3) rfl)) (by decide) (by decide)) (g := (mkF m 9 #[.val (.int i0), .val (.int (11 : Int32)), .unset, .unset, .unset] [(.int (11 : Int32))])) rfl (by rw [hml]; rfl) (argsL := [(.int (11 : Int32))]) (rest := []) (lenOf pd_0 rfl) rfl (by show 2 * 0 + _ ≤ _; exact Nat.le_of_eq rfl) (hb hby at_9) (fun _ _ => ⟨rfl, e0, (by decide : 0 + 0 ≤ _), (by decide : 0 + 0 ≤ _)⟩)
    dsimp only [Pt.U, Pt.locs, Pt.cells, Pt.slots] at X106 l106 y106 z106 st106 hQ106
    subst l106 y106 z106
    obtain ⟨rfl, N106q, e106⟩ := hQ106
    have N106 := Fr.app N0 N106q
    refine Go.on (T' := T106) (g' := (mkF m 12 #[.val (.int i0), .val (.int (11 : Int32)), .unset, .unset, .unset] [(.ref (w 5))])) st106 ?_
    refine Go.on (T' := T106) (g' := (mkF m 13 #[.val (.int i0), .val (.int (11 : Int32)), .val (.ref (w 5)), .unset, .unset] [])) (fun t k => XS.astoreN X106.here hx rfl (hb hby at_12) rfl rfl (l' := #[.val (.int i0), .val (.int (11 : Int32)), .val (.ref (w 5)), .unset, .unset]) rfl k) ?_
    refine Go.on (T' := T106) (g' := (mkF m 14 #[.val (.int i0), .val (.int (11 : Int32)), .val (.ref (w 5)), .unset, .unset] [(.int (11 : Int32))])) (fun t k => XS.iloadN X106.here hx rfl (hb hby at_13) rfl k) ?_
    refine Go.on (T' := T106) (g' := (mkF m 15 #[.val (.int i0), .val (.int (11 : Int32)), .val (.ref (w 5)), .unset, .unset] [(.int (1 : Int32)), (.int (11 : Int32))])) (fun t k => XS.iconst X106.here hx rfl (hb hby at_14) k) ?_
    refine Go.on (T' := T106) (g' := (mkF m 18 #[.val (.int i0), .val (.int (11 : Int32)), .val (.ref (w 5)), .unset, .unset] [])) (fun t k => XS.icmpNo X106.here hx rfl (hb hby at_15) rfl (feq (by decide : ¬ ((11 : Int32) = (1 : Int32)))).1 k) ?_
    refine Go.on (T' := T106) (g' := (mkF m 19 #[.val (.int i0), .val (.int (11 : Int32)), .val (.ref (w 5)), .unset, .unset] [(.int (11 : Int32))])) (fun t k => XS.iloadN X106.here hx rfl (hb hby at_18) rfl k) ?_
    refine Go.on (T' := T106) (g' := (mkF m 20 #[.val (.int i0), .val (.int (11 : Int32)), .val (.ref (w 5)), .unset, .unset] [(.int (2 : Int32)), (.int (11 : Int32))])) (fun t k => XS.iconst X106.here hx rfl (hb hby at_19) k) ?_
    refine Go.on (T' := T106) (g' := (mkF m 27 #[.val (.int i0), .val (.int (11 : Int32)), .val (.ref (w 5)), .unset, .unset] [])) (fun t k => XS.icmpYes X106.here hx rfl (pc0 := 20) (pc' := 27) rfl (hb hby at_20) rfl (feq (by decide : ¬ ((11 : Int32) = (2 : Int32)))).2 (by decide) (by decide) k) ?_
    refine Go.on (T' := T106) (g' := (mkF m 28 #[.val (.int i0), .val (.int (11 : Int32)), .val (.ref (w 5)), .unset, .unset] [(.int (0 : Int32))])) (fun t k => XS.iconst X106.here hx rfl (hb hby at_27) k) ?_
    refine Go.on (T' := T106) (g' := (mkF m 29 #[.val (.int i0), .val (.int (11 : Int32)), .val (.ref (w 5)), .val (.int (0 : Int32)), .unset] [])) (fun t k => XS.istoreN X106.here hx rfl (hb hby at_28) rfl (l' := #[.val (.int i0), .val (.int (11 : Int32)), .val (.ref (w 5)), .val (.int (0 : Int32)), .unset]) rfl k) ?_
    refine Go.on (T' := T106) (g' := (mkF m 30 #[.val (.int i0), .val (.int (11 : Int32)), .val (.ref (w 5)), .val (.int (0 : Int32)), .unset] [(.ref (w 5))])) (fun t k => XS.aloadN X106.here hx rfl (hb hby at_29) rfl rfl k) ?_
    obtain ⟨cq111, kq111, q111a, q111b, q111c⟩ := isOf hZ e106 (pin_17 hP)
    obtain ⟨_, _, ⟨T111, L111, k111, n111⟩, -, X111, ⟨Lc111, hQ111, l111, y111, z111⟩, st111⟩ := X106.virtualBack hx (y := (⟨"com/example/anamnesis/anamnesis/rules/Type", "isNumber", "()Z"⟩ : MethodName)) (z := (⟨"com/example/anamnesis/anamnesis/rules/Type", "isNumber", "()Z"⟩ : MethodName)) hown (mvT hZ (hw _ (List.mem_of_getElem? (i := 8) rfl))) (mvT hZ (hw _ (List.mem_of_getElem? (i := 9) rfl))) (notFace_of_selects (args := #[]) (mvT hZ (hw _ (List.mem_of_getElem? (i := 11) rfl)))) (mvT hZ (hw _ (List.mem_of_getElem? (i := 11) rfl))) (mvT hZ (hw _ (List.mem_of_getElem? (i := 10) rfl))) (by decide) (backOf (W := 0) (rm2_11 l Z a0 hw [] w h0 n0 (Nat.le_trans Z0 (own_ext0 h0).1) hP) hZ (hw _ (List.mem_of_getElem? (i := 12) rfl)) (hw _ (List.mem_of_getElem? (i := 6) rfl)) (by decide) (by decide)) q111a q111c (g := (mkF m 30 #[.val (.int i0), .val (.int (11 : Int32)), .val (.ref (w 5)), .val (.int (0 : Int32)), .unset] [(.ref (w 5))])) rfl (by rw [hml]; rfl) (Steps.refl _) (argsL := []) (rest := []) (lenOf pd_1 rfl) rfl (by show 2 * 0 + _ ≤ _; exact Nat.le_of_eq rfl) (hb hby at_30) (fun _ _ => ⟨rfl, e106, (by decide : 0 + 0 ≤ _), (by decide : 0 + 0 ≤ _)⟩)
    dsimp only [Pt.U, Pt.locs, Pt.cells, Pt.slots] at X111 l111 y111 z111 st111 hQ111
    subst l111 y111 z111
    obtain ⟨rfl, N111q, e111⟩ := hQ111
    have N111 := Fr.app N106 N111q
    refine Go.on (T' := T111) (g' := (mkF m 33 #[.val (.int i0), .val (.int (11 : Int32)), .val (.ref (w 5)), .val (.int (0 : Int32)), .unset] [(.int (0 : Int32))])) (fun t k => st111.trans k) ?_
    refine Go.on (T' := T111) (g' := (mkF m 35 #[.val (.int i0), .val (.int (11 : Int32)), .val (.ref (w 5)), .val (.int (0 : Int32)), .val (.int (0 : Int32))] [])) (fun t k => XS.istore X111.here hx rfl (hb hby at_33) rfl (l' := #[.val (.int i0), .val (.int (11 : Int32)), .val (.ref (w 5)), .val (.int (0 : Int32)), .val (.int (0 : Int32))]) rfl k) ?_
    refine Go.on (T' := T111) (g' := (mkF m 37 #[.val (.int i0), .val (.int (11 : Int32)), .val (.ref (w 5)), .val (.int (0 : Int32)), .val (.int (0 : Int32))] [(.int (0 : Int32))])) (fun t k => XS.iload X111.here hx rfl (hb hby at_35) rfl k) ?_
    refine Go.on (T' := T111) (g' := (mkF m 38 #[.val (.int i0), .val (.int (11 : Int32)), .val (.ref (w 5)), .val (.int (0 : Int32)), .val (.int (0 : Int32))] [(.int (0 : Int32)), (.int (0 : Int32))])) (fun t k => XS.iloadN X111.here hx rfl (hb hby at_37) rfl k) ?_
    refine Go.on (T' := T111) (g' := (mkF m 43 #[.val (.int i0), .val (.int (11 : Int32)), .val (.ref (w 5)), .val (.int (0 : Int32)), .val (.int (0 : Int32))] [])) (fun t k => XS.icmpYes X111.here hx rfl (pc0 := 38) (pc' := 43) rfl (hb hby at_38) rfl (teq (by decide : (0 : Int32) = (0 : Int32))).1 (by decide) (by decide) k) ?_
    refine Go.on (T' := T111) (g' := (mkF m 45 #[.val (.int i0), .val (.int (11 : Int32)), .val (.ref (w 5)), .val (.int (0 : Int32)), .val (.int (0 : Int32))] [(.int (0 : Int32))])) (fun t k => XS.iload X111.here hx rfl (hb hby at_43) rfl k) ?_
    refine Go.on (T' := T111) (g' := (mkF m 64 #[.val (.int i0), .val (.int (11 : Int32)), .val (.ref (w 5)), .val (.int (0 : Int32)), .val (.int (0 : Int32))] [])) (fun t k => XS.ifYes X111.here hx rfl (pc0 := 45) (pc' := 64) rfl (hb hby at_45) rfl ((if0 _ _).trans (teq (by decide : (0 : Int32) = (0 : Int32))).1) (by decide) (by decide) k) ?_
    refine Go.on (T' := T111) (g' := (mkF m 65 #[.val (.int i0), .val (.int (11 : Int32)), .val (.ref (w 5)), .val (.int (0 : Int32)), .val (.int (0 : Int32))] [(.int (1 : Int32))])) (fun t k => XS.iconst X111.here hx rfl (hb hby at_64) k) ?_
    obtain ⟨fs, hr, hrun, hended, hW, hsame⟩ := X111.leave (v := some (.int (1 : Int32))) (fun h => by rw [Bd.returns] at h; cases h)
    exact ⟨_, _, retN X111 hx (t := .boolean) Bd.returns (by simp) (hb hby at_65) hr, hrun, hended, _, _, rfl, ⟨rfl, N111⟩, ⟨_, rfl⟩, hW, hsame.mono (by decide) (by decide)⟩
set_option maxRecDepth 65536 in
set_option maxHeartbeats 40000000 in
theorem comes_1 {Post : Tables → Env → Array Value → State → Outcome → State → Prop} (hpost : ∀ tb e args s v u, (limb_1_1.after args s (.returned v) u = true ∧ limb_1_2.after args s (.returned v) u = true ∧ True) → FrameEnd s (.returned v) u (Jvm.fieldLocs frame_1_writes args s ++ Jvm.arrayLocs frame_1_arrays args s ++ Jvm.staticLocs frame_1_statics s) 0 0 → Post tb e args s (.returned v) u) :
    ArmFor flags0 classFile x code maxLocals ret World_1 tables_1 room_1 Calls_1 rest_1 Pre_1 Post := by
  intro l hfl _ _ p e ha hc hk s m args below hf hA hF happ hP
  obtain ⟨hcalls, hrest, hpre⟩ := hP
  obtain ⟨-, -, -, hnamed, -, -, -, hat⟩ := (Spec.applies_iff hf).mp happ
  obtain ⟨hg, hn⟩ := and_e (Cond.before_iff.mp (show (Jvm.Cond.and given_1 narrow_1).before args s = true from hpre))
  obtain ⟨u1, v1⟩ := and_e hg
  obtain ⟨w0, rfl⟩ : ∃ w0 : Value, args = #[w0] := by
    have hs : args.size = 1 := by simpa [Cond.value, given_1] using u1
    obtain ⟨L⟩ := args
    match L, hs with
    | [w0], _ => exact ⟨w0, rfl⟩
  have hw := fun d (hd : d ∈ tables_1) => atoms_spec (ws := Jvm.Cond.code x code maxLocals ret :: tables_1) hat d (List.mem_cons_of_mem _ hd)
  have hfit : Fit s := fun {y c} hc i hi => by
    obtain ⟨ha, rfl⟩ := Array.getElem?_eq_some_iff.mp hc
    have q := List.all_eq_true.mp ((Array.all_eq_true_iff_forall_mem.mp hF) _ (Array.getElem_mem ha)) i (List.mem_range.mpr hi)
    simpa [Array.getElem?_eq_getElem hi] using q
  obtain ⟨i0, ei0⟩ := is_v v1
  obtain rfl : w0 = (.int i0) := Option.some.inj ei0
  obtain ⟨u2, v2⟩ := and_e hn
  obtain ⟨u3, v3⟩ := and_e v2
  obtain ⟨u4, v4⟩ := and_e v3
  obtain ⟨u5, v5⟩ := and_e v4
  obtain ⟨u6, v6⟩ := and_e v5
  obtain ⟨u7, v7⟩ := and_e v6
  obtain ⟨u8, v8⟩ := and_e v7
  obtain ⟨u9, v9⟩ := and_e v8
  obtain ⟨u10, v10⟩ := and_e v9
  obtain ⟨u11, v11⟩ := and_e v10
  obtain ⟨u12, v12⟩ := and_e v11
  obtain ⟨u13, v13⟩ := and_e v12
  obtain ⟨u14, v14⟩ := and_e v13
  obtain ⟨u15, v15⟩ := and_e v14
  obtain ⟨u16, v16⟩ := and_e v15
  obtain ⟨u17, v17⟩ := and_e v16
  obtain ⟨u18, v18⟩ := and_e v17
  obtain ⟨u19, v19⟩ := and_e v18
  obtain ⟨u20, v20⟩ := and_e v19
  obtain ⟨u21, v21⟩ := and_e v20
  obtain ⟨u22, v22⟩ := and_e v21
  obtain ⟨u23, v23⟩ := and_e v22
  obtain ⟨u24, v24⟩ := and_e v23
  obtain ⟨x0, ev0⟩ := exa_v u2
  obtain ⟨x1, ev1⟩ := exa_v u3
  obtain ⟨x2, ev2⟩ := exa_v u6
  obtain ⟨x3, ev3⟩ := exa_v u8
  obtain ⟨x4, ev4⟩ := exa_v u10
  obtain ⟨x5, ev5⟩ := exa_v u12
  obtain ⟨x6, ev6⟩ := exa_v u14
  obtain ⟨x7, ev7⟩ := exa_v u16
  obtain ⟨x8, ev8⟩ := exa_v u18
  obtain ⟨x9, ev9⟩ := exa_v u20
  obtain ⟨x10, ev10⟩ := exa_v u22
  obtain ⟨x11, ev11⟩ := exa_v u24
  obtain ⟨w, hw_⟩ : ∃ w : Nat → Addr, w 0 = x0 ∧ w 1 = x1 ∧ w 2 = x2 ∧ w 3 = x3 ∧ w 4 = x4 ∧ w 5 = x5 ∧ w 6 = x6 ∧ w 7 = x7 ∧ w 8 = x8 ∧ w 9 = x9 ∧ w 10 = x10 ∧ w 11 = x11 ∧ True := ⟨fun k => [x0, x1, x2, x3, x4, x5, x6, x7, x8, x9, x10, x11].getD k 0, rfl, rfl, rfl, rfl, rfl, rfl, rfl, rfl, rfl, rfl, rfl, rfl, trivial⟩
  obtain ⟨rfl, rfl, rfl, rfl, rfl, rfl, rfl, rfl, rfl, rfl, rfl, rfl, -⟩ := hw_
  have hPin : Pins s s.heap w := ⟨Sta.start ev0 (Or.inr ⟨(hw _ (List.mem_of_getElem? (i := 6) rfl)), (hw _ (List.mem_of_getElem? (i := 7) rfl))⟩),
    Sta.start ev1 (Or.inr ⟨(hw _ (List.mem_of_getElem? (i := 6) rfl)), (hw _ (List.mem_of_getElem? (i := 14) rfl))⟩),
    Sta.start ev2 (Or.inr ⟨(hw _ (List.mem_of_getElem? (i := 6) rfl)), (hw _ (List.mem_of_getElem? (i := 16) rfl))⟩),
    Sta.start ev3 (Or.inr ⟨(hw _ (List.mem_of_getElem? (i := 6) rfl)), (hw _ (List.mem_of_getElem? (i := 18) rfl))⟩),
    Sta.start ev4 (Or.inr ⟨(hw _ (List.mem_of_getElem? (i := 6) rfl)), (hw _ (List.mem_of_getElem? (i := 32) rfl))⟩),
    Sta.start ev5 (Or.inr ⟨(hw _ (List.mem_of_getElem? (i := 6) rfl)), (hw _ (List.mem_of_getElem? (i := 34) rfl))⟩),
    Sta.start ev6 (Or.inr ⟨(hw _ (List.mem_of_getElem? (i := 6) rfl)), (hw _ (List.mem_of_getElem? (i := 36) rfl))⟩),
    Sta.start ev7 (Or.inr ⟨(hw _ (List.mem_of_getElem? (i := 6) rfl)), (hw _ (List.mem_of_getElem? (i := 39) rfl))⟩),
    Sta.start ev8 (Or.inr ⟨(hw _ (List.mem_of_getElem? (i := 6) rfl)), (hw _ (List.mem_of_getElem? (i := 41) rfl))⟩),
    Sta.start ev9 (Or.inr ⟨(hw _ (List.mem_of_getElem? (i := 6) rfl)), (hw _ (List.mem_of_getElem? (i := 45) rfl))⟩),
    Sta.start ev10 (Or.inr ⟨(hw _ (List.mem_of_getElem? (i := 6) rfl)), (hw _ (List.mem_of_getElem? (i := 47) rfl))⟩),
    Sta.start ev11 (Or.inr ⟨(hw _ (List.mem_of_getElem? (i := 6) rfl)), (hw _ (List.mem_of_getElem? (i := 49) rfl))⟩),
    Exa.start ev0 u2,
    Exa.start ev1 u3,
    Exa.start ev2 u6,
    Exa.start ev3 u8,
    Exa.start ev4 u10,
    Exa.start ev5 u12,
    Exa.start ev6 u14,
    Exa.start ev7 u16,
    Exa.start ev8 u18,
    Exa.start ev9 u20,
    Exa.start ev10 u22,
    Exa.start ev11 u24,
    Fld.start ((fld_at ev0).symm.trans (own_eqI u4)),
    Fld.start ((fld_at ev1).symm.trans (own_eqI u5)),
    Fld.start ((fld_at ev2).symm.trans (own_eqI u7)),
    Fld.start ((fld_at ev3).symm.trans (own_eqI u9)),
    Fld.start ((fld_at ev4).symm.trans (own_eqI u11)),
    Fld.start ((fld_at ev5).symm.trans (own_eqI u13)),
    Fld.start ((fld_at ev6).symm.trans (own_eqI u15)),
    Fld.start ((fld_at ev7).symm.trans (own_eqI u17)),
    Fld.start ((fld_at ev8).symm.trans (own_eqI u19)),
    Fld.start ((fld_at ev9).symm.trans (own_eqI u21)),
    Fld.start ((fld_at ev10).symm.trans (own_eqI u23)),
    Fld.start ((fld_at ev11).symm.trans (own_eqI v24)),
    trivial⟩
  obtain ⟨n, o, h1, h2, h3, _, L, rfl, ⟨rfl, N⟩, hq⟩ := rm0 l s _ hw tables_1 w s.heap s.heap.size (Nat.le_refl _) hPin i0 p e ha hc hk s m _ below hf ((Spec.applies_iff_loose hf).mp happ).1 ⟨rfl, State.Warmed39.refl s, rfl⟩ trivial
  refine ⟨n, _, h1, h2, h3, hpost _ _ _ _ _ _ ⟨Cond.after_iff.mpr rfl, Cond.after_iff.mpr (eq_i res_at (Term.int_eval (1)) rfl), trivial⟩ ⟨hq.1, hq.2.1, (hq.2.2.sift fun y hy => Or.inr (N y hy)).mono (by decide) (by decide)⟩⟩
theorem main_1_1 : Claimed_1_1 := comes_1 fun _ _ _ _ _ _ h hF => ⟨h.1, hF⟩
theorem main_1_2 : Claimed_1_2 := comes_1 fun _ _ _ _ _ _ h hF => ⟨h.2.1, hF⟩
end Jvm.Pilot.@@N@@
namespace Jvm.Pilot.@@N@@
open Jvm Jvm.ClassFile Sem Op Lib Jvm.Free Jvm.Stand Jvm.Pilot.@@N@@.Jvm.D
/-! MADE BY PROGRAM (witnessworld.py) out of the Statement's table words and the real class files: 12 classes; the members and pool entries that the words name. The judged class is class 1, her method 2. -/
namespace start1
open Jvm.ClassFile
def u (s : String) : CpInfo := .utf8 (stringToUtf16 s)
/-- a pool by its gaps: so many unusable entries, then the entry; so many at the end -/
def gap : Nat → List CpInfo → List CpInfo
  | 0, r => r
  | n + 1, r => .unusable :: gap n r
def poolList (es : List (Nat × CpInfo)) (last : Nat) : List CpInfo := es.foldr (fun e r => gap e.1 (e.2 :: r)) (gap last [])
def pool (es : List (Nat × CpInfo)) (last : Nat) : Array CpInfo := ⟨poolList es last⟩
def fileOf (pool : Array CpInfo) (this : Nat) (attrs : Array Attribute := #[]) (ms : Array MethodInfo := #[]) (fl : Nat := 33) (sup : Nat := 0) (ifs : Array Nat := #[]) (fds : Array FieldInfo := #[]) : ClassFile where
  minorVersion := 0
  majorVersion := 65
  constantPool := pool
  accessFlags := fl
  thisClass := this
  superClass := sup
  interfaces := ifs
  fields := fds
  methods := ms
  attributes := attrs
def plain (name : String) (sup : Option ClassId) : Class where
  name := name
  kind := .ordinary
  loader := none
  accessFlags := 33
  super := sup
  interfaces := #[]
  cf := none
  fields := #[]
  methods := #[]
  instanceTypes := #[]
  staticTypes := #[]
  resolved := #[]
  callSites := []
  init := .initialized
  statics := none
  mirror := none

def pool0 : Array CpInfo := pool [(5, u "<init>"), (0, u "()V"), (1, .class_ 10), (1, u "java/lang/Object")] 113

def k0m0 : Method := { name := "<init>", desc := "()V", sig := { parameters := [], returnType := none }, accessFlags := 1, code := none }
/-- java/lang/Object -/
def k0 : Class := { plain "java/lang/Object" none with
  accessFlags := 33
  interfaces := #[]
  cf := some (fileOf pool0 8 #[] #[{ accessFlags := 1, nameIndex := 5, descriptorIndex := 6, attributes := #[] }] 33 0 #[] #[])
  fields := #[]
  methods := #[k0m0]
  instanceTypes := #[]
  staticTypes := #[]
  resolved := Array.replicate 124 none
  statics := none }

def pool1 : Array CpInfo := pool [(2, .class_ 4), (1, u "java/lang/Object"), (0, u "<init>"), (0, u "()V"), (0, .fieldref 8 9), (0, .class_ 10), (0, .nameAndType 11 12), (0, u "com/example/anamnesis/anamnesis/rules/Type"), (0, u "BOOLEAN"), (0, u "Lcom/example/anamnesis/anamnesis/rules/Type;"), (0, .fieldref 8 14), (0, .nameAndType 15 12), (0, u "INTEGER"), (0, .fieldref 8 17), (0, .nameAndType 18 12), (0, u "REAL"), (0, .fieldref 8 20), (0, .nameAndType 21 12), (0, u "DATE"), (0, .fieldref 8 23), (0, .nameAndType 24 12), (0, u "DATE_TIME"), (0, .fieldref 8 26), (0, .nameAndType 27 12), (0, u "TIME"), (0, .fieldref 8 29), (0, .nameAndType 30 12), (0, u "DURATION"), (0, .fieldref 8 32), (0, .nameAndType 33 12), (0, u "STRING"), (0, .fieldref 8 35), (0, .nameAndType 36 12), (0, u "TERMINOLOGY_CODE"), (0, .fieldref 8 38), (0, .nameAndType 39 12), (0, u "OBJECT_REF"), (0, .fieldref 8 41), (0, .nameAndType 42 12), (0, u "RECORD_VALUE"), (0, .fieldref 8 44), (0, .nameAndType 45 12), (0, u "RECORD_NUMBER"), (0, .integer 2147483647), (0, .methodref 48 49), (0, .class_ 50), (0, .nameAndType 51 52), (0, u "com/example/anamnesis/anamnesis/rules/TypeIsNumberPinLaw"), (0, u "pick"), (0, u "(I)Lcom/example/anamnesis/anamnesis/rules/Type;"), (0, .methodref 8 54), (0, .nameAndType 55 56), (0, u "isNumber"), (0, u "()Z"), (0, .methodref 8 58), (0, .nameAndType 59 56), (0, u "isOrdered"), (0, .methodref 8 61), (0, .nameAndType 62 56), (0, u "isRecord"), (3, u "law"), (0, u "(I)Z")] 2

def k1m0 : Method := { name := "<init>", desc := "()V", sig := { parameters := [], returnType := none }, accessFlags := 2, code := none }
def k1c1 : Code := { maxStack := 2, maxLocals := 1, code := method_2_code, exceptionTable := #[], attributes := #[] }
def k1m1 : Method := { name := "pick", desc := "(I)Lcom/example/anamnesis/anamnesis/rules/Type;", sig := { parameters := [.int], returnType := some (.object "com/example/anamnesis/anamnesis/rules/Type") }, accessFlags := 10, code := some k1c1 }
def k1c2 : Code := { maxStack := 2, maxLocals := 5, code := code, exceptionTable := #[], attributes := #[] }
def k1m2 : Method := { name := "law", desc := "(I)Z", sig := { parameters := [.int], returnType := some .boolean }, accessFlags := 9, code := some k1c2 }
/-- com/example/anamnesis/anamnesis/rules/TypeIsNumberPinLaw -/
def k1 : Class := { plain "com/example/anamnesis/anamnesis/rules/TypeIsNumberPinLaw" (some 0) with
  accessFlags := 49
  interfaces := #[]
  cf := some (fileOf pool1 48 #[] #[{ accessFlags := 2, nameIndex := 5, descriptorIndex := 6, attributes := #[] }, { accessFlags := 10, nameIndex := 51, descriptorIndex := 52, attributes := #[] }, { accessFlags := 9, nameIndex := 66, descriptorIndex := 67, attributes := #[] }] 49 2 #[] #[])
  fields := #[]
  methods := #[k1m0, k1m1, k1m2]
  instanceTypes := #[]
  staticTypes := #[]
  resolved := Array.replicate 70 none
  statics := none }

def pool2 : Array CpInfo := pool [(1, .class_ 2), (0, u "java/lang/constant/Constable"), (0, .class_ 4), (0, u "java/lang/Object")] 6

/-- java/lang/constant/Constable -/
def k2 : Class := { plain "java/lang/constant/Constable" (some 0) with
  accessFlags := 1537
  interfaces := #[]
  cf := some (fileOf pool2 1 #[] #[] 1537 3 #[] #[])
  fields := #[]
  methods := #[]
  instanceTypes := #[]
  staticTypes := #[]
  resolved := Array.replicate 11 none
  statics := none }

def pool3 : Array CpInfo := pool [(1, .class_ 2), (0, u "java/lang/Comparable"), (0, .class_ 4), (0, u "java/lang/Object")] 7

/-- java/lang/Comparable -/
def k3 : Class := { plain "java/lang/Comparable" (some 0) with
  accessFlags := 1537
  interfaces := #[]
  cf := some (fileOf pool3 1 #[] #[] 1537 3 #[] #[])
  fields := #[]
  methods := #[]
  instanceTypes := #[]
  staticTypes := #[]
  resolved := Array.replicate 12 none
  statics := none }

def pool4 : Array CpInfo := pool [(1, .class_ 2), (0, u "java/io/Serializable"), (0, .class_ 4), (0, u "java/lang/Object")] 2

/-- java/io/Serializable -/
def k4 : Class := { plain "java/io/Serializable" (some 0) with
  accessFlags := 1537
  interfaces := #[]
  cf := some (fileOf pool4 1 #[] #[] 1537 3 #[] #[])
  fields := #[]
  methods := #[]
  instanceTypes := #[]
  staticTypes := #[]
  resolved := Array.replicate 7 none
  statics := none }

def pool5 : Array CpInfo := pool [(2, .class_ 4), (1, u "java/lang/Enum"), (0, u "name"), (0, u "Ljava/lang/String;"), (2, u "ordinal"), (0, u "I"), (1, .class_ 14), (1, u "java/lang/Object"), (4, u "hash"), (86, .class_ 108), (1, u "java/lang/Enum$EnumDesc"), (2, .class_ 112), (0, u "java/lang/constant/Constable"), (0, .class_ 114), (0, u "java/lang/Comparable"), (0, .class_ 116), (0, u "java/io/Serializable")] 87

/-- java/lang/Enum -/
def k5 : Class := { plain "java/lang/Enum" (some 0) with
  accessFlags := 1057
  interfaces := #[2, 3, 4]
  cf := some (fileOf pool5 2 #[.nestMembers #[106]] #[] 1057 12 #[111, 113, 115] #[{ accessFlags := 18, nameIndex := 5, descriptorIndex := 6, attributes := #[] }, { accessFlags := 18, nameIndex := 9, descriptorIndex := 10, attributes := #[] }, { accessFlags := 2, nameIndex := 19, descriptorIndex := 10, attributes := #[] }])
  fields := #[{ name := "name", type := (.object "java/lang/String"), accessFlags := 18, slot := 0, constantValue := 0 }, { name := "ordinal", type := .int, accessFlags := 18, slot := 1, constantValue := 0 }, { name := "hash", type := .int, accessFlags := 2, slot := 2, constantValue := 0 }]
  methods := #[]
  instanceTypes := #[(.object "java/lang/String"), .int, .int]
  staticTypes := #[]
  resolved := Array.replicate 204 none
  statics := none }

def pool6 : Array CpInfo := pool [(1, .class_ 2), (0, u "com/example/anamnesis/anamnesis/rules/Type"), (2, u "BOOLEAN"), (0, u "Lcom/example/anamnesis/anamnesis/rules/Type;"), (0, .fieldref 1 8), (0, .nameAndType 9 6), (0, u "INTEGER"), (0, .fieldref 1 11), (0, .nameAndType 12 6), (0, u "REAL"), (2, u "DATE"), (2, u "DATE_TIME"), (2, u "TIME"), (2, u "DURATION"), (2, u "STRING"), (2, u "TERMINOLOGY_CODE"), (2, u "OBJECT_REF"), (0, .fieldref 1 35), (0, .nameAndType 36 6), (0, u "RECORD_VALUE"), (0, .fieldref 1 38), (0, .nameAndType 39 6), (0, u "RECORD_NUMBER"), (2, u "$VALUES"), (0, u "[Lcom/example/anamnesis/anamnesis/rules/Type;"), (6, .class_ 52), (1, u "java/lang/Enum"), (8, u "written"), (0, u "Ljava/lang/String;"), (24, u "isRecord"), (0, u "()Z"), (0, .methodref 1 90), (0, .nameAndType 91 88), (0, u "isNumber"), (5, u "NUMBERS"), (0, u "Ljava/util/List;"), (7, u "RECORD_TYPES"), (102, u "NAMES"), (17, u "isOrdered")] 42

def k6c0 : Code := { maxStack := 2, maxLocals := 1, code := prog_87_method_6_code, exceptionTable := #[], attributes := #[] }
def k6m0 : Method := { name := "isRecord", desc := "()Z", sig := { parameters := [], returnType := some .boolean }, accessFlags := 0, code := some k6c0 }
def k6c1 : Code := { maxStack := 2, maxLocals := 1, code := prog_87_method_7_code, exceptionTable := #[], attributes := #[] }
def k6m1 : Method := { name := "isNumber", desc := "()Z", sig := { parameters := [], returnType := some .boolean }, accessFlags := 0, code := some k6c1 }
def k6c2 : Code := { maxStack := 2, maxLocals := 1, code := prog_87_method_9_code, exceptionTable := #[], attributes := #[] }
def k6m2 : Method := { name := "isOrdered", desc := "()Z", sig := { parameters := [], returnType := some .boolean }, accessFlags := 0, code := some k6c2 }
/-- com/example/anamnesis/anamnesis/rules/Type -/
def k6 : Class := { plain "com/example/anamnesis/anamnesis/rules/Type" (some 5) with
  accessFlags := 16432
  interfaces := #[]
  cf := some (fileOf pool6 1 #[] #[{ accessFlags := 0, nameIndex := 87, descriptorIndex := 88, attributes := #[] }, { accessFlags := 0, nameIndex := 91, descriptorIndex := 88, attributes := #[] }, { accessFlags := 0, nameIndex := 227, descriptorIndex := 88, attributes := #[] }] 16432 50 #[] #[{ accessFlags := 16409, nameIndex := 5, descriptorIndex := 6, attributes := #[] }, { accessFlags := 16409, nameIndex := 9, descriptorIndex := 6, attributes := #[] }, { accessFlags := 16409, nameIndex := 12, descriptorIndex := 6, attributes := #[] }, { accessFlags := 16409, nameIndex := 15, descriptorIndex := 6, attributes := #[] }, { accessFlags := 16409, nameIndex := 18, descriptorIndex := 6, attributes := #[] }, { accessFlags := 16409, nameIndex := 21, descriptorIndex := 6, attributes := #[] }, { accessFlags := 16409, nameIndex := 24, descriptorIndex := 6, attributes := #[] }, { accessFlags := 16409, nameIndex := 27, descriptorIndex := 6, attributes := #[] }, { accessFlags := 16409, nameIndex := 30, descriptorIndex := 6, attributes := #[] }, { accessFlags := 16409, nameIndex := 33, descriptorIndex := 6, attributes := #[] }, { accessFlags := 16409, nameIndex := 36, descriptorIndex := 6, attributes := #[] }, { accessFlags := 16409, nameIndex := 39, descriptorIndex := 6, attributes := #[] }, { accessFlags := 24, nameIndex := 209, descriptorIndex := 62, attributes := #[] }, { accessFlags := 26, nameIndex := 106, descriptorIndex := 98, attributes := #[] }, { accessFlags := 26, nameIndex := 97, descriptorIndex := 98, attributes := #[] }, { accessFlags := 18, nameIndex := 61, descriptorIndex := 62, attributes := #[] }, { accessFlags := 4122, nameIndex := 42, descriptorIndex := 43, attributes := #[] }])
  fields := #[{ name := "BOOLEAN", type := (.object "com/example/anamnesis/anamnesis/rules/Type"), accessFlags := 16409, slot := 0, constantValue := 0 }, { name := "INTEGER", type := (.object "com/example/anamnesis/anamnesis/rules/Type"), accessFlags := 16409, slot := 1, constantValue := 0 }, { name := "REAL", type := (.object "com/example/anamnesis/anamnesis/rules/Type"), accessFlags := 16409, slot := 2, constantValue := 0 }, { name := "DATE", type := (.object "com/example/anamnesis/anamnesis/rules/Type"), accessFlags := 16409, slot := 3, constantValue := 0 }, { name := "DATE_TIME", type := (.object "com/example/anamnesis/anamnesis/rules/Type"), accessFlags := 16409, slot := 4, constantValue := 0 }, { name := "TIME", type := (.object "com/example/anamnesis/anamnesis/rules/Type"), accessFlags := 16409, slot := 5, constantValue := 0 }, { name := "DURATION", type := (.object "com/example/anamnesis/anamnesis/rules/Type"), accessFlags := 16409, slot := 6, constantValue := 0 }, { name := "STRING", type := (.object "com/example/anamnesis/anamnesis/rules/Type"), accessFlags := 16409, slot := 7, constantValue := 0 }, { name := "TERMINOLOGY_CODE", type := (.object "com/example/anamnesis/anamnesis/rules/Type"), accessFlags := 16409, slot := 8, constantValue := 0 }, { name := "OBJECT_REF", type := (.object "com/example/anamnesis/anamnesis/rules/Type"), accessFlags := 16409, slot := 9, constantValue := 0 }, { name := "RECORD_VALUE", type := (.object "com/example/anamnesis/anamnesis/rules/Type"), accessFlags := 16409, slot := 10, constantValue := 0 }, { name := "RECORD_NUMBER", type := (.object "com/example/anamnesis/anamnesis/rules/Type"), accessFlags := 16409, slot := 11, constantValue := 0 }, { name := "NAMES", type := (.object "java/lang/String"), accessFlags := 24, slot := 12, constantValue := 0 }, { name := "RECORD_TYPES", type := (.object "java/util/List"), accessFlags := 26, slot := 13, constantValue := 0 }, { name := "NUMBERS", type := (.object "java/util/List"), accessFlags := 26, slot := 14, constantValue := 0 }, { name := "written", type := (.object "java/lang/String"), accessFlags := 18, slot := 3, constantValue := 0 }, { name := "$VALUES", type := (.array (.object "com/example/anamnesis/anamnesis/rules/Type")), accessFlags := 4122, slot := 15, constantValue := 0 }]
  methods := #[k6m0, k6m1, k6m2]
  instanceTypes := #[(.object "java/lang/String"), .int, .int, (.object "java/lang/String")]
  staticTypes := #[(.object "com/example/anamnesis/anamnesis/rules/Type"), (.object "com/example/anamnesis/anamnesis/rules/Type"), (.object "com/example/anamnesis/anamnesis/rules/Type"), (.object "com/example/anamnesis/anamnesis/rules/Type"), (.object "com/example/anamnesis/anamnesis/rules/Type"), (.object "com/example/anamnesis/anamnesis/rules/Type"), (.object "com/example/anamnesis/anamnesis/rules/Type"), (.object "com/example/anamnesis/anamnesis/rules/Type"), (.object "com/example/anamnesis/anamnesis/rules/Type"), (.object "com/example/anamnesis/anamnesis/rules/Type"), (.object "com/example/anamnesis/anamnesis/rules/Type"), (.object "com/example/anamnesis/anamnesis/rules/Type"), (.object "java/lang/String"), (.object "java/util/List"), (.object "java/util/List"), (.array (.object "com/example/anamnesis/anamnesis/rules/Type"))]
  resolved := Array.replicate 270 none
  statics := some 0 }

def pool7 : Array CpInfo := pool [(1, u "java/lang/Cloneable"), (0, .class_ 1), (0, u "java/lang/Object"), (0, .class_ 3)] 3

/-- java/lang/Cloneable -/
def k7 : Class := { plain "java/lang/Cloneable" (some 0) with
  accessFlags := 1537
  interfaces := #[]
  cf := some (fileOf pool7 2 #[] #[] 1537 4 #[] #[])
  fields := #[]
  methods := #[]
  instanceTypes := #[]
  staticTypes := #[]
  resolved := Array.replicate 8 none
  statics := none }

/-- the primitive byte -/
def k8 : Class := { plain "byte" none with kind := .primitive 'B', accessFlags := 0x411 }
/-- [B -/
def k9 : Class := { plain "[B" (some 0) with kind := .array 8 .byte, interfaces := #[7, 4], accessFlags := 1041 }

/-- the primitive int -/
def k10 : Class := { plain "int" none with kind := .primitive 'I', accessFlags := 0x411 }
/-- [I -/
def k11 : Class := { plain "[I" (some 0) with kind := .array 10 .int, interfaces := #[7, 4], accessFlags := 1041 }

def heap : Heap := #[{ cls := 6, slots := #[.ref 1, .ref 2, .ref 3, .ref 4, .ref 8, .ref 12, .ref 11, .ref 7, .ref 9, .ref 10, .ref 5, .ref 6, .null, .null, .null, .null], vm := .statics 6 },
  { cls := 6, slots := #[.null, .int 0, .int 0, .null], vm := .none },
  { cls := 6, slots := #[.null, .int 1, .int 0, .null], vm := .none },
  { cls := 6, slots := #[.null, .int 2, .int 0, .null], vm := .none },
  { cls := 6, slots := #[.null, .int 3, .int 0, .null], vm := .none },
  { cls := 6, slots := #[.null, .int 10, .int 0, .null], vm := .none },
  { cls := 6, slots := #[.null, .int 11, .int 0, .null], vm := .none },
  { cls := 6, slots := #[.null, .int 7, .int 0, .null], vm := .none },
  { cls := 6, slots := #[.null, .int 4, .int 0, .null], vm := .none },
  { cls := 6, slots := #[.null, .int 8, .int 0, .null], vm := .none },
  { cls := 6, slots := #[.null, .int 9, .int 0, .null], vm := .none },
  { cls := 6, slots := #[.null, .int 6, .int 0, .null], vm := .none },
  { cls := 6, slots := #[.null, .int 5, .int 0, .null], vm := .none }]
def classes : Array Class := #[k0, k1, k2, k3, k4, k5, k6, k7, k8, k9, k10, k11]
def interned : List (Array UInt16 × Addr) := []
def slotsUsed : Nat := 64
def theMethod : MethodId := ⟨1, 2⟩
def args0 : Array Value := #[.int 5]
def aboutOver (below : List Frame) : State where
  vm := { classes := classes, interned := interned.toArray }
  heap := heap
  slotsUsed := slotsUsed
  threads := #[{ frames := .invoking theMethod args0 :: below }]
def below0 : List Frame := [.native { method := ⟨0, 0⟩, args := #[] }]
def about1 : State := aboutOver below0
def p0 : Program := .bare "" "" ""
def e0 : Env := launch0.env 0 0 0
theorem w_frames : about1.frames = Frame.invoking theMethod args0 :: below0 := rfl
set_option maxRecDepth 65536 in
theorem w_args : argsFit about1.vm theMethod args0 = true := by decide +kernel
set_option maxRecDepth 65536 in
theorem w_heap : heapFits about1 = true := by decide +kernel
set_option maxRecDepth 65536 in
theorem w_runnable : about1.curStatus? = some .runnable := by decide +kernel
set_option maxRecDepth 65536 in
theorem w_alone : about1.alone = true := by decide +kernel
set_option maxRecDepth 65536 in
theorem w_named : about1.methodNamed? x = some theMethod := by decide +kernel
set_option maxRecDepth 65536 in
theorem w_hears : about1.hears theMethod below0 = true := by decide +kernel
set_option maxRecDepth 65536 in
theorem w_ripe : about1.ripe theMethod args0 below0 = true := by decide +kernel
theorem w_running : about1.status = .running := rfl
set_option maxRecDepth 65536 in
theorem w_room : about1.hasRoom e0.platform room_1 = true :=
  launch0.hasRoom_least _ room_1 (by decide +kernel) (by decide +kernel) (by decide +kernel) (by decide +kernel) (by decide +kernel) (by decide +kernel)
theorem allAtoms_all (ts : List Jvm.Cond) (a : Array Jvm.Value) (st : Jvm.State) : (allAtoms ts).before a st = ts.all (fun c => c.before a st) := by
  induction ts with
  | nil => rfl
  | cons c t ih =>
    show (Jvm.Cond.and c (allAtoms t)).before a st = _
    rw [Jvm.Cond.before_and, ih, List.all_cons]
def words1 : List Jvm.Cond := Jvm.Cond.code x code maxLocals ret :: tables_1
/-- a 'code' word, met by the world's own term for the bytes: nothing is compared byte by byte -/
theorem code_word {y : MethodName} {bytes : ByteArray} {mx : Nat} {rt : Option FieldType} {a : Array Value} {s : State} {m : MethodId} {meth : Method} {c : Code} (h1 : s.methodNamed? y = some m) (h2 : s.vm.method? m = some meth) (h3 : meth.code = some c) (h4 : c.code = bytes)
    (h5 : (c.maxLocals == mx && c.exceptionTable.isEmpty && decide (c.maxStack ≤ mostOperands) && decide (meth.sig.returnType = rt) && !meth.locks && decide (parseMethodDescriptor y.desc = some meth.sig)) = true) : (Jvm.Cond.code y bytes mx rt).before a s = true := by
  simp only [Bool.and_eq_true, beq_iff_eq, Bool.not_eq_true', decide_eq_true_eq] at h5
  obtain ⟨⟨⟨⟨⟨g1, g2⟩, g3⟩, g4⟩, g5⟩, g6⟩ := h5
  simp [Cond.before, Cond.holds, Cond.value, h1, h2, h3, h4, g1, g2, g3, g4, g5, g6]
def isCode : Jvm.Cond → Bool
  | .code _ _ _ _ => true
  | _ => false
theorem all_split {L : List Jvm.Cond} {P : Jvm.Cond → Bool} (h1 : L.all (fun c => isCode c || P c) = true) (h2 : ∀ c ∈ L.filter isCode, P c = true) : L.all P = true := by
  refine List.all_eq_true.mpr fun c hc => ?_
  have h := List.all_eq_true.mp h1 c hc
  rcases Bool.eq_false_or_eq_true (isCode c) with hi | hi
  · exact h2 c (List.mem_filter.mpr ⟨hc, hi⟩)
  · simpa [hi] using h
set_option maxRecDepth 65536 in
theorem w_c0 : (Jvm.Cond.code x code maxLocals ret).before args0 about1 = true := code_word (m := ⟨1, 2⟩) (meth := k1m2) (c := k1c2) (by decide +kernel) rfl rfl rfl (by decide +kernel)
set_option maxRecDepth 65536 in
theorem w_c1 : (Jvm.Cond.code ({ cls := "com/example/anamnesis/anamnesis/rules/TypeIsNumberPinLaw", name := "pick", desc := "(I)Lcom/example/anamnesis/anamnesis/rules/Type;" } : Jvm.MethodName) method_2_code (1 : Nat) (Option.some (Jvm.ClassFile.FieldType.object "com/example/anamnesis/anamnesis/rules/Type"))).before args0 about1 = true := code_word (m := ⟨1, 1⟩) (meth := k1m1) (c := k1c1) (by decide +kernel) rfl rfl rfl (by decide +kernel)
set_option maxRecDepth 65536 in
theorem w_c2 : (Jvm.Cond.code ({ cls := "com/example/anamnesis/anamnesis/rules/Type", name := "isNumber", desc := "()Z" } : Jvm.MethodName) prog_87_method_7_code (1 : Nat) (Option.some Jvm.ClassFile.FieldType.boolean)).before args0 about1 = true := code_word (m := ⟨6, 1⟩) (meth := k6m1) (c := k6c1) (by decide +kernel) rfl rfl rfl (by decide +kernel)
set_option maxRecDepth 65536 in
theorem w_c3 : (Jvm.Cond.code ({ cls := "com/example/anamnesis/anamnesis/rules/Type", name := "isOrdered", desc := "()Z" } : Jvm.MethodName) prog_87_method_9_code (1 : Nat) (Option.some Jvm.ClassFile.FieldType.boolean)).before args0 about1 = true := code_word (m := ⟨6, 2⟩) (meth := k6m2) (c := k6c2) (by decide +kernel) rfl rfl rfl (by decide +kernel)
set_option maxRecDepth 65536 in
theorem w_c4 : (Jvm.Cond.code ({ cls := "com/example/anamnesis/anamnesis/rules/Type", name := "isRecord", desc := "()Z" } : Jvm.MethodName) prog_87_method_6_code (1 : Nat) (Option.some Jvm.ClassFile.FieldType.boolean)).before args0 about1 = true := code_word (m := ⟨6, 0⟩) (meth := k6m0) (c := k6c0) (by decide +kernel) rfl rfl rfl (by decide +kernel)
def codes1 : List Jvm.Cond := [Jvm.Cond.code x code maxLocals ret, Jvm.Cond.code ({ cls := "com/example/anamnesis/anamnesis/rules/TypeIsNumberPinLaw", name := "pick", desc := "(I)Lcom/example/anamnesis/anamnesis/rules/Type;" } : Jvm.MethodName) method_2_code (1 : Nat) (Option.some (Jvm.ClassFile.FieldType.object "com/example/anamnesis/anamnesis/rules/Type")), Jvm.Cond.code ({ cls := "com/example/anamnesis/anamnesis/rules/Type", name := "isNumber", desc := "()Z" } : Jvm.MethodName) prog_87_method_7_code (1 : Nat) (Option.some Jvm.ClassFile.FieldType.boolean), Jvm.Cond.code ({ cls := "com/example/anamnesis/anamnesis/rules/Type", name := "isOrdered", desc := "()Z" } : Jvm.MethodName) prog_87_method_9_code (1 : Nat) (Option.some Jvm.ClassFile.FieldType.boolean), Jvm.Cond.code ({ cls := "com/example/anamnesis/anamnesis/rules/Type", name := "isRecord", desc := "()Z" } : Jvm.MethodName) prog_87_method_6_code (1 : Nat) (Option.some Jvm.ClassFile.FieldType.boolean)]
set_option maxRecDepth 65536 in
theorem codes_eq : words1.filter isCode = codes1 := rfl
theorem w_codes : ∀ c ∈ words1.filter isCode, c.before args0 about1 = true := by
  rw [codes_eq]
  intro c hc
  simp only [codes1, List.mem_cons, List.not_mem_nil, or_false] at hc
  rcases hc with rfl | rfl | rfl | rfl | rfl
  · exact w_c0
  · exact w_c1
  · exact w_c2
  · exact w_c3
  · exact w_c4
set_option maxRecDepth 65536 in
theorem w_t1 : (words1.take 24).all (fun c => isCode c || c.before args0 about1) = true := by decide +kernel
set_option maxRecDepth 65536 in
theorem w_t2 : ((words1.drop 24).take 24).all (fun c => isCode c || c.before args0 about1) = true := by decide +kernel
set_option maxRecDepth 65536 in
theorem w_t3 : ((words1.drop 24).drop 24).all (fun c => isCode c || c.before args0 about1) = true := by decide +kernel
theorem w_tables : (allAtoms (Jvm.Cond.code x code maxLocals ret :: tables_1)).before args0 about1 = true := by
  rw [allAtoms_all]
  show words1.all (fun c => c.before args0 about1) = true
  refine all_split ?_ w_codes
  rw [← List.take_append_drop 24 words1, List.all_append, w_t1, ← List.take_append_drop 24 (words1.drop 24), List.all_append, w_t2, w_t3]
  rfl
set_option maxRecDepth 65536 in
theorem w_case : (Jvm.Cond.and given_1 narrow_1).before args0 about1 = true := by decide +kernel
theorem w_applies : (headSpec (Jvm.Cond.code x code maxLocals ret :: tables_1) room_1).applies x e0.platform about1 = true :=
  (Spec.applies_iff w_frames).mpr ⟨w_running, w_runnable, w_alone, w_named, w_hears, w_ripe, w_room, w_tables⟩
theorem atStart : AtStart classFile x code maxLocals ret World_1 tables_1 room_1 Calls_1 rest_1 Pre_1 launch0 p0 e0 about1 theMethod args0 below0 :=
  ⟨lists_1, trivial, launch0.admits_env _ _ _, launch0.least_env, fairChoices_fair.cas, fairChoices_fair.clock, w_frames, w_args, w_heap, w_applies, trivial, trivial, w_case⟩
end start1
theorem witness_1 : WitnessClaimed_1 := ⟨start1.p0, start1.e0, start1.about1, start1.theMethod, start1.args0, start1.below0, start1.atStart⟩
end Jvm.Pilot.@@N@@
