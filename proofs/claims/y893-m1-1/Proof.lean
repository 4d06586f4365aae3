import JvmDerived
import JvmDerived.Pilot.@@N@@Statement
import JvmDerived.Pilot.@@N@@Code
set_option linter.unusedVariables false
set_option linter.unusedSimpArgs false
@@BLOCK:NumsL.lean.txt@@
namespace Jvm.Pilot.@@N@@
open Jvm Jvm.ClassFile Sem Op Lib Jvm.Free Jvm.Stand Jvm.LawKit Jvm.RoadKit Bundle Jvm.Pilot.@@N@@.Jvm.D
/-- from here the run comes to its end, and G holds there -/
def Go (p : Program) (e : Env) (below : List Frame) (G : Outcome → State → Prop) (T : State) (g : JFrame) : Prop := ∃ s₂ o, Steps p.tables e below (T.setTop g) s₂ ∧ s₂.status = .running ∧ Ended s₂ below o ∧ G o s₂
theorem Go.on {p : Program} {e : Env} {below : List Frame} {G : Outcome → State → Prop} {T T' : State} {g g' : JFrame} (h : ∀ t, Steps p.tables e below (T'.setTop g') t → Steps p.tables e below (T.setTop g) t) (k : Go p e below G T' g') : Go p e below G T g := by
  obtain ⟨s2, o, k1, k2⟩ := k
  exact ⟨s2, o, h _ k1, k2⟩
/-- a body that writes nothing: what it returns; the heap as it was -/
def Qp (r : Option Value) (h0 : Heap) (n0 : Nat) (v : Option Value) (h : Heap) (L : List Loc) : Prop := v = r ∧ Fr n0 L ∧ h = h0
def Ql (r : Option Value) (n0 : Nat) (v : Option Value) (L : List Loc) : Prop := v = r ∧ Fr n0 L
/-- a body that only makes new cells -/
def Qx (r : Option Value) (F : Heap → Prop) (h0 : Heap) (n0 : Nat) (v : Option Value) (h : Heap) (L : List Loc) : Prop := v = r ∧ Fr n0 L ∧ Ext h0 h ∧ F h
theorem own_ext0 (h : Heap) : Ext h h := ⟨Nat.le_refl _, fun _ _ q => q⟩
theorem own_ext2 {a b c : Heap} (E : Ext a b) (F : Ext b c) : Ext a c := ⟨Nat.le_trans E.1 F.1, fun x y q => F.2 x y (E.2 x y q)⟩
theorem own_extw {h0 h h' : Heap} {a : Addr} {sl : Nat} {v : Value} (E : Ext h0 h) (W : Wr h h' a sl v) (q : h0.size ≤ a) : Ext h0 h' := by
  refine ⟨by rw [W.size]; exact E.1, fun x c hx => ?_⟩
  obtain ⟨c', g1, -, -, -, g5, -⟩ := wr_at W (E.2 x c hx)
  have hne : x ≠ a := Nat.ne_of_lt (Nat.lt_of_lt_of_le (Array.getElem?_eq_some_iff.mp hx).1 q)
  rw [g1, g5 hne]
theorem own_extE {h a b : Heap} (e : a = b) (X : Ext h b) : Ext h a := e ▸ X
theorem own_arrE {Z : State} {a b : Heap} {x : Addr} {c : Cell} {ty : FieldType} (e : a = b) (A : Arr Z b x c ty) : Arr Z a x c ty := e ▸ A
theorem own_ne {Z : State} {h : Heap} {a b : Addr} {C n d : String} {v v' : Value} (F : Fld Z h a C n d v) (G : Fld Z h b C n d v') (hv : v ≠ v') : ¬ (a = b) := by
  rintro rfl
  obtain ⟨cell, cf, k, i, f, h1, h2, -, -, -, -, h7⟩ := F
  obtain ⟨cell', cf', k', i', f', g1, g2, -, -, -, -, g7⟩ := G
  cases h1.symm.trans g1
  cases h2.symm.trans g2
  exact hv (Option.some.inj (h7.symm.trans g7))
theorem own_irrI (x : Int32) : ¬ (x < x) := by simp
theorem own_irrJ (x : Int64) : ¬ (x < x) := by simp
theorem own_eqI {args : Array Value} {s : State} {t : Term} {n : Int32} (h : (Jvm.Cond.eq t (.int n)).value args s none s [] = some true) : t.eval args s none [] s = some (.int n) := by
  exact eqv_i (Term.int_eval n) h
theorem own_len {args : Array Value} {s : State} {t : Term} {n : Int32} {a : Addr} {cl : Cell} {ty : FieldType} {k : Nat} (h : (Term.length t).eval args s none [] s = some (.int n)) (ht : t.eval args s none [] s = some (.ref a)) (A : Arr s s.heap a cl ty) (hk : n.toInt = k) : cl.slots.size = k := by
  have ha := A.fin (U := s) (Vm.Alike.refl _)
  by_cases hl : cl.slots.size < 2 ^ 31
  · have e := (len_f ht ha hl).symm.trans h
    have e2 : cl.slots.size.toInt32 = n := by simpa using e
    have e3 := len_toInt hl
    rw [e2, hk] at e3
    omega
  · simp [Term.eval, ht, ha, hl] at h
theorem own_slots {cl : Cell} {vs : List Value} (h1 : cl.slots.size = vs.length) (h2 : ∀ (i : Nat) (v : Value), vs[i]? = some v → cl.slots[i]? = some v) : cl.slots = vs.toArray := by
  apply Array.ext
  · simp [h1]
  · intro i hi hj
    have hj' : i < vs.length := by simpa using hj
    have q := h2 i vs[i] (by simp [hj'])
    rw [Array.getElem?_eq_getElem hi] at q
    simpa using q
theorem own_eqR {args : Array Value} {s : State} {t u : Term} {a : Addr} (h : (Jvm.Cond.eq t u).value args s none s [] = some true) (hu : u.eval args s none [] s = some (.ref a)) : t.eval args s none [] s = some (.ref a) := by
  obtain ⟨x, y, h1, h2, k1, k2⟩ := cmp_v (Or.inl h)
  cases h2.symm.trans hu
  have q := gotT (eq_R h1 h2 k2.2 rfl) h
  rw [h1, q]
def Qg (P : Option Value → Heap → Prop) (n : Nat) (v : Option Value) (h : Heap) (L : List Loc) : Prop := P v h ∧ Fr n L
theorem own_extK {hB h h' : Heap} {ws : List Addr} (E : Ext hB h) (K : Keep h h' ws) (q : ∀ x ∈ ws, hB.size ≤ x) : Ext hB h' :=
  ⟨Nat.le_trans E.1 K.1, fun x c hx => K.2.1 x c (E.2 x c hx) fun hm => Nat.not_lt.mpr (q x hm) (Array.getElem?_eq_some_iff.mp hx).1⟩
theorem own_arrK {Z : State} {h h' : Heap} {a : Addr} {c : Cell} {ty : FieldType} {ws : List Addr} (A : Arr Z h a c ty) (K : Keep h h' ws) (q : a ∉ ws) : Arr Z h' a c ty := ⟨K.2.1 a c A.1 q, A.2⟩
def own_as (Z : State) (C K : String) : Prop := ∃ c t, Z.vm.findClass C = some c ∧ Z.vm.findClass K = some t ∧ Z.vm.assignable c t = true
theorem own_asYes {Z : State} {h : Heap} {a : Addr} {C K : String} (E : Exa Z h a C) (q : own_as Z C K) : Ins Z h a K true := by
  obtain ⟨cell, k, h1, h2, -, h4, -⟩ := E
  obtain ⟨c, t, g1, g2, g3⟩ := q
  cases h2.symm.trans g1
  exact ⟨cell, t, h1, g2, by simp [h4, g3]⟩
theorem own_asNo {Z : State} {h : Heap} {a0 : Array Value} {a : Addr} {C K own : String} {index : Nat} {d : ClassId} (E : Exa Z h a C) (hd : Z.vm.findClass own = some d) (w : (Jvm.Cond.classLink own index K).before a0 Z = true) (q : ¬ own_as Z C K) : ∃ c t, Z.vm.findClass C = some c ∧ Z.vm.findClass K = some t ∧ Z.vm.assignable c t = false := by
  obtain ⟨cell, k, h1, h2, -, h4, -⟩ := E
  obtain ⟨t, ht, -⟩ := Cond.classLink_spec hd w {} rfl
  refine ⟨_, t, h2, ht, ?_⟩
  cases hq : Z.vm.assignable cell.cls t with
  | false => rfl
  | true => exact absurd ⟨_, t, h2, ht, hq⟩ q
theorem own_cache {Z : State} {args : Array Value} {t : Term} {a : Addr} {c : Cell} {K : String} {q : Jvm.Cond} (et : ∀ idx, t.eval args Z none idx Z = some (.ref a)) (A : Arr Z Z.heap a c (.object K))
    (h : (Jvm.Cond.all t (.and (.exactly (.elem t (.index 0)) K) q)).value args Z none Z [] = some true) (j : Int32) (hj : ¬ (j < 0 ∨ c.slots.size ≤ j.toNatClampNeg)) : ∃ b, c.slots[j.toNatClampNeg]? = some (.ref b) ∧ Exa Z Z.heap b K := by
  have nn : ¬ j < 0 := fun x => hj (Or.inl x)
  obtain ⟨u1, -⟩ := and_e (Cond.all_elim (et []) (A.fin (Vm.Alike.refl _)) h j.toNatClampNeg (Nat.lt_of_not_le fun x => hj (Or.inr x)))
  obtain ⟨box, eb⟩ := exa_v u1
  exact ⟨box, (elem_f (et _) (idx_at nn) (A.fin (Vm.Alike.refl _)) nn).symm.trans eb, exa_at eb u1⟩
theorem own_at {P : Heap → Prop} {a b : Heap} (e : a = b) (q : P b) : P a := e ▸ q
def Pins (Z : State) (h : Heap) (w : Nat → Addr) : Prop :=
  Sta Z h "java/lang/Integer$IntegerCache" "cache" "[Ljava/lang/Integer;" (.ref (w 0)) ∧
  Sta Z h "com/example/pedina/pedina/rules/Side" "WHITE" "Lcom/example/pedina/pedina/rules/Side;" (.ref (w 1)) ∧
  Sta Z h "com/example/pedina/pedina/rules/Side" "BLACK" "Lcom/example/pedina/pedina/rules/Side;" (.ref (w 2)) ∧
  Exa Z h (w 1) "com/example/pedina/pedina/rules/Side" ∧
  Exa Z h (w 2) "com/example/pedina/pedina/rules/Side" ∧
  Exa Z h (w 0) "[Ljava/lang/Integer;" ∧
  Fld Z h (w 2) "java/lang/Enum" "ordinal" "I" (.int (1 : Int32)) ∧
  Fld Z h (w 1) "java/lang/Enum" "ordinal" "I" (.int (0 : Int32)) ∧
  Sta Z h "java/lang/Integer$IntegerCache" "high" "I" (.int (127 : Int32)) ∧
  (∃ cl : Cell, Arr Z h (w 0) cl (.object "java/lang/Integer") ∧ cl.slots.size = 256 ∧ ∀ j : Int32, ¬ (j < 0 ∨ 256 ≤ j.toNatClampNeg) → ∃ a, cl.slots[j.toNatClampNeg]? = some (.ref a) ∧ Exa Z h a "java/lang/Integer") ∧
  True
theorem pin_0 {Z : State} {h : Heap} {w : Nat → Addr} (P : Pins Z h w) : Sta Z h "java/lang/Integer$IntegerCache" "cache" "[Ljava/lang/Integer;" (.ref (w 0)) := P.1
theorem pin_1 {Z : State} {h : Heap} {w : Nat → Addr} (P : Pins Z h w) : Sta Z h "com/example/pedina/pedina/rules/Side" "WHITE" "Lcom/example/pedina/pedina/rules/Side;" (.ref (w 1)) := P.2.1
theorem pin_2 {Z : State} {h : Heap} {w : Nat → Addr} (P : Pins Z h w) : Sta Z h "com/example/pedina/pedina/rules/Side" "BLACK" "Lcom/example/pedina/pedina/rules/Side;" (.ref (w 2)) := P.2.2.1
theorem pin_3 {Z : State} {h : Heap} {w : Nat → Addr} (P : Pins Z h w) : Exa Z h (w 1) "com/example/pedina/pedina/rules/Side" := P.2.2.2.1
theorem pin_4 {Z : State} {h : Heap} {w : Nat → Addr} (P : Pins Z h w) : Exa Z h (w 2) "com/example/pedina/pedina/rules/Side" := P.2.2.2.2.1
theorem pin_5 {Z : State} {h : Heap} {w : Nat → Addr} (P : Pins Z h w) : Exa Z h (w 0) "[Ljava/lang/Integer;" := P.2.2.2.2.2.1
theorem pin_6 {Z : State} {h : Heap} {w : Nat → Addr} (P : Pins Z h w) : Fld Z h (w 2) "java/lang/Enum" "ordinal" "I" (.int (1 : Int32)) := P.2.2.2.2.2.2.1
theorem pin_7 {Z : State} {h : Heap} {w : Nat → Addr} (P : Pins Z h w) : Fld Z h (w 1) "java/lang/Enum" "ordinal" "I" (.int (0 : Int32)) := P.2.2.2.2.2.2.2.1
theorem pin_8 {Z : State} {h : Heap} {w : Nat → Addr} (P : Pins Z h w) : Sta Z h "java/lang/Integer$IntegerCache" "high" "I" (.int (127 : Int32)) := P.2.2.2.2.2.2.2.2.1
theorem pin_9 {Z : State} {h : Heap} {w : Nat → Addr} (P : Pins Z h w) : (∃ cl : Cell, Arr Z h (w 0) cl (.object "java/lang/Integer") ∧ cl.slots.size = 256 ∧ ∀ j : Int32, ¬ (j < 0 ∨ 256 ≤ j.toNatClampNeg) → ∃ a, cl.slots[j.toNatClampNeg]? = some (.ref a) ∧ Exa Z h a "java/lang/Integer") := P.2.2.2.2.2.2.2.2.2.1
theorem pins_ext {Z : State} {h h' : Heap} {w : Nat → Addr} (E : Ext h h') (P : Pins Z h w) : Pins Z h' w :=
  ⟨(pin_0 P).ext E, (pin_1 P).ext E, (pin_2 P).ext E, (pin_3 P).ext E, (pin_4 P).ext E, (pin_5 P).ext E, (pin_6 P).ext E, (pin_7 P).ext E, (pin_8 P).ext E, (let ⟨c, A, r, q⟩ := pin_9 P; ⟨c, A.ext E, r, fun i hi => let ⟨a, q1, q2⟩ := q i hi; ⟨a, q1, q2.ext E⟩⟩), trivial⟩
theorem own_idx {p : Int32} (h1 : ¬ (p < (-128 : Int32))) (h2 : ¬ ((127 : Int32) < p)) : ¬ ((p + (128 : Int32)) < 0 ∨ 256 ≤ (p + (128 : Int32)).toNatClampNeg) := by
  rw [Int32.lt_iff_toInt_lt] at h1 h2
  have z1 : (-128 : Int32).toInt = -128 := by decide
  have z2 : (127 : Int32).toInt = 127 := by decide
  have z3 : (128 : Int32).toInt = 128 := by decide
  have z0 : (0 : Int32).toInt = 0 := by decide
  have e : (p + (128 : Int32)).toInt = p.toInt + 128 := by rw [Jvm.Kit.i32_add (by omega) (by omega), z3]
  simp only [Int32.lt_iff_toInt_lt, Int32.toNatClampNeg, e, z0]
  omega
theorem own_NSroot {Z : State} {a0 : Array Value} {O K : String} {n : Nat} (w : (Jvm.Cond.noSuperclass O).before a0 Z = true) (wi : (Jvm.Cond.instantiable K n).before a0 Z = true) (hn : O ≠ K) : NS Z O K := by
  obtain ⟨c, k, h1, h2, h3, -, -⟩ := Cond.noSuperclass_spec w
  obtain ⟨t, kt, g1, -⟩ := Cond.instantiable_spec wi
  have hne := ids_ne h1 g1 hn
  refine ⟨c, t, h1, g1, fun fuel => ?_⟩
  cases fuel with
  | zero => rfl
  | succ f => simp [Vm.isSubclassAux, hne, h2, h3]
theorem own_NSno {Z : State} {a0 : Array Value} {C S K : String} {n : Nat} (w : (Jvm.Cond.superclass C S).before a0 Z = true) (wi : (Jvm.Cond.instantiable K n).before a0 Z = true) (q : NS Z C K) (hn : C ≠ K) : ∃ c t, Z.vm.findClass C = some c ∧ Z.vm.findClass K = some t ∧ Z.vm.assignable c t = false := by
  obtain ⟨c, t, h0, g0, n3⟩ := q
  obtain ⟨p, k, kp, h1, h2, h3, h4, h5, -, h7⟩ := Cond.superclass_spec h0 w
  obtain ⟨t', kt, g1, g2, g3, g4, -⟩ := Cond.instantiable_spec wi
  cases g0.symm.trans g1
  have hne := ids_ne h0 g0 hn
  have g5 : kt.isInterface = false := by simp only [Bool.or_eq_false_iff] at g4; exact g4.1
  refine ⟨c, t, h0, g0, ?_⟩
  show Z.vm.assignableAux (255 + 1) c t = false
  simp [Vm.assignableAux, hne, h2, g2, h5, g3, g5, Vm.isSubclass, n3]
theorem d1_0 : decode prog_27_method_1_code 0 = .ok (.aload_n 0, 1) := by decide +kernel
theorem d1_1 : decode prog_27_method_1_code 1 = .ok (.invokespecial 3, 3) := by decide +kernel
theorem d1_4 : decode prog_27_method_1_code 4 = .ok (.aload_n 0, 1) := by decide +kernel
theorem d1_5 : decode prog_27_method_1_code 5 = .ok (.iload_n 1, 1) := by decide +kernel
theorem d1_6 : decode prog_27_method_1_code 6 = .ok (.putfield 9, 3) := by decide +kernel
theorem d1_9 : decode prog_27_method_1_code 9 = .ok (.aload_n 0, 1) := by decide +kernel
theorem d1_10 : decode prog_27_method_1_code 10 = .ok (.iload_n 2, 1) := by decide +kernel
theorem d1_11 : decode prog_27_method_1_code 11 = .ok (.putfield 15, 3) := by decide +kernel
theorem d1_14 : decode prog_27_method_1_code 14 = .ok (.aload_n 0, 1) := by decide +kernel
theorem d1_15 : decode prog_27_method_1_code 15 = .ok (.iload_n 3, 1) := by decide +kernel
theorem d1_16 : decode prog_27_method_1_code 16 = .ok (.putfield 18, 3) := by decide +kernel
theorem d1_19 : decode prog_27_method_1_code 19 = .ok (.aload_n 0, 1) := by decide +kernel
theorem d1_20 : decode prog_27_method_1_code 20 = .ok (.aload 4, 2) := by decide +kernel
theorem d1_22 : decode prog_27_method_1_code 22 = .ok (.putfield 21, 3) := by decide +kernel
theorem d1_25 : decode prog_27_method_1_code 25 = .ok (.return_, 1) := by decide +kernel
theorem pn_0 : plainName "com/example/pedina/pedina/rules/Position" = true := by first | (simp [plainName, overriddenIn]; done) | decide +kernel
set_option maxRecDepth 65536 in
set_option maxHeartbeats 40000000 in
theorem rm1_0 (l : Launch) (Z : State) (a0 : Array Value) (hw : ∀ d ∈ tables_1, d.before a0 Z = true) (ws : List Jvm.Cond) (w : Nat → Addr) (hB : Heap) (hP : Pins Z hB w) (h0 : Heap) (XB : Ext hB h0) (pa1 : Int32) (pa2 : Int32) (pa3 : Int32) (pa4 : Addr) (o0 : Addr) (E_o0 : Exa Z h0 o0 "com/example/pedina/pedina/rules/Position") (F_o0_white : Fld Z h0 o0 "com/example/pedina/pedina/rules/Position" "white" "I" (.int (0 : Int32))) (F_o0_black : Fld Z h0 o0 "com/example/pedina/pedina/rules/Position" "black" "I" (.int (0 : Int32))) (F_o0_kings : Fld Z h0 o0 "com/example/pedina/pedina/rules/Position" "kings" "I" (.int (0 : Int32))) (F_o0_sideToMove : Fld Z h0 o0 "com/example/pedina/pedina/rules/Position" "sideToMove" "Lcom/example/pedina/pedina/rules/Side;" .null) (g_o0 : hB.size ≤ o0) :
    MetFree l (⟨"com/example/pedina/pedina/rules/Position", "<init>", "(IIILcom/example/pedina/pedina/rules/Side;)V"⟩ : MethodName) (head1 (Jvm.Cond.code (⟨"com/example/pedina/pedina/rules/Position", "<init>", "(IIILcom/example/pedina/pedina/rules/Side;)V"⟩ : MethodName) prog_27_method_1_code 5 none :: ws) ({ frames := 1, cells := 0, slots := 0, locals := 12 } : Room)) (fun a U => a = #[(.ref o0), (.int pa1), (.int pa2), (.int pa3), (.ref pa4)] ∧ Z.Warmed39 U.vm ∧ U.heap = h0) (fun _ _ _ _ _ => True) (fun _ U o U' => ∃ v L, o = .returned v ∧ Qg (fun v h => v = none ∧ (Keep h0 h [o0] ∧ Exa Z h o0 "com/example/pedina/pedina/rules/Position" ∧ Fld Z h o0 "com/example/pedina/pedina/rules/Position" "white" "I" (.int pa1) ∧ Fld Z h o0 "com/example/pedina/pedina/rules/Position" "black" "I" (.int pa2) ∧ Fld Z h o0 "com/example/pedina/pedina/rules/Position" "kings" "I" (.int pa3) ∧ Fld Z h o0 "com/example/pedina/pedina/rules/Position" "sideToMove" "Lcom/example/pedina/pedina/rules/Side;" (.ref pa4) ∧ True)) hB.size v U'.heap L ∧ FrameEnd U o U' L ({ frames := 1, cells := 0, slots := 0, locals := 12 } : Room).cells ({ frames := 1, cells := 0, slots := 0, locals := 12 } : Room).slots) := by
  refine MetFree.of_bodySF (plainFor_of_name pn_0) hisR ?_
  intro p e s m args below meth c s₁ Bd hml0 hP0 hK
  obtain ⟨rfl, hZ, hh⟩ := hP0
  have hx := Bd.exec
  have hby := Bd.bytes
  have hml : c.maxLocals = 5 := hml0
  have hown : s.vm.findClass "com/example/pedina/pedina/rules/Position" = some m.cls := findClass_of_methodNamed Bd.named
  have hnm := (name_of_methodNamed Bd.named Bd.method).1
  have X0 : Stand p l e ({ frames := 1, cells := 0, slots := 0, locals := 12 } : Room) s m #[(.ref o0), (.int pa1), (.int pa2), (.int pa3), (.ref pa4)] below meth c s₁ [] 0 0 := Stand.of_body Bd
  have e0 : s₁.heap = h0 := by rw [← hh, Bd.state]; rfl
  have N0 := Fr.nil hB.size
  suffices hgo : Go p e below (fun o U' => ∃ v L, o = .returned v ∧ Qg (fun v h => v = none ∧ (Keep h0 h [o0] ∧ Exa Z h o0 "com/example/pedina/pedina/rules/Position" ∧ Fld Z h o0 "com/example/pedina/pedina/rules/Position" "white" "I" (.int pa1) ∧ Fld Z h o0 "com/example/pedina/pedina/rules/Position" "black" "I" (.int pa2) ∧ Fld Z h o0 "com/example/pedina/pedina/rules/Position" "kings" "I" (.int pa3) ∧ Fld Z h o0 "com/example/pedina/pedina/rules/Position" "sideToMove" "Lcom/example/pedina/pedina/rules/Side;" (.ref pa4) ∧ True)) hB.size v U'.heap L ∧ FrameEnd s o U' L ({ frames := 1, cells := 0, slots := 0, locals := 12 } : Room).cells ({ frames := 1, cells := 0, slots := 0, locals := 12 } : Room).slots) s₁ (mkF m 0 #[.val (.ref o0), .val (.int pa1), .val (.int pa2), .val (.int pa3), .val (.ref pa4)] []) by
    obtain ⟨s2, o, g1, g2, g3, g4⟩ := hgo
    refine ⟨s2, o, castTop (?_ : entryFrame m #[(.ref o0), (.int pa1), (.int pa2), (.int pa3), (.ref pa4)] 5 = _) g1, g2, g3, g4⟩
    first | (simp [entryFrame, mkF, argsToLocals, Value.category]; done) | rfl
  refine Go.on (T' := s₁) (g' := (mkF m 1 #[.val (.ref o0), .val (.int pa1), .val (.int pa2), .val (.int pa3), .val (.ref pa4)] [(.ref o0)])) (fun t k => XS.aloadN X0.here hx rfl (hb hby d1_0) rfl rfl k) ?_
  obtain ⟨T27, X27, e27, st27⟩ := initO X0 hx hZ hown (hw _ (List.mem_of_getElem? (i := 9) rfl)) (hw _ (List.mem_of_getElem? (i := 10) rfl)) (hw _ (List.mem_of_getElem? (i := 11) rfl)) e0 (g := (mkF m 1 #[.val (.ref o0), .val (.int pa1), .val (.int pa2), .val (.int pa3), .val (.ref pa4)] [(.ref o0)])) rfl (by rw [hml]; rfl) rfl (hb hby d1_1) (by decide) (W := 0) (by show 2 * 0 + _ ≤ _; exact Nat.le_of_eq rfl) (by decide)
  refine Go.on (T' := T27) (g' := (mkF m 4 #[.val (.ref o0), .val (.int pa1), .val (.int pa2), .val (.int pa3), .val (.ref pa4)] [])) st27 ?_
  refine Go.on (T' := T27) (g' := (mkF m 5 #[.val (.ref o0), .val (.int pa1), .val (.int pa2), .val (.int pa3), .val (.ref pa4)] [(.ref o0)])) (fun t k => XS.aloadN X27.here hx rfl (hb hby d1_4) rfl rfl k) ?_
  refine Go.on (T' := T27) (g' := (mkF m 6 #[.val (.ref o0), .val (.int pa1), .val (.int pa2), .val (.int pa3), .val (.ref pa4)] [(.int pa1), (.ref o0)])) (fun t k => XS.iloadN X27.here hx rfl (hb hby d1_5) rfl k) ?_
  obtain ⟨T28, h28, X28, e28, W28, st28⟩ := putF X27 hx hZ hown (host := "") (Or.inl (hw _ (List.mem_of_getElem? (i := 12) rfl))) Via.refl e27 F_o0_white E_o0 (Or.inr ⟨(hw _ (List.mem_of_getElem? (i := 13) rfl)), rfl, hnm⟩) (hw _ (List.mem_of_getElem? (i := 4) rfl)) (ty := .int) (by decide) rfl rfl (g := (mkF m 6 #[.val (.ref o0), .val (.int pa1), .val (.int pa2), .val (.int pa3), .val (.ref pa4)] [(.int pa1), (.ref o0)])) rfl rfl (hb hby d1_6)
  have N28 := Fr.snoc X28 N0 g_o0
  have XT28 : Ext hB h28 := own_extw XB W28 g_o0
  have KC28 : Keep h0 h28 [o0] := (Keep.refl h0 [o0]).wr W28 (Or.inl (List.mem_of_getElem? (i := 0) rfl))
  have Fw28 : Fld Z h28 o0 "com/example/pedina/pedina/rules/Position" "white" "I" (.int pa1) := F_o0_white.same W28
  refine Go.on (T' := T28) (g' := (mkF m 9 #[.val (.ref o0), .val (.int pa1), .val (.int pa2), .val (.int pa3), .val (.ref pa4)] [])) st28 ?_
  refine Go.on (T' := T28) (g' := (mkF m 10 #[.val (.ref o0), .val (.int pa1), .val (.int pa2), .val (.int pa3), .val (.ref pa4)] [(.ref o0)])) (fun t k => XS.aloadN X28.here hx rfl (hb hby d1_9) rfl rfl k) ?_
  refine Go.on (T' := T28) (g' := (mkF m 11 #[.val (.ref o0), .val (.int pa1), .val (.int pa2), .val (.int pa3), .val (.ref pa4)] [(.int pa2), (.ref o0)])) (fun t k => XS.iloadN X28.here hx rfl (hb hby d1_10) rfl k) ?_
  have f30 : Fld Z h28 o0 "com/example/pedina/pedina/rules/Position" "black" "I" (.int (0 : Int32)) := (F_o0_black.other W28 (Or.inr (slot_ne (Or.inr (hw _ (List.mem_of_getElem? (i := 15) rfl))) (Or.inr (hw _ (List.mem_of_getElem? (i := 13) rfl))) (by decide) (t := .int) (t' := .int) (by decide) (by decide))))
  have f31 : Exa Z h28 o0 "com/example/pedina/pedina/rules/Position" := (E_o0.wr W28)
  obtain ⟨T29, h29, X29, e29, W29, st29⟩ := putF X28 hx hZ hown (host := "") (Or.inl (hw _ (List.mem_of_getElem? (i := 14) rfl))) Via.refl e28 f30 f31 (Or.inr ⟨(hw _ (List.mem_of_getElem? (i := 15) rfl)), rfl, hnm⟩) (hw _ (List.mem_of_getElem? (i := 4) rfl)) (ty := .int) (by decide) rfl rfl (g := (mkF m 11 #[.val (.ref o0), .val (.int pa1), .val (.int pa2), .val (.int pa3), .val (.ref pa4)] [(.int pa2), (.ref o0)])) rfl rfl (hb hby d1_11)
  have N29 := Fr.snoc X29 N28 g_o0
  have XT29 : Ext hB h29 := own_extw XT28 W29 g_o0
  have KC29 : Keep h0 h29 [o0] := KC28.wr W29 (Or.inl (List.mem_of_getElem? (i := 0) rfl))
  have Fw29 : Fld Z h29 o0 "com/example/pedina/pedina/rules/Position" "black" "I" (.int pa2) := f30.same W29
  refine Go.on (T' := T29) (g' := (mkF m 14 #[.val (.ref o0), .val (.int pa1), .val (.int pa2), .val (.int pa3), .val (.ref pa4)] [])) st29 ?_
  refine Go.on (T' := T29) (g' := (mkF m 15 #[.val (.ref o0), .val (.int pa1), .val (.int pa2), .val (.int pa3), .val (.ref pa4)] [(.ref o0)])) (fun t k => XS.aloadN X29.here hx rfl (hb hby d1_14) rfl rfl k) ?_
  refine Go.on (T' := T29) (g' := (mkF m 16 #[.val (.ref o0), .val (.int pa1), .val (.int pa2), .val (.int pa3), .val (.ref pa4)] [(.int pa3), (.ref o0)])) (fun t k => XS.iloadN X29.here hx rfl (hb hby d1_15) rfl k) ?_
  have f33 : Fld Z h29 o0 "com/example/pedina/pedina/rules/Position" "kings" "I" (.int (0 : Int32)) := ((F_o0_kings.other W28 (Or.inr (slot_ne (Or.inr (hw _ (List.mem_of_getElem? (i := 17) rfl))) (Or.inr (hw _ (List.mem_of_getElem? (i := 13) rfl))) (by decide) (t := .int) (t' := .int) (by decide) (by decide)))).other W29 (Or.inr (slot_ne (Or.inr (hw _ (List.mem_of_getElem? (i := 17) rfl))) (Or.inr (hw _ (List.mem_of_getElem? (i := 15) rfl))) (by decide) (t := .int) (t' := .int) (by decide) (by decide))))
  have f34 : Exa Z h29 o0 "com/example/pedina/pedina/rules/Position" := (f31.wr W29)
  obtain ⟨T32, h32, X32, e32, W32, st32⟩ := putF X29 hx hZ hown (host := "") (Or.inl (hw _ (List.mem_of_getElem? (i := 16) rfl))) Via.refl e29 f33 f34 (Or.inr ⟨(hw _ (List.mem_of_getElem? (i := 17) rfl)), rfl, hnm⟩) (hw _ (List.mem_of_getElem? (i := 4) rfl)) (ty := .int) (by decide) rfl rfl (g := (mkF m 16 #[.val (.ref o0), .val (.int pa1), .val (.int pa2), .val (.int pa3), .val (.ref pa4)] [(.int pa3), (.ref o0)])) rfl rfl (hb hby d1_16)
  have N32 := Fr.snoc X32 N29 g_o0
  have XT32 : Ext hB h32 := own_extw XT29 W32 g_o0
  have KC32 : Keep h0 h32 [o0] := KC29.wr W32 (Or.inl (List.mem_of_getElem? (i := 0) rfl))
  have Fw32 : Fld Z h32 o0 "com/example/pedina/pedina/rules/Position" "kings" "I" (.int pa3) := f33.same W32
  refine Go.on (T' := T32) (g' := (mkF m 19 #[.val (.ref o0), .val (.int pa1), .val (.int pa2), .val (.int pa3), .val (.ref pa4)] [])) st32 ?_
  refine Go.on (T' := T32) (g' := (mkF m 20 #[.val (.ref o0), .val (.int pa1), .val (.int pa2), .val (.int pa3), .val (.ref pa4)] [(.ref o0)])) (fun t k => XS.aloadN X32.here hx rfl (hb hby d1_19) rfl rfl k) ?_
  refine Go.on (T' := T32) (g' := (mkF m 22 #[.val (.ref o0), .val (.int pa1), .val (.int pa2), .val (.int pa3), .val (.ref pa4)] [(.ref pa4), (.ref o0)])) (fun t k => XS.aload X32.here hx rfl (hb hby d1_20) rfl rfl k) ?_
  have f36 : Fld Z h32 o0 "com/example/pedina/pedina/rules/Position" "sideToMove" "Lcom/example/pedina/pedina/rules/Side;" .null := (((F_o0_sideToMove.other W28 (Or.inr (slot_ne (Or.inr (hw _ (List.mem_of_getElem? (i := 19) rfl))) (Or.inr (hw _ (List.mem_of_getElem? (i := 13) rfl))) (by decide) (t := (.object "com/example/pedina/pedina/rules/Side")) (t' := .int) (by decide) (by decide)))).other W29 (Or.inr (slot_ne (Or.inr (hw _ (List.mem_of_getElem? (i := 19) rfl))) (Or.inr (hw _ (List.mem_of_getElem? (i := 15) rfl))) (by decide) (t := (.object "com/example/pedina/pedina/rules/Side")) (t' := .int) (by decide) (by decide)))).other W32 (Or.inr (slot_ne (Or.inr (hw _ (List.mem_of_getElem? (i := 19) rfl))) (Or.inr (hw _ (List.mem_of_getElem? (i := 17) rfl))) (by decide) (t := (.object "com/example/pedina/pedina/rules/Side")) (t' := .int) (by decide) (by decide))))
  have f37 : Exa Z h32 o0 "com/example/pedina/pedina/rules/Position" := (f34.wr W32)
  obtain ⟨T35, h35, X35, e35, W35, st35⟩ := putF X32 hx hZ hown (host := "") (Or.inl (hw _ (List.mem_of_getElem? (i := 18) rfl))) Via.refl e32 f36 f37 (Or.inr ⟨(hw _ (List.mem_of_getElem? (i := 19) rfl)), rfl, hnm⟩) (hw _ (List.mem_of_getElem? (i := 4) rfl)) (ty := (.object "com/example/pedina/pedina/rules/Side")) (by decide) rfl rfl (g := (mkF m 22 #[.val (.ref o0), .val (.int pa1), .val (.int pa2), .val (.int pa3), .val (.ref pa4)] [(.ref pa4), (.ref o0)])) rfl rfl (hb hby d1_22)
  have N35 := Fr.snoc X35 N32 g_o0
  have XT35 : Ext hB h35 := own_extw XT32 W35 g_o0
  have KC35 : Keep h0 h35 [o0] := KC32.wr W35 (Or.inl (List.mem_of_getElem? (i := 0) rfl))
  have Fw35 : Fld Z h35 o0 "com/example/pedina/pedina/rules/Position" "sideToMove" "Lcom/example/pedina/pedina/rules/Side;" (.ref pa4) := f36.same W35
  refine Go.on (T' := T35) (g' := (mkF m 25 #[.val (.ref o0), .val (.int pa1), .val (.int pa2), .val (.int pa3), .val (.ref pa4)] [])) st35 ?_
  have f38 : Exa Z h35 o0 "com/example/pedina/pedina/rules/Position" := (f37.wr W35)
  have f39 : Fld Z h35 o0 "com/example/pedina/pedina/rules/Position" "white" "I" (.int pa1) := (((Fw28.other W29 (Or.inr (slot_ne (Or.inr (hw _ (List.mem_of_getElem? (i := 13) rfl))) (Or.inr (hw _ (List.mem_of_getElem? (i := 15) rfl))) (by decide) (t := .int) (t' := .int) (by decide) (by decide)))).other W32 (Or.inr (slot_ne (Or.inr (hw _ (List.mem_of_getElem? (i := 13) rfl))) (Or.inr (hw _ (List.mem_of_getElem? (i := 17) rfl))) (by decide) (t := .int) (t' := .int) (by decide) (by decide)))).other W35 (Or.inr (slot_ne (Or.inr (hw _ (List.mem_of_getElem? (i := 13) rfl))) (Or.inr (hw _ (List.mem_of_getElem? (i := 19) rfl))) (by decide) (t := .int) (t' := (.object "com/example/pedina/pedina/rules/Side")) (by decide) (by decide))))
  have f40 : Fld Z h35 o0 "com/example/pedina/pedina/rules/Position" "black" "I" (.int pa2) := ((Fw29.other W32 (Or.inr (slot_ne (Or.inr (hw _ (List.mem_of_getElem? (i := 15) rfl))) (Or.inr (hw _ (List.mem_of_getElem? (i := 17) rfl))) (by decide) (t := .int) (t' := .int) (by decide) (by decide)))).other W35 (Or.inr (slot_ne (Or.inr (hw _ (List.mem_of_getElem? (i := 15) rfl))) (Or.inr (hw _ (List.mem_of_getElem? (i := 19) rfl))) (by decide) (t := .int) (t' := (.object "com/example/pedina/pedina/rules/Side")) (by decide) (by decide))))
  have f41 : Fld Z h35 o0 "com/example/pedina/pedina/rules/Position" "kings" "I" (.int pa3) := (Fw32.other W35 (Or.inr (slot_ne (Or.inr (hw _ (List.mem_of_getElem? (i := 17) rfl))) (Or.inr (hw _ (List.mem_of_getElem? (i := 19) rfl))) (by decide) (t := .int) (t' := (.object "com/example/pedina/pedina/rules/Side")) (by decide) (by decide))))
  obtain ⟨fs, hr, hrun, hended, hW, hsame⟩ := X35.leave (v := none) (fun _ => rfl)
  exact ⟨_, _, X35.returnOut hx Bd.returns (hb hby d1_25) hr, hrun, hended, _, _, rfl, ⟨⟨rfl, own_at (P := fun h => Keep h0 h [o0] ∧ Exa Z h o0 "com/example/pedina/pedina/rules/Position" ∧ Fld Z h o0 "com/example/pedina/pedina/rules/Position" "white" "I" (.int pa1) ∧ Fld Z h o0 "com/example/pedina/pedina/rules/Position" "black" "I" (.int pa2) ∧ Fld Z h o0 "com/example/pedina/pedina/rules/Position" "kings" "I" (.int pa3) ∧ Fld Z h o0 "com/example/pedina/pedina/rules/Position" "sideToMove" "Lcom/example/pedina/pedina/rules/Side;" (.ref pa4) ∧ True) e35 ⟨KC35, f38, f39, f40, f41, Fw35, trivial⟩⟩, N35⟩, ⟨_, rfl⟩, hW, hsame.mono (by decide) (by decide)⟩
theorem pd_0 : parseMethodDescriptor "(IIILcom/example/pedina/pedina/rules/Side;)V" = some ⟨[.int, .int, .int, (.object "com/example/pedina/pedina/rules/Side")], none⟩ := by decide +kernel
theorem d3_0 : decode prog_27_method_9_code 0 = .ok (.aload_n 1, 1) := by decide +kernel
theorem d3_1 : decode prog_27_method_9_code 1 = .ok (.instanceof 10, 3) := by decide +kernel
theorem d3_4 : decode prog_27_method_9_code 4 = .ok (.ifCond .eq 56, 3) := by decide +kernel
theorem d3_7 : decode prog_27_method_9_code 7 = .ok (.aload_n 1, 1) := by decide +kernel
theorem d3_8 : decode prog_27_method_9_code 8 = .ok (.checkcast 10, 3) := by decide +kernel
theorem d3_11 : decode prog_27_method_9_code 11 = .ok (.astore_n 2, 1) := by decide +kernel
theorem d3_12 : decode prog_27_method_9_code 12 = .ok (.aload_n 0, 1) := by decide +kernel
theorem d3_13 : decode prog_27_method_9_code 13 = .ok (.getfield 9, 3) := by decide +kernel
theorem d3_16 : decode prog_27_method_9_code 16 = .ok (.aload_n 2, 1) := by decide +kernel
theorem d3_17 : decode prog_27_method_9_code 17 = .ok (.getfield 9, 3) := by decide +kernel
theorem d3_20 : decode prog_27_method_9_code 20 = .ok (.if_icmp .ne 40, 3) := by decide +kernel
theorem d3_23 : decode prog_27_method_9_code 23 = .ok (.aload_n 0, 1) := by decide +kernel
theorem d3_24 : decode prog_27_method_9_code 24 = .ok (.getfield 15, 3) := by decide +kernel
theorem d3_27 : decode prog_27_method_9_code 27 = .ok (.aload_n 2, 1) := by decide +kernel
theorem d3_28 : decode prog_27_method_9_code 28 = .ok (.getfield 15, 3) := by decide +kernel
theorem d3_31 : decode prog_27_method_9_code 31 = .ok (.if_icmp .ne 29, 3) := by decide +kernel
theorem d3_34 : decode prog_27_method_9_code 34 = .ok (.aload_n 0, 1) := by decide +kernel
theorem d3_35 : decode prog_27_method_9_code 35 = .ok (.getfield 18, 3) := by decide +kernel
theorem d3_38 : decode prog_27_method_9_code 38 = .ok (.aload_n 2, 1) := by decide +kernel
theorem d3_39 : decode prog_27_method_9_code 39 = .ok (.getfield 18, 3) := by decide +kernel
theorem d3_42 : decode prog_27_method_9_code 42 = .ok (.if_icmp .ne 18, 3) := by decide +kernel
theorem d3_45 : decode prog_27_method_9_code 45 = .ok (.aload_n 0, 1) := by decide +kernel
theorem d3_46 : decode prog_27_method_9_code 46 = .ok (.getfield 21, 3) := by decide +kernel
theorem d3_49 : decode prog_27_method_9_code 49 = .ok (.aload_n 2, 1) := by decide +kernel
theorem d3_50 : decode prog_27_method_9_code 50 = .ok (.getfield 21, 3) := by decide +kernel
theorem d3_53 : decode prog_27_method_9_code 53 = .ok (.if_acmp .ne 7, 3) := by decide +kernel
theorem d3_56 : decode prog_27_method_9_code 56 = .ok (.iconst 1, 1) := by decide +kernel
theorem d3_57 : decode prog_27_method_9_code 57 = .ok (.goto 4, 3) := by decide +kernel
theorem d3_61 : decode prog_27_method_9_code 61 = .ok (.ireturn, 1) := by decide +kernel
set_option maxRecDepth 65536 in
set_option maxHeartbeats 40000000 in
theorem rm3_0 (l : Launch) (Z : State) (a0 : Array Value) (hw : ∀ d ∈ tables_1, d.before a0 Z = true) (ws : List Jvm.Cond) (w : Nat → Addr) (hB : Heap) (hP : Pins Z hB w) (h0 : Heap) (XB : Ext hB h0) (o0 : Addr) (fo0_white : Int32) (fo0_black : Int32) (fo0_kings : Int32) (fo0_sideToMove : Addr) (o1 : Addr) (fo1_white : Int32) (fo1_black : Int32) (fo1_kings : Int32) (fo1_sideToMove : Addr) (E_o0 : Exa Z h0 o0 "com/example/pedina/pedina/rules/Position") (F_o0_white : Fld Z h0 o0 "com/example/pedina/pedina/rules/Position" "white" "I" (.int fo0_white)) (F_o0_black : Fld Z h0 o0 "com/example/pedina/pedina/rules/Position" "black" "I" (.int fo0_black)) (F_o0_kings : Fld Z h0 o0 "com/example/pedina/pedina/rules/Position" "kings" "I" (.int fo0_kings)) (F_o0_sideToMove : Fld Z h0 o0 "com/example/pedina/pedina/rules/Position" "sideToMove" "Lcom/example/pedina/pedina/rules/Side;" (.ref fo0_sideToMove)) (g_o0 : hB.size ≤ o0) (E_o1 : Exa Z h0 o1 "com/example/pedina/pedina/rules/Position") (F_o1_white : Fld Z h0 o1 "com/example/pedina/pedina/rules/Position" "white" "I" (.int fo1_white)) (F_o1_black : Fld Z h0 o1 "com/example/pedina/pedina/rules/Position" "black" "I" (.int fo1_black)) (F_o1_kings : Fld Z h0 o1 "com/example/pedina/pedina/rules/Position" "kings" "I" (.int fo1_kings)) (F_o1_sideToMove : Fld Z h0 o1 "com/example/pedina/pedina/rules/Position" "sideToMove" "Lcom/example/pedina/pedina/rules/Side;" (.ref fo1_sideToMove)) (g_o1 : hB.size ≤ o1) (ne_o0_o1 : o0 ≠ o1) (hp0 : fo0_white = fo1_white) (hp1 : fo0_black = fo1_black) (hp2 : fo0_kings = fo1_kings) (hp3 : fo0_sideToMove = fo1_sideToMove) :
    MetFree l (⟨"com/example/pedina/pedina/rules/Position", "equals", "(Ljava/lang/Object;)Z"⟩ : MethodName) (head1 (Jvm.Cond.code (⟨"com/example/pedina/pedina/rules/Position", "equals", "(Ljava/lang/Object;)Z"⟩ : MethodName) prog_27_method_9_code 3 (some .boolean) :: ws) ({ frames := 0, cells := 0, slots := 0, locals := 0 } : Room)) (fun a U => a = #[(.ref o0), (.ref o1)] ∧ Z.Warmed39 U.vm ∧ U.heap = h0) (fun _ _ _ _ _ => True) (fun _ U o U' => ∃ v L, o = .returned v ∧ Qg (fun v h => v = (some (.int (1 : Int32))) ∧ h = h0) hB.size v U'.heap L ∧ FrameEnd U o U' L ({ frames := 0, cells := 0, slots := 0, locals := 0 } : Room).cells ({ frames := 0, cells := 0, slots := 0, locals := 0 } : Room).slots) := by
  refine MetFree.of_bodySF (plainFor_of_name pn_0) hisR ?_
  intro p e s m args below meth c s₁ Bd hml0 hP0 hK
  obtain ⟨rfl, hZ, hh⟩ := hP0
  have hx := Bd.exec
  have hby := Bd.bytes
  have hml : c.maxLocals = 3 := hml0
  have hown : s.vm.findClass "com/example/pedina/pedina/rules/Position" = some m.cls := findClass_of_methodNamed Bd.named
  have hnm := (name_of_methodNamed Bd.named Bd.method).1
  have X0 : Stand p l e ({ frames := 0, cells := 0, slots := 0, locals := 0 } : Room) s m #[(.ref o0), (.ref o1)] below meth c s₁ [] 0 0 := Stand.of_body Bd
  have e0 : s₁.heap = h0 := by rw [← hh, Bd.state]; rfl
  have N0 := Fr.nil hB.size
  suffices hgo : Go p e below (fun o U' => ∃ v L, o = .returned v ∧ Qg (fun v h => v = (some (.int (1 : Int32))) ∧ h = h0) hB.size v U'.heap L ∧ FrameEnd s o U' L ({ frames := 0, cells := 0, slots := 0, locals := 0 } : Room).cells ({ frames := 0, cells := 0, slots := 0, locals := 0 } : Room).slots) s₁ (mkF m 0 #[.val (.ref o0), .val (.ref o1), .unset] []) by
    obtain ⟨s2, o, g1, g2, g3, g4⟩ := hgo
    refine ⟨s2, o, castTop (?_ : entryFrame m #[(.ref o0), (.ref o1)] 3 = _) g1, g2, g3, g4⟩
    first | (simp [entryFrame, mkF, argsToLocals, Value.category]; done) | rfl
  refine Go.on (T' := s₁) (g' := (mkF m 1 #[.val (.ref o0), .val (.ref o1), .unset] [(.ref o1)])) (fun t k => XS.aloadN X0.here hx rfl (hb hby d3_0) rfl rfl k) ?_
  obtain ⟨T65, X65, e65, st65⟩ := instY X0 hx hZ hown (hw _ (List.mem_of_getElem? (i := 25) rfl)) e0 (Ins.self E_o1) (g := (mkF m 1 #[.val (.ref o0), .val (.ref o1), .unset] [(.ref o1)])) rfl rfl (hb hby d3_1)
  refine Go.on (T' := T65) (g' := (mkF m 4 #[.val (.ref o0), .val (.ref o1), .unset] [(.int (1 : Int32))])) st65 ?_
  refine Go.on (T' := T65) (g' := (mkF m 7 #[.val (.ref o0), .val (.ref o1), .unset] [])) (fun t k => XS.ifNo X65.here hx rfl (hb hby d3_4) rfl ((if0 _ _).trans (feq (by decide : ¬ ((1 : Int32) = (0 : Int32)))).1) k) ?_
  refine Go.on (T' := T65) (g' := (mkF m 8 #[.val (.ref o0), .val (.ref o1), .unset] [(.ref o1)])) (fun t k => XS.aloadN X65.here hx rfl (hb hby d3_7) rfl rfl k) ?_
  obtain ⟨T66, X66, e66, st66⟩ := castY X65 hx hZ hown (hw _ (List.mem_of_getElem? (i := 25) rfl)) e65 (Ins.self E_o1) (g := (mkF m 8 #[.val (.ref o0), .val (.ref o1), .unset] [(.ref o1)])) rfl rfl (hb hby d3_8)
  refine Go.on (T' := T66) (g' := (mkF m 11 #[.val (.ref o0), .val (.ref o1), .unset] [(.ref o1)])) st66 ?_
  refine Go.on (T' := T66) (g' := (mkF m 12 #[.val (.ref o0), .val (.ref o1), .val (.ref o1)] [])) (fun t k => XS.astoreN X66.here hx rfl (hb hby d3_11) rfl rfl (l' := #[.val (.ref o0), .val (.ref o1), .val (.ref o1)]) rfl k) ?_
  refine Go.on (T' := T66) (g' := (mkF m 13 #[.val (.ref o0), .val (.ref o1), .val (.ref o1)] [(.ref o0)])) (fun t k => XS.aloadN X66.here hx rfl (hb hby d3_12) rfl rfl k) ?_
  obtain ⟨T67, X67, e67, st67⟩ := getF X66 hx hZ hown (host := "") (Or.inl (hw _ (List.mem_of_getElem? (i := 12) rfl))) Via.refl e66 F_o0_white (g := (mkF m 13 #[.val (.ref o0), .val (.ref o1), .val (.ref o1)] [(.ref o0)])) rfl rfl (hb hby d3_13)
  refine Go.on (T' := T67) (g' := (mkF m 16 #[.val (.ref o0), .val (.ref o1), .val (.ref o1)] [(.int fo0_white)])) st67 ?_
  refine Go.on (T' := T67) (g' := (mkF m 17 #[.val (.ref o0), .val (.ref o1), .val (.ref o1)] [(.ref o1), (.int fo0_white)])) (fun t k => XS.aloadN X67.here hx rfl (hb hby d3_16) rfl rfl k) ?_
  obtain ⟨T68, X68, e68, st68⟩ := getF X67 hx hZ hown (host := "") (Or.inl (hw _ (List.mem_of_getElem? (i := 12) rfl))) Via.refl e67 F_o1_white (g := (mkF m 17 #[.val (.ref o0), .val (.ref o1), .val (.ref o1)] [(.ref o1), (.int fo0_white)])) rfl rfl (hb hby d3_17)
  refine Go.on (T' := T68) (g' := (mkF m 20 #[.val (.ref o0), .val (.ref o1), .val (.ref o1)] [(.int fo1_white), (.int fo0_white)])) st68 ?_
  refine Go.on (T' := T68) (g' := (mkF m 23 #[.val (.ref o0), .val (.ref o1), .val (.ref o1)] [])) (fun t k => XS.icmpNo X68.here hx rfl (hb hby d3_20) rfl (teq hp0).2 k) ?_
  refine Go.on (T' := T68) (g' := (mkF m 24 #[.val (.ref o0), .val (.ref o1), .val (.ref o1)] [(.ref o0)])) (fun t k => XS.aloadN X68.here hx rfl (hb hby d3_23) rfl rfl k) ?_
  obtain ⟨T69, X69, e69, st69⟩ := getF X68 hx hZ hown (host := "") (Or.inl (hw _ (List.mem_of_getElem? (i := 14) rfl))) Via.refl e68 F_o0_black (g := (mkF m 24 #[.val (.ref o0), .val (.ref o1), .val (.ref o1)] [(.ref o0)])) rfl rfl (hb hby d3_24)
  refine Go.on (T' := T69) (g' := (mkF m 27 #[.val (.ref o0), .val (.ref o1), .val (.ref o1)] [(.int fo0_black)])) st69 ?_
  refine Go.on (T' := T69) (g' := (mkF m 28 #[.val (.ref o0), .val (.ref o1), .val (.ref o1)] [(.ref o1), (.int fo0_black)])) (fun t k => XS.aloadN X69.here hx rfl (hb hby d3_27) rfl rfl k) ?_
  obtain ⟨T70, X70, e70, st70⟩ := getF X69 hx hZ hown (host := "") (Or.inl (hw _ (List.mem_of_getElem? (i := 14) rfl))) Via.refl e69 F_o1_black (g := (mkF m 28 #[.val (.ref o0), .val (.ref o1), .val (.ref o1)] [(.ref o1), (.int fo0_black)])) rfl rfl (hb hby d3_28)
  refine Go.on (T' := T70) (g' := (mkF m 31 #[.val (.ref o0), .val (.ref o1), .val (.ref o1)] [(.int fo1_black), (.int fo0_black)])) st70 ?_
  refine Go.on (T' := T70) (g' := (mkF m 34 #[.val (.ref o0), .val (.ref o1), .val (.ref o1)] [])) (fun t k => XS.icmpNo X70.here hx rfl (hb hby d3_31) rfl (teq hp1).2 k) ?_
  refine Go.on (T' := T70) (g' := (mkF m 35 #[.val (.ref o0), .val (.ref o1), .val (.ref o1)] [(.ref o0)])) (fun t k => XS.aloadN X70.here hx rfl (hb hby d3_34) rfl rfl k) ?_
  obtain ⟨T71, X71, e71, st71⟩ := getF X70 hx hZ hown (host := "") (Or.inl (hw _ (List.mem_of_getElem? (i := 16) rfl))) Via.refl e70 F_o0_kings (g := (mkF m 35 #[.val (.ref o0), .val (.ref o1), .val (.ref o1)] [(.ref o0)])) rfl rfl (hb hby d3_35)
  refine Go.on (T' := T71) (g' := (mkF m 38 #[.val (.ref o0), .val (.ref o1), .val (.ref o1)] [(.int fo0_kings)])) st71 ?_
  refine Go.on (T' := T71) (g' := (mkF m 39 #[.val (.ref o0), .val (.ref o1), .val (.ref o1)] [(.ref o1), (.int fo0_kings)])) (fun t k => XS.aloadN X71.here hx rfl (hb hby d3_38) rfl rfl k) ?_
  obtain ⟨T72, X72, e72, st72⟩ := getF X71 hx hZ hown (host := "") (Or.inl (hw _ (List.mem_of_getElem? (i := 16) rfl))) Via.refl e71 F_o1_kings (g := (mkF m 39 #[.val (.ref o0), .val (.ref o1), .val (.ref o1)] [(.ref o1), (.int fo0_kings)])) rfl rfl (hb hby d3_39)
  refine Go.on (T' := T72) (g' := (mkF m 42 #[.val (.ref o0), .val (.ref o1), .val (.ref o1)] [(.int fo1_kings), (.int fo0_kings)])) st72 ?_
  refine Go.on (T' := T72) (g' := (mkF m 45 #[.val (.ref o0), .val (.ref o1), .val (.ref o1)] [])) (fun t k => XS.icmpNo X72.here hx rfl (hb hby d3_42) rfl (teq hp2).2 k) ?_
  refine Go.on (T' := T72) (g' := (mkF m 46 #[.val (.ref o0), .val (.ref o1), .val (.ref o1)] [(.ref o0)])) (fun t k => XS.aloadN X72.here hx rfl (hb hby d3_45) rfl rfl k) ?_
  obtain ⟨T73, X73, e73, st73⟩ := getF X72 hx hZ hown (host := "") (Or.inl (hw _ (List.mem_of_getElem? (i := 18) rfl))) Via.refl e72 F_o0_sideToMove (g := (mkF m 46 #[.val (.ref o0), .val (.ref o1), .val (.ref o1)] [(.ref o0)])) rfl rfl (hb hby d3_46)
  refine Go.on (T' := T73) (g' := (mkF m 49 #[.val (.ref o0), .val (.ref o1), .val (.ref o1)] [(.ref fo0_sideToMove)])) st73 ?_
  refine Go.on (T' := T73) (g' := (mkF m 50 #[.val (.ref o0), .val (.ref o1), .val (.ref o1)] [(.ref o1), (.ref fo0_sideToMove)])) (fun t k => XS.aloadN X73.here hx rfl (hb hby d3_49) rfl rfl k) ?_
  obtain ⟨T74, X74, e74, st74⟩ := getF X73 hx hZ hown (host := "") (Or.inl (hw _ (List.mem_of_getElem? (i := 18) rfl))) Via.refl e73 F_o1_sideToMove (g := (mkF m 50 #[.val (.ref o0), .val (.ref o1), .val (.ref o1)] [(.ref o1), (.ref fo0_sideToMove)])) rfl rfl (hb hby d3_50)
  refine Go.on (T' := T74) (g' := (mkF m 53 #[.val (.ref o0), .val (.ref o1), .val (.ref o1)] [(.ref fo1_sideToMove), (.ref fo0_sideToMove)])) st74 ?_
  refine Go.on (T' := T74) (g' := (mkF m 56 #[.val (.ref o0), .val (.ref o1), .val (.ref o1)] [])) (fun t k => Jvm.RoadKit.acmp (g := (mkF m 53 #[.val (.ref o0), .val (.ref o1), .val (.ref o1)] [(.ref fo1_sideToMove), (.ref fo0_sideToMove)])) X74 hx rfl rfl rfl (pc0 := 53) (pc' := 56) (same := true) rfl (hb hby d3_53) rfl (decide_eq_true (congrArg Value.ref hp3)) (by decide) (by decide) k) ?_
  refine Go.on (T' := T74) (g' := (mkF m 57 #[.val (.ref o0), .val (.ref o1), .val (.ref o1)] [(.int (1 : Int32))])) (fun t k => XS.iconst X74.here hx rfl (hb hby d3_56) k) ?_
  refine Go.on (T' := T74) (g' := (mkF m 61 #[.val (.ref o0), .val (.ref o1), .val (.ref o1)] [(.int (1 : Int32))])) (fun t k => XS.goto X74.here hx rfl (pc0 := 57) (pc' := 61) rfl (hb hby d3_57) (by decide) (by decide) k) ?_
  obtain ⟨fs, hr, hrun, hended, hW, hsame⟩ := X74.leave (v := some (.int (1 : Int32))) (fun h => by rw [Bd.returns] at h; cases h)
  exact ⟨_, _, retN X74 hx (t := .boolean) Bd.returns (by simp) (hb hby d3_61) hr, hrun, hended, _, _, rfl, ⟨⟨rfl, e74⟩, N0⟩, ⟨_, rfl⟩, hW, hsame.mono (by decide) (by decide)⟩
theorem pd_1 : parseMethodDescriptor "(Ljava/lang/Object;)Z" = some ⟨[(.object "java/lang/Object")], some .boolean⟩ := by decide +kernel
theorem d3_60 : decode prog_27_method_9_code 60 = .ok (.iconst 0, 1) := by decide +kernel
set_option maxRecDepth 65536 in
set_option maxHeartbeats 40000000 in
theorem rm3_1 (l : Launch) (Z : State) (a0 : Array Value) (hw : ∀ d ∈ tables_1, d.before a0 Z = true) (ws : List Jvm.Cond) (w : Nat → Addr) (hB : Heap) (hP : Pins Z hB w) (h0 : Heap) (XB : Ext hB h0) (o0 : Addr) (fo0_white : Int32) (fo0_black : Int32) (fo0_kings : Int32) (fo0_sideToMove : Addr) (o1 : Addr) (fo1_white : Int32) (fo1_black : Int32) (fo1_kings : Int32) (fo1_sideToMove : Addr) (E_o0 : Exa Z h0 o0 "com/example/pedina/pedina/rules/Position") (F_o0_white : Fld Z h0 o0 "com/example/pedina/pedina/rules/Position" "white" "I" (.int fo0_white)) (F_o0_black : Fld Z h0 o0 "com/example/pedina/pedina/rules/Position" "black" "I" (.int fo0_black)) (F_o0_kings : Fld Z h0 o0 "com/example/pedina/pedina/rules/Position" "kings" "I" (.int fo0_kings)) (F_o0_sideToMove : Fld Z h0 o0 "com/example/pedina/pedina/rules/Position" "sideToMove" "Lcom/example/pedina/pedina/rules/Side;" (.ref fo0_sideToMove)) (g_o0 : hB.size ≤ o0) (E_o1 : Exa Z h0 o1 "com/example/pedina/pedina/rules/Position") (F_o1_white : Fld Z h0 o1 "com/example/pedina/pedina/rules/Position" "white" "I" (.int fo1_white)) (F_o1_black : Fld Z h0 o1 "com/example/pedina/pedina/rules/Position" "black" "I" (.int fo1_black)) (F_o1_kings : Fld Z h0 o1 "com/example/pedina/pedina/rules/Position" "kings" "I" (.int fo1_kings)) (F_o1_sideToMove : Fld Z h0 o1 "com/example/pedina/pedina/rules/Position" "sideToMove" "Lcom/example/pedina/pedina/rules/Side;" (.ref fo1_sideToMove)) (g_o1 : hB.size ≤ o1) (ne_o0_o1 : o0 ≠ o1) (hp0 : fo0_white = fo1_white) (hp1 : fo0_black = fo1_black) (hp2 : fo0_kings = fo1_kings) (hp3 : ¬ (fo0_sideToMove = fo1_sideToMove)) :
    MetFree l (⟨"com/example/pedina/pedina/rules/Position", "equals", "(Ljava/lang/Object;)Z"⟩ : MethodName) (head1 (Jvm.Cond.code (⟨"com/example/pedina/pedina/rules/Position", "equals", "(Ljava/lang/Object;)Z"⟩ : MethodName) prog_27_method_9_code 3 (some .boolean) :: ws) ({ frames := 0, cells := 0, slots := 0, locals := 0 } : Room)) (fun a U => a = #[(.ref o0), (.ref o1)] ∧ Z.Warmed39 U.vm ∧ U.heap = h0) (fun _ _ _ _ _ => True) (fun _ U o U' => ∃ v L, o = .returned v ∧ Qg (fun v h => v = (some (.int (0 : Int32))) ∧ h = h0) hB.size v U'.heap L ∧ FrameEnd U o U' L ({ frames := 0, cells := 0, slots := 0, locals := 0 } : Room).cells ({ frames := 0, cells := 0, slots := 0, locals := 0 } : Room).slots) := by
  refine MetFree.of_bodySF (plainFor_of_name pn_0) hisR ?_
  intro p e s m args below meth c s₁ Bd hml0 hP0 hK
  obtain ⟨rfl, hZ, hh⟩ := hP0
  have hx := Bd.exec
  have hby := Bd.bytes
  have hml : c.maxLocals = 3 := hml0
  have hown : s.vm.findClass "com/example/pedina/pedina/rules/Position" = some m.cls := findClass_of_methodNamed Bd.named
  have hnm := (name_of_methodNamed Bd.named Bd.method).1
  have X0 : Stand p l e ({ frames := 0, cells := 0, slots := 0, locals := 0 } : Room) s m #[(.ref o0), (.ref o1)] below meth c s₁ [] 0 0 := Stand.of_body Bd
  have e0 : s₁.heap = h0 := by rw [← hh, Bd.state]; rfl
  have N0 := Fr.nil hB.size
  suffices hgo : Go p e below (fun o U' => ∃ v L, o = .returned v ∧ Qg (fun v h => v = (some (.int (0 : Int32))) ∧ h = h0) hB.size v U'.heap L ∧ FrameEnd s o U' L ({ frames := 0, cells := 0, slots := 0, locals := 0 } : Room).cells ({ frames := 0, cells := 0, slots := 0, locals := 0 } : Room).slots) s₁ (mkF m 0 #[.val (.ref o0), .val (.ref o1), .unset] []) by
    obtain ⟨s2, o, g1, g2, g3, g4⟩ := hgo
    refine ⟨s2, o, castTop (?_ : entryFrame m #[(.ref o0), (.ref o1)] 3 = _) g1, g2, g3, g4⟩
    first | (simp [entryFrame, mkF, argsToLocals, Value.category]; done) | rfl
  refine Go.on (T' := s₁) (g' := (mkF m 1 #[.val (.ref o0), .val (.ref o1), .unset] [(.ref o1)])) (fun t k => XS.aloadN X0.here hx rfl (hb hby d3_0) rfl rfl k) ?_
  obtain ⟨T82, X82, e82, st82⟩ := instY X0 hx hZ hown (hw _ (List.mem_of_getElem? (i := 25) rfl)) e0 (Ins.self E_o1) (g := (mkF m 1 #[.val (.ref o0), .val (.ref o1), .unset] [(.ref o1)])) rfl rfl (hb hby d3_1)
  refine Go.on (T' := T82) (g' := (mkF m 4 #[.val (.ref o0), .val (.ref o1), .unset] [(.int (1 : Int32))])) st82 ?_
  refine Go.on (T' := T82) (g' := (mkF m 7 #[.val (.ref o0), .val (.ref o1), .unset] [])) (fun t k => XS.ifNo X82.here hx rfl (hb hby d3_4) rfl ((if0 _ _).trans (feq (by decide : ¬ ((1 : Int32) = (0 : Int32)))).1) k) ?_
  refine Go.on (T' := T82) (g' := (mkF m 8 #[.val (.ref o0), .val (.ref o1), .unset] [(.ref o1)])) (fun t k => XS.aloadN X82.here hx rfl (hb hby d3_7) rfl rfl k) ?_
  obtain ⟨T83, X83, e83, st83⟩ := castY X82 hx hZ hown (hw _ (List.mem_of_getElem? (i := 25) rfl)) e82 (Ins.self E_o1) (g := (mkF m 8 #[.val (.ref o0), .val (.ref o1), .unset] [(.ref o1)])) rfl rfl (hb hby d3_8)
  refine Go.on (T' := T83) (g' := (mkF m 11 #[.val (.ref o0), .val (.ref o1), .unset] [(.ref o1)])) st83 ?_
  refine Go.on (T' := T83) (g' := (mkF m 12 #[.val (.ref o0), .val (.ref o1), .val (.ref o1)] [])) (fun t k => XS.astoreN X83.here hx rfl (hb hby d3_11) rfl rfl (l' := #[.val (.ref o0), .val (.ref o1), .val (.ref o1)]) rfl k) ?_
  refine Go.on (T' := T83) (g' := (mkF m 13 #[.val (.ref o0), .val (.ref o1), .val (.ref o1)] [(.ref o0)])) (fun t k => XS.aloadN X83.here hx rfl (hb hby d3_12) rfl rfl k) ?_
  obtain ⟨T84, X84, e84, st84⟩ := getF X83 hx hZ hown (host := "") (Or.inl (hw _ (List.mem_of_getElem? (i := 12) rfl))) Via.refl e83 F_o0_white (g := (mkF m 13 #[.val (.ref o0), .val (.ref o1), .val (.ref o1)] [(.ref o0)])) rfl rfl (hb hby d3_13)
  refine Go.on (T' := T84) (g' := (mkF m 16 #[.val (.ref o0), .val (.ref o1), .val (.ref o1)] [(.int fo0_white)])) st84 ?_
  refine Go.on (T' := T84) (g' := (mkF m 17 #[.val (.ref o0), .val (.ref o1), .val (.ref o1)] [(.ref o1), (.int fo0_white)])) (fun t k => XS.aloadN X84.here hx rfl (hb hby d3_16) rfl rfl k) ?_
  obtain ⟨T85, X85, e85, st85⟩ := getF X84 hx hZ hown (host := "") (Or.inl (hw _ (List.mem_of_getElem? (i := 12) rfl))) Via.refl e84 F_o1_white (g := (mkF m 17 #[.val (.ref o0), .val (.ref o1), .val (.ref o1)] [(.ref o1), (.int fo0_white)])) rfl rfl (hb hby d3_17)
  refine Go.on (T' := T85) (g' := (mkF m 20 #[.val (.ref o0), .val (.ref o1), .val (.ref o1)] [(.int fo1_white), (.int fo0_white)])) st85 ?_
  refine Go.on (T' := T85) (g' := (mkF m 23 #[.val (.ref o0), .val (.ref o1), .val (.ref o1)] [])) (fun t k => XS.icmpNo X85.here hx rfl (hb hby d3_20) rfl (teq hp0).2 k) ?_
  refine Go.on (T' := T85) (g' := (mkF m 24 #[.val (.ref o0), .val (.ref o1), .val (.ref o1)] [(.ref o0)])) (fun t k => XS.aloadN X85.here hx rfl (hb hby d3_23) rfl rfl k) ?_
  obtain ⟨T86, X86, e86, st86⟩ := getF X85 hx hZ hown (host := "") (Or.inl (hw _ (List.mem_of_getElem? (i := 14) rfl))) Via.refl e85 F_o0_black (g := (mkF m 24 #[.val (.ref o0), .val (.ref o1), .val (.ref o1)] [(.ref o0)])) rfl rfl (hb hby d3_24)
  refine Go.on (T' := T86) (g' := (mkF m 27 #[.val (.ref o0), .val (.ref o1), .val (.ref o1)] [(.int fo0_black)])) st86 ?_
  refine Go.on (T' := T86) (g' := (mkF m 28 #[.val (.ref o0), .val (.ref o1), .val (.ref o1)] [(.ref o1), (.int fo0_black)])) (fun t k => XS.aloadN X86.here hx rfl (hb hby d3_27) rfl rfl k) ?_
  obtain ⟨T87, X87, e87, st87⟩ := getF X86 hx hZ hown (host := "") (Or.inl (hw _ (List.mem_of_getElem? (i := 14) rfl))) Via.refl e86 F_o1_black (g := (mkF m 28 #[.val (.ref o0), .val (.ref o1), .val (.ref o1)] [(.ref o1), (.int fo0_black)])) rfl rfl (hb hby d3_28)
  refine Go.on (T' := T87) (g' := (mkF m 31 #[.val (.ref o0), .val (.ref o1), .val (.ref o1)] [(.int fo1_black), (.int fo0_black)])) st87 ?_
  refine Go.on (T' := T87) (g' := (mkF m 34 #[.val (.ref o0), .val (.ref o1), .val (.ref o1)] [])) (fun t k => XS.icmpNo X87.here hx rfl (hb hby d3_31) rfl (teq hp1).2 k) ?_
  refine Go.on (T' := T87) (g' := (mkF m 35 #[.val (.ref o0), .val (.ref o1), .val (.ref o1)] [(.ref o0)])) (fun t k => XS.aloadN X87.here hx rfl (hb hby d3_34) rfl rfl k) ?_
  obtain ⟨T88, X88, e88, st88⟩ := getF X87 hx hZ hown (host := "") (Or.inl (hw _ (List.mem_of_getElem? (i := 16) rfl))) Via.refl e87 F_o0_kings (g := (mkF m 35 #[.val (.ref o0), .val (.ref o1), .val (.ref o1)] [(.ref o0)])) rfl rfl (hb hby d3_35)
  refine Go.on (T' := T88) (g' := (mkF m 38 #[.val (.ref o0), .val (.ref o1), .val (.ref o1)] [(.int fo0_kings)])) st88 ?_
  refine Go.on (T' := T88) (g' := (mkF m 39 #[.val (.ref o0), .val (.ref o1), .val (.ref o1)] [(.ref o1), (.int fo0_kings)])) (fun t k => XS.aloadN X88.here hx rfl (hb hby d3_38) rfl rfl k) ?_
  obtain ⟨T89, X89, e89, st89⟩ := getF X88 hx hZ hown (host := "") (Or.inl (hw _ (List.mem_of_getElem? (i := 16) rfl))) Via.refl e88 F_o1_kings (g := (mkF m 39 #[.val (.ref o0), .val (.ref o1), .val (.ref o1)] [(.ref o1), (.int fo0_kings)])) rfl rfl (hb hby d3_39)
  refine Go.on (T' := T89) (g' := (mkF m 42 #[.val (.ref o0), .val (.ref o1), .val (.ref o1)] [(.int fo1_kings), (.int fo0_kings)])) st89 ?_
  refine Go.on (T' := T89) (g' := (mkF m 45 #[.val (.ref o0), .val (.ref o1), .val (.ref o1)] [])) (fun t k => XS.icmpNo X89.here hx rfl (hb hby d3_42) rfl (teq hp2).2 k) ?_
  refine Go.on (T' := T89) (g' := (mkF m 46 #[.val (.ref o0), .val (.ref o1), .val (.ref o1)] [(.ref o0)])) (fun t k => XS.aloadN X89.here hx rfl (hb hby d3_45) rfl rfl k) ?_
  obtain ⟨T90, X90, e90, st90⟩ := getF X89 hx hZ hown (host := "") (Or.inl (hw _ (List.mem_of_getElem? (i := 18) rfl))) Via.refl e89 F_o0_sideToMove (g := (mkF m 46 #[.val (.ref o0), .val (.ref o1), .val (.ref o1)] [(.ref o0)])) rfl rfl (hb hby d3_46)
  refine Go.on (T' := T90) (g' := (mkF m 49 #[.val (.ref o0), .val (.ref o1), .val (.ref o1)] [(.ref fo0_sideToMove)])) st90 ?_
  refine Go.on (T' := T90) (g' := (mkF m 50 #[.val (.ref o0), .val (.ref o1), .val (.ref o1)] [(.ref o1), (.ref fo0_sideToMove)])) (fun t k => XS.aloadN X90.here hx rfl (hb hby d3_49) rfl rfl k) ?_
  obtain ⟨T91, X91, e91, st91⟩ := getF X90 hx hZ hown (host := "") (Or.inl (hw _ (List.mem_of_getElem? (i := 18) rfl))) Via.refl e90 F_o1_sideToMove (g := (mkF m 50 #[.val (.ref o0), .val (.ref o1), .val (.ref o1)] [(.ref o1), (.ref fo0_sideToMove)])) rfl rfl (hb hby d3_50)
  refine Go.on (T' := T91) (g' := (mkF m 53 #[.val (.ref o0), .val (.ref o1), .val (.ref o1)] [(.ref fo1_sideToMove), (.ref fo0_sideToMove)])) st91 ?_
  refine Go.on (T' := T91) (g' := (mkF m 60 #[.val (.ref o0), .val (.ref o1), .val (.ref o1)] [])) (fun t k => Jvm.RoadKit.acmp (g := (mkF m 53 #[.val (.ref o0), .val (.ref o1), .val (.ref o1)] [(.ref fo1_sideToMove), (.ref fo0_sideToMove)])) X91 hx rfl rfl rfl (pc0 := 53) (pc' := 60) (same := false) rfl (hb hby d3_53) rfl (decide_eq_false fun q => hp3 (Value.ref.inj q)) (by decide) (by decide) k) ?_
  refine Go.on (T' := T91) (g' := (mkF m 61 #[.val (.ref o0), .val (.ref o1), .val (.ref o1)] [(.int (0 : Int32))])) (fun t k => XS.iconst X91.here hx rfl (hb hby d3_60) k) ?_
  obtain ⟨fs, hr, hrun, hended, hW, hsame⟩ := X91.leave (v := some (.int (0 : Int32))) (fun h => by rw [Bd.returns] at h; cases h)
  exact ⟨_, _, retN X91 hx (t := .boolean) Bd.returns (by simp) (hb hby d3_61) hr, hrun, hended, _, _, rfl, ⟨⟨rfl, e91⟩, N0⟩, ⟨_, rfl⟩, hW, hsame.mono (by decide) (by decide)⟩
set_option maxRecDepth 65536 in
set_option maxHeartbeats 40000000 in
theorem rm3_2 (l : Launch) (Z : State) (a0 : Array Value) (hw : ∀ d ∈ tables_1, d.before a0 Z = true) (ws : List Jvm.Cond) (w : Nat → Addr) (hB : Heap) (hP : Pins Z hB w) (h0 : Heap) (XB : Ext hB h0) (o0 : Addr) (fo0_white : Int32) (fo0_black : Int32) (fo0_kings : Int32) (fo0_sideToMove : Addr) (o1 : Addr) (fo1_white : Int32) (fo1_black : Int32) (fo1_kings : Int32) (fo1_sideToMove : Addr) (E_o0 : Exa Z h0 o0 "com/example/pedina/pedina/rules/Position") (F_o0_white : Fld Z h0 o0 "com/example/pedina/pedina/rules/Position" "white" "I" (.int fo0_white)) (F_o0_black : Fld Z h0 o0 "com/example/pedina/pedina/rules/Position" "black" "I" (.int fo0_black)) (F_o0_kings : Fld Z h0 o0 "com/example/pedina/pedina/rules/Position" "kings" "I" (.int fo0_kings)) (F_o0_sideToMove : Fld Z h0 o0 "com/example/pedina/pedina/rules/Position" "sideToMove" "Lcom/example/pedina/pedina/rules/Side;" (.ref fo0_sideToMove)) (g_o0 : hB.size ≤ o0) (E_o1 : Exa Z h0 o1 "com/example/pedina/pedina/rules/Position") (F_o1_white : Fld Z h0 o1 "com/example/pedina/pedina/rules/Position" "white" "I" (.int fo1_white)) (F_o1_black : Fld Z h0 o1 "com/example/pedina/pedina/rules/Position" "black" "I" (.int fo1_black)) (F_o1_kings : Fld Z h0 o1 "com/example/pedina/pedina/rules/Position" "kings" "I" (.int fo1_kings)) (F_o1_sideToMove : Fld Z h0 o1 "com/example/pedina/pedina/rules/Position" "sideToMove" "Lcom/example/pedina/pedina/rules/Side;" (.ref fo1_sideToMove)) (g_o1 : hB.size ≤ o1) (ne_o0_o1 : o0 ≠ o1) (hp0 : fo0_white = fo1_white) (hp1 : fo0_black = fo1_black) (hp2 : ¬ (fo0_kings = fo1_kings)) :
    MetFree l (⟨"com/example/pedina/pedina/rules/Position", "equals", "(Ljava/lang/Object;)Z"⟩ : MethodName) (head1 (Jvm.Cond.code (⟨"com/example/pedina/pedina/rules/Position", "equals", "(Ljava/lang/Object;)Z"⟩ : MethodName) prog_27_method_9_code 3 (some .boolean) :: ws) ({ frames := 0, cells := 0, slots := 0, locals := 0 } : Room)) (fun a U => a = #[(.ref o0), (.ref o1)] ∧ Z.Warmed39 U.vm ∧ U.heap = h0) (fun _ _ _ _ _ => True) (fun _ U o U' => ∃ v L, o = .returned v ∧ Qg (fun v h => v = (some (.int (0 : Int32))) ∧ h = h0) hB.size v U'.heap L ∧ FrameEnd U o U' L ({ frames := 0, cells := 0, slots := 0, locals := 0 } : Room).cells ({ frames := 0, cells := 0, slots := 0, locals := 0 } : Room).slots) := by
  refine MetFree.of_bodySF (plainFor_of_name pn_0) hisR ?_
  intro p e s m args below meth c s₁ Bd hml0 hP0 hK
  obtain ⟨rfl, hZ, hh⟩ := hP0
  have hx := Bd.exec
  have hby := Bd.bytes
  have hml : c.maxLocals = 3 := hml0
  have hown : s.vm.findClass "com/example/pedina/pedina/rules/Position" = some m.cls := findClass_of_methodNamed Bd.named
  have hnm := (name_of_methodNamed Bd.named Bd.method).1
  have X0 : Stand p l e ({ frames := 0, cells := 0, slots := 0, locals := 0 } : Room) s m #[(.ref o0), (.ref o1)] below meth c s₁ [] 0 0 := Stand.of_body Bd
  have e0 : s₁.heap = h0 := by rw [← hh, Bd.state]; rfl
  have N0 := Fr.nil hB.size
  suffices hgo : Go p e below (fun o U' => ∃ v L, o = .returned v ∧ Qg (fun v h => v = (some (.int (0 : Int32))) ∧ h = h0) hB.size v U'.heap L ∧ FrameEnd s o U' L ({ frames := 0, cells := 0, slots := 0, locals := 0 } : Room).cells ({ frames := 0, cells := 0, slots := 0, locals := 0 } : Room).slots) s₁ (mkF m 0 #[.val (.ref o0), .val (.ref o1), .unset] []) by
    obtain ⟨s2, o, g1, g2, g3, g4⟩ := hgo
    refine ⟨s2, o, castTop (?_ : entryFrame m #[(.ref o0), (.ref o1)] 3 = _) g1, g2, g3, g4⟩
    first | (simp [entryFrame, mkF, argsToLocals, Value.category]; done) | rfl
  refine Go.on (T' := s₁) (g' := (mkF m 1 #[.val (.ref o0), .val (.ref o1), .unset] [(.ref o1)])) (fun t k => XS.aloadN X0.here hx rfl (hb hby d3_0) rfl rfl k) ?_
  obtain ⟨T99, X99, e99, st99⟩ := instY X0 hx hZ hown (hw _ (List.mem_of_getElem? (i := 25) rfl)) e0 (Ins.self E_o1) (g := (mkF m 1 #[.val (.ref o0), .val (.ref o1), .unset] [(.ref o1)])) rfl rfl (hb hby d3_1)
  refine Go.on (T' := T99) (g' := (mkF m 4 #[.val (.ref o0), .val (.ref o1), .unset] [(.int (1 : Int32))])) st99 ?_
  refine Go.on (T' := T99) (g' := (mkF m 7 #[.val (.ref o0), .val (.ref o1), .unset] [])) (fun t k => XS.ifNo X99.here hx rfl (hb hby d3_4) rfl ((if0 _ _).trans (feq (by decide : ¬ ((1 : Int32) = (0 : Int32)))).1) k) ?_
  refine Go.on (T' := T99) (g' := (mkF m 8 #[.val (.ref o0), .val (.ref o1), .unset] [(.ref o1)])) (fun t k => XS.aloadN X99.here hx rfl (hb hby d3_7) rfl rfl k) ?_
  obtain ⟨T100, X100, e100, st100⟩ := castY X99 hx hZ hown (hw _ (List.mem_of_getElem? (i := 25) rfl)) e99 (Ins.self E_o1) (g := (mkF m 8 #[.val (.ref o0), .val (.ref o1), .unset] [(.ref o1)])) rfl rfl (hb hby d3_8)
  refine Go.on (T' := T100) (g' := (mkF m 11 #[.val (.ref o0), .val (.ref o1), .unset] [(.ref o1)])) st100 ?_
  refine Go.on (T' := T100) (g' := (mkF m 12 #[.val (.ref o0), .val (.ref o1), .val (.ref o1)] [])) (fun t k => XS.astoreN X100.here hx rfl (hb hby d3_11) rfl rfl (l' := #[.val (.ref o0), .val (.ref o1), .val (.ref o1)]) rfl k) ?_
  refine Go.on (T' := T100) (g' := (mkF m 13 #[.val (.ref o0), .val (.ref o1), .val (.ref o1)] [(.ref o0)])) (fun t k => XS.aloadN X100.here hx rfl (hb hby d3_12) rfl rfl k) ?_
  obtain ⟨T101, X101, e101, st101⟩ := getF X100 hx hZ hown (host := "") (Or.inl (hw _ (List.mem_of_getElem? (i := 12) rfl))) Via.refl e100 F_o0_white (g := (mkF m 13 #[.val (.ref o0), .val (.ref o1), .val (.ref o1)] [(.ref o0)])) rfl rfl (hb hby d3_13)
  refine Go.on (T' := T101) (g' := (mkF m 16 #[.val (.ref o0), .val (.ref o1), .val (.ref o1)] [(.int fo0_white)])) st101 ?_
  refine Go.on (T' := T101) (g' := (mkF m 17 #[.val (.ref o0), .val (.ref o1), .val (.ref o1)] [(.ref o1), (.int fo0_white)])) (fun t k => XS.aloadN X101.here hx rfl (hb hby d3_16) rfl rfl k) ?_
  obtain ⟨T102, X102, e102, st102⟩ := getF X101 hx hZ hown (host := "") (Or.inl (hw _ (List.mem_of_getElem? (i := 12) rfl))) Via.refl e101 F_o1_white (g := (mkF m 17 #[.val (.ref o0), .val (.ref o1), .val (.ref o1)] [(.ref o1), (.int fo0_white)])) rfl rfl (hb hby d3_17)
  refine Go.on (T' := T102) (g' := (mkF m 20 #[.val (.ref o0), .val (.ref o1), .val (.ref o1)] [(.int fo1_white), (.int fo0_white)])) st102 ?_
  refine Go.on (T' := T102) (g' := (mkF m 23 #[.val (.ref o0), .val (.ref o1), .val (.ref o1)] [])) (fun t k => XS.icmpNo X102.here hx rfl (hb hby d3_20) rfl (teq hp0).2 k) ?_
  refine Go.on (T' := T102) (g' := (mkF m 24 #[.val (.ref o0), .val (.ref o1), .val (.ref o1)] [(.ref o0)])) (fun t k => XS.aloadN X102.here hx rfl (hb hby d3_23) rfl rfl k) ?_
  obtain ⟨T103, X103, e103, st103⟩ := getF X102 hx hZ hown (host := "") (Or.inl (hw _ (List.mem_of_getElem? (i := 14) rfl))) Via.refl e102 F_o0_black (g := (mkF m 24 #[.val (.ref o0), .val (.ref o1), .val (.ref o1)] [(.ref o0)])) rfl rfl (hb hby d3_24)
  refine Go.on (T' := T103) (g' := (mkF m 27 #[.val (.ref o0), .val (.ref o1), .val (.ref o1)] [(.int fo0_black)])) st103 ?_
  refine Go.on (T' := T103) (g' := (mkF m 28 #[.val (.ref o0), .val (.ref o1), .val (.ref o1)] [(.ref o1), (.int fo0_black)])) (fun t k => XS.aloadN X103.here hx rfl (hb hby d3_27) rfl rfl k) ?_
  obtain ⟨T104, X104, e104, st104⟩ := getF X103 hx hZ hown (host := "") (Or.inl (hw _ (List.mem_of_getElem? (i := 14) rfl))) Via.refl e103 F_o1_black (g := (mkF m 28 #[.val (.ref o0), .val (.ref o1), .val (.ref o1)] [(.ref o1), (.int fo0_black)])) rfl rfl (hb hby d3_28)
  refine Go.on (T' := T104) (g' := (mkF m 31 #[.val (.ref o0), .val (.ref o1), .val (.ref o1)] [(.int fo1_black), (.int fo0_black)])) st104 ?_
  refine Go.on (T' := T104) (g' := (mkF m 34 #[.val (.ref o0), .val (.ref o1), .val (.ref o1)] [])) (fun t k => XS.icmpNo X104.here hx rfl (hb hby d3_31) rfl (teq hp1).2 k) ?_
  refine Go.on (T' := T104) (g' := (mkF m 35 #[.val (.ref o0), .val (.ref o1), .val (.ref o1)] [(.ref o0)])) (fun t k => XS.aloadN X104.here hx rfl (hb hby d3_34) rfl rfl k) ?_
  obtain ⟨T105, X105, e105, st105⟩ := getF X104 hx hZ hown (host := "") (Or.inl (hw _ (List.mem_of_getElem? (i := 16) rfl))) Via.refl e104 F_o0_kings (g := (mkF m 35 #[.val (.ref o0), .val (.ref o1), .val (.ref o1)] [(.ref o0)])) rfl rfl (hb hby d3_35)
  refine Go.on (T' := T105) (g' := (mkF m 38 #[.val (.ref o0), .val (.ref o1), .val (.ref o1)] [(.int fo0_kings)])) st105 ?_
  refine Go.on (T' := T105) (g' := (mkF m 39 #[.val (.ref o0), .val (.ref o1), .val (.ref o1)] [(.ref o1), (.int fo0_kings)])) (fun t k => XS.aloadN X105.here hx rfl (hb hby d3_38) rfl rfl k) ?_
  obtain ⟨T106, X106, e106, st106⟩ := getF X105 hx hZ hown (host := "") (Or.inl (hw _ (List.mem_of_getElem? (i := 16) rfl))) Via.refl e105 F_o1_kings (g := (mkF m 39 #[.val (.ref o0), .val (.ref o1), .val (.ref o1)] [(.ref o1), (.int fo0_kings)])) rfl rfl (hb hby d3_39)
  refine Go.on (T' := T106) (g' := (mkF m 42 #[.val (.ref o0), .val (.ref o1), .val (.ref o1)] [(.int fo1_kings), (.int fo0_kings)])) st106 ?_
  refine Go.on (T' := T106) (g' := (mkF m 60 #[.val (.ref o0), .val (.ref o1), .val (.ref o1)] [])) (fun t k => XS.icmpYes X106.here hx rfl (pc0 := 42) (pc' := 60) rfl (hb hby d3_42) rfl (feq hp2).2 (by decide) (by decide) k) ?_
  refine Go.on (T' := T106) (g' := (mkF m 61 #[.val (.ref o0), .val (.ref o1), .val (.ref o1)] [(.int (0 : Int32))])) (fun t k => XS.iconst X106.here hx rfl (hb hby d3_60) k) ?_
  obtain ⟨fs, hr, hrun, hended, hW, hsame⟩ := X106.leave (v := some (.int (0 : Int32))) (fun h => by rw [Bd.returns] at h; cases h)
  exact ⟨_, _, retN X106 hx (t := .boolean) Bd.returns (by simp) (hb hby d3_61) hr, hrun, hended, _, _, rfl, ⟨⟨rfl, e106⟩, N0⟩, ⟨_, rfl⟩, hW, hsame.mono (by decide) (by decide)⟩
set_option maxRecDepth 65536 in
set_option maxHeartbeats 40000000 in
theorem rm3_3 (l : Launch) (Z : State) (a0 : Array Value) (hw : ∀ d ∈ tables_1, d.before a0 Z = true) (ws : List Jvm.Cond) (w : Nat → Addr) (hB : Heap) (hP : Pins Z hB w) (h0 : Heap) (XB : Ext hB h0) (o0 : Addr) (fo0_white : Int32) (fo0_black : Int32) (fo0_kings : Int32) (fo0_sideToMove : Addr) (o1 : Addr) (fo1_white : Int32) (fo1_black : Int32) (fo1_kings : Int32) (fo1_sideToMove : Addr) (E_o0 : Exa Z h0 o0 "com/example/pedina/pedina/rules/Position") (F_o0_white : Fld Z h0 o0 "com/example/pedina/pedina/rules/Position" "white" "I" (.int fo0_white)) (F_o0_black : Fld Z h0 o0 "com/example/pedina/pedina/rules/Position" "black" "I" (.int fo0_black)) (F_o0_kings : Fld Z h0 o0 "com/example/pedina/pedina/rules/Position" "kings" "I" (.int fo0_kings)) (F_o0_sideToMove : Fld Z h0 o0 "com/example/pedina/pedina/rules/Position" "sideToMove" "Lcom/example/pedina/pedina/rules/Side;" (.ref fo0_sideToMove)) (g_o0 : hB.size ≤ o0) (E_o1 : Exa Z h0 o1 "com/example/pedina/pedina/rules/Position") (F_o1_white : Fld Z h0 o1 "com/example/pedina/pedina/rules/Position" "white" "I" (.int fo1_white)) (F_o1_black : Fld Z h0 o1 "com/example/pedina/pedina/rules/Position" "black" "I" (.int fo1_black)) (F_o1_kings : Fld Z h0 o1 "com/example/pedina/pedina/rules/Position" "kings" "I" (.int fo1_kings)) (F_o1_sideToMove : Fld Z h0 o1 "com/example/pedina/pedina/rules/Position" "sideToMove" "Lcom/example/pedina/pedina/rules/Side;" (.ref fo1_sideToMove)) (g_o1 : hB.size ≤ o1) (ne_o0_o1 : o0 ≠ o1) (hp0 : fo0_white = fo1_white) (hp1 : ¬ (fo0_black = fo1_black)) :
    MetFree l (⟨"com/example/pedina/pedina/rules/Position", "equals", "(Ljava/lang/Object;)Z"⟩ : MethodName) (head1 (Jvm.Cond.code (⟨"com/example/pedina/pedina/rules/Position", "equals", "(Ljava/lang/Object;)Z"⟩ : MethodName) prog_27_method_9_code 3 (some .boolean) :: ws) ({ frames := 0, cells := 0, slots := 0, locals := 0 } : Room)) (fun a U => a = #[(.ref o0), (.ref o1)] ∧ Z.Warmed39 U.vm ∧ U.heap = h0) (fun _ _ _ _ _ => True) (fun _ U o U' => ∃ v L, o = .returned v ∧ Qg (fun v h => v = (some (.int (0 : Int32))) ∧ h = h0) hB.size v U'.heap L ∧ FrameEnd U o U' L ({ frames := 0, cells := 0, slots := 0, locals := 0 } : Room).cells ({ frames := 0, cells := 0, slots := 0, locals := 0 } : Room).slots) := by
  refine MetFree.of_bodySF (plainFor_of_name pn_0) hisR ?_
  intro p e s m args below meth c s₁ Bd hml0 hP0 hK
  obtain ⟨rfl, hZ, hh⟩ := hP0
  have hx := Bd.exec
  have hby := Bd.bytes
  have hml : c.maxLocals = 3 := hml0
  have hown : s.vm.findClass "com/example/pedina/pedina/rules/Position" = some m.cls := findClass_of_methodNamed Bd.named
  have hnm := (name_of_methodNamed Bd.named Bd.method).1
  have X0 : Stand p l e ({ frames := 0, cells := 0, slots := 0, locals := 0 } : Room) s m #[(.ref o0), (.ref o1)] below meth c s₁ [] 0 0 := Stand.of_body Bd
  have e0 : s₁.heap = h0 := by rw [← hh, Bd.state]; rfl
  have N0 := Fr.nil hB.size
  suffices hgo : Go p e below (fun o U' => ∃ v L, o = .returned v ∧ Qg (fun v h => v = (some (.int (0 : Int32))) ∧ h = h0) hB.size v U'.heap L ∧ FrameEnd s o U' L ({ frames := 0, cells := 0, slots := 0, locals := 0 } : Room).cells ({ frames := 0, cells := 0, slots := 0, locals := 0 } : Room).slots) s₁ (mkF m 0 #[.val (.ref o0), .val (.ref o1), .unset] []) by
    obtain ⟨s2, o, g1, g2, g3, g4⟩ := hgo
    refine ⟨s2, o, castTop (?_ : entryFrame m #[(.ref o0), (.ref o1)] 3 = _) g1, g2, g3, g4⟩
    first | (simp [entryFrame, mkF, argsToLocals, Value.category]; done) | rfl
  refine Go.on (T' := s₁) (g' := (mkF m 1 #[.val (.ref o0), .val (.ref o1), .unset] [(.ref o1)])) (fun t k => XS.aloadN X0.here hx rfl (hb hby d3_0) rfl rfl k) ?_
  obtain ⟨T114, X114, e114, st114⟩ := instY X0 hx hZ hown (hw _ (List.mem_of_getElem? (i := 25) rfl)) e0 (Ins.self E_o1) (g := (mkF m 1 #[.val (.ref o0), .val (.ref o1), .unset] [(.ref o1)])) rfl rfl (hb hby d3_1)
  refine Go.on (T' := T114) (g' := (mkF m 4 #[.val (.ref o0), .val (.ref o1), .unset] [(.int (1 : Int32))])) st114 ?_
  refine Go.on (T' := T114) (g' := (mkF m 7 #[.val (.ref o0), .val (.ref o1), .unset] [])) (fun t k => XS.ifNo X114.here hx rfl (hb hby d3_4) rfl ((if0 _ _).trans (feq (by decide : ¬ ((1 : Int32) = (0 : Int32)))).1) k) ?_
  refine Go.on (T' := T114) (g' := (mkF m 8 #[.val (.ref o0), .val (.ref o1), .unset] [(.ref o1)])) (fun t k => XS.aloadN X114.here hx rfl (hb hby d3_7) rfl rfl k) ?_
  obtain ⟨T115, X115, e115, st115⟩ := castY X114 hx hZ hown (hw _ (List.mem_of_getElem? (i := 25) rfl)) e114 (Ins.self E_o1) (g := (mkF m 8 #[.val (.ref o0), .val (.ref o1), .unset] [(.ref o1)])) rfl rfl (hb hby d3_8)
  refine Go.on (T' := T115) (g' := (mkF m 11 #[.val (.ref o0), .val (.ref o1), .unset] [(.ref o1)])) st115 ?_
  refine Go.on (T' := T115) (g' := (mkF m 12 #[.val (.ref o0), .val (.ref o1), .val (.ref o1)] [])) (fun t k => XS.astoreN X115.here hx rfl (hb hby d3_11) rfl rfl (l' := #[.val (.ref o0), .val (.ref o1), .val (.ref o1)]) rfl k) ?_
  refine Go.on (T' := T115) (g' := (mkF m 13 #[.val (.ref o0), .val (.ref o1), .val (.ref o1)] [(.ref o0)])) (fun t k => XS.aloadN X115.here hx rfl (hb hby d3_12) rfl rfl k) ?_
  obtain ⟨T116, X116, e116, st116⟩ := getF X115 hx hZ hown (host := "") (Or.inl (hw _ (List.mem_of_getElem? (i := 12) rfl))) Via.refl e115 F_o0_white (g := (mkF m 13 #[.val (.ref o0), .val (.ref o1), .val (.ref o1)] [(.ref o0)])) rfl rfl (hb hby d3_13)
  refine Go.on (T' := T116) (g' := (mkF m 16 #[.val (.ref o0), .val (.ref o1), .val (.ref o1)] [(.int fo0_white)])) st116 ?_
  refine Go.on (T' := T116) (g' := (mkF m 17 #[.val (.ref o0), .val (.ref o1), .val (.ref o1)] [(.ref o1), (.int fo0_white)])) (fun t k => XS.aloadN X116.here hx rfl (hb hby d3_16) rfl rfl k) ?_
  obtain ⟨T117, X117, e117, st117⟩ := getF X116 hx hZ hown (host := "") (Or.inl (hw _ (List.mem_of_getElem? (i := 12) rfl))) Via.refl e116 F_o1_white (g := (mkF m 17 #[.val (.ref o0), .val (.ref o1), .val (.ref o1)] [(.ref o1), (.int fo0_white)])) rfl rfl (hb hby d3_17)
  refine Go.on (T' := T117) (g' := (mkF m 20 #[.val (.ref o0), .val (.ref o1), .val (.ref o1)] [(.int fo1_white), (.int fo0_white)])) st117 ?_
  refine Go.on (T' := T117) (g' := (mkF m 23 #[.val (.ref o0), .val (.ref o1), .val (.ref o1)] [])) (fun t k => XS.icmpNo X117.here hx rfl (hb hby d3_20) rfl (teq hp0).2 k) ?_
  refine Go.on (T' := T117) (g' := (mkF m 24 #[.val (.ref o0), .val (.ref o1), .val (.ref o1)] [(.ref o0)])) (fun t k => XS.aloadN X117.here hx rfl (hb hby d3_23) rfl rfl k) ?_
  obtain ⟨T118, X118, e118, st118⟩ := getF X117 hx hZ hown (host := "") (Or.inl (hw _ (List.mem_of_getElem? (i := 14) rfl))) Via.refl e117 F_o0_black (g := (mkF m 24 #[.val (.ref o0), .val (.ref o1), .val (.ref o1)] [(.ref o0)])) rfl rfl (hb hby d3_24)
  refine Go.on (T' := T118) (g' := (mkF m 27 #[.val (.ref o0), .val (.ref o1), .val (.ref o1)] [(.int fo0_black)])) st118 ?_
  refine Go.on (T' := T118) (g' := (mkF m 28 #[.val (.ref o0), .val (.ref o1), .val (.ref o1)] [(.ref o1), (.int fo0_black)])) (fun t k => XS.aloadN X118.here hx rfl (hb hby d3_27) rfl rfl k) ?_
  obtain ⟨T119, X119, e119, st119⟩ := getF X118 hx hZ hown (host := "") (Or.inl (hw _ (List.mem_of_getElem? (i := 14) rfl))) Via.refl e118 F_o1_black (g := (mkF m 28 #[.val (.ref o0), .val (.ref o1), .val (.ref o1)] [(.ref o1), (.int fo0_black)])) rfl rfl (hb hby d3_28)
  refine Go.on (T' := T119) (g' := (mkF m 31 #[.val (.ref o0), .val (.ref o1), .val (.ref o1)] [(.int fo1_black), (.int fo0_black)])) st119 ?_
  refine Go.on (T' := T119) (g' := (mkF m 60 #[.val (.ref o0), .val (.ref o1), .val (.ref o1)] [])) (fun t k => XS.icmpYes X119.here hx rfl (pc0 := 31) (pc' := 60) rfl (hb hby d3_31) rfl (feq hp1).2 (by decide) (by decide) k) ?_
  refine Go.on (T' := T119) (g' := (mkF m 61 #[.val (.ref o0), .val (.ref o1), .val (.ref o1)] [(.int (0 : Int32))])) (fun t k => XS.iconst X119.here hx rfl (hb hby d3_60) k) ?_
  obtain ⟨fs, hr, hrun, hended, hW, hsame⟩ := X119.leave (v := some (.int (0 : Int32))) (fun h => by rw [Bd.returns] at h; cases h)
  exact ⟨_, _, retN X119 hx (t := .boolean) Bd.returns (by simp) (hb hby d3_61) hr, hrun, hended, _, _, rfl, ⟨⟨rfl, e119⟩, N0⟩, ⟨_, rfl⟩, hW, hsame.mono (by decide) (by decide)⟩
set_option maxRecDepth 65536 in
set_option maxHeartbeats 40000000 in
theorem rm3_4 (l : Launch) (Z : State) (a0 : Array Value) (hw : ∀ d ∈ tables_1, d.before a0 Z = true) (ws : List Jvm.Cond) (w : Nat → Addr) (hB : Heap) (hP : Pins Z hB w) (h0 : Heap) (XB : Ext hB h0) (o0 : Addr) (fo0_white : Int32) (fo0_black : Int32) (fo0_kings : Int32) (fo0_sideToMove : Addr) (o1 : Addr) (fo1_white : Int32) (fo1_black : Int32) (fo1_kings : Int32) (fo1_sideToMove : Addr) (E_o0 : Exa Z h0 o0 "com/example/pedina/pedina/rules/Position") (F_o0_white : Fld Z h0 o0 "com/example/pedina/pedina/rules/Position" "white" "I" (.int fo0_white)) (F_o0_black : Fld Z h0 o0 "com/example/pedina/pedina/rules/Position" "black" "I" (.int fo0_black)) (F_o0_kings : Fld Z h0 o0 "com/example/pedina/pedina/rules/Position" "kings" "I" (.int fo0_kings)) (F_o0_sideToMove : Fld Z h0 o0 "com/example/pedina/pedina/rules/Position" "sideToMove" "Lcom/example/pedina/pedina/rules/Side;" (.ref fo0_sideToMove)) (g_o0 : hB.size ≤ o0) (E_o1 : Exa Z h0 o1 "com/example/pedina/pedina/rules/Position") (F_o1_white : Fld Z h0 o1 "com/example/pedina/pedina/rules/Position" "white" "I" (.int fo1_white)) (F_o1_black : Fld Z h0 o1 "com/example/pedina/pedina/rules/Position" "black" "I" (.int fo1_black)) (F_o1_kings : Fld Z h0 o1 "com/example/pedina/pedina/rules/Position" "kings" "I" (.int fo1_kings)) (F_o1_sideToMove : Fld Z h0 o1 "com/example/pedina/pedina/rules/Position" "sideToMove" "Lcom/example/pedina/pedina/rules/Side;" (.ref fo1_sideToMove)) (g_o1 : hB.size ≤ o1) (ne_o0_o1 : o0 ≠ o1) (hp0 : ¬ (fo0_white = fo1_white)) :
    MetFree l (⟨"com/example/pedina/pedina/rules/Position", "equals", "(Ljava/lang/Object;)Z"⟩ : MethodName) (head1 (Jvm.Cond.code (⟨"com/example/pedina/pedina/rules/Position", "equals", "(Ljava/lang/Object;)Z"⟩ : MethodName) prog_27_method_9_code 3 (some .boolean) :: ws) ({ frames := 0, cells := 0, slots := 0, locals := 0 } : Room)) (fun a U => a = #[(.ref o0), (.ref o1)] ∧ Z.Warmed39 U.vm ∧ U.heap = h0) (fun _ _ _ _ _ => True) (fun _ U o U' => ∃ v L, o = .returned v ∧ Qg (fun v h => v = (some (.int (0 : Int32))) ∧ h = h0) hB.size v U'.heap L ∧ FrameEnd U o U' L ({ frames := 0, cells := 0, slots := 0, locals := 0 } : Room).cells ({ frames := 0, cells := 0, slots := 0, locals := 0 } : Room).slots) := by
  refine MetFree.of_bodySF (plainFor_of_name pn_0) hisR ?_
  intro p e s m args below meth c s₁ Bd hml0 hP0 hK
  obtain ⟨rfl, hZ, hh⟩ := hP0
  have hx := Bd.exec
  have hby := Bd.bytes
  have hml : c.maxLocals = 3 := hml0
  have hown : s.vm.findClass "com/example/pedina/pedina/rules/Position" = some m.cls := findClass_of_methodNamed Bd.named
  have hnm := (name_of_methodNamed Bd.named Bd.method).1
  have X0 : Stand p l e ({ frames := 0, cells := 0, slots := 0, locals := 0 } : Room) s m #[(.ref o0), (.ref o1)] below meth c s₁ [] 0 0 := Stand.of_body Bd
  have e0 : s₁.heap = h0 := by rw [← hh, Bd.state]; rfl
  have N0 := Fr.nil hB.size
  suffices hgo : Go p e below (fun o U' => ∃ v L, o = .returned v ∧ Qg (fun v h => v = (some (.int (0 : Int32))) ∧ h = h0) hB.size v U'.heap L ∧ FrameEnd s o U' L ({ frames := 0, cells := 0, slots := 0, locals := 0 } : Room).cells ({ frames := 0, cells := 0, slots := 0, locals := 0 } : Room).slots) s₁ (mkF m 0 #[.val (.ref o0), .val (.ref o1), .unset] []) by
    obtain ⟨s2, o, g1, g2, g3, g4⟩ := hgo
    refine ⟨s2, o, castTop (?_ : entryFrame m #[(.ref o0), (.ref o1)] 3 = _) g1, g2, g3, g4⟩
    first | (simp [entryFrame, mkF, argsToLocals, Value.category]; done) | rfl
  refine Go.on (T' := s₁) (g' := (mkF m 1 #[.val (.ref o0), .val (.ref o1), .unset] [(.ref o1)])) (fun t k => XS.aloadN X0.here hx rfl (hb hby d3_0) rfl rfl k) ?_
  obtain ⟨T127, X127, e127, st127⟩ := instY X0 hx hZ hown (hw _ (List.mem_of_getElem? (i := 25) rfl)) e0 (Ins.self E_o1) (g := (mkF m 1 #[.val (.ref o0), .val (.ref o1), .unset] [(.ref o1)])) rfl rfl (hb hby d3_1)
  refine Go.on (T' := T127) (g' := (mkF m 4 #[.val (.ref o0), .val (.ref o1), .unset] [(.int (1 : Int32))])) st127 ?_
  refine Go.on (T' := T127) (g' := (mkF m 7 #[.val (.ref o0), .val (.ref o1), .unset] [])) (fun t k => XS.ifNo X127.here hx rfl (hb hby d3_4) rfl ((if0 _ _).trans (feq (by decide : ¬ ((1 : Int32) = (0 : Int32)))).1) k) ?_
  refine Go.on (T' := T127) (g' := (mkF m 8 #[.val (.ref o0), .val (.ref o1), .unset] [(.ref o1)])) (fun t k => XS.aloadN X127.here hx rfl (hb hby d3_7) rfl rfl k) ?_
  obtain ⟨T128, X128, e128, st128⟩ := castY X127 hx hZ hown (hw _ (List.mem_of_getElem? (i := 25) rfl)) e127 (Ins.self E_o1) (g := (mkF m 8 #[.val (.ref o0), .val (.ref o1), .unset] [(.ref o1)])) rfl rfl (hb hby d3_8)
  refine Go.on (T' := T128) (g' := (mkF m 11 #[.val (.ref o0), .val (.ref o1), .unset] [(.ref o1)])) st128 ?_
  refine Go.on (T' := T128) (g' := (mkF m 12 #[.val (.ref o0), .val (.ref o1), .val (.ref o1)] [])) (fun t k => XS.astoreN X128.here hx rfl (hb hby d3_11) rfl rfl (l' := #[.val (.ref o0), .val (.ref o1), .val (.ref o1)]) rfl k) ?_
  refine Go.on (T' := T128) (g' := (mkF m 13 #[.val (.ref o0), .val (.ref o1), .val (.ref o1)] [(.ref o0)])) (fun t k => XS.aloadN X128.here hx rfl (hb hby d3_12) rfl rfl k) ?_
  obtain ⟨T129, X129, e129, st129⟩ := getF X128 hx hZ hown (host := "") (Or.inl (hw _ (List.mem_of_getElem? (i := 12) rfl))) Via.refl e128 F_o0_white (g := (mkF m 13 #[.val (.ref o0), .val (.ref o1), .val (.ref o1)] [(.ref o0)])) rfl rfl (hb hby d3_13)
  refine Go.on (T' := T129) (g' := (mkF m 16 #[.val (.ref o0), .val (.ref o1), .val (.ref o1)] [(.int fo0_white)])) st129 ?_
  refine Go.on (T' := T129) (g' := (mkF m 17 #[.val (.ref o0), .val (.ref o1), .val (.ref o1)] [(.ref o1), (.int fo0_white)])) (fun t k => XS.aloadN X129.here hx rfl (hb hby d3_16) rfl rfl k) ?_
  obtain ⟨T130, X130, e130, st130⟩ := getF X129 hx hZ hown (host := "") (Or.inl (hw _ (List.mem_of_getElem? (i := 12) rfl))) Via.refl e129 F_o1_white (g := (mkF m 17 #[.val (.ref o0), .val (.ref o1), .val (.ref o1)] [(.ref o1), (.int fo0_white)])) rfl rfl (hb hby d3_17)
  refine Go.on (T' := T130) (g' := (mkF m 20 #[.val (.ref o0), .val (.ref o1), .val (.ref o1)] [(.int fo1_white), (.int fo0_white)])) st130 ?_
  refine Go.on (T' := T130) (g' := (mkF m 60 #[.val (.ref o0), .val (.ref o1), .val (.ref o1)] [])) (fun t k => XS.icmpYes X130.here hx rfl (pc0 := 20) (pc' := 60) rfl (hb hby d3_20) rfl (feq hp0).2 (by decide) (by decide) k) ?_
  refine Go.on (T' := T130) (g' := (mkF m 61 #[.val (.ref o0), .val (.ref o1), .val (.ref o1)] [(.int (0 : Int32))])) (fun t k => XS.iconst X130.here hx rfl (hb hby d3_60) k) ?_
  obtain ⟨fs, hr, hrun, hended, hW, hsame⟩ := X130.leave (v := some (.int (0 : Int32))) (fun h => by rw [Bd.returns] at h; cases h)
  exact ⟨_, _, retN X130 hx (t := .boolean) Bd.returns (by simp) (hb hby d3_61) hr, hrun, hended, _, _, rfl, ⟨⟨rfl, e130⟩, N0⟩, ⟨_, rfl⟩, hW, hsame.mono (by decide) (by decide)⟩
set_option maxRecDepth 65536 in
set_option maxHeartbeats 40000000 in
theorem rm3_5 (l : Launch) (Z : State) (a0 : Array Value) (hw : ∀ d ∈ tables_1, d.before a0 Z = true) (ws : List Jvm.Cond) (w : Nat → Addr) (hB : Heap) (hP : Pins Z hB w) (h0 : Heap) (XB : Ext hB h0) (o0 : Addr) (fo0_white : Int32) (fo0_black : Int32) (fo0_kings : Int32) (fo0_sideToMove : Addr) (E_o0 : Exa Z h0 o0 "com/example/pedina/pedina/rules/Position") (F_o0_white : Fld Z h0 o0 "com/example/pedina/pedina/rules/Position" "white" "I" (.int fo0_white)) (F_o0_black : Fld Z h0 o0 "com/example/pedina/pedina/rules/Position" "black" "I" (.int fo0_black)) (F_o0_kings : Fld Z h0 o0 "com/example/pedina/pedina/rules/Position" "kings" "I" (.int fo0_kings)) (F_o0_sideToMove : Fld Z h0 o0 "com/example/pedina/pedina/rules/Position" "sideToMove" "Lcom/example/pedina/pedina/rules/Side;" (.ref fo0_sideToMove)) (g_o0 : hB.size ≤ o0) :
    MetFree l (⟨"com/example/pedina/pedina/rules/Position", "equals", "(Ljava/lang/Object;)Z"⟩ : MethodName) (head1 (Jvm.Cond.code (⟨"com/example/pedina/pedina/rules/Position", "equals", "(Ljava/lang/Object;)Z"⟩ : MethodName) prog_27_method_9_code 3 (some .boolean) :: ws) ({ frames := 0, cells := 0, slots := 0, locals := 0 } : Room)) (fun a U => a = #[(.ref o0), .null] ∧ Z.Warmed39 U.vm ∧ U.heap = h0) (fun _ _ _ _ _ => True) (fun _ U o U' => ∃ v L, o = .returned v ∧ Qg (fun v h => v = (some (.int (0 : Int32))) ∧ h = h0) hB.size v U'.heap L ∧ FrameEnd U o U' L ({ frames := 0, cells := 0, slots := 0, locals := 0 } : Room).cells ({ frames := 0, cells := 0, slots := 0, locals := 0 } : Room).slots) := by
  refine MetFree.of_bodySF (plainFor_of_name pn_0) hisR ?_
  intro p e s m args below meth c s₁ Bd hml0 hP0 hK
  obtain ⟨rfl, hZ, hh⟩ := hP0
  have hx := Bd.exec
  have hby := Bd.bytes
  have hml : c.maxLocals = 3 := hml0
  have hown : s.vm.findClass "com/example/pedina/pedina/rules/Position" = some m.cls := findClass_of_methodNamed Bd.named
  have hnm := (name_of_methodNamed Bd.named Bd.method).1
  have X0 : Stand p l e ({ frames := 0, cells := 0, slots := 0, locals := 0 } : Room) s m #[(.ref o0), .null] below meth c s₁ [] 0 0 := Stand.of_body Bd
  have e0 : s₁.heap = h0 := by rw [← hh, Bd.state]; rfl
  have N0 := Fr.nil hB.size
  suffices hgo : Go p e below (fun o U' => ∃ v L, o = .returned v ∧ Qg (fun v h => v = (some (.int (0 : Int32))) ∧ h = h0) hB.size v U'.heap L ∧ FrameEnd s o U' L ({ frames := 0, cells := 0, slots := 0, locals := 0 } : Room).cells ({ frames := 0, cells := 0, slots := 0, locals := 0 } : Room).slots) s₁ (mkF m 0 #[.val (.ref o0), .val .null, .unset] []) by
    obtain ⟨s2, o, g1, g2, g3, g4⟩ := hgo
    refine ⟨s2, o, castTop (?_ : entryFrame m #[(.ref o0), .null] 3 = _) g1, g2, g3, g4⟩
    first | (simp [entryFrame, mkF, argsToLocals, Value.category]; done) | rfl
  refine Go.on (T' := s₁) (g' := (mkF m 1 #[.val (.ref o0), .val .null, .unset] [.null])) (fun t k => XS.aloadN X0.here hx rfl (hb hby d3_0) rfl rfl k) ?_
  refine Go.on (T' := s₁) (g' := (mkF m 4 #[.val (.ref o0), .val .null, .unset] [(.int (0 : Int32))])) (fun t k => X0.instanceofNull hx (g := (mkF m 1 #[.val (.ref o0), .val .null, .unset] [.null])) rfl rfl (hb hby d3_1) t k) ?_
  refine Go.on (T' := s₁) (g' := (mkF m 60 #[.val (.ref o0), .val .null, .unset] [])) (fun t k => XS.ifYes X0.here hx rfl (pc0 := 4) (pc' := 60) rfl (hb hby d3_4) rfl ((if0 _ _).trans (teq (by decide : (0 : Int32) = (0 : Int32))).1) (by decide) (by decide) k) ?_
  refine Go.on (T' := s₁) (g' := (mkF m 61 #[.val (.ref o0), .val .null, .unset] [(.int (0 : Int32))])) (fun t k => XS.iconst X0.here hx rfl (hb hby d3_60) k) ?_
  obtain ⟨fs, hr, hrun, hended, hW, hsame⟩ := X0.leave (v := some (.int (0 : Int32))) (fun h => by rw [Bd.returns] at h; cases h)
  exact ⟨_, _, retN X0 hx (t := .boolean) Bd.returns (by simp) (hb hby d3_61) hr, hrun, hended, _, _, rfl, ⟨⟨rfl, e0⟩, N0⟩, ⟨_, rfl⟩, hW, hsame.mono (by decide) (by decide)⟩
theorem d4_0 : decode jdk_33_method_22_code 0 = .ok (.iload_n 0, 1) := by decide +kernel
theorem d4_1 : decode jdk_33_method_22_code 1 = .ok (.bipush (-128), 2) := by decide +kernel
theorem d4_3 : decode jdk_33_method_22_code 3 = .ok (.if_icmp .lt 20, 3) := by decide +kernel
theorem d4_23 : decode jdk_33_method_22_code 23 = .ok (.new 1, 3) := by decide +kernel
theorem d4_26 : decode jdk_33_method_22_code 26 = .ok (.dup, 1) := by decide +kernel
theorem d4_27 : decode jdk_33_method_22_code 27 = .ok (.iload_n 0, 1) := by decide +kernel
theorem d4_28 : decode jdk_33_method_22_code 28 = .ok (.invokespecial 199, 3) := by decide +kernel
theorem d5_0 : decode jdk_33_method_23_code 0 = .ok (.aload_n 0, 1) := by decide +kernel
theorem d5_1 : decode jdk_33_method_23_code 1 = .ok (.invokespecial 202, 3) := by decide +kernel
theorem d6_0 : decode jdk_18_method_1_code 0 = .ok (.aload_n 0, 1) := by decide +kernel
theorem d6_1 : decode jdk_18_method_1_code 1 = .ok (.invokespecial 1, 3) := by decide +kernel
theorem d6_4 : decode jdk_18_method_1_code 4 = .ok (.return_, 1) := by decide +kernel
theorem pn_1 : plainName "java/lang/Number" = true := by first | (simp [plainName, overriddenIn]; done) | decide +kernel
set_option maxRecDepth 65536 in
set_option maxHeartbeats 40000000 in
theorem rm6_0 (l : Launch) (Z : State) (a0 : Array Value) (hw : ∀ d ∈ tables_1, d.before a0 Z = true) (ws : List Jvm.Cond) (w : Nat → Addr) (hB : Heap) (hP : Pins Z hB w) (h0 : Heap) (XB : Ext hB h0) (o0 : Addr) (E_o0 : Exa Z h0 o0 "java/lang/Integer") (F_o0_value : Fld Z h0 o0 "java/lang/Integer" "value" "I" (.int (0 : Int32))) (g_o0 : hB.size ≤ o0) :
    MetFree l (⟨"java/lang/Number", "<init>", "()V"⟩ : MethodName) (head1 (Jvm.Cond.code (⟨"java/lang/Number", "<init>", "()V"⟩ : MethodName) jdk_18_method_1_code 1 none :: ws) ({ frames := 1, cells := 0, slots := 0, locals := 12 } : Room)) (fun a U => a = #[(.ref o0)] ∧ Z.Warmed39 U.vm ∧ U.heap = h0) (fun _ _ _ _ _ => True) (fun _ U o U' => ∃ v L, o = .returned v ∧ Qg (fun v h => v = none ∧ h = h0) hB.size v U'.heap L ∧ FrameEnd U o U' L ({ frames := 1, cells := 0, slots := 0, locals := 12 } : Room).cells ({ frames := 1, cells := 0, slots := 0, locals := 12 } : Room).slots) := by
  refine MetFree.of_bodySF (plainFor_of_name pn_1) hisR ?_
  intro p e s m args below meth c s₁ Bd hml0 hP0 hK
  obtain ⟨rfl, hZ, hh⟩ := hP0
  have hx := Bd.exec
  have hby := Bd.bytes
  have hml : c.maxLocals = 1 := hml0
  have hown : s.vm.findClass "java/lang/Number" = some m.cls := findClass_of_methodNamed Bd.named
  have hnm := (name_of_methodNamed Bd.named Bd.method).1
  have X0 : Stand p l e ({ frames := 1, cells := 0, slots := 0, locals := 12 } : Room) s m #[(.ref o0)] below meth c s₁ [] 0 0 := Stand.of_body Bd
  have e0 : s₁.heap = h0 := by rw [← hh, Bd.state]; rfl
  have N0 := Fr.nil hB.size
  suffices hgo : Go p e below (fun o U' => ∃ v L, o = .returned v ∧ Qg (fun v h => v = none ∧ h = h0) hB.size v U'.heap L ∧ FrameEnd s o U' L ({ frames := 1, cells := 0, slots := 0, locals := 12 } : Room).cells ({ frames := 1, cells := 0, slots := 0, locals := 12 } : Room).slots) s₁ (mkF m 0 #[.val (.ref o0)] []) by
    obtain ⟨s2, o, g1, g2, g3, g4⟩ := hgo
    refine ⟨s2, o, castTop (?_ : entryFrame m #[(.ref o0)] 1 = _) g1, g2, g3, g4⟩
    first | (simp [entryFrame, mkF, argsToLocals, Value.category]; done) | rfl
  refine Go.on (T' := s₁) (g' := (mkF m 1 #[.val (.ref o0)] [(.ref o0)])) (fun t k => XS.aloadN X0.here hx rfl (hb hby d6_0) rfl rfl k) ?_
  obtain ⟨T159, X159, e159, st159⟩ := initO X0 hx hZ hown (hw _ (List.mem_of_getElem? (i := 51) rfl)) (hw _ (List.mem_of_getElem? (i := 10) rfl)) (hw _ (List.mem_of_getElem? (i := 11) rfl)) e0 (g := (mkF m 1 #[.val (.ref o0)] [(.ref o0)])) rfl (by rw [hml]; rfl) rfl (hb hby d6_1) (by decide) (W := 0) (by show 2 * 0 + _ ≤ _; exact Nat.le_of_eq rfl) (by decide)
  refine Go.on (T' := T159) (g' := (mkF m 4 #[.val (.ref o0)] [])) st159 ?_
  obtain ⟨fs, hr, hrun, hended, hW, hsame⟩ := X159.leave (v := none) (fun _ => rfl)
  exact ⟨_, _, X159.returnOut hx Bd.returns (hb hby d6_4) hr, hrun, hended, _, _, rfl, ⟨⟨rfl, e159⟩, N0⟩, ⟨_, rfl⟩, hW, hsame.mono (by decide) (by decide)⟩
theorem pd_2 : parseMethodDescriptor "()V" = some ⟨[], none⟩ := by decide +kernel
theorem d5_4 : decode jdk_33_method_23_code 4 = .ok (.aload_n 0, 1) := by decide +kernel
theorem d5_5 : decode jdk_33_method_23_code 5 = .ok (.iload_n 1, 1) := by decide +kernel
theorem d5_6 : decode jdk_33_method_23_code 6 = .ok (.putfield 205, 3) := by decide +kernel
theorem d5_9 : decode jdk_33_method_23_code 9 = .ok (.return_, 1) := by decide +kernel
theorem pn_2 : plainName "java/lang/Integer" = true := by first | (simp [plainName, overriddenIn]; done) | decide +kernel
set_option maxRecDepth 65536 in
set_option maxHeartbeats 40000000 in
theorem rm5_0 (l : Launch) (Z : State) (a0 : Array Value) (hw : ∀ d ∈ tables_1, d.before a0 Z = true) (ws : List Jvm.Cond) (w : Nat → Addr) (hB : Heap) (hP : Pins Z hB w) (h0 : Heap) (XB : Ext hB h0) (pa1 : Int32) (o0 : Addr) (E_o0 : Exa Z h0 o0 "java/lang/Integer") (F_o0_value : Fld Z h0 o0 "java/lang/Integer" "value" "I" (.int (0 : Int32))) (g_o0 : hB.size ≤ o0) :
    MetFree l (⟨"java/lang/Integer", "<init>", "(I)V"⟩ : MethodName) (head1 (Jvm.Cond.code (⟨"java/lang/Integer", "<init>", "(I)V"⟩ : MethodName) jdk_33_method_23_code 2 none :: ws) ({ frames := 2, cells := 0, slots := 0, locals := 24 } : Room)) (fun a U => a = #[(.ref o0), (.int pa1)] ∧ Z.Warmed39 U.vm ∧ U.heap = h0) (fun _ _ _ _ _ => True) (fun _ U o U' => ∃ v L, o = .returned v ∧ Qg (fun v h => v = none ∧ (Keep h0 h [o0] ∧ Exa Z h o0 "java/lang/Integer" ∧ Fld Z h o0 "java/lang/Integer" "value" "I" (.int pa1) ∧ True)) hB.size v U'.heap L ∧ FrameEnd U o U' L ({ frames := 2, cells := 0, slots := 0, locals := 24 } : Room).cells ({ frames := 2, cells := 0, slots := 0, locals := 24 } : Room).slots) := by
  refine MetFree.of_bodySF (plainFor_of_name pn_2) hisR ?_
  intro p e s m args below meth c s₁ Bd hml0 hP0 hK
  obtain ⟨rfl, hZ, hh⟩ := hP0
  have hx := Bd.exec
  have hby := Bd.bytes
  have hml : c.maxLocals = 2 := hml0
  have hown : s.vm.findClass "java/lang/Integer" = some m.cls := findClass_of_methodNamed Bd.named
  have hnm := (name_of_methodNamed Bd.named Bd.method).1
  have X0 : Stand p l e ({ frames := 2, cells := 0, slots := 0, locals := 24 } : Room) s m #[(.ref o0), (.int pa1)] below meth c s₁ [] 0 0 := Stand.of_body Bd
  have e0 : s₁.heap = h0 := by rw [← hh, Bd.state]; rfl
  have N0 := Fr.nil hB.size
  suffices hgo : Go p e below (fun o U' => ∃ v L, o = .returned v ∧ Qg (fun v h => v = none ∧ (Keep h0 h [o0] ∧ Exa Z h o0 "java/lang/Integer" ∧ Fld Z h o0 "java/lang/Integer" "value" "I" (.int pa1) ∧ True)) hB.size v U'.heap L ∧ FrameEnd s o U' L ({ frames := 2, cells := 0, slots := 0, locals := 24 } : Room).cells ({ frames := 2, cells := 0, slots := 0, locals := 24 } : Room).slots) s₁ (mkF m 0 #[.val (.ref o0), .val (.int pa1)] []) by
    obtain ⟨s2, o, g1, g2, g3, g4⟩ := hgo
    refine ⟨s2, o, castTop (?_ : entryFrame m #[(.ref o0), (.int pa1)] 2 = _) g1, g2, g3, g4⟩
    first | (simp [entryFrame, mkF, argsToLocals, Value.category]; done) | rfl
  refine Go.on (T' := s₁) (g' := (mkF m 1 #[.val (.ref o0), .val (.int pa1)] [(.ref o0)])) (fun t k => XS.aloadN X0.here hx rfl (hb hby d5_0) rfl rfl k) ?_
  obtain ⟨_, _, ⟨T160, L160, k160, n160⟩, -, X160, ⟨Lc160, hQ160, l160, y160, z160⟩, st160⟩ := X0.specialBack hx (y := (⟨"java/lang/Number", "<init>", "()V"⟩ : MethodName)) rfl hown (mvT hZ (hw _ (List.mem_of_getElem? (i := 45) rfl))) (mvT hZ (hw _ (List.mem_of_getElem? (i := 46) rfl))) (mvT hZ (hw _ (List.mem_of_getElem? (i := 50) rfl))) (by decide) (backOf (W := 0) (rm6_0 l Z a0 hw [] w hB hP h0 XB o0 E_o0 F_o0_value g_o0) hZ (hw _ (List.mem_of_getElem? (i := 50) rfl)) (hw _ (List.mem_of_getElem? (i := 49) rfl)) (by decide) (by decide)) (g := (mkF m 1 #[.val (.ref o0), .val (.int pa1)] [(.ref o0)])) rfl (by rw [hml]; rfl) (Steps.refl _) (a := o0) (argsL := []) (rest := []) (lenOf pd_2 rfl) rfl (by show 2 * 0 + _ ≤ _; exact Nat.le_of_eq rfl) (hb hby d5_1) (fun _ _ => ⟨rfl, e0, (by decide : 0 + 0 ≤ _), (by decide : 0 + 0 ≤ _)⟩)
  dsimp only [Pt.U, Pt.locs, Pt.cells, Pt.slots] at X160 l160 y160 z160 st160 hQ160
  subst l160 y160 z160
  obtain ⟨⟨rfl, e160⟩, N160q⟩ := hQ160
  have N160 := Fr.app N0 N160q
  refine Go.on (T' := T160) (g' := (mkF m 4 #[.val (.ref o0), .val (.int pa1)] [])) (fun t k => st160.trans k) ?_
  refine Go.on (T' := T160) (g' := (mkF m 5 #[.val (.ref o0), .val (.int pa1)] [(.ref o0)])) (fun t k => XS.aloadN X160.here hx rfl (hb hby d5_4) rfl rfl k) ?_
  refine Go.on (T' := T160) (g' := (mkF m 6 #[.val (.ref o0), .val (.int pa1)] [(.int pa1), (.ref o0)])) (fun t k => XS.iloadN X160.here hx rfl (hb hby d5_5) rfl k) ?_
  obtain ⟨T161, h161, X161, e161, W161, st161⟩ := putF X160 hx hZ hown (host := "") (Or.inl (hw _ (List.mem_of_getElem? (i := 52) rfl))) Via.refl e160 F_o0_value E_o0 (Or.inr ⟨(hw _ (List.mem_of_getElem? (i := 53) rfl)), rfl, hnm⟩) (hw _ (List.mem_of_getElem? (i := 40) rfl)) (ty := .int) (by decide) rfl rfl (g := (mkF m 6 #[.val (.ref o0), .val (.int pa1)] [(.int pa1), (.ref o0)])) rfl rfl (hb hby d5_6)
  have N161 := Fr.snoc X161 N160 g_o0
  have XT161 : Ext hB h161 := own_extw XB W161 g_o0
  have KC161 : Keep h0 h161 [o0] := (Keep.refl h0 [o0]).wr W161 (Or.inl (List.mem_of_getElem? (i := 0) rfl))
  have Fw161 : Fld Z h161 o0 "java/lang/Integer" "value" "I" (.int pa1) := F_o0_value.same W161
  refine Go.on (T' := T161) (g' := (mkF m 9 #[.val (.ref o0), .val (.int pa1)] [])) st161 ?_
  have f162 : Exa Z h161 o0 "java/lang/Integer" := (E_o0.wr W161)
  obtain ⟨fs, hr, hrun, hended, hW, hsame⟩ := X161.leave (v := none) (fun _ => rfl)
  exact ⟨_, _, X161.returnOut hx Bd.returns (hb hby d5_9) hr, hrun, hended, _, _, rfl, ⟨⟨rfl, own_at (P := fun h => Keep h0 h [o0] ∧ Exa Z h o0 "java/lang/Integer" ∧ Fld Z h o0 "java/lang/Integer" "value" "I" (.int pa1) ∧ True) e161 ⟨KC161, f162, Fw161, trivial⟩⟩, N161⟩, ⟨_, rfl⟩, hW, hsame.mono (by decide) (by decide)⟩
theorem pd_3 : parseMethodDescriptor "(I)V" = some ⟨[.int], none⟩ := by decide +kernel
theorem d4_31 : decode jdk_33_method_22_code 31 = .ok (.areturn, 1) := by decide +kernel
set_option maxRecDepth 65536 in
set_option maxHeartbeats 40000000 in
theorem rm4_0 (l : Launch) (Z : State) (a0 : Array Value) (hw : ∀ d ∈ tables_1, d.before a0 Z = true) (ws : List Jvm.Cond) (w : Nat → Addr) (hB : Heap) (hP : Pins Z hB w) (h0 : Heap) (XB : Ext hB h0) (pa0 : Int32) (hp0 : pa0 < (-128 : Int32)) :
    MetFree l (⟨"java/lang/Integer", "valueOf", "(I)Ljava/lang/Integer;"⟩ : MethodName) (head1 (Jvm.Cond.code (⟨"java/lang/Integer", "valueOf", "(I)Ljava/lang/Integer;"⟩ : MethodName) jdk_33_method_22_code 1 (some (.object "java/lang/Integer")) :: ws) ({ frames := 3, cells := 1, slots := 1, locals := 38 } : Room)) (fun a U => a = #[(.int pa0)] ∧ Z.Warmed39 U.vm ∧ U.heap = h0) (fun _ _ _ _ _ => True) (fun _ U o U' => ∃ v L, o = .returned v ∧ Qg (fun v h => ∃ (c0 : Addr), v = (some (.ref c0)) ∧ (Keep h0 h [] ∧ h0.size ≤ c0 ∧ Exa Z h c0 "java/lang/Integer" ∧ Fld Z h c0 "java/lang/Integer" "value" "I" (.int pa0) ∧ True)) hB.size v U'.heap L ∧ FrameEnd U o U' L ({ frames := 3, cells := 1, slots := 1, locals := 38 } : Room).cells ({ frames := 3, cells := 1, slots := 1, locals := 38 } : Room).slots) := by
  refine MetFree.of_bodySF (plainFor_of_name pn_2) hisR ?_
  intro p e s m args below meth c s₁ Bd hml0 hP0 hK
  obtain ⟨rfl, hZ, hh⟩ := hP0
  have hx := Bd.exec
  have hby := Bd.bytes
  have hml : c.maxLocals = 1 := hml0
  have hown : s.vm.findClass "java/lang/Integer" = some m.cls := findClass_of_methodNamed Bd.named
  have hnm := (name_of_methodNamed Bd.named Bd.method).1
  have X0 : Stand p l e ({ frames := 3, cells := 1, slots := 1, locals := 38 } : Room) s m #[(.int pa0)] below meth c s₁ [] 0 0 := Stand.of_body Bd
  have e0 : s₁.heap = h0 := by rw [← hh, Bd.state]; rfl
  have N0 := Fr.nil hB.size
  suffices hgo : Go p e below (fun o U' => ∃ v L, o = .returned v ∧ Qg (fun v h => ∃ (c0 : Addr), v = (some (.ref c0)) ∧ (Keep h0 h [] ∧ h0.size ≤ c0 ∧ Exa Z h c0 "java/lang/Integer" ∧ Fld Z h c0 "java/lang/Integer" "value" "I" (.int pa0) ∧ True)) hB.size v U'.heap L ∧ FrameEnd s o U' L ({ frames := 3, cells := 1, slots := 1, locals := 38 } : Room).cells ({ frames := 3, cells := 1, slots := 1, locals := 38 } : Room).slots) s₁ (mkF m 0 #[.val (.int pa0)] []) by
    obtain ⟨s2, o, g1, g2, g3, g4⟩ := hgo
    refine ⟨s2, o, castTop (?_ : entryFrame m #[(.int pa0)] 1 = _) g1, g2, g3, g4⟩
    first | (simp [entryFrame, mkF, argsToLocals, Value.category]; done) | rfl
  refine Go.on (T' := s₁) (g' := (mkF m 1 #[.val (.int pa0)] [(.int pa0)])) (fun t k => XS.iloadN X0.here hx rfl (hb hby d4_0) rfl k) ?_
  refine Go.on (T' := s₁) (g' := (mkF m 3 #[.val (.int pa0)] [(.int (-128 : Int32)), (.int pa0)])) (fun t k => XS.bipush X0.here hx rfl (hb hby d4_1) k) ?_
  refine Go.on (T' := s₁) (g' := (mkF m 23 #[.val (.int pa0)] [])) (fun t k => XS.icmpYes X0.here hx rfl (pc0 := 3) (pc' := 23) rfl (hb hby d4_3) rfl (tlt hp0).1 (by decide) (by decide) k) ?_
  obtain ⟨T158, h158, X158, e158, E158, A158, D158, -, st158⟩ := newO X0 hx hZ hown (hw _ (List.mem_of_getElem? (i := 39) rfl)) (hw _ (List.mem_of_getElem? (i := 40) rfl)) (hw _ (List.mem_of_getElem? (i := 31) rfl)) e0 (g := (mkF m 23 #[.val (.int pa0)] [])) rfl (hb hby d4_23) (by decide) (by decide)
  obtain ⟨b158, g158⟩ : ∃ z, z = h0.size := ⟨_, rfl⟩
  rw [← g158] at A158 D158 st158
  have gb158 : hB.size ≤ b158 := Nat.le_trans XB.1 (Nat.le_of_eq g158.symm)
  have s0158 : h0.size ≤ b158 := Nat.le_trans (Keep.refl h0 []).1 (Nat.le_of_eq g158.symm)
  have KC158 : Keep h0 h158 [] := (Keep.refl h0 []).ext E158
  have XT158 := own_ext2 XB E158
  refine Go.on (T' := T158) (g' := (mkF m 26 #[.val (.int pa0)] [(.ref b158)])) st158 ?_
  refine Go.on (T' := T158) (g' := (mkF m 27 #[.val (.int pa0)] [(.ref b158), (.ref b158)])) (fun t k => XS.dup X158.here hx rfl (hb hby d4_26) rfl rfl k) ?_
  refine Go.on (T' := T158) (g' := (mkF m 28 #[.val (.int pa0)] [(.int pa0), (.ref b158), (.ref b158)])) (fun t k => XS.iloadN X158.here hx rfl (hb hby d4_27) rfl k) ?_
  obtain ⟨_, _, ⟨T163, L163, k163, n163⟩, -, X163, ⟨Lc163, hQ163, l163, y163, z163⟩, st163⟩ := X158.specialBack hx (y := (⟨"java/lang/Integer", "<init>", "(I)V"⟩ : MethodName)) rfl hown (mvT hZ (hw _ (List.mem_of_getElem? (i := 41) rfl))) (mvT hZ (hw _ (List.mem_of_getElem? (i := 42) rfl))) (mvT hZ (hw _ (List.mem_of_getElem? (i := 44) rfl))) (by decide) (backOf (W := 1) (rm5_0 l Z a0 hw [] w hB hP h158 XT158 pa0 b158 A158 (D158 (Or.inr (hw _ (List.mem_of_getElem? (i := 53) rfl))) (ty := .int) (by decide)) gb158) hZ (hw _ (List.mem_of_getElem? (i := 44) rfl)) (hw _ (List.mem_of_getElem? (i := 31) rfl)) (by decide) (by decide)) (g := (mkF m 28 #[.val (.int pa0)] [(.int pa0), (.ref b158), (.ref b158)])) rfl (by rw [hml]; rfl) (Steps.refl _) (a := b158) (argsL := [(.int pa0)]) (rest := [(.ref b158)]) (lenOf pd_3 rfl) rfl (by show 2 * 0 + _ ≤ _; exact Nat.le_of_eq rfl) (hb hby d4_28) (fun _ _ => ⟨rfl, e158, (by decide : 1 + 0 ≤ _), (by decide : 1 + 0 ≤ _)⟩)
  dsimp only [Pt.U, Pt.locs, Pt.cells, Pt.slots] at X163 l163 y163 z163 st163 hQ163
  subst l163 y163 z163
  obtain ⟨⟨rfl, K163, fq163_0, fq163_1, -⟩, N163q⟩ := hQ163
  have e163 : T163.heap = T163.heap := rfl
  have N163 := Fr.app N0 N163q
  have XT163 : Ext hB T163.heap := own_extK XT158 K163 (allS gb158 all0)
  have KC163 : Keep h0 T163.heap [] := KC158.trans K163 (allS (Or.inr s0158) all0)
  refine Go.on (T' := T163) (g' := (mkF m 31 #[.val (.int pa0)] [(.ref b158)])) (fun t k => st163.trans k) ?_
  obtain ⟨fs, hr, hrun, hended, hW, hsame⟩ := X163.leave (v := some (.ref b158)) (fun h => by rw [Bd.returns] at h; cases h)
  exact ⟨_, _, retOut X163 hx Bd.returns rfl (Or.inr (Or.inr (Or.inr (Or.inr ⟨rfl, rfl, rfl⟩)))) (hb hby d4_31) hr, hrun, hended, _, _, rfl, ⟨⟨b158, rfl, own_at (P := fun h => Keep h0 h [] ∧ h0.size ≤ b158 ∧ Exa Z h b158 "java/lang/Integer" ∧ Fld Z h b158 "java/lang/Integer" "value" "I" (.int pa0) ∧ True) e163 ⟨KC163, s0158, fq163_0, fq163_1, trivial⟩⟩, N163⟩, ⟨_, rfl⟩, hW, hsame.mono (by decide) (by decide)⟩
theorem pd_4 : parseMethodDescriptor "(I)Ljava/lang/Integer;" = some ⟨[.int], some (.object "java/lang/Integer")⟩ := by decide +kernel
set_option maxRecDepth 65536 in
set_option maxHeartbeats 40000000 in
theorem rm3_6 (l : Launch) (Z : State) (a0 : Array Value) (hw : ∀ d ∈ tables_1, d.before a0 Z = true) (ws : List Jvm.Cond) (w : Nat → Addr) (hB : Heap) (hP : Pins Z hB w) (h0 : Heap) (XB : Ext hB h0) (o0 : Addr) (fo0_white : Int32) (fo0_black : Int32) (fo0_kings : Int32) (fo0_sideToMove : Addr) (o1 : Addr) (fo1_value : Int32) (E_o0 : Exa Z h0 o0 "com/example/pedina/pedina/rules/Position") (F_o0_white : Fld Z h0 o0 "com/example/pedina/pedina/rules/Position" "white" "I" (.int fo0_white)) (F_o0_black : Fld Z h0 o0 "com/example/pedina/pedina/rules/Position" "black" "I" (.int fo0_black)) (F_o0_kings : Fld Z h0 o0 "com/example/pedina/pedina/rules/Position" "kings" "I" (.int fo0_kings)) (F_o0_sideToMove : Fld Z h0 o0 "com/example/pedina/pedina/rules/Position" "sideToMove" "Lcom/example/pedina/pedina/rules/Side;" (.ref fo0_sideToMove)) (g_o0 : hB.size ≤ o0) (E_o1 : Exa Z h0 o1 "java/lang/Integer") (F_o1_value : Fld Z h0 o1 "java/lang/Integer" "value" "I" (.int fo1_value)) (g_o1 : hB.size ≤ o1) (ne_o0_o1 : o0 ≠ o1) :
    MetFree l (⟨"com/example/pedina/pedina/rules/Position", "equals", "(Ljava/lang/Object;)Z"⟩ : MethodName) (head1 (Jvm.Cond.code (⟨"com/example/pedina/pedina/rules/Position", "equals", "(Ljava/lang/Object;)Z"⟩ : MethodName) prog_27_method_9_code 3 (some .boolean) :: ws) ({ frames := 0, cells := 0, slots := 0, locals := 0 } : Room)) (fun a U => a = #[(.ref o0), (.ref o1)] ∧ Z.Warmed39 U.vm ∧ U.heap = h0) (fun _ _ _ _ _ => True) (fun _ U o U' => ∃ v L, o = .returned v ∧ Qg (fun v h => v = (some (.int (0 : Int32))) ∧ h = h0) hB.size v U'.heap L ∧ FrameEnd U o U' L ({ frames := 0, cells := 0, slots := 0, locals := 0 } : Room).cells ({ frames := 0, cells := 0, slots := 0, locals := 0 } : Room).slots) := by
  refine MetFree.of_bodySF (plainFor_of_name pn_0) hisR ?_
  intro p e s m args below meth c s₁ Bd hml0 hP0 hK
  obtain ⟨rfl, hZ, hh⟩ := hP0
  have hx := Bd.exec
  have hby := Bd.bytes
  have hml : c.maxLocals = 3 := hml0
  have hown : s.vm.findClass "com/example/pedina/pedina/rules/Position" = some m.cls := findClass_of_methodNamed Bd.named
  have hnm := (name_of_methodNamed Bd.named Bd.method).1
  have X0 : Stand p l e ({ frames := 0, cells := 0, slots := 0, locals := 0 } : Room) s m #[(.ref o0), (.ref o1)] below meth c s₁ [] 0 0 := Stand.of_body Bd
  have e0 : s₁.heap = h0 := by rw [← hh, Bd.state]; rfl
  have N0 := Fr.nil hB.size
  suffices hgo : Go p e below (fun o U' => ∃ v L, o = .returned v ∧ Qg (fun v h => v = (some (.int (0 : Int32))) ∧ h = h0) hB.size v U'.heap L ∧ FrameEnd s o U' L ({ frames := 0, cells := 0, slots := 0, locals := 0 } : Room).cells ({ frames := 0, cells := 0, slots := 0, locals := 0 } : Room).slots) s₁ (mkF m 0 #[.val (.ref o0), .val (.ref o1), .unset] []) by
    obtain ⟨s2, o, g1, g2, g3, g4⟩ := hgo
    refine ⟨s2, o, castTop (?_ : entryFrame m #[(.ref o0), (.ref o1)] 3 = _) g1, g2, g3, g4⟩
    first | (simp [entryFrame, mkF, argsToLocals, Value.category]; done) | rfl
  refine Go.on (T' := s₁) (g' := (mkF m 1 #[.val (.ref o0), .val (.ref o1), .unset] [(.ref o1)])) (fun t k => XS.aloadN X0.here hx rfl (hb hby d3_0) rfl rfl k) ?_
  obtain ⟨T167, X167, e167, st167⟩ := instNo X0 hx hZ hown (hw _ (List.mem_of_getElem? (i := 25) rfl)) e0 E_o1 (own_NSno (hw _ (List.mem_of_getElem? (i := 36) rfl)) (hw _ (List.mem_of_getElem? (i := 4) rfl)) (NS.step (hw _ (List.mem_of_getElem? (i := 36) rfl)) (NS.step (hw _ (List.mem_of_getElem? (i := 37) rfl)) (own_NSroot (hw _ (List.mem_of_getElem? (i := 38) rfl)) (hw _ (List.mem_of_getElem? (i := 4) rfl)) (by decide)) (by decide)) (by decide)) (by decide)) (g := (mkF m 1 #[.val (.ref o0), .val (.ref o1), .unset] [(.ref o1)])) rfl rfl (hb hby d3_1)
  refine Go.on (T' := T167) (g' := (mkF m 4 #[.val (.ref o0), .val (.ref o1), .unset] [(.int (0 : Int32))])) st167 ?_
  refine Go.on (T' := T167) (g' := (mkF m 60 #[.val (.ref o0), .val (.ref o1), .unset] [])) (fun t k => XS.ifYes X167.here hx rfl (pc0 := 4) (pc' := 60) rfl (hb hby d3_4) rfl ((if0 _ _).trans (teq (by decide : (0 : Int32) = (0 : Int32))).1) (by decide) (by decide) k) ?_
  refine Go.on (T' := T167) (g' := (mkF m 61 #[.val (.ref o0), .val (.ref o1), .unset] [(.int (0 : Int32))])) (fun t k => XS.iconst X167.here hx rfl (hb hby d3_60) k) ?_
  obtain ⟨fs, hr, hrun, hended, hW, hsame⟩ := X167.leave (v := some (.int (0 : Int32))) (fun h => by rw [Bd.returns] at h; cases h)
  exact ⟨_, _, retN X167 hx (t := .boolean) Bd.returns (by simp) (hb hby d3_61) hr, hrun, hended, _, _, rfl, ⟨⟨rfl, e167⟩, N0⟩, ⟨_, rfl⟩, hW, hsame.mono (by decide) (by decide)⟩
theorem d4_6 : decode jdk_33_method_22_code 6 = .ok (.iload_n 0, 1) := by decide +kernel
theorem d4_7 : decode jdk_33_method_22_code 7 = .ok (.getstatic 191, 3) := by decide +kernel
theorem d4_10 : decode jdk_33_method_22_code 10 = .ok (.if_icmp .gt 13, 3) := by decide +kernel
set_option maxRecDepth 65536 in
set_option maxHeartbeats 40000000 in
theorem rm4_1 (l : Launch) (Z : State) (a0 : Array Value) (hw : ∀ d ∈ tables_1, d.before a0 Z = true) (ws : List Jvm.Cond) (w : Nat → Addr) (hB : Heap) (hP : Pins Z hB w) (h0 : Heap) (XB : Ext hB h0) (pa0 : Int32) (hp0 : ¬ (pa0 < (-128 : Int32))) (hp1 : (127 : Int32) < pa0) :
    MetFree l (⟨"java/lang/Integer", "valueOf", "(I)Ljava/lang/Integer;"⟩ : MethodName) (head1 (Jvm.Cond.code (⟨"java/lang/Integer", "valueOf", "(I)Ljava/lang/Integer;"⟩ : MethodName) jdk_33_method_22_code 1 (some (.object "java/lang/Integer")) :: ws) ({ frames := 3, cells := 1, slots := 1, locals := 38 } : Room)) (fun a U => a = #[(.int pa0)] ∧ Z.Warmed39 U.vm ∧ U.heap = h0) (fun _ _ _ _ _ => True) (fun _ U o U' => ∃ v L, o = .returned v ∧ Qg (fun v h => ∃ (c0 : Addr), v = (some (.ref c0)) ∧ (Keep h0 h [] ∧ h0.size ≤ c0 ∧ Exa Z h c0 "java/lang/Integer" ∧ Fld Z h c0 "java/lang/Integer" "value" "I" (.int pa0) ∧ True)) hB.size v U'.heap L ∧ FrameEnd U o U' L ({ frames := 3, cells := 1, slots := 1, locals := 38 } : Room).cells ({ frames := 3, cells := 1, slots := 1, locals := 38 } : Room).slots) := by
  refine MetFree.of_bodySF (plainFor_of_name pn_2) hisR ?_
  intro p e s m args below meth c s₁ Bd hml0 hP0 hK
  obtain ⟨rfl, hZ, hh⟩ := hP0
  have hx := Bd.exec
  have hby := Bd.bytes
  have hml : c.maxLocals = 1 := hml0
  have hown : s.vm.findClass "java/lang/Integer" = some m.cls := findClass_of_methodNamed Bd.named
  have hnm := (name_of_methodNamed Bd.named Bd.method).1
  have X0 : Stand p l e ({ frames := 3, cells := 1, slots := 1, locals := 38 } : Room) s m #[(.int pa0)] below meth c s₁ [] 0 0 := Stand.of_body Bd
  have e0 : s₁.heap = h0 := by rw [← hh, Bd.state]; rfl
  have N0 := Fr.nil hB.size
  suffices hgo : Go p e below (fun o U' => ∃ v L, o = .returned v ∧ Qg (fun v h => ∃ (c0 : Addr), v = (some (.ref c0)) ∧ (Keep h0 h [] ∧ h0.size ≤ c0 ∧ Exa Z h c0 "java/lang/Integer" ∧ Fld Z h c0 "java/lang/Integer" "value" "I" (.int pa0) ∧ True)) hB.size v U'.heap L ∧ FrameEnd s o U' L ({ frames := 3, cells := 1, slots := 1, locals := 38 } : Room).cells ({ frames := 3, cells := 1, slots := 1, locals := 38 } : Room).slots) s₁ (mkF m 0 #[.val (.int pa0)] []) by
    obtain ⟨s2, o, g1, g2, g3, g4⟩ := hgo
    refine ⟨s2, o, castTop (?_ : entryFrame m #[(.int pa0)] 1 = _) g1, g2, g3, g4⟩
    first | (simp [entryFrame, mkF, argsToLocals, Value.category]; done) | rfl
  refine Go.on (T' := s₁) (g' := (mkF m 1 #[.val (.int pa0)] [(.int pa0)])) (fun t k => XS.iloadN X0.here hx rfl (hb hby d4_0) rfl k) ?_
  refine Go.on (T' := s₁) (g' := (mkF m 3 #[.val (.int pa0)] [(.int (-128 : Int32)), (.int pa0)])) (fun t k => XS.bipush X0.here hx rfl (hb hby d4_1) k) ?_
  refine Go.on (T' := s₁) (g' := (mkF m 6 #[.val (.int pa0)] [])) (fun t k => XS.icmpNo X0.here hx rfl (hb hby d4_3) rfl (flt hp0).1 k) ?_
  refine Go.on (T' := s₁) (g' := (mkF m 7 #[.val (.int pa0)] [(.int pa0)])) (fun t k => XS.iloadN X0.here hx rfl (hb hby d4_6) rfl k) ?_
  obtain ⟨T174, X174, e174, st174⟩ := getS2 X0 hx hZ hown (host := "") (Or.inl (hw _ (List.mem_of_getElem? (i := 33) rfl))) Via.refl e0 (pin_8 (pins_ext XB hP)) (g := (mkF m 7 #[.val (.int pa0)] [(.int pa0)])) rfl (hb hby d4_7)
  refine Go.on (T' := T174) (g' := (mkF m 10 #[.val (.int pa0)] [(.int (127 : Int32)), (.int pa0)])) st174 ?_
  refine Go.on (T' := T174) (g' := (mkF m 23 #[.val (.int pa0)] [])) (fun t k => XS.icmpYes X174.here hx rfl (pc0 := 10) (pc' := 23) rfl (hb hby d4_10) rfl (tlt hp1).2.2.1 (by decide) (by decide) k) ?_
  obtain ⟨T175, h175, X175, e175, E175, A175, D175, -, st175⟩ := newO X174 hx hZ hown (hw _ (List.mem_of_getElem? (i := 39) rfl)) (hw _ (List.mem_of_getElem? (i := 40) rfl)) (hw _ (List.mem_of_getElem? (i := 31) rfl)) e174 (g := (mkF m 23 #[.val (.int pa0)] [])) rfl (hb hby d4_23) (by decide) (by decide)
  obtain ⟨b175, g175⟩ : ∃ z, z = h0.size := ⟨_, rfl⟩
  rw [← g175] at A175 D175 st175
  have gb175 : hB.size ≤ b175 := Nat.le_trans XB.1 (Nat.le_of_eq g175.symm)
  have s0175 : h0.size ≤ b175 := Nat.le_trans (Keep.refl h0 []).1 (Nat.le_of_eq g175.symm)
  have KC175 : Keep h0 h175 [] := (Keep.refl h0 []).ext E175
  have XT175 := own_ext2 XB E175
  refine Go.on (T' := T175) (g' := (mkF m 26 #[.val (.int pa0)] [(.ref b175)])) st175 ?_
  refine Go.on (T' := T175) (g' := (mkF m 27 #[.val (.int pa0)] [(.ref b175), (.ref b175)])) (fun t k => XS.dup X175.here hx rfl (hb hby d4_26) rfl rfl k) ?_
  refine Go.on (T' := T175) (g' := (mkF m 28 #[.val (.int pa0)] [(.int pa0), (.ref b175), (.ref b175)])) (fun t k => XS.iloadN X175.here hx rfl (hb hby d4_27) rfl k) ?_
  obtain ⟨_, _, ⟨T176, L176, k176, n176⟩, -, X176, ⟨Lc176, hQ176, l176, y176, z176⟩, st176⟩ := X175.specialBack hx (y := (⟨"java/lang/Integer", "<init>", "(I)V"⟩ : MethodName)) rfl hown (mvT hZ (hw _ (List.mem_of_getElem? (i := 41) rfl))) (mvT hZ (hw _ (List.mem_of_getElem? (i := 42) rfl))) (mvT hZ (hw _ (List.mem_of_getElem? (i := 44) rfl))) (by decide) (backOf (W := 1) (rm5_0 l Z a0 hw [] w hB hP h175 XT175 pa0 b175 A175 (D175 (Or.inr (hw _ (List.mem_of_getElem? (i := 53) rfl))) (ty := .int) (by decide)) gb175) hZ (hw _ (List.mem_of_getElem? (i := 44) rfl)) (hw _ (List.mem_of_getElem? (i := 31) rfl)) (by decide) (by decide)) (g := (mkF m 28 #[.val (.int pa0)] [(.int pa0), (.ref b175), (.ref b175)])) rfl (by rw [hml]; rfl) (Steps.refl _) (a := b175) (argsL := [(.int pa0)]) (rest := [(.ref b175)]) (lenOf pd_3 rfl) rfl (by show 2 * 0 + _ ≤ _; exact Nat.le_of_eq rfl) (hb hby d4_28) (fun _ _ => ⟨rfl, e175, (by decide : 1 + 0 ≤ _), (by decide : 1 + 0 ≤ _)⟩)
  dsimp only [Pt.U, Pt.locs, Pt.cells, Pt.slots] at X176 l176 y176 z176 st176 hQ176
  subst l176 y176 z176
  obtain ⟨⟨rfl, K176, fq176_0, fq176_1, -⟩, N176q⟩ := hQ176
  have e176 : T176.heap = T176.heap := rfl
  have N176 := Fr.app N0 N176q
  have XT176 : Ext hB T176.heap := own_extK XT175 K176 (allS gb175 all0)
  have KC176 : Keep h0 T176.heap [] := KC175.trans K176 (allS (Or.inr s0175) all0)
  refine Go.on (T' := T176) (g' := (mkF m 31 #[.val (.int pa0)] [(.ref b175)])) (fun t k => st176.trans k) ?_
  obtain ⟨fs, hr, hrun, hended, hW, hsame⟩ := X176.leave (v := some (.ref b175)) (fun h => by rw [Bd.returns] at h; cases h)
  exact ⟨_, _, retOut X176 hx Bd.returns rfl (Or.inr (Or.inr (Or.inr (Or.inr ⟨rfl, rfl, rfl⟩)))) (hb hby d4_31) hr, hrun, hended, _, _, rfl, ⟨⟨b175, rfl, own_at (P := fun h => Keep h0 h [] ∧ h0.size ≤ b175 ∧ Exa Z h b175 "java/lang/Integer" ∧ Fld Z h b175 "java/lang/Integer" "value" "I" (.int pa0) ∧ True) e176 ⟨KC176, s0175, fq176_0, fq176_1, trivial⟩⟩, N176⟩, ⟨_, rfl⟩, hW, hsame.mono (by decide) (by decide)⟩
theorem d4_13 : decode jdk_33_method_22_code 13 = .ok (.getstatic 195, 3) := by decide +kernel
theorem d4_16 : decode jdk_33_method_22_code 16 = .ok (.iload_n 0, 1) := by decide +kernel
theorem d4_17 : decode jdk_33_method_22_code 17 = .ok (.sipush 128, 3) := by decide +kernel
theorem d4_20 : decode jdk_33_method_22_code 20 = .ok (.iadd, 1) := by decide +kernel
theorem d4_21 : decode jdk_33_method_22_code 21 = .ok (.aaload, 1) := by decide +kernel
theorem d4_22 : decode jdk_33_method_22_code 22 = .ok (.areturn, 1) := by decide +kernel
set_option maxRecDepth 65536 in
set_option maxHeartbeats 40000000 in
theorem rm4_2 (l : Launch) (Z : State) (a0 : Array Value) (hw : ∀ d ∈ tables_1, d.before a0 Z = true) (ws : List Jvm.Cond) (w : Nat → Addr) (hB : Heap) (hP : Pins Z hB w) (h0 : Heap) (XB : Ext hB h0) (pa0 : Int32) (hp0 : ¬ (pa0 < (-128 : Int32))) (hp1 : ¬ ((127 : Int32) < pa0)) :
    MetFree l (⟨"java/lang/Integer", "valueOf", "(I)Ljava/lang/Integer;"⟩ : MethodName) (head1 (Jvm.Cond.code (⟨"java/lang/Integer", "valueOf", "(I)Ljava/lang/Integer;"⟩ : MethodName) jdk_33_method_22_code 1 (some (.object "java/lang/Integer")) :: ws) ({ frames := 0, cells := 0, slots := 0, locals := 0 } : Room)) (fun a U => a = #[(.int pa0)] ∧ Z.Warmed39 U.vm ∧ U.heap = h0) (fun _ _ _ _ _ => True) (fun _ U o U' => ∃ v L, o = .returned v ∧ Qg (fun v h => ∃ (c0 : Addr), v = (some (.ref c0)) ∧ (Keep h0 h [] ∧ Exa Z h c0 "java/lang/Integer" ∧ True)) hB.size v U'.heap L ∧ FrameEnd U o U' L ({ frames := 0, cells := 0, slots := 0, locals := 0 } : Room).cells ({ frames := 0, cells := 0, slots := 0, locals := 0 } : Room).slots) := by
  refine MetFree.of_bodySF (plainFor_of_name pn_2) hisR ?_
  intro p e s m args below meth c s₁ Bd hml0 hP0 hK
  obtain ⟨rfl, hZ, hh⟩ := hP0
  have hx := Bd.exec
  have hby := Bd.bytes
  have hml : c.maxLocals = 1 := hml0
  have hown : s.vm.findClass "java/lang/Integer" = some m.cls := findClass_of_methodNamed Bd.named
  have hnm := (name_of_methodNamed Bd.named Bd.method).1
  have X0 : Stand p l e ({ frames := 0, cells := 0, slots := 0, locals := 0 } : Room) s m #[(.int pa0)] below meth c s₁ [] 0 0 := Stand.of_body Bd
  have e0 : s₁.heap = h0 := by rw [← hh, Bd.state]; rfl
  have N0 := Fr.nil hB.size
  suffices hgo : Go p e below (fun o U' => ∃ v L, o = .returned v ∧ Qg (fun v h => ∃ (c0 : Addr), v = (some (.ref c0)) ∧ (Keep h0 h [] ∧ Exa Z h c0 "java/lang/Integer" ∧ True)) hB.size v U'.heap L ∧ FrameEnd s o U' L ({ frames := 0, cells := 0, slots := 0, locals := 0 } : Room).cells ({ frames := 0, cells := 0, slots := 0, locals := 0 } : Room).slots) s₁ (mkF m 0 #[.val (.int pa0)] []) by
    obtain ⟨s2, o, g1, g2, g3, g4⟩ := hgo
    refine ⟨s2, o, castTop (?_ : entryFrame m #[(.int pa0)] 1 = _) g1, g2, g3, g4⟩
    first | (simp [entryFrame, mkF, argsToLocals, Value.category]; done) | rfl
  refine Go.on (T' := s₁) (g' := (mkF m 1 #[.val (.int pa0)] [(.int pa0)])) (fun t k => XS.iloadN X0.here hx rfl (hb hby d4_0) rfl k) ?_
  refine Go.on (T' := s₁) (g' := (mkF m 3 #[.val (.int pa0)] [(.int (-128 : Int32)), (.int pa0)])) (fun t k => XS.bipush X0.here hx rfl (hb hby d4_1) k) ?_
  refine Go.on (T' := s₁) (g' := (mkF m 6 #[.val (.int pa0)] [])) (fun t k => XS.icmpNo X0.here hx rfl (hb hby d4_3) rfl (flt hp0).1 k) ?_
  refine Go.on (T' := s₁) (g' := (mkF m 7 #[.val (.int pa0)] [(.int pa0)])) (fun t k => XS.iloadN X0.here hx rfl (hb hby d4_6) rfl k) ?_
  obtain ⟨T184, X184, e184, st184⟩ := getS2 X0 hx hZ hown (host := "") (Or.inl (hw _ (List.mem_of_getElem? (i := 33) rfl))) Via.refl e0 (pin_8 (pins_ext XB hP)) (g := (mkF m 7 #[.val (.int pa0)] [(.int pa0)])) rfl (hb hby d4_7)
  refine Go.on (T' := T184) (g' := (mkF m 10 #[.val (.int pa0)] [(.int (127 : Int32)), (.int pa0)])) st184 ?_
  refine Go.on (T' := T184) (g' := (mkF m 13 #[.val (.int pa0)] [])) (fun t k => XS.icmpNo X184.here hx rfl (hb hby d4_10) rfl (flt hp1).2.2.1 k) ?_
  obtain ⟨T185, X185, e185, st185⟩ := getS2 X184 hx hZ hown (host := "") (Or.inl (hw _ (List.mem_of_getElem? (i := 35) rfl))) Via.refl e184 (pin_0 (pins_ext XB hP)) (g := (mkF m 13 #[.val (.int pa0)] [])) rfl (hb hby d4_13)
  refine Go.on (T' := T185) (g' := (mkF m 16 #[.val (.int pa0)] [(.ref (w 0))])) st185 ?_
  refine Go.on (T' := T185) (g' := (mkF m 17 #[.val (.int pa0)] [(.int pa0), (.ref (w 0))])) (fun t k => XS.iloadN X185.here hx rfl (hb hby d4_16) rfl k) ?_
  refine Go.on (T' := T185) (g' := (mkF m 20 #[.val (.int pa0)] [(.int (128 : Int32)), (.int pa0), (.ref (w 0))])) (fun t k => XS.sipush X185.here hx rfl (hb hby d4_17) k) ?_
  refine Go.on (T' := T185) (g' := (mkF m 21 #[.val (.int pa0)] [(.int (pa0 + (128 : Int32))), (.ref (w 0))])) (fun t k => XS.iadd X185.here hx rfl (hb hby d4_20) rfl k) ?_
  obtain ⟨cl186, Aq186, sq186, hq186⟩ := (pin_9 (pins_ext XB hP))
  have hi186 := own_idx hp0 hp1
  obtain ⟨b186, q186, E186⟩ := hq186 _ hi186
  refine Go.on (T' := T185) (g' := (mkF m 22 #[.val (.int pa0)] [(.ref b186)])) (fun t k => X185.aaload hx (j := (pa0 + (128 : Int32))) (v := .ref b186) (by rw [e185]; exact Aq186.1) (State.isArrayOf_alike hZ.alike Aq186.2.1) rfl Aq186.2.2 (by rw [sq186]; exact hi186) q186 (g := (mkF m 21 #[.val (.int pa0)] [(.int (pa0 + (128 : Int32))), (.ref (w 0))])) rfl rfl (hb hby d4_21) t k) ?_
  obtain ⟨fs, hr, hrun, hended, hW, hsame⟩ := X185.leave (v := some (.ref b186)) (fun h => by rw [Bd.returns] at h; cases h)
  exact ⟨_, _, retOut X185 hx Bd.returns rfl (Or.inr (Or.inr (Or.inr (Or.inr ⟨rfl, rfl, rfl⟩)))) (hb hby d4_22) hr, hrun, hended, _, _, rfl, ⟨⟨b186, rfl, own_at (P := fun h => Keep h0 h [] ∧ Exa Z h b186 "java/lang/Integer" ∧ True) e185 ⟨(Keep.refl h0 []), E186, trivial⟩⟩, N0⟩, ⟨_, rfl⟩, hW, hsame.mono (by decide) (by decide)⟩
set_option maxRecDepth 65536 in
set_option maxHeartbeats 40000000 in
theorem rm3_7 (l : Launch) (Z : State) (a0 : Array Value) (hw : ∀ d ∈ tables_1, d.before a0 Z = true) (ws : List Jvm.Cond) (w : Nat → Addr) (hB : Heap) (hP : Pins Z hB w) (h0 : Heap) (XB : Ext hB h0) (o0 : Addr) (fo0_white : Int32) (fo0_black : Int32) (fo0_kings : Int32) (fo0_sideToMove : Addr) (o1 : Addr) (E_o0 : Exa Z h0 o0 "com/example/pedina/pedina/rules/Position") (F_o0_white : Fld Z h0 o0 "com/example/pedina/pedina/rules/Position" "white" "I" (.int fo0_white)) (F_o0_black : Fld Z h0 o0 "com/example/pedina/pedina/rules/Position" "black" "I" (.int fo0_black)) (F_o0_kings : Fld Z h0 o0 "com/example/pedina/pedina/rules/Position" "kings" "I" (.int fo0_kings)) (F_o0_sideToMove : Fld Z h0 o0 "com/example/pedina/pedina/rules/Position" "sideToMove" "Lcom/example/pedina/pedina/rules/Side;" (.ref fo0_sideToMove)) (g_o0 : hB.size ≤ o0) (E_o1 : Exa Z h0 o1 "java/lang/Integer") :
    MetFree l (⟨"com/example/pedina/pedina/rules/Position", "equals", "(Ljava/lang/Object;)Z"⟩ : MethodName) (head1 (Jvm.Cond.code (⟨"com/example/pedina/pedina/rules/Position", "equals", "(Ljava/lang/Object;)Z"⟩ : MethodName) prog_27_method_9_code 3 (some .boolean) :: ws) ({ frames := 0, cells := 0, slots := 0, locals := 0 } : Room)) (fun a U => a = #[(.ref o0), (.ref o1)] ∧ Z.Warmed39 U.vm ∧ U.heap = h0) (fun _ _ _ _ _ => True) (fun _ U o U' => ∃ v L, o = .returned v ∧ Qg (fun v h => v = (some (.int (0 : Int32))) ∧ h = h0) hB.size v U'.heap L ∧ FrameEnd U o U' L ({ frames := 0, cells := 0, slots := 0, locals := 0 } : Room).cells ({ frames := 0, cells := 0, slots := 0, locals := 0 } : Room).slots) := by
  refine MetFree.of_bodySF (plainFor_of_name pn_0) hisR ?_
  intro p e s m args below meth c s₁ Bd hml0 hP0 hK
  obtain ⟨rfl, hZ, hh⟩ := hP0
  have hx := Bd.exec
  have hby := Bd.bytes
  have hml : c.maxLocals = 3 := hml0
  have hown : s.vm.findClass "com/example/pedina/pedina/rules/Position" = some m.cls := findClass_of_methodNamed Bd.named
  have hnm := (name_of_methodNamed Bd.named Bd.method).1
  have X0 : Stand p l e ({ frames := 0, cells := 0, slots := 0, locals := 0 } : Room) s m #[(.ref o0), (.ref o1)] below meth c s₁ [] 0 0 := Stand.of_body Bd
  have e0 : s₁.heap = h0 := by rw [← hh, Bd.state]; rfl
  have N0 := Fr.nil hB.size
  suffices hgo : Go p e below (fun o U' => ∃ v L, o = .returned v ∧ Qg (fun v h => v = (some (.int (0 : Int32))) ∧ h = h0) hB.size v U'.heap L ∧ FrameEnd s o U' L ({ frames := 0, cells := 0, slots := 0, locals := 0 } : Room).cells ({ frames := 0, cells := 0, slots := 0, locals := 0 } : Room).slots) s₁ (mkF m 0 #[.val (.ref o0), .val (.ref o1), .unset] []) by
    obtain ⟨s2, o, g1, g2, g3, g4⟩ := hgo
    refine ⟨s2, o, castTop (?_ : entryFrame m #[(.ref o0), (.ref o1)] 3 = _) g1, g2, g3, g4⟩
    first | (simp [entryFrame, mkF, argsToLocals, Value.category]; done) | rfl
  refine Go.on (T' := s₁) (g' := (mkF m 1 #[.val (.ref o0), .val (.ref o1), .unset] [(.ref o1)])) (fun t k => XS.aloadN X0.here hx rfl (hb hby d3_0) rfl rfl k) ?_
  obtain ⟨T190, X190, e190, st190⟩ := instNo X0 hx hZ hown (hw _ (List.mem_of_getElem? (i := 25) rfl)) e0 E_o1 (own_NSno (hw _ (List.mem_of_getElem? (i := 36) rfl)) (hw _ (List.mem_of_getElem? (i := 4) rfl)) (NS.step (hw _ (List.mem_of_getElem? (i := 36) rfl)) (NS.step (hw _ (List.mem_of_getElem? (i := 37) rfl)) (own_NSroot (hw _ (List.mem_of_getElem? (i := 38) rfl)) (hw _ (List.mem_of_getElem? (i := 4) rfl)) (by decide)) (by decide)) (by decide)) (by decide)) (g := (mkF m 1 #[.val (.ref o0), .val (.ref o1), .unset] [(.ref o1)])) rfl rfl (hb hby d3_1)
  refine Go.on (T' := T190) (g' := (mkF m 4 #[.val (.ref o0), .val (.ref o1), .unset] [(.int (0 : Int32))])) st190 ?_
  refine Go.on (T' := T190) (g' := (mkF m 60 #[.val (.ref o0), .val (.ref o1), .unset] [])) (fun t k => XS.ifYes X190.here hx rfl (pc0 := 4) (pc' := 60) rfl (hb hby d3_4) rfl ((if0 _ _).trans (teq (by decide : (0 : Int32) = (0 : Int32))).1) (by decide) (by decide) k) ?_
  refine Go.on (T' := T190) (g' := (mkF m 61 #[.val (.ref o0), .val (.ref o1), .unset] [(.int (0 : Int32))])) (fun t k => XS.iconst X190.here hx rfl (hb hby d3_60) k) ?_
  obtain ⟨fs, hr, hrun, hended, hW, hsame⟩ := X190.leave (v := some (.int (0 : Int32))) (fun h => by rw [Bd.returns] at h; cases h)
  exact ⟨_, _, retN X190 hx (t := .boolean) Bd.returns (by simp) (hb hby d3_61) hr, hrun, hended, _, _, rfl, ⟨⟨rfl, e190⟩, N0⟩, ⟨_, rfl⟩, hW, hsame.mono (by decide) (by decide)⟩
set_option maxRecDepth 65536 in
set_option maxHeartbeats 40000000 in
theorem rm3_8 (l : Launch) (Z : State) (a0 : Array Value) (hw : ∀ d ∈ tables_1, d.before a0 Z = true) (ws : List Jvm.Cond) (w : Nat → Addr) (hB : Heap) (hP : Pins Z hB w) (h0 : Heap) (XB : Ext hB h0) (o0 : Addr) (fo0_white : Int32) (fo0_black : Int32) (fo0_kings : Int32) (fo0_sideToMove : Addr) (E_o0 : Exa Z h0 o0 "com/example/pedina/pedina/rules/Position") (F_o0_white : Fld Z h0 o0 "com/example/pedina/pedina/rules/Position" "white" "I" (.int fo0_white)) (F_o0_black : Fld Z h0 o0 "com/example/pedina/pedina/rules/Position" "black" "I" (.int fo0_black)) (F_o0_kings : Fld Z h0 o0 "com/example/pedina/pedina/rules/Position" "kings" "I" (.int fo0_kings)) (F_o0_sideToMove : Fld Z h0 o0 "com/example/pedina/pedina/rules/Position" "sideToMove" "Lcom/example/pedina/pedina/rules/Side;" (.ref fo0_sideToMove)) (g_o0 : hB.size ≤ o0) :
    MetFree l (⟨"com/example/pedina/pedina/rules/Position", "equals", "(Ljava/lang/Object;)Z"⟩ : MethodName) (head1 (Jvm.Cond.code (⟨"com/example/pedina/pedina/rules/Position", "equals", "(Ljava/lang/Object;)Z"⟩ : MethodName) prog_27_method_9_code 3 (some .boolean) :: ws) ({ frames := 0, cells := 0, slots := 0, locals := 0 } : Room)) (fun a U => a = #[(.ref o0), (.ref o0)] ∧ Z.Warmed39 U.vm ∧ U.heap = h0) (fun _ _ _ _ _ => True) (fun _ U o U' => ∃ v L, o = .returned v ∧ Qg (fun v h => v = (some (.int (1 : Int32))) ∧ h = h0) hB.size v U'.heap L ∧ FrameEnd U o U' L ({ frames := 0, cells := 0, slots := 0, locals := 0 } : Room).cells ({ frames := 0, cells := 0, slots := 0, locals := 0 } : Room).slots) := by
  refine MetFree.of_bodySF (plainFor_of_name pn_0) hisR ?_
  intro p e s m args below meth c s₁ Bd hml0 hP0 hK
  obtain ⟨rfl, hZ, hh⟩ := hP0
  have hx := Bd.exec
  have hby := Bd.bytes
  have hml : c.maxLocals = 3 := hml0
  have hown : s.vm.findClass "com/example/pedina/pedina/rules/Position" = some m.cls := findClass_of_methodNamed Bd.named
  have hnm := (name_of_methodNamed Bd.named Bd.method).1
  have X0 : Stand p l e ({ frames := 0, cells := 0, slots := 0, locals := 0 } : Room) s m #[(.ref o0), (.ref o0)] below meth c s₁ [] 0 0 := Stand.of_body Bd
  have e0 : s₁.heap = h0 := by rw [← hh, Bd.state]; rfl
  have N0 := Fr.nil hB.size
  suffices hgo : Go p e below (fun o U' => ∃ v L, o = .returned v ∧ Qg (fun v h => v = (some (.int (1 : Int32))) ∧ h = h0) hB.size v U'.heap L ∧ FrameEnd s o U' L ({ frames := 0, cells := 0, slots := 0, locals := 0 } : Room).cells ({ frames := 0, cells := 0, slots := 0, locals := 0 } : Room).slots) s₁ (mkF m 0 #[.val (.ref o0), .val (.ref o0), .unset] []) by
    obtain ⟨s2, o, g1, g2, g3, g4⟩ := hgo
    refine ⟨s2, o, castTop (?_ : entryFrame m #[(.ref o0), (.ref o0)] 3 = _) g1, g2, g3, g4⟩
    first | (simp [entryFrame, mkF, argsToLocals, Value.category]; done) | rfl
  refine Go.on (T' := s₁) (g' := (mkF m 1 #[.val (.ref o0), .val (.ref o0), .unset] [(.ref o0)])) (fun t k => XS.aloadN X0.here hx rfl (hb hby d3_0) rfl rfl k) ?_
  obtain ⟨T207, X207, e207, st207⟩ := instY X0 hx hZ hown (hw _ (List.mem_of_getElem? (i := 25) rfl)) e0 (Ins.self E_o0) (g := (mkF m 1 #[.val (.ref o0), .val (.ref o0), .unset] [(.ref o0)])) rfl rfl (hb hby d3_1)
  refine Go.on (T' := T207) (g' := (mkF m 4 #[.val (.ref o0), .val (.ref o0), .unset] [(.int (1 : Int32))])) st207 ?_
  refine Go.on (T' := T207) (g' := (mkF m 7 #[.val (.ref o0), .val (.ref o0), .unset] [])) (fun t k => XS.ifNo X207.here hx rfl (hb hby d3_4) rfl ((if0 _ _).trans (feq (by decide : ¬ ((1 : Int32) = (0 : Int32)))).1) k) ?_
  refine Go.on (T' := T207) (g' := (mkF m 8 #[.val (.ref o0), .val (.ref o0), .unset] [(.ref o0)])) (fun t k => XS.aloadN X207.here hx rfl (hb hby d3_7) rfl rfl k) ?_
  obtain ⟨T208, X208, e208, st208⟩ := castY X207 hx hZ hown (hw _ (List.mem_of_getElem? (i := 25) rfl)) e207 (Ins.self E_o0) (g := (mkF m 8 #[.val (.ref o0), .val (.ref o0), .unset] [(.ref o0)])) rfl rfl (hb hby d3_8)
  refine Go.on (T' := T208) (g' := (mkF m 11 #[.val (.ref o0), .val (.ref o0), .unset] [(.ref o0)])) st208 ?_
  refine Go.on (T' := T208) (g' := (mkF m 12 #[.val (.ref o0), .val (.ref o0), .val (.ref o0)] [])) (fun t k => XS.astoreN X208.here hx rfl (hb hby d3_11) rfl rfl (l' := #[.val (.ref o0), .val (.ref o0), .val (.ref o0)]) rfl k) ?_
  refine Go.on (T' := T208) (g' := (mkF m 13 #[.val (.ref o0), .val (.ref o0), .val (.ref o0)] [(.ref o0)])) (fun t k => XS.aloadN X208.here hx rfl (hb hby d3_12) rfl rfl k) ?_
  obtain ⟨T209, X209, e209, st209⟩ := getF X208 hx hZ hown (host := "") (Or.inl (hw _ (List.mem_of_getElem? (i := 12) rfl))) Via.refl e208 F_o0_white (g := (mkF m 13 #[.val (.ref o0), .val (.ref o0), .val (.ref o0)] [(.ref o0)])) rfl rfl (hb hby d3_13)
  refine Go.on (T' := T209) (g' := (mkF m 16 #[.val (.ref o0), .val (.ref o0), .val (.ref o0)] [(.int fo0_white)])) st209 ?_
  refine Go.on (T' := T209) (g' := (mkF m 17 #[.val (.ref o0), .val (.ref o0), .val (.ref o0)] [(.ref o0), (.int fo0_white)])) (fun t k => XS.aloadN X209.here hx rfl (hb hby d3_16) rfl rfl k) ?_
  obtain ⟨T210, X210, e210, st210⟩ := getF X209 hx hZ hown (host := "") (Or.inl (hw _ (List.mem_of_getElem? (i := 12) rfl))) Via.refl e209 F_o0_white (g := (mkF m 17 #[.val (.ref o0), .val (.ref o0), .val (.ref o0)] [(.ref o0), (.int fo0_white)])) rfl rfl (hb hby d3_17)
  refine Go.on (T' := T210) (g' := (mkF m 20 #[.val (.ref o0), .val (.ref o0), .val (.ref o0)] [(.int fo0_white), (.int fo0_white)])) st210 ?_
  refine Go.on (T' := T210) (g' := (mkF m 23 #[.val (.ref o0), .val (.ref o0), .val (.ref o0)] [])) (fun t k => XS.icmpNo X210.here hx rfl (hb hby d3_20) rfl (teq rfl).2 k) ?_
  refine Go.on (T' := T210) (g' := (mkF m 24 #[.val (.ref o0), .val (.ref o0), .val (.ref o0)] [(.ref o0)])) (fun t k => XS.aloadN X210.here hx rfl (hb hby d3_23) rfl rfl k) ?_
  obtain ⟨T211, X211, e211, st211⟩ := getF X210 hx hZ hown (host := "") (Or.inl (hw _ (List.mem_of_getElem? (i := 14) rfl))) Via.refl e210 F_o0_black (g := (mkF m 24 #[.val (.ref o0), .val (.ref o0), .val (.ref o0)] [(.ref o0)])) rfl rfl (hb hby d3_24)
  refine Go.on (T' := T211) (g' := (mkF m 27 #[.val (.ref o0), .val (.ref o0), .val (.ref o0)] [(.int fo0_black)])) st211 ?_
  refine Go.on (T' := T211) (g' := (mkF m 28 #[.val (.ref o0), .val (.ref o0), .val (.ref o0)] [(.ref o0), (.int fo0_black)])) (fun t k => XS.aloadN X211.here hx rfl (hb hby d3_27) rfl rfl k) ?_
  obtain ⟨T212, X212, e212, st212⟩ := getF X211 hx hZ hown (host := "") (Or.inl (hw _ (List.mem_of_getElem? (i := 14) rfl))) Via.refl e211 F_o0_black (g := (mkF m 28 #[.val (.ref o0), .val (.ref o0), .val (.ref o0)] [(.ref o0), (.int fo0_black)])) rfl rfl (hb hby d3_28)
  refine Go.on (T' := T212) (g' := (mkF m 31 #[.val (.ref o0), .val (.ref o0), .val (.ref o0)] [(.int fo0_black), (.int fo0_black)])) st212 ?_
  refine Go.on (T' := T212) (g' := (mkF m 34 #[.val (.ref o0), .val (.ref o0), .val (.ref o0)] [])) (fun t k => XS.icmpNo X212.here hx rfl (hb hby d3_31) rfl (teq rfl).2 k) ?_
  refine Go.on (T' := T212) (g' := (mkF m 35 #[.val (.ref o0), .val (.ref o0), .val (.ref o0)] [(.ref o0)])) (fun t k => XS.aloadN X212.here hx rfl (hb hby d3_34) rfl rfl k) ?_
  obtain ⟨T213, X213, e213, st213⟩ := getF X212 hx hZ hown (host := "") (Or.inl (hw _ (List.mem_of_getElem? (i := 16) rfl))) Via.refl e212 F_o0_kings (g := (mkF m 35 #[.val (.ref o0), .val (.ref o0), .val (.ref o0)] [(.ref o0)])) rfl rfl (hb hby d3_35)
  refine Go.on (T' := T213) (g' := (mkF m 38 #[.val (.ref o0), .val (.ref o0), .val (.ref o0)] [(.int fo0_kings)])) st213 ?_
  refine Go.on (T' := T213) (g' := (mkF m 39 #[.val (.ref o0), .val (.ref o0), .val (.ref o0)] [(.ref o0), (.int fo0_kings)])) (fun t k => XS.aloadN X213.here hx rfl (hb hby d3_38) rfl rfl k) ?_
  obtain ⟨T214, X214, e214, st214⟩ := getF X213 hx hZ hown (host := "") (Or.inl (hw _ (List.mem_of_getElem? (i := 16) rfl))) Via.refl e213 F_o0_kings (g := (mkF m 39 #[.val (.ref o0), .val (.ref o0), .val (.ref o0)] [(.ref o0), (.int fo0_kings)])) rfl rfl (hb hby d3_39)
  refine Go.on (T' := T214) (g' := (mkF m 42 #[.val (.ref o0), .val (.ref o0), .val (.ref o0)] [(.int fo0_kings), (.int fo0_kings)])) st214 ?_
  refine Go.on (T' := T214) (g' := (mkF m 45 #[.val (.ref o0), .val (.ref o0), .val (.ref o0)] [])) (fun t k => XS.icmpNo X214.here hx rfl (hb hby d3_42) rfl (teq rfl).2 k) ?_
  refine Go.on (T' := T214) (g' := (mkF m 46 #[.val (.ref o0), .val (.ref o0), .val (.ref o0)] [(.ref o0)])) (fun t k => XS.aloadN X214.here hx rfl (hb hby d3_45) rfl rfl k) ?_
  obtain ⟨T215, X215, e215, st215⟩ := getF X214 hx hZ hown (host := "") (Or.inl (hw _ (List.mem_of_getElem? (i := 18) rfl))) Via.refl e214 F_o0_sideToMove (g := (mkF m 46 #[.val (.ref o0), .val (.ref o0), .val (.ref o0)] [(.ref o0)])) rfl rfl (hb hby d3_46)
  refine Go.on (T' := T215) (g' := (mkF m 49 #[.val (.ref o0), .val (.ref o0), .val (.ref o0)] [(.ref fo0_sideToMove)])) st215 ?_
  refine Go.on (T' := T215) (g' := (mkF m 50 #[.val (.ref o0), .val (.ref o0), .val (.ref o0)] [(.ref o0), (.ref fo0_sideToMove)])) (fun t k => XS.aloadN X215.here hx rfl (hb hby d3_49) rfl rfl k) ?_
  obtain ⟨T216, X216, e216, st216⟩ := getF X215 hx hZ hown (host := "") (Or.inl (hw _ (List.mem_of_getElem? (i := 18) rfl))) Via.refl e215 F_o0_sideToMove (g := (mkF m 50 #[.val (.ref o0), .val (.ref o0), .val (.ref o0)] [(.ref o0), (.ref fo0_sideToMove)])) rfl rfl (hb hby d3_50)
  refine Go.on (T' := T216) (g' := (mkF m 53 #[.val (.ref o0), .val (.ref o0), .val (.ref o0)] [(.ref fo0_sideToMove), (.ref fo0_sideToMove)])) st216 ?_
  refine Go.on (T' := T216) (g' := (mkF m 56 #[.val (.ref o0), .val (.ref o0), .val (.ref o0)] [])) (fun t k => Jvm.RoadKit.acmp (g := (mkF m 53 #[.val (.ref o0), .val (.ref o0), .val (.ref o0)] [(.ref fo0_sideToMove), (.ref fo0_sideToMove)])) X216 hx rfl rfl rfl (pc0 := 53) (pc' := 56) (same := true) rfl (hb hby d3_53) rfl (decide_eq_true rfl) (by decide) (by decide) k) ?_
  refine Go.on (T' := T216) (g' := (mkF m 57 #[.val (.ref o0), .val (.ref o0), .val (.ref o0)] [(.int (1 : Int32))])) (fun t k => XS.iconst X216.here hx rfl (hb hby d3_56) k) ?_
  refine Go.on (T' := T216) (g' := (mkF m 61 #[.val (.ref o0), .val (.ref o0), .val (.ref o0)] [(.int (1 : Int32))])) (fun t k => XS.goto X216.here hx rfl (pc0 := 57) (pc' := 61) rfl (hb hby d3_57) (by decide) (by decide) k) ?_
  obtain ⟨fs, hr, hrun, hended, hW, hsame⟩ := X216.leave (v := some (.int (1 : Int32))) (fun h => by rw [Bd.returns] at h; cases h)
  exact ⟨_, _, retN X216 hx (t := .boolean) Bd.returns (by simp) (hb hby d3_61) hr, hrun, hended, _, _, rfl, ⟨⟨rfl, e216⟩, N0⟩, ⟨_, rfl⟩, hW, hsame.mono (by decide) (by decide)⟩
theorem pn_3 : plainName "com/example/pedina/pedina/rules/PositionEqualsPinLaw" = true := by first | (simp [plainName, overriddenIn]; done) | decide +kernel
set_option maxRecDepth 65536 in
set_option maxHeartbeats 40000000 in
theorem rm0 (l : Launch) (Z : State) (a0 : Array Value) (hw : ∀ d ∈ tables_1, d.before a0 Z = true) (ws : List Jvm.Cond) (w : Nat → Addr) (hB : Heap) (hP : Pins Z hB w) (h0 : Heap) (XB : Ext hB h0) (i0 : Int32) (i1 : Int32) (i2 : Int32) (i3 : Int32) (i4 : Int32) (i5 : Int32) :
    MetFree l x (head1 (Jvm.Cond.code x code maxLocals ret :: ws) room_1) (fun a U => a = #[(.int i0), (.int i1), (.int i2), (.int i3), (.int i4), (.int i5)] ∧ Z.Warmed39 U.vm ∧ U.heap = h0) (fun _ _ _ _ _ => True) (fun _ U o U' => ∃ v L, o = .returned v ∧ (v = some (.int (1 : Int32)) ∧ Fr hB.size L) ∧ FrameEnd U o U' L 16 128) := by
  refine MetFree.of_bodySF (plainFor_of_name pn_3) hisR ?_
  intro p e s m args below meth c s₁ Bd hml0 hP0 hK
  obtain ⟨rfl, hZ, hh⟩ := hP0
  have hx := Bd.exec
  have hby := Bd.bytes
  have hml : c.maxLocals = 15 := hml0
  have hown : s.vm.findClass "com/example/pedina/pedina/rules/PositionEqualsPinLaw" = some m.cls := findClass_of_methodNamed Bd.named
  have hnm := (name_of_methodNamed Bd.named Bd.method).1
  have X0 : Stand p l e room_1 s m #[(.int i0), (.int i1), (.int i2), (.int i3), (.int i4), (.int i5)] below meth c s₁ [] 0 0 := Stand.of_body Bd
  have e0 : s₁.heap = h0 := by rw [← hh, Bd.state]; rfl
  have N0 := Fr.nil hB.size
  suffices hgo : ∀ G : Outcome → State → Prop, G = (fun o U' => ∃ v L, o = .returned v ∧ (v = some (.int (1 : Int32)) ∧ Fr hB.size L) ∧ FrameEnd s o U' L 16 128) → Go p e below G s₁ (mkF m 0 #[.val (.int i0), .val (.int i1), .val (.int i2), .val (.int i3), .val (.int i4), .val (.int i5), .unset, .unset, .unset, .unset, .unset, .unset, .unset, .unset, .unset] []) by
    obtain ⟨s2, o, g1, g2, g3, g4⟩ := hgo _ rfl
    refine ⟨s2, o, castTop (?_ : entryFrame m #[(.int i0), (.int i1), (.int i2), (.int i3), (.int i4), (.int i5)] maxLocals = _) g1, g2, g3, g4⟩
    first | (simp [entryFrame, mkF, argsToLocals, Value.category, maxLocals]; done) | rfl
  intro G hG
  refine Go.on (T' := s₁) (g' := (mkF m 2 #[.val (.int i0), .val (.int i1), .val (.int i2), .val (.int i3), .val (.int i4), .val (.int i5), .unset, .unset, .unset, .unset, .unset, .unset, .unset, .unset, .unset] [(.int i5)])) (fun t k => XS.iload X0.here hx rfl (hb hby at_0) rfl k) ?_
  refine Go.on (T' := s₁) (g' := (mkF m 3 #[.val (.int i0), .val (.int i1), .val (.int i2), .val (.int i3), .val (.int i4), .val (.int i5), .unset, .unset, .unset, .unset, .unset, .unset, .unset, .unset, .unset] [(.int (1 : Int32)), (.int i5)])) (fun t k => XS.iconst X0.here hx rfl (hb hby at_2) k) ?_
  refine Go.on (T' := s₁) (g' := (mkF m 4 #[.val (.int i0), .val (.int i1), .val (.int i2), .val (.int i3), .val (.int i4), .val (.int i5), .unset, .unset, .unset, .unset, .unset, .unset, .unset, .unset, .unset] [(.int (i5 &&& (1 : Int32)))])) (fun t k => XS.iand X0.here hx rfl (hb hby at_3) rfl k) ?_
  suffices J1 : ∀ (T : State) (v1 : Int32), Stand p l e room_1 s m #[(.int i0), (.int i1), (.int i2), (.int i3), (.int i4), (.int i5)] below meth c T [] 0 0 → T.heap = h0 → Go p e below G T (mkF m 12 #[.val (.int i0), .val (.int i1), .val (.int i2), .val (.int i3), .val (.int i4), .val (.int i5), .unset, .unset, .unset, .unset, .unset, .unset, .unset, .unset, .unset] [(.int v1)]) by
    by_cases h2 : (i5 &&& (1 : Int32)) = (0 : Int32)
    · skip
      refine Go.on (T' := s₁) (g' := (mkF m 11 #[.val (.int i0), .val (.int i1), .val (.int i2), .val (.int i3), .val (.int i4), .val (.int i5), .unset, .unset, .unset, .unset, .unset, .unset, .unset, .unset, .unset] [])) (fun t k => XS.ifYes X0.here hx rfl (pc0 := 4) (pc' := 11) rfl (hb hby at_4) rfl ((if0 _ _).trans (teq h2).1) (by decide) (by decide) k) ?_
      refine Go.on (T' := s₁) (g' := (mkF m 12 #[.val (.int i0), .val (.int i1), .val (.int i2), .val (.int i3), .val (.int i4), .val (.int i5), .unset, .unset, .unset, .unset, .unset, .unset, .unset, .unset, .unset] [(.int i3)])) (fun t k => XS.iloadN X0.here hx rfl (hb hby at_11) rfl k) ?_
      exact J1 _ _ X0 e0
    · skip
      refine Go.on (T' := s₁) (g' := (mkF m 7 #[.val (.int i0), .val (.int i1), .val (.int i2), .val (.int i3), .val (.int i4), .val (.int i5), .unset, .unset, .unset, .unset, .unset, .unset, .unset, .unset, .unset] [])) (fun t k => XS.ifNo X0.here hx rfl (hb hby at_4) rfl ((if0 _ _).trans (feq h2).1) k) ?_
      refine Go.on (T' := s₁) (g' := (mkF m 8 #[.val (.int i0), .val (.int i1), .val (.int i2), .val (.int i3), .val (.int i4), .val (.int i5), .unset, .unset, .unset, .unset, .unset, .unset, .unset, .unset, .unset] [(.int i0)])) (fun t k => XS.iloadN X0.here hx rfl (hb hby at_7) rfl k) ?_
      refine Go.on (T' := s₁) (g' := (mkF m 12 #[.val (.int i0), .val (.int i1), .val (.int i2), .val (.int i3), .val (.int i4), .val (.int i5), .unset, .unset, .unset, .unset, .unset, .unset, .unset, .unset, .unset] [(.int i0)])) (fun t k => XS.goto X0.here hx rfl (pc0 := 8) (pc' := 12) rfl (hb hby at_8) (by decide) (by decide) k) ?_
      exact J1 _ _ X0 e0
  intro T1 v1 X1 e1
  refine Go.on (T' := T1) (g' := (mkF m 14 #[.val (.int i0), .val (.int i1), .val (.int i2), .val (.int i3), .val (.int i4), .val (.int i5), .val (.int v1), .unset, .unset, .unset, .unset, .unset, .unset, .unset, .unset] [])) (fun t k => XS.istore X1.here hx rfl (hb hby at_12) rfl (l' := #[.val (.int i0), .val (.int i1), .val (.int i2), .val (.int i3), .val (.int i4), .val (.int i5), .val (.int v1), .unset, .unset, .unset, .unset, .unset, .unset, .unset, .unset]) rfl k) ?_
  refine Go.on (T' := T1) (g' := (mkF m 16 #[.val (.int i0), .val (.int i1), .val (.int i2), .val (.int i3), .val (.int i4), .val (.int i5), .val (.int v1), .unset, .unset, .unset, .unset, .unset, .unset, .unset, .unset] [(.int i5)])) (fun t k => XS.iload X1.here hx rfl (hb hby at_14) rfl k) ?_
  refine Go.on (T' := T1) (g' := (mkF m 17 #[.val (.int i0), .val (.int i1), .val (.int i2), .val (.int i3), .val (.int i4), .val (.int i5), .val (.int v1), .unset, .unset, .unset, .unset, .unset, .unset, .unset, .unset] [(.int (2 : Int32)), (.int i5)])) (fun t k => XS.iconst X1.here hx rfl (hb hby at_16) k) ?_
  refine Go.on (T' := T1) (g' := (mkF m 18 #[.val (.int i0), .val (.int i1), .val (.int i2), .val (.int i3), .val (.int i4), .val (.int i5), .val (.int v1), .unset, .unset, .unset, .unset, .unset, .unset, .unset, .unset] [(.int (i5 &&& (2 : Int32)))])) (fun t k => XS.iand X1.here hx rfl (hb hby at_17) rfl k) ?_
  suffices J3 : ∀ (T : State) (v3 : Int32), Stand p l e room_1 s m #[(.int i0), (.int i1), (.int i2), (.int i3), (.int i4), (.int i5)] below meth c T [] 0 0 → T.heap = h0 → Go p e below G T (mkF m 27 #[.val (.int i0), .val (.int i1), .val (.int i2), .val (.int i3), .val (.int i4), .val (.int i5), .val (.int v1), .unset, .unset, .unset, .unset, .unset, .unset, .unset, .unset] [(.int v3)]) by
    by_cases h4 : (i5 &&& (2 : Int32)) = (0 : Int32)
    · skip
      refine Go.on (T' := T1) (g' := (mkF m 25 #[.val (.int i0), .val (.int i1), .val (.int i2), .val (.int i3), .val (.int i4), .val (.int i5), .val (.int v1), .unset, .unset, .unset, .unset, .unset, .unset, .unset, .unset] [])) (fun t k => XS.ifYes X1.here hx rfl (pc0 := 18) (pc' := 25) rfl (hb hby at_18) rfl ((if0 _ _).trans (teq h4).1) (by decide) (by decide) k) ?_
      refine Go.on (T' := T1) (g' := (mkF m 27 #[.val (.int i0), .val (.int i1), .val (.int i2), .val (.int i3), .val (.int i4), .val (.int i5), .val (.int v1), .unset, .unset, .unset, .unset, .unset, .unset, .unset, .unset] [(.int i4)])) (fun t k => XS.iload X1.here hx rfl (hb hby at_25) rfl k) ?_
      exact J3 _ _ X1 e1
    · skip
      refine Go.on (T' := T1) (g' := (mkF m 21 #[.val (.int i0), .val (.int i1), .val (.int i2), .val (.int i3), .val (.int i4), .val (.int i5), .val (.int v1), .unset, .unset, .unset, .unset, .unset, .unset, .unset, .unset] [])) (fun t k => XS.ifNo X1.here hx rfl (hb hby at_18) rfl ((if0 _ _).trans (feq h4).1) k) ?_
      refine Go.on (T' := T1) (g' := (mkF m 22 #[.val (.int i0), .val (.int i1), .val (.int i2), .val (.int i3), .val (.int i4), .val (.int i5), .val (.int v1), .unset, .unset, .unset, .unset, .unset, .unset, .unset, .unset] [(.int i1)])) (fun t k => XS.iloadN X1.here hx rfl (hb hby at_21) rfl k) ?_
      refine Go.on (T' := T1) (g' := (mkF m 27 #[.val (.int i0), .val (.int i1), .val (.int i2), .val (.int i3), .val (.int i4), .val (.int i5), .val (.int v1), .unset, .unset, .unset, .unset, .unset, .unset, .unset, .unset] [(.int i1)])) (fun t k => XS.goto X1.here hx rfl (pc0 := 22) (pc' := 27) rfl (hb hby at_22) (by decide) (by decide) k) ?_
      exact J3 _ _ X1 e1
  intro T3 v3 X3 e3
  refine Go.on (T' := T3) (g' := (mkF m 29 #[.val (.int i0), .val (.int i1), .val (.int i2), .val (.int i3), .val (.int i4), .val (.int i5), .val (.int v1), .val (.int v3), .unset, .unset, .unset, .unset, .unset, .unset, .unset] [])) (fun t k => XS.istore X3.here hx rfl (hb hby at_27) rfl (l' := #[.val (.int i0), .val (.int i1), .val (.int i2), .val (.int i3), .val (.int i4), .val (.int i5), .val (.int v1), .val (.int v3), .unset, .unset, .unset, .unset, .unset, .unset, .unset]) rfl k) ?_
  refine Go.on (T' := T3) (g' := (mkF m 31 #[.val (.int i0), .val (.int i1), .val (.int i2), .val (.int i3), .val (.int i4), .val (.int i5), .val (.int v1), .val (.int v3), .unset, .unset, .unset, .unset, .unset, .unset, .unset] [(.int i5)])) (fun t k => XS.iload X3.here hx rfl (hb hby at_29) rfl k) ?_
  refine Go.on (T' := T3) (g' := (mkF m 32 #[.val (.int i0), .val (.int i1), .val (.int i2), .val (.int i3), .val (.int i4), .val (.int i5), .val (.int v1), .val (.int v3), .unset, .unset, .unset, .unset, .unset, .unset, .unset] [(.int (4 : Int32)), (.int i5)])) (fun t k => XS.iconst X3.here hx rfl (hb hby at_31) k) ?_
  refine Go.on (T' := T3) (g' := (mkF m 33 #[.val (.int i0), .val (.int i1), .val (.int i2), .val (.int i3), .val (.int i4), .val (.int i5), .val (.int v1), .val (.int v3), .unset, .unset, .unset, .unset, .unset, .unset, .unset] [(.int (i5 &&& (4 : Int32)))])) (fun t k => XS.iand X3.here hx rfl (hb hby at_32) rfl k) ?_
  suffices J5 : ∀ (T : State) (v5 : Int32), Stand p l e room_1 s m #[(.int i0), (.int i1), (.int i2), (.int i3), (.int i4), (.int i5)] below meth c T [] 0 0 → T.heap = h0 → Go p e below G T (mkF m 44 #[.val (.int i0), .val (.int i1), .val (.int i2), .val (.int i3), .val (.int i4), .val (.int i5), .val (.int v1), .val (.int v3), .unset, .unset, .unset, .unset, .unset, .unset, .unset] [(.int v5)]) by
    by_cases h6 : (i5 &&& (4 : Int32)) = (0 : Int32)
    · skip
      refine Go.on (T' := T3) (g' := (mkF m 40 #[.val (.int i0), .val (.int i1), .val (.int i2), .val (.int i3), .val (.int i4), .val (.int i5), .val (.int v1), .val (.int v3), .unset, .unset, .unset, .unset, .unset, .unset, .unset] [])) (fun t k => XS.ifYes X3.here hx rfl (pc0 := 33) (pc' := 40) rfl (hb hby at_33) rfl ((if0 _ _).trans (teq h6).1) (by decide) (by decide) k) ?_
      refine Go.on (T' := T3) (g' := (mkF m 41 #[.val (.int i0), .val (.int i1), .val (.int i2), .val (.int i3), .val (.int i4), .val (.int i5), .val (.int v1), .val (.int v3), .unset, .unset, .unset, .unset, .unset, .unset, .unset] [(.int i3)])) (fun t k => XS.iloadN X3.here hx rfl (hb hby at_40) rfl k) ?_
      refine Go.on (T' := T3) (g' := (mkF m 43 #[.val (.int i0), .val (.int i1), .val (.int i2), .val (.int i3), .val (.int i4), .val (.int i5), .val (.int v1), .val (.int v3), .unset, .unset, .unset, .unset, .unset, .unset, .unset] [(.int i4), (.int i3)])) (fun t k => XS.iload X3.here hx rfl (hb hby at_41) rfl k) ?_
      refine Go.on (T' := T3) (g' := (mkF m 44 #[.val (.int i0), .val (.int i1), .val (.int i2), .val (.int i3), .val (.int i4), .val (.int i5), .val (.int v1), .val (.int v3), .unset, .unset, .unset, .unset, .unset, .unset, .unset] [(.int (i3 ^^^ i4))])) (fun t k => XS.ixor X3.here hx rfl (hb hby at_43) rfl k) ?_
      exact J5 _ _ X3 e3
    · skip
      refine Go.on (T' := T3) (g' := (mkF m 36 #[.val (.int i0), .val (.int i1), .val (.int i2), .val (.int i3), .val (.int i4), .val (.int i5), .val (.int v1), .val (.int v3), .unset, .unset, .unset, .unset, .unset, .unset, .unset] [])) (fun t k => XS.ifNo X3.here hx rfl (hb hby at_33) rfl ((if0 _ _).trans (feq h6).1) k) ?_
      refine Go.on (T' := T3) (g' := (mkF m 37 #[.val (.int i0), .val (.int i1), .val (.int i2), .val (.int i3), .val (.int i4), .val (.int i5), .val (.int v1), .val (.int v3), .unset, .unset, .unset, .unset, .unset, .unset, .unset] [(.int i2)])) (fun t k => XS.iloadN X3.here hx rfl (hb hby at_36) rfl k) ?_
      refine Go.on (T' := T3) (g' := (mkF m 44 #[.val (.int i0), .val (.int i1), .val (.int i2), .val (.int i3), .val (.int i4), .val (.int i5), .val (.int v1), .val (.int v3), .unset, .unset, .unset, .unset, .unset, .unset, .unset] [(.int i2)])) (fun t k => XS.goto X3.here hx rfl (pc0 := 37) (pc' := 44) rfl (hb hby at_37) (by decide) (by decide) k) ?_
      exact J5 _ _ X3 e3
  intro T5 v5 X5 e5
  refine Go.on (T' := T5) (g' := (mkF m 46 #[.val (.int i0), .val (.int i1), .val (.int i2), .val (.int i3), .val (.int i4), .val (.int i5), .val (.int v1), .val (.int v3), .val (.int v5), .unset, .unset, .unset, .unset, .unset, .unset] [])) (fun t k => XS.istore X5.here hx rfl (hb hby at_44) rfl (l' := #[.val (.int i0), .val (.int i1), .val (.int i2), .val (.int i3), .val (.int i4), .val (.int i5), .val (.int v1), .val (.int v3), .val (.int v5), .unset, .unset, .unset, .unset, .unset, .unset]) rfl k) ?_
  refine Go.on (T' := T5) (g' := (mkF m 48 #[.val (.int i0), .val (.int i1), .val (.int i2), .val (.int i3), .val (.int i4), .val (.int i5), .val (.int v1), .val (.int v3), .val (.int v5), .unset, .unset, .unset, .unset, .unset, .unset] [(.int i5)])) (fun t k => XS.iload X5.here hx rfl (hb hby at_46) rfl k) ?_
  refine Go.on (T' := T5) (g' := (mkF m 50 #[.val (.int i0), .val (.int i1), .val (.int i2), .val (.int i3), .val (.int i4), .val (.int i5), .val (.int v1), .val (.int v3), .val (.int v5), .unset, .unset, .unset, .unset, .unset, .unset] [(.int (8 : Int32)), (.int i5)])) (fun t k => XS.bipush X5.here hx rfl (hb hby at_48) k) ?_
  refine Go.on (T' := T5) (g' := (mkF m 51 #[.val (.int i0), .val (.int i1), .val (.int i2), .val (.int i3), .val (.int i4), .val (.int i5), .val (.int v1), .val (.int v3), .val (.int v5), .unset, .unset, .unset, .unset, .unset, .unset] [(.int (i5 &&& (8 : Int32)))])) (fun t k => XS.iand X5.here hx rfl (hb hby at_50) rfl k) ?_
  suffices J7 : ∀ (T : State) (v7 : Addr), Stand p l e room_1 s m #[(.int i0), (.int i1), (.int i2), (.int i3), (.int i4), (.int i5)] below meth c T [] 0 0 → T.heap = h0 → Go p e below G T (mkF m 63 #[.val (.int i0), .val (.int i1), .val (.int i2), .val (.int i3), .val (.int i4), .val (.int i5), .val (.int v1), .val (.int v3), .val (.int v5), .unset, .unset, .unset, .unset, .unset, .unset] [(.ref v7)]) by
    by_cases h8 : (i5 &&& (8 : Int32)) = (0 : Int32)
    · skip
      refine Go.on (T' := T5) (g' := (mkF m 60 #[.val (.int i0), .val (.int i1), .val (.int i2), .val (.int i3), .val (.int i4), .val (.int i5), .val (.int v1), .val (.int v3), .val (.int v5), .unset, .unset, .unset, .unset, .unset, .unset] [])) (fun t k => XS.ifYes X5.here hx rfl (pc0 := 51) (pc' := 60) rfl (hb hby at_51) rfl ((if0 _ _).trans (teq h8).1) (by decide) (by decide) k) ?_
      obtain ⟨T9, X9, e9, st9⟩ := getS2 X5 hx hZ hown (host := "") (Or.inl (hw _ (List.mem_of_getElem? (i := 0) rfl))) Via.refl e5 (pin_1 (pins_ext XB hP)) (g := (mkF m 60 #[.val (.int i0), .val (.int i1), .val (.int i2), .val (.int i3), .val (.int i4), .val (.int i5), .val (.int v1), .val (.int v3), .val (.int v5), .unset, .unset, .unset, .unset, .unset, .unset] [])) rfl (hb hby at_60)
      refine Go.on (T' := T9) (g' := (mkF m 63 #[.val (.int i0), .val (.int i1), .val (.int i2), .val (.int i3), .val (.int i4), .val (.int i5), .val (.int v1), .val (.int v3), .val (.int v5), .unset, .unset, .unset, .unset, .unset, .unset] [(.ref (w 1))])) st9 ?_
      exact J7 _ _ X9 e9
    · skip
      refine Go.on (T' := T5) (g' := (mkF m 54 #[.val (.int i0), .val (.int i1), .val (.int i2), .val (.int i3), .val (.int i4), .val (.int i5), .val (.int v1), .val (.int v3), .val (.int v5), .unset, .unset, .unset, .unset, .unset, .unset] [])) (fun t k => XS.ifNo X5.here hx rfl (hb hby at_51) rfl ((if0 _ _).trans (feq h8).1) k) ?_
      obtain ⟨T10, X10, e10, st10⟩ := getS2 X5 hx hZ hown (host := "") (Or.inl (hw _ (List.mem_of_getElem? (i := 27) rfl))) Via.refl e5 (pin_2 (pins_ext XB hP)) (g := (mkF m 54 #[.val (.int i0), .val (.int i1), .val (.int i2), .val (.int i3), .val (.int i4), .val (.int i5), .val (.int v1), .val (.int v3), .val (.int v5), .unset, .unset, .unset, .unset, .unset, .unset] [])) rfl (hb hby at_54)
      refine Go.on (T' := T10) (g' := (mkF m 57 #[.val (.int i0), .val (.int i1), .val (.int i2), .val (.int i3), .val (.int i4), .val (.int i5), .val (.int v1), .val (.int v3), .val (.int v5), .unset, .unset, .unset, .unset, .unset, .unset] [(.ref (w 2))])) st10 ?_
      refine Go.on (T' := T10) (g' := (mkF m 63 #[.val (.int i0), .val (.int i1), .val (.int i2), .val (.int i3), .val (.int i4), .val (.int i5), .val (.int v1), .val (.int v3), .val (.int v5), .unset, .unset, .unset, .unset, .unset, .unset] [(.ref (w 2))])) (fun t k => XS.goto X10.here hx rfl (pc0 := 57) (pc' := 63) rfl (hb hby at_57) (by decide) (by decide) k) ?_
      exact J7 _ _ X10 e10
  intro T7 v7 X7 e7
  refine Go.on (T' := T7) (g' := (mkF m 65 #[.val (.int i0), .val (.int i1), .val (.int i2), .val (.int i3), .val (.int i4), .val (.int i5), .val (.int v1), .val (.int v3), .val (.int v5), .val (.ref v7), .unset, .unset, .unset, .unset, .unset] [])) (fun t k => XS.astore X7.here hx rfl (hb hby at_63) rfl rfl (l' := #[.val (.int i0), .val (.int i1), .val (.int i2), .val (.int i3), .val (.int i4), .val (.int i5), .val (.int v1), .val (.int v3), .val (.int v5), .val (.ref v7), .unset, .unset, .unset, .unset, .unset]) rfl k) ?_
  refine Go.on (T' := T7) (g' := (mkF m 67 #[.val (.int i0), .val (.int i1), .val (.int i2), .val (.int i3), .val (.int i4), .val (.int i5), .val (.int v1), .val (.int v3), .val (.int v5), .val (.ref v7), .unset, .unset, .unset, .unset, .unset] [(.int i5)])) (fun t k => XS.iload X7.here hx rfl (hb hby at_65) rfl k) ?_
  refine Go.on (T' := T7) (g' := (mkF m 69 #[.val (.int i0), .val (.int i1), .val (.int i2), .val (.int i3), .val (.int i4), .val (.int i5), .val (.int v1), .val (.int v3), .val (.int v5), .val (.ref v7), .unset, .unset, .unset, .unset, .unset] [(.int (16 : Int32)), (.int i5)])) (fun t k => XS.bipush X7.here hx rfl (hb hby at_67) k) ?_
  refine Go.on (T' := T7) (g' := (mkF m 70 #[.val (.int i0), .val (.int i1), .val (.int i2), .val (.int i3), .val (.int i4), .val (.int i5), .val (.int v1), .val (.int v3), .val (.int v5), .val (.ref v7), .unset, .unset, .unset, .unset, .unset] [(.int (i5 &&& (16 : Int32)))])) (fun t k => XS.iand X7.here hx rfl (hb hby at_69) rfl k) ?_
  suffices J11 : ∀ (T : State) (v11 : Addr), Stand p l e room_1 s m #[(.int i0), (.int i1), (.int i2), (.int i3), (.int i4), (.int i5)] below meth c T [] 0 0 → T.heap = h0 → Go p e below G T (mkF m 82 #[.val (.int i0), .val (.int i1), .val (.int i2), .val (.int i3), .val (.int i4), .val (.int i5), .val (.int v1), .val (.int v3), .val (.int v5), .val (.ref v7), .unset, .unset, .unset, .unset, .unset] [(.ref v11)]) by
    by_cases h12 : (i5 &&& (16 : Int32)) = (0 : Int32)
    · skip
      refine Go.on (T' := T7) (g' := (mkF m 79 #[.val (.int i0), .val (.int i1), .val (.int i2), .val (.int i3), .val (.int i4), .val (.int i5), .val (.int v1), .val (.int v3), .val (.int v5), .val (.ref v7), .unset, .unset, .unset, .unset, .unset] [])) (fun t k => XS.ifYes X7.here hx rfl (pc0 := 70) (pc' := 79) rfl (hb hby at_70) rfl ((if0 _ _).trans (teq h12).1) (by decide) (by decide) k) ?_
      obtain ⟨T13, X13, e13, st13⟩ := getS2 X7 hx hZ hown (host := "") (Or.inl (hw _ (List.mem_of_getElem? (i := 0) rfl))) Via.refl e7 (pin_1 (pins_ext XB hP)) (g := (mkF m 79 #[.val (.int i0), .val (.int i1), .val (.int i2), .val (.int i3), .val (.int i4), .val (.int i5), .val (.int v1), .val (.int v3), .val (.int v5), .val (.ref v7), .unset, .unset, .unset, .unset, .unset] [])) rfl (hb hby at_79)
      refine Go.on (T' := T13) (g' := (mkF m 82 #[.val (.int i0), .val (.int i1), .val (.int i2), .val (.int i3), .val (.int i4), .val (.int i5), .val (.int v1), .val (.int v3), .val (.int v5), .val (.ref v7), .unset, .unset, .unset, .unset, .unset] [(.ref (w 1))])) st13 ?_
      exact J11 _ _ X13 e13
    · skip
      refine Go.on (T' := T7) (g' := (mkF m 73 #[.val (.int i0), .val (.int i1), .val (.int i2), .val (.int i3), .val (.int i4), .val (.int i5), .val (.int v1), .val (.int v3), .val (.int v5), .val (.ref v7), .unset, .unset, .unset, .unset, .unset] [])) (fun t k => XS.ifNo X7.here hx rfl (hb hby at_70) rfl ((if0 _ _).trans (feq h12).1) k) ?_
      obtain ⟨T14, X14, e14, st14⟩ := getS2 X7 hx hZ hown (host := "") (Or.inl (hw _ (List.mem_of_getElem? (i := 27) rfl))) Via.refl e7 (pin_2 (pins_ext XB hP)) (g := (mkF m 73 #[.val (.int i0), .val (.int i1), .val (.int i2), .val (.int i3), .val (.int i4), .val (.int i5), .val (.int v1), .val (.int v3), .val (.int v5), .val (.ref v7), .unset, .unset, .unset, .unset, .unset] [])) rfl (hb hby at_73)
      refine Go.on (T' := T14) (g' := (mkF m 76 #[.val (.int i0), .val (.int i1), .val (.int i2), .val (.int i3), .val (.int i4), .val (.int i5), .val (.int v1), .val (.int v3), .val (.int v5), .val (.ref v7), .unset, .unset, .unset, .unset, .unset] [(.ref (w 2))])) st14 ?_
      refine Go.on (T' := T14) (g' := (mkF m 82 #[.val (.int i0), .val (.int i1), .val (.int i2), .val (.int i3), .val (.int i4), .val (.int i5), .val (.int v1), .val (.int v3), .val (.int v5), .val (.ref v7), .unset, .unset, .unset, .unset, .unset] [(.ref (w 2))])) (fun t k => XS.goto X14.here hx rfl (pc0 := 76) (pc' := 82) rfl (hb hby at_76) (by decide) (by decide) k) ?_
      exact J11 _ _ X14 e14
  intro T11 v11 X11 e11
  refine Go.on (T' := T11) (g' := (mkF m 84 #[.val (.int i0), .val (.int i1), .val (.int i2), .val (.int i3), .val (.int i4), .val (.int i5), .val (.int v1), .val (.int v3), .val (.int v5), .val (.ref v7), .val (.ref v11), .unset, .unset, .unset, .unset] [])) (fun t k => XS.astore X11.here hx rfl (hb hby at_82) rfl rfl (l' := #[.val (.int i0), .val (.int i1), .val (.int i2), .val (.int i3), .val (.int i4), .val (.int i5), .val (.int v1), .val (.int v3), .val (.int v5), .val (.ref v7), .val (.ref v11), .unset, .unset, .unset, .unset]) rfl k) ?_
  obtain ⟨T15, h15, X15, e15, E15, A15, D15, -, st15⟩ := newO X11 hx hZ hown (hw _ (List.mem_of_getElem? (i := 3) rfl)) (hw _ (List.mem_of_getElem? (i := 4) rfl)) (hw _ (List.mem_of_getElem? (i := 5) rfl)) e11 (g := (mkF m 84 #[.val (.int i0), .val (.int i1), .val (.int i2), .val (.int i3), .val (.int i4), .val (.int i5), .val (.int v1), .val (.int v3), .val (.int v5), .val (.ref v7), .val (.ref v11), .unset, .unset, .unset, .unset] [])) rfl (hb hby at_84) (by decide) (by decide)
  obtain ⟨b15, g15⟩ : ∃ z, z = h0.size := ⟨_, rfl⟩
  rw [← g15] at A15 D15 st15
  have gb15 : hB.size ≤ b15 := Nat.le_trans XB.1 (Nat.le_of_eq g15.symm)
  have XT15 := own_ext2 XB E15
  refine Go.on (T' := T15) (g' := (mkF m 87 #[.val (.int i0), .val (.int i1), .val (.int i2), .val (.int i3), .val (.int i4), .val (.int i5), .val (.int v1), .val (.int v3), .val (.int v5), .val (.ref v7), .val (.ref v11), .unset, .unset, .unset, .unset] [(.ref b15)])) st15 ?_
  refine Go.on (T' := T15) (g' := (mkF m 88 #[.val (.int i0), .val (.int i1), .val (.int i2), .val (.int i3), .val (.int i4), .val (.int i5), .val (.int v1), .val (.int v3), .val (.int v5), .val (.ref v7), .val (.ref v11), .unset, .unset, .unset, .unset] [(.ref b15), (.ref b15)])) (fun t k => XS.dup X15.here hx rfl (hb hby at_87) rfl rfl k) ?_
  refine Go.on (T' := T15) (g' := (mkF m 89 #[.val (.int i0), .val (.int i1), .val (.int i2), .val (.int i3), .val (.int i4), .val (.int i5), .val (.int v1), .val (.int v3), .val (.int v5), .val (.ref v7), .val (.ref v11), .unset, .unset, .unset, .unset] [(.int i0), (.ref b15), (.ref b15)])) (fun t k => XS.iloadN X15.here hx rfl (hb hby at_88) rfl k) ?_
  refine Go.on (T' := T15) (g' := (mkF m 90 #[.val (.int i0), .val (.int i1), .val (.int i2), .val (.int i3), .val (.int i4), .val (.int i5), .val (.int v1), .val (.int v3), .val (.int v5), .val (.ref v7), .val (.ref v11), .unset, .unset, .unset, .unset] [(.int i1), (.int i0), (.ref b15), (.ref b15)])) (fun t k => XS.iloadN X15.here hx rfl (hb hby at_89) rfl k) ?_
  refine Go.on (T' := T15) (g' := (mkF m 91 #[.val (.int i0), .val (.int i1), .val (.int i2), .val (.int i3), .val (.int i4), .val (.int i5), .val (.int v1), .val (.int v3), .val (.int v5), .val (.ref v7), .val (.ref v11), .unset, .unset, .unset, .unset] [(.int i2), (.int i1), (.int i0), (.ref b15), (.ref b15)])) (fun t k => XS.iloadN X15.here hx rfl (hb hby at_90) rfl k) ?_
  refine Go.on (T' := T15) (g' := (mkF m 93 #[.val (.int i0), .val (.int i1), .val (.int i2), .val (.int i3), .val (.int i4), .val (.int i5), .val (.int v1), .val (.int v3), .val (.int v5), .val (.ref v7), .val (.ref v11), .unset, .unset, .unset, .unset] [(.ref v7), (.int i2), (.int i1), (.int i0), (.ref b15), (.ref b15)])) (fun t k => XS.aload X15.here hx rfl (hb hby at_91) rfl rfl k) ?_
  obtain ⟨_, _, ⟨T42, L42, k42, n42⟩, -, X42, ⟨Lc42, hQ42, l42, y42, z42⟩, st42⟩ := X15.specialBack hx (y := (⟨"com/example/pedina/pedina/rules/Position", "<init>", "(IIILcom/example/pedina/pedina/rules/Side;)V"⟩ : MethodName)) rfl hown (mvT hZ (hw _ (List.mem_of_getElem? (i := 6) rfl))) (mvT hZ (hw _ (List.mem_of_getElem? (i := 7) rfl))) (mvT hZ (hw _ (List.mem_of_getElem? (i := 8) rfl))) (by decide) (backOf (W := 1) (rm1_0 l Z a0 hw [] w hB hP h15 XT15 i0 i1 i2 v7 b15 A15 (D15 (Or.inr (hw _ (List.mem_of_getElem? (i := 13) rfl))) (ty := .int) (by decide)) (D15 (Or.inr (hw _ (List.mem_of_getElem? (i := 15) rfl))) (ty := .int) (by decide)) (D15 (Or.inr (hw _ (List.mem_of_getElem? (i := 17) rfl))) (ty := .int) (by decide)) (D15 (Or.inr (hw _ (List.mem_of_getElem? (i := 19) rfl))) (ty := (.object "com/example/pedina/pedina/rules/Side")) (by decide)) gb15) hZ (hw _ (List.mem_of_getElem? (i := 8) rfl)) (hw _ (List.mem_of_getElem? (i := 5) rfl)) (by decide) (by decide)) (g := (mkF m 93 #[.val (.int i0), .val (.int i1), .val (.int i2), .val (.int i3), .val (.int i4), .val (.int i5), .val (.int v1), .val (.int v3), .val (.int v5), .val (.ref v7), .val (.ref v11), .unset, .unset, .unset, .unset] [(.ref v7), (.int i2), (.int i1), (.int i0), (.ref b15), (.ref b15)])) rfl (by rw [hml]; rfl) (Steps.refl _) (a := b15) (argsL := [(.int i0), (.int i1), (.int i2), (.ref v7)]) (rest := [(.ref b15)]) (lenOf pd_0 rfl) rfl (by show 2 * 0 + _ ≤ _; exact Nat.le_of_eq rfl) (hb hby at_93) (fun _ _ => ⟨rfl, e15, (by decide : 1 + 0 ≤ _), (by decide : 4 + 0 ≤ _)⟩)
  dsimp only [Pt.U, Pt.locs, Pt.cells, Pt.slots] at X42 l42 y42 z42 st42 hQ42
  subst l42 y42 z42
  obtain ⟨⟨rfl, K42, fq42_0, fq42_1, fq42_2, fq42_3, fq42_4, -⟩, N42q⟩ := hQ42
  have e42 : T42.heap = T42.heap := rfl
  have N42 := Fr.app N0 N42q
  have XT42 : Ext hB T42.heap := own_extK XT15 K42 (allS gb15 all0)
  refine Go.on (T' := T42) (g' := (mkF m 96 #[.val (.int i0), .val (.int i1), .val (.int i2), .val (.int i3), .val (.int i4), .val (.int i5), .val (.int v1), .val (.int v3), .val (.int v5), .val (.ref v7), .val (.ref v11), .unset, .unset, .unset, .unset] [(.ref b15)])) (fun t k => st42.trans k) ?_
  refine Go.on (T' := T42) (g' := (mkF m 98 #[.val (.int i0), .val (.int i1), .val (.int i2), .val (.int i3), .val (.int i4), .val (.int i5), .val (.int v1), .val (.int v3), .val (.int v5), .val (.ref v7), .val (.ref v11), .val (.ref b15), .unset, .unset, .unset] [])) (fun t k => XS.astore X42.here hx rfl (hb hby at_96) rfl rfl (l' := #[.val (.int i0), .val (.int i1), .val (.int i2), .val (.int i3), .val (.int i4), .val (.int i5), .val (.int v1), .val (.int v3), .val (.int v5), .val (.ref v7), .val (.ref v11), .val (.ref b15), .unset, .unset, .unset]) rfl k) ?_
  obtain ⟨T43, h43, X43, e43, E43, A43, D43, -, st43⟩ := newO X42 hx hZ hown (hw _ (List.mem_of_getElem? (i := 3) rfl)) (hw _ (List.mem_of_getElem? (i := 4) rfl)) (hw _ (List.mem_of_getElem? (i := 5) rfl)) e42 (g := (mkF m 98 #[.val (.int i0), .val (.int i1), .val (.int i2), .val (.int i3), .val (.int i4), .val (.int i5), .val (.int v1), .val (.int v3), .val (.int v5), .val (.ref v7), .val (.ref v11), .val (.ref b15), .unset, .unset, .unset] [])) rfl (hb hby at_98) (by decide) (by decide)
  obtain ⟨b43, g43⟩ : ∃ z, z = T42.heap.size := ⟨_, rfl⟩
  rw [← g43] at A43 D43 st43
  have gb43 : hB.size ≤ b43 := Nat.le_trans XT42.1 (Nat.le_of_eq g43.symm)
  have XT43 := own_ext2 XT42 E43
  refine Go.on (T' := T43) (g' := (mkF m 101 #[.val (.int i0), .val (.int i1), .val (.int i2), .val (.int i3), .val (.int i4), .val (.int i5), .val (.int v1), .val (.int v3), .val (.int v5), .val (.ref v7), .val (.ref v11), .val (.ref b15), .unset, .unset, .unset] [(.ref b43)])) st43 ?_
  refine Go.on (T' := T43) (g' := (mkF m 102 #[.val (.int i0), .val (.int i1), .val (.int i2), .val (.int i3), .val (.int i4), .val (.int i5), .val (.int v1), .val (.int v3), .val (.int v5), .val (.ref v7), .val (.ref v11), .val (.ref b15), .unset, .unset, .unset] [(.ref b43), (.ref b43)])) (fun t k => XS.dup X43.here hx rfl (hb hby at_101) rfl rfl k) ?_
  refine Go.on (T' := T43) (g' := (mkF m 104 #[.val (.int i0), .val (.int i1), .val (.int i2), .val (.int i3), .val (.int i4), .val (.int i5), .val (.int v1), .val (.int v3), .val (.int v5), .val (.ref v7), .val (.ref v11), .val (.ref b15), .unset, .unset, .unset] [(.int v1), (.ref b43), (.ref b43)])) (fun t k => XS.iload X43.here hx rfl (hb hby at_102) rfl k) ?_
  refine Go.on (T' := T43) (g' := (mkF m 106 #[.val (.int i0), .val (.int i1), .val (.int i2), .val (.int i3), .val (.int i4), .val (.int i5), .val (.int v1), .val (.int v3), .val (.int v5), .val (.ref v7), .val (.ref v11), .val (.ref b15), .unset, .unset, .unset] [(.int v3), (.int v1), (.ref b43), (.ref b43)])) (fun t k => XS.iload X43.here hx rfl (hb hby at_104) rfl k) ?_
  refine Go.on (T' := T43) (g' := (mkF m 108 #[.val (.int i0), .val (.int i1), .val (.int i2), .val (.int i3), .val (.int i4), .val (.int i5), .val (.int v1), .val (.int v3), .val (.int v5), .val (.ref v7), .val (.ref v11), .val (.ref b15), .unset, .unset, .unset] [(.int v5), (.int v3), (.int v1), (.ref b43), (.ref b43)])) (fun t k => XS.iload X43.here hx rfl (hb hby at_106) rfl k) ?_
  refine Go.on (T' := T43) (g' := (mkF m 110 #[.val (.int i0), .val (.int i1), .val (.int i2), .val (.int i3), .val (.int i4), .val (.int i5), .val (.int v1), .val (.int v3), .val (.int v5), .val (.ref v7), .val (.ref v11), .val (.ref b15), .unset, .unset, .unset] [(.ref v11), (.int v5), (.int v3), (.int v1), (.ref b43), (.ref b43)])) (fun t k => XS.aload X43.here hx rfl (hb hby at_108) rfl rfl k) ?_
  obtain ⟨_, _, ⟨T44, L44, k44, n44⟩, -, X44, ⟨Lc44, hQ44, l44, y44, z44⟩, st44⟩ := X43.specialBack hx (y := (⟨"com/example/pedina/pedina/rules/Position", "<init>", "(IIILcom/example/pedina/pedina/rules/Side;)V"⟩ : MethodName)) rfl hown (mvT hZ (hw _ (List.mem_of_getElem? (i := 6) rfl))) (mvT hZ (hw _ (List.mem_of_getElem? (i := 7) rfl))) (mvT hZ (hw _ (List.mem_of_getElem? (i := 8) rfl))) (by decide) (backOf (W := 1) (rm1_0 l Z a0 hw [] w hB hP h43 XT43 v1 v3 v5 v11 b43 A43 (D43 (Or.inr (hw _ (List.mem_of_getElem? (i := 13) rfl))) (ty := .int) (by decide)) (D43 (Or.inr (hw _ (List.mem_of_getElem? (i := 15) rfl))) (ty := .int) (by decide)) (D43 (Or.inr (hw _ (List.mem_of_getElem? (i := 17) rfl))) (ty := .int) (by decide)) (D43 (Or.inr (hw _ (List.mem_of_getElem? (i := 19) rfl))) (ty := (.object "com/example/pedina/pedina/rules/Side")) (by decide)) gb43) hZ (hw _ (List.mem_of_getElem? (i := 8) rfl)) (hw _ (List.mem_of_getElem? (i := 5) rfl)) (by decide) (by decide)) (g := (mkF m 110 #[.val (.int i0), .val (.int i1), .val (.int i2), .val (.int i3), .val (.int i4), .val (.int i5), .val (.int v1), .val (.int v3), .val (.int v5), .val (.ref v7), .val (.ref v11), .val (.ref b15), .unset, .unset, .unset] [(.ref v11), (.int v5), (.int v3), (.int v1), (.ref b43), (.ref b43)])) rfl (by rw [hml]; rfl) (Steps.refl _) (a := b43) (argsL := [(.int v1), (.int v3), (.int v5), (.ref v11)]) (rest := [(.ref b43)]) (lenOf pd_0 rfl) rfl (by show 2 * 0 + _ ≤ _; exact Nat.le_of_eq rfl) (hb hby at_110) (fun _ _ => ⟨rfl, e43, (by decide : 2 + 0 ≤ _), (by decide : 8 + 0 ≤ _)⟩)
  dsimp only [Pt.U, Pt.locs, Pt.cells, Pt.slots] at X44 l44 y44 z44 st44 hQ44
  subst l44 y44 z44
  obtain ⟨⟨rfl, K44, fq44_0, fq44_1, fq44_2, fq44_3, fq44_4, -⟩, N44q⟩ := hQ44
  have e44 : T44.heap = T44.heap := rfl
  have N44 := Fr.app N42 N44q
  have XT44 : Ext hB T44.heap := own_extK XT43 K44 (allS gb43 all0)
  refine Go.on (T' := T44) (g' := (mkF m 113 #[.val (.int i0), .val (.int i1), .val (.int i2), .val (.int i3), .val (.int i4), .val (.int i5), .val (.int v1), .val (.int v3), .val (.int v5), .val (.ref v7), .val (.ref v11), .val (.ref b15), .unset, .unset, .unset] [(.ref b43)])) (fun t k => st44.trans k) ?_
  refine Go.on (T' := T44) (g' := (mkF m 115 #[.val (.int i0), .val (.int i1), .val (.int i2), .val (.int i3), .val (.int i4), .val (.int i5), .val (.int v1), .val (.int v3), .val (.int v5), .val (.ref v7), .val (.ref v11), .val (.ref b15), .val (.ref b43), .unset, .unset] [])) (fun t k => XS.astore X44.here hx rfl (hb hby at_113) rfl rfl (l' := #[.val (.int i0), .val (.int i1), .val (.int i2), .val (.int i3), .val (.int i4), .val (.int i5), .val (.int v1), .val (.int v3), .val (.int v5), .val (.ref v7), .val (.ref v11), .val (.ref b15), .val (.ref b43), .unset, .unset]) rfl k) ?_
  refine Go.on (T' := T44) (g' := (mkF m 117 #[.val (.int i0), .val (.int i1), .val (.int i2), .val (.int i3), .val (.int i4), .val (.int i5), .val (.int v1), .val (.int v3), .val (.int v5), .val (.ref v7), .val (.ref v11), .val (.ref b15), .val (.ref b43), .unset, .unset] [(.int i5)])) (fun t k => XS.iload X44.here hx rfl (hb hby at_115) rfl k) ?_
  refine Go.on (T' := T44) (g' := (mkF m 118 #[.val (.int i0), .val (.int i1), .val (.int i2), .val (.int i3), .val (.int i4), .val (.int i5), .val (.int v1), .val (.int v3), .val (.int v5), .val (.ref v7), .val (.ref v11), .val (.ref b15), .val (.ref b43), .unset, .unset] [(.int (5 : Int32)), (.int i5)])) (fun t k => XS.iconst X44.here hx rfl (hb hby at_117) k) ?_
  refine Go.on (T' := T44) (g' := (mkF m 119 #[.val (.int i0), .val (.int i1), .val (.int i2), .val (.int i3), .val (.int i4), .val (.int i5), .val (.int v1), .val (.int v3), .val (.int v5), .val (.ref v7), .val (.ref v11), .val (.ref b15), .val (.ref b43), .unset, .unset] [(.int ((i5.toUInt32 >>> ((5 : Int32) &&& 31).toUInt32).toInt32))])) (fun t k => XS.iushr X44.here hx rfl (hb hby at_118) rfl k) ?_
  refine Go.on (T' := T44) (g' := (mkF m 120 #[.val (.int i0), .val (.int i1), .val (.int i2), .val (.int i3), .val (.int i4), .val (.int i5), .val (.int v1), .val (.int v3), .val (.int v5), .val (.ref v7), .val (.ref v11), .val (.ref b15), .val (.ref b43), .unset, .unset] [(.int (3 : Int32)), (.int ((i5.toUInt32 >>> ((5 : Int32) &&& 31).toUInt32).toInt32))])) (fun t k => XS.iconst X44.here hx rfl (hb hby at_119) k) ?_
  refine Go.on (T' := T44) (g' := (mkF m 121 #[.val (.int i0), .val (.int i1), .val (.int i2), .val (.int i3), .val (.int i4), .val (.int i5), .val (.int v1), .val (.int v3), .val (.int v5), .val (.ref v7), .val (.ref v11), .val (.ref b15), .val (.ref b43), .unset, .unset] [(.int (((i5.toUInt32 >>> ((5 : Int32) &&& 31).toUInt32).toInt32) &&& (3 : Int32)))])) (fun t k => XS.iand X44.here hx rfl (hb hby at_120) rfl k) ?_
  refine Go.on (T' := T44) (g' := (mkF m 123 #[.val (.int i0), .val (.int i1), .val (.int i2), .val (.int i3), .val (.int i4), .val (.int i5), .val (.int v1), .val (.int v3), .val (.int v5), .val (.ref v7), .val (.ref v11), .val (.ref b15), .val (.ref b43), .val (.int (((i5.toUInt32 >>> ((5 : Int32) &&& 31).toUInt32).toInt32) &&& (3 : Int32))), .unset] [])) (fun t k => XS.istore X44.here hx rfl (hb hby at_121) rfl (l' := #[.val (.int i0), .val (.int i1), .val (.int i2), .val (.int i3), .val (.int i4), .val (.int i5), .val (.int v1), .val (.int v3), .val (.int v5), .val (.ref v7), .val (.ref v11), .val (.ref b15), .val (.ref b43), .val (.int (((i5.toUInt32 >>> ((5 : Int32) &&& 31).toUInt32).toInt32) &&& (3 : Int32))), .unset]) rfl k) ?_
  refine Go.on (T' := T44) (g' := (mkF m 125 #[.val (.int i0), .val (.int i1), .val (.int i2), .val (.int i3), .val (.int i4), .val (.int i5), .val (.int v1), .val (.int v3), .val (.int v5), .val (.ref v7), .val (.ref v11), .val (.ref b15), .val (.ref b43), .val (.int (((i5.toUInt32 >>> ((5 : Int32) &&& 31).toUInt32).toInt32) &&& (3 : Int32))), .unset] [(.int (((i5.toUInt32 >>> ((5 : Int32) &&& 31).toUInt32).toInt32) &&& (3 : Int32)))])) (fun t k => XS.iload X44.here hx rfl (hb hby at_123) rfl k) ?_
  by_cases h45 : (((i5.toUInt32 >>> ((5 : Int32) &&& 31).toUInt32).toInt32) &&& (3 : Int32)) = (0 : Int32)
  · skip
    refine Go.on (T' := T44) (g' := (mkF m 128 #[.val (.int i0), .val (.int i1), .val (.int i2), .val (.int i3), .val (.int i4), .val (.int i5), .val (.int v1), .val (.int v3), .val (.int v5), .val (.ref v7), .val (.ref v11), .val (.ref b15), .val (.ref b43), .val (.int (((i5.toUInt32 >>> ((5 : Int32) &&& 31).toUInt32).toInt32) &&& (3 : Int32))), .unset] [])) (fun t k => XS.ifNo X44.here hx rfl (hb hby at_125) rfl ((if0 _ _).trans (teq h45).2) k) ?_
    refine Go.on (T' := T44) (g' := (mkF m 129 #[.val (.int i0), .val (.int i1), .val (.int i2), .val (.int i3), .val (.int i4), .val (.int i5), .val (.int v1), .val (.int v3), .val (.int v5), .val (.ref v7), .val (.ref v11), .val (.ref b15), .val (.ref b43), .val (.int (((i5.toUInt32 >>> ((5 : Int32) &&& 31).toUInt32).toInt32) &&& (3 : Int32))), .unset] [(.int i0)])) (fun t k => XS.iloadN X44.here hx rfl (hb hby at_128) rfl k) ?_
    refine Go.on (T' := T44) (g' := (mkF m 131 #[.val (.int i0), .val (.int i1), .val (.int i2), .val (.int i3), .val (.int i4), .val (.int i5), .val (.int v1), .val (.int v3), .val (.int v5), .val (.ref v7), .val (.ref v11), .val (.ref b15), .val (.ref b43), .val (.int (((i5.toUInt32 >>> ((5 : Int32) &&& 31).toUInt32).toInt32) &&& (3 : Int32))), .unset] [(.int v1), (.int i0)])) (fun t k => XS.iload X44.here hx rfl (hb hby at_129) rfl k) ?_
    by_cases h46 : i0 = v1
    · skip
      refine Go.on (T' := T44) (g' := (mkF m 134 #[.val (.int i0), .val (.int i1), .val (.int i2), .val (.int i3), .val (.int i4), .val (.int i5), .val (.int v1), .val (.int v3), .val (.int v5), .val (.ref v7), .val (.ref v11), .val (.ref b15), .val (.ref b43), .val (.int (((i5.toUInt32 >>> ((5 : Int32) &&& 31).toUInt32).toInt32) &&& (3 : Int32))), .unset] [])) (fun t k => XS.icmpNo X44.here hx rfl (hb hby at_131) rfl (teq h46).2 k) ?_
      refine Go.on (T' := T44) (g' := (mkF m 135 #[.val (.int i0), .val (.int i1), .val (.int i2), .val (.int i3), .val (.int i4), .val (.int i5), .val (.int v1), .val (.int v3), .val (.int v5), .val (.ref v7), .val (.ref v11), .val (.ref b15), .val (.ref b43), .val (.int (((i5.toUInt32 >>> ((5 : Int32) &&& 31).toUInt32).toInt32) &&& (3 : Int32))), .unset] [(.int i1)])) (fun t k => XS.iloadN X44.here hx rfl (hb hby at_134) rfl k) ?_
      refine Go.on (T' := T44) (g' := (mkF m 137 #[.val (.int i0), .val (.int i1), .val (.int i2), .val (.int i3), .val (.int i4), .val (.int i5), .val (.int v1), .val (.int v3), .val (.int v5), .val (.ref v7), .val (.ref v11), .val (.ref b15), .val (.ref b43), .val (.int (((i5.toUInt32 >>> ((5 : Int32) &&& 31).toUInt32).toInt32) &&& (3 : Int32))), .unset] [(.int v3), (.int i1)])) (fun t k => XS.iload X44.here hx rfl (hb hby at_135) rfl k) ?_
      by_cases h47 : i1 = v3
      · skip
        refine Go.on (T' := T44) (g' := (mkF m 140 #[.val (.int i0), .val (.int i1), .val (.int i2), .val (.int i3), .val (.int i4), .val (.int i5), .val (.int v1), .val (.int v3), .val (.int v5), .val (.ref v7), .val (.ref v11), .val (.ref b15), .val (.ref b43), .val (.int (((i5.toUInt32 >>> ((5 : Int32) &&& 31).toUInt32).toInt32) &&& (3 : Int32))), .unset] [])) (fun t k => XS.icmpNo X44.here hx rfl (hb hby at_137) rfl (teq h47).2 k) ?_
        refine Go.on (T' := T44) (g' := (mkF m 141 #[.val (.int i0), .val (.int i1), .val (.int i2), .val (.int i3), .val (.int i4), .val (.int i5), .val (.int v1), .val (.int v3), .val (.int v5), .val (.ref v7), .val (.ref v11), .val (.ref b15), .val (.ref b43), .val (.int (((i5.toUInt32 >>> ((5 : Int32) &&& 31).toUInt32).toInt32) &&& (3 : Int32))), .unset] [(.int i2)])) (fun t k => XS.iloadN X44.here hx rfl (hb hby at_140) rfl k) ?_
        refine Go.on (T' := T44) (g' := (mkF m 143 #[.val (.int i0), .val (.int i1), .val (.int i2), .val (.int i3), .val (.int i4), .val (.int i5), .val (.int v1), .val (.int v3), .val (.int v5), .val (.ref v7), .val (.ref v11), .val (.ref b15), .val (.ref b43), .val (.int (((i5.toUInt32 >>> ((5 : Int32) &&& 31).toUInt32).toInt32) &&& (3 : Int32))), .unset] [(.int v5), (.int i2)])) (fun t k => XS.iload X44.here hx rfl (hb hby at_141) rfl k) ?_
        by_cases h48 : i2 = v5
        · skip
          refine Go.on (T' := T44) (g' := (mkF m 146 #[.val (.int i0), .val (.int i1), .val (.int i2), .val (.int i3), .val (.int i4), .val (.int i5), .val (.int v1), .val (.int v3), .val (.int v5), .val (.ref v7), .val (.ref v11), .val (.ref b15), .val (.ref b43), .val (.int (((i5.toUInt32 >>> ((5 : Int32) &&& 31).toUInt32).toInt32) &&& (3 : Int32))), .unset] [])) (fun t k => XS.icmpNo X44.here hx rfl (hb hby at_143) rfl (teq h48).2 k) ?_
          refine Go.on (T' := T44) (g' := (mkF m 148 #[.val (.int i0), .val (.int i1), .val (.int i2), .val (.int i3), .val (.int i4), .val (.int i5), .val (.int v1), .val (.int v3), .val (.int v5), .val (.ref v7), .val (.ref v11), .val (.ref b15), .val (.ref b43), .val (.int (((i5.toUInt32 >>> ((5 : Int32) &&& 31).toUInt32).toInt32) &&& (3 : Int32))), .unset] [(.ref v7)])) (fun t k => XS.aload X44.here hx rfl (hb hby at_146) rfl rfl k) ?_
          refine Go.on (T' := T44) (g' := (mkF m 150 #[.val (.int i0), .val (.int i1), .val (.int i2), .val (.int i3), .val (.int i4), .val (.int i5), .val (.int v1), .val (.int v3), .val (.int v5), .val (.ref v7), .val (.ref v11), .val (.ref b15), .val (.ref b43), .val (.int (((i5.toUInt32 >>> ((5 : Int32) &&& 31).toUInt32).toInt32) &&& (3 : Int32))), .unset] [(.ref v11), (.ref v7)])) (fun t k => XS.aload X44.here hx rfl (hb hby at_148) rfl rfl k) ?_
          by_cases h49 : v7 = v11
          · skip
            refine Go.on (T' := T44) (g' := (mkF m 153 #[.val (.int i0), .val (.int i1), .val (.int i2), .val (.int i3), .val (.int i4), .val (.int i5), .val (.int v1), .val (.int v3), .val (.int v5), .val (.ref v7), .val (.ref v11), .val (.ref b15), .val (.ref b43), .val (.int (((i5.toUInt32 >>> ((5 : Int32) &&& 31).toUInt32).toInt32) &&& (3 : Int32))), .unset] [])) (fun t k => Jvm.RoadKit.acmp (g := (mkF m 150 #[.val (.int i0), .val (.int i1), .val (.int i2), .val (.int i3), .val (.int i4), .val (.int i5), .val (.int v1), .val (.int v3), .val (.int v5), .val (.ref v7), .val (.ref v11), .val (.ref b15), .val (.ref b43), .val (.int (((i5.toUInt32 >>> ((5 : Int32) &&& 31).toUInt32).toInt32) &&& (3 : Int32))), .unset] [(.ref v11), (.ref v7)])) X44 hx rfl rfl rfl (pc0 := 150) (pc' := 153) (same := true) rfl (hb hby at_150) rfl (decide_eq_true (congrArg Value.ref h49)) (by decide) (by decide) k) ?_
            refine Go.on (T' := T44) (g' := (mkF m 154 #[.val (.int i0), .val (.int i1), .val (.int i2), .val (.int i3), .val (.int i4), .val (.int i5), .val (.int v1), .val (.int v3), .val (.int v5), .val (.ref v7), .val (.ref v11), .val (.ref b15), .val (.ref b43), .val (.int (((i5.toUInt32 >>> ((5 : Int32) &&& 31).toUInt32).toInt32) &&& (3 : Int32))), .unset] [(.int (1 : Int32))])) (fun t k => XS.iconst X44.here hx rfl (hb hby at_153) k) ?_
            refine Go.on (T' := T44) (g' := (mkF m 158 #[.val (.int i0), .val (.int i1), .val (.int i2), .val (.int i3), .val (.int i4), .val (.int i5), .val (.int v1), .val (.int v3), .val (.int v5), .val (.ref v7), .val (.ref v11), .val (.ref b15), .val (.ref b43), .val (.int (((i5.toUInt32 >>> ((5 : Int32) &&& 31).toUInt32).toInt32) &&& (3 : Int32))), .unset] [(.int (1 : Int32))])) (fun t k => XS.goto X44.here hx rfl (pc0 := 154) (pc' := 158) rfl (hb hby at_154) (by decide) (by decide) k) ?_
            refine Go.on (T' := T44) (g' := (mkF m 160 #[.val (.int i0), .val (.int i1), .val (.int i2), .val (.int i3), .val (.int i4), .val (.int i5), .val (.int v1), .val (.int v3), .val (.int v5), .val (.ref v7), .val (.ref v11), .val (.ref b15), .val (.ref b43), .val (.int (((i5.toUInt32 >>> ((5 : Int32) &&& 31).toUInt32).toInt32) &&& (3 : Int32))), .val (.int (1 : Int32))] [])) (fun t k => XS.istore X44.here hx rfl (hb hby at_158) rfl (l' := #[.val (.int i0), .val (.int i1), .val (.int i2), .val (.int i3), .val (.int i4), .val (.int i5), .val (.int v1), .val (.int v3), .val (.int v5), .val (.ref v7), .val (.ref v11), .val (.ref b15), .val (.ref b43), .val (.int (((i5.toUInt32 >>> ((5 : Int32) &&& 31).toUInt32).toInt32) &&& (3 : Int32))), .val (.int (1 : Int32))]) rfl k) ?_
            refine Go.on (T' := T44) (g' := (mkF m 162 #[.val (.int i0), .val (.int i1), .val (.int i2), .val (.int i3), .val (.int i4), .val (.int i5), .val (.int v1), .val (.int v3), .val (.int v5), .val (.ref v7), .val (.ref v11), .val (.ref b15), .val (.ref b43), .val (.int (((i5.toUInt32 >>> ((5 : Int32) &&& 31).toUInt32).toInt32) &&& (3 : Int32))), .val (.int (1 : Int32))] [(.ref b15)])) (fun t k => XS.aload X44.here hx rfl (hb hby at_160) rfl rfl k) ?_
            refine Go.on (T' := T44) (g' := (mkF m 164 #[.val (.int i0), .val (.int i1), .val (.int i2), .val (.int i3), .val (.int i4), .val (.int i5), .val (.int v1), .val (.int v3), .val (.int v5), .val (.ref v7), .val (.ref v11), .val (.ref b15), .val (.ref b43), .val (.int (((i5.toUInt32 >>> ((5 : Int32) &&& 31).toUInt32).toInt32) &&& (3 : Int32))), .val (.int (1 : Int32))] [(.ref b43), (.ref b15)])) (fun t k => XS.aload X44.here hx rfl (hb hby at_162) rfl rfl k) ?_
            have f50 : Exa Z T44.heap b15 "com/example/pedina/pedina/rules/Position" := ((fq42_0.ext E43).keep K44)
            have f76 : Fld Z T44.heap b15 "com/example/pedina/pedina/rules/Position" "white" "I" (.int i0) := ((fq42_1.ext E43).keep K44 (ninS (Nat.ne_of_lt (Nat.lt_of_lt_of_le (A15.keep K42).lt (Nat.le_of_eq g43.symm))) nin0))
            have f77 : Fld Z T44.heap b15 "com/example/pedina/pedina/rules/Position" "black" "I" (.int i1) := ((fq42_2.ext E43).keep K44 (ninS (Nat.ne_of_lt (Nat.lt_of_lt_of_le (A15.keep K42).lt (Nat.le_of_eq g43.symm))) nin0))
            have f78 : Fld Z T44.heap b15 "com/example/pedina/pedina/rules/Position" "kings" "I" (.int i2) := ((fq42_3.ext E43).keep K44 (ninS (Nat.ne_of_lt (Nat.lt_of_lt_of_le (A15.keep K42).lt (Nat.le_of_eq g43.symm))) nin0))
            have f79 : Fld Z T44.heap b15 "com/example/pedina/pedina/rules/Position" "sideToMove" "Lcom/example/pedina/pedina/rules/Side;" (.ref v7) := ((fq42_4.ext E43).keep K44 (ninS (Nat.ne_of_lt (Nat.lt_of_lt_of_le (A15.keep K42).lt (Nat.le_of_eq g43.symm))) nin0))
            obtain ⟨cq75, kq75, q75a, q75b, q75c⟩ := isOf hZ e44 f50
            obtain ⟨_, _, ⟨T75, L75, k75, n75⟩, -, X75, ⟨Lc75, hQ75, l75, y75, z75⟩, st75⟩ := X44.virtualBack hx (y := (⟨"com/example/pedina/pedina/rules/Position", "equals", "(Ljava/lang/Object;)Z"⟩ : MethodName)) (z := (⟨"com/example/pedina/pedina/rules/Position", "equals", "(Ljava/lang/Object;)Z"⟩ : MethodName)) hown (mvT hZ (hw _ (List.mem_of_getElem? (i := 20) rfl))) (mvT hZ (hw _ (List.mem_of_getElem? (i := 21) rfl))) (notFace_of_selects (args := #[]) (mvT hZ (hw _ (List.mem_of_getElem? (i := 23) rfl)))) (mvT hZ (hw _ (List.mem_of_getElem? (i := 23) rfl))) (mvT hZ (hw _ (List.mem_of_getElem? (i := 22) rfl))) (by decide) (backOf (W := 0) (rm3_0 l Z a0 hw [] w hB hP T44.heap XT44 b15 i0 i1 i2 v7 b43 v1 v3 v5 v11 f50 f76 f77 f78 f79 gb15 fq44_0 fq44_1 fq44_2 fq44_3 fq44_4 gb43 (Nat.ne_of_lt (Nat.lt_of_lt_of_le (A15.keep K42).lt (Nat.le_of_eq g43.symm))) h46 h47 h48 h49) hZ (hw _ (List.mem_of_getElem? (i := 24) rfl)) (hw _ (List.mem_of_getElem? (i := 5) rfl)) (by decide) (by decide)) q75a q75c (g := (mkF m 164 #[.val (.int i0), .val (.int i1), .val (.int i2), .val (.int i3), .val (.int i4), .val (.int i5), .val (.int v1), .val (.int v3), .val (.int v5), .val (.ref v7), .val (.ref v11), .val (.ref b15), .val (.ref b43), .val (.int (((i5.toUInt32 >>> ((5 : Int32) &&& 31).toUInt32).toInt32) &&& (3 : Int32))), .val (.int (1 : Int32))] [(.ref b43), (.ref b15)])) rfl (by rw [hml]; rfl) (Steps.refl _) (argsL := [(.ref b43)]) (rest := []) (lenOf pd_1 rfl) rfl (by show 2 * 0 + _ ≤ _; exact Nat.le_of_eq rfl) (hb hby at_164) (fun _ _ => ⟨rfl, e44, (by decide : 2 + 0 ≤ _), (by decide : 8 + 0 ≤ _)⟩)
            dsimp only [Pt.U, Pt.locs, Pt.cells, Pt.slots] at X75 l75 y75 z75 st75 hQ75
            subst l75 y75 z75
            obtain ⟨⟨rfl, e75⟩, N75q⟩ := hQ75
            have N75 := Fr.app N44 N75q
            refine Go.on (T' := T75) (g' := (mkF m 167 #[.val (.int i0), .val (.int i1), .val (.int i2), .val (.int i3), .val (.int i4), .val (.int i5), .val (.int v1), .val (.int v3), .val (.int v5), .val (.ref v7), .val (.ref v11), .val (.ref b15), .val (.ref b43), .val (.int (((i5.toUInt32 >>> ((5 : Int32) &&& 31).toUInt32).toInt32) &&& (3 : Int32))), .val (.int (1 : Int32))] [(.int (1 : Int32))])) (fun t k => st75.trans k) ?_
            refine Go.on (T' := T75) (g' := (mkF m 169 #[.val (.int i0), .val (.int i1), .val (.int i2), .val (.int i3), .val (.int i4), .val (.int i5), .val (.int v1), .val (.int v3), .val (.int v5), .val (.ref v7), .val (.ref v11), .val (.ref b15), .val (.ref b43), .val (.int (((i5.toUInt32 >>> ((5 : Int32) &&& 31).toUInt32).toInt32) &&& (3 : Int32))), .val (.int (1 : Int32))] [(.int (1 : Int32)), (.int (1 : Int32))])) (fun t k => XS.iload X75.here hx rfl (hb hby at_167) rfl k) ?_
            refine Go.on (T' := T75) (g' := (mkF m 172 #[.val (.int i0), .val (.int i1), .val (.int i2), .val (.int i3), .val (.int i4), .val (.int i5), .val (.int v1), .val (.int v3), .val (.int v5), .val (.ref v7), .val (.ref v11), .val (.ref b15), .val (.ref b43), .val (.int (((i5.toUInt32 >>> ((5 : Int32) &&& 31).toUInt32).toInt32) &&& (3 : Int32))), .val (.int (1 : Int32))] [])) (fun t k => XS.icmpNo X75.here hx rfl (hb hby at_169) rfl (teq (by decide : (1 : Int32) = (1 : Int32))).2 k) ?_
            refine Go.on (T' := T75) (g' := (mkF m 174 #[.val (.int i0), .val (.int i1), .val (.int i2), .val (.int i3), .val (.int i4), .val (.int i5), .val (.int v1), .val (.int v3), .val (.int v5), .val (.ref v7), .val (.ref v11), .val (.ref b15), .val (.ref b43), .val (.int (((i5.toUInt32 >>> ((5 : Int32) &&& 31).toUInt32).toInt32) &&& (3 : Int32))), .val (.int (1 : Int32))] [(.ref b43)])) (fun t k => XS.aload X75.here hx rfl (hb hby at_172) rfl rfl k) ?_
            refine Go.on (T' := T75) (g' := (mkF m 176 #[.val (.int i0), .val (.int i1), .val (.int i2), .val (.int i3), .val (.int i4), .val (.int i5), .val (.int v1), .val (.int v3), .val (.int v5), .val (.ref v7), .val (.ref v11), .val (.ref b15), .val (.ref b43), .val (.int (((i5.toUInt32 >>> ((5 : Int32) &&& 31).toUInt32).toInt32) &&& (3 : Int32))), .val (.int (1 : Int32))] [(.ref b15), (.ref b43)])) (fun t k => XS.aload X75.here hx rfl (hb hby at_174) rfl rfl k) ?_
            obtain ⟨cq80, kq80, q80a, q80b, q80c⟩ := isOf hZ e75 fq44_0
            obtain ⟨_, _, ⟨T80, L80, k80, n80⟩, -, X80, ⟨Lc80, hQ80, l80, y80, z80⟩, st80⟩ := X75.virtualBack hx (y := (⟨"com/example/pedina/pedina/rules/Position", "equals", "(Ljava/lang/Object;)Z"⟩ : MethodName)) (z := (⟨"com/example/pedina/pedina/rules/Position", "equals", "(Ljava/lang/Object;)Z"⟩ : MethodName)) hown (mvT hZ (hw _ (List.mem_of_getElem? (i := 20) rfl))) (mvT hZ (hw _ (List.mem_of_getElem? (i := 21) rfl))) (notFace_of_selects (args := #[]) (mvT hZ (hw _ (List.mem_of_getElem? (i := 23) rfl)))) (mvT hZ (hw _ (List.mem_of_getElem? (i := 23) rfl))) (mvT hZ (hw _ (List.mem_of_getElem? (i := 22) rfl))) (by decide) (backOf (W := 0) (rm3_0 l Z a0 hw [] w hB hP T44.heap XT44 b43 v1 v3 v5 v11 b15 i0 i1 i2 v7 fq44_0 fq44_1 fq44_2 fq44_3 fq44_4 gb43 f50 f76 f77 f78 f79 gb15 (Ne.symm (Nat.ne_of_lt (Nat.lt_of_lt_of_le (A15.keep K42).lt (Nat.le_of_eq g43.symm)))) h46.symm h47.symm h48.symm h49.symm) hZ (hw _ (List.mem_of_getElem? (i := 24) rfl)) (hw _ (List.mem_of_getElem? (i := 5) rfl)) (by decide) (by decide)) q80a q80c (g := (mkF m 176 #[.val (.int i0), .val (.int i1), .val (.int i2), .val (.int i3), .val (.int i4), .val (.int i5), .val (.int v1), .val (.int v3), .val (.int v5), .val (.ref v7), .val (.ref v11), .val (.ref b15), .val (.ref b43), .val (.int (((i5.toUInt32 >>> ((5 : Int32) &&& 31).toUInt32).toInt32) &&& (3 : Int32))), .val (.int (1 : Int32))] [(.ref b15), (.ref b43)])) rfl (by rw [hml]; rfl) (Steps.refl _) (argsL := [(.ref b15)]) (rest := []) (lenOf pd_1 rfl) rfl (by show 2 * 0 + _ ≤ _; exact Nat.le_of_eq rfl) (hb hby at_176) (fun _ _ => ⟨rfl, e75, (by decide : 2 + 0 ≤ _), (by decide : 8 + 0 ≤ _)⟩)
            dsimp only [Pt.U, Pt.locs, Pt.cells, Pt.slots] at X80 l80 y80 z80 st80 hQ80
            subst l80 y80 z80
            obtain ⟨⟨rfl, e80⟩, N80q⟩ := hQ80
            have N80 := Fr.app N75 N80q
            refine Go.on (T' := T80) (g' := (mkF m 179 #[.val (.int i0), .val (.int i1), .val (.int i2), .val (.int i3), .val (.int i4), .val (.int i5), .val (.int v1), .val (.int v3), .val (.int v5), .val (.ref v7), .val (.ref v11), .val (.ref b15), .val (.ref b43), .val (.int (((i5.toUInt32 >>> ((5 : Int32) &&& 31).toUInt32).toInt32) &&& (3 : Int32))), .val (.int (1 : Int32))] [(.int (1 : Int32))])) (fun t k => st80.trans k) ?_
            refine Go.on (T' := T80) (g' := (mkF m 181 #[.val (.int i0), .val (.int i1), .val (.int i2), .val (.int i3), .val (.int i4), .val (.int i5), .val (.int v1), .val (.int v3), .val (.int v5), .val (.ref v7), .val (.ref v11), .val (.ref b15), .val (.ref b43), .val (.int (((i5.toUInt32 >>> ((5 : Int32) &&& 31).toUInt32).toInt32) &&& (3 : Int32))), .val (.int (1 : Int32))] [(.int (1 : Int32)), (.int (1 : Int32))])) (fun t k => XS.iload X80.here hx rfl (hb hby at_179) rfl k) ?_
            refine Go.on (T' := T80) (g' := (mkF m 184 #[.val (.int i0), .val (.int i1), .val (.int i2), .val (.int i3), .val (.int i4), .val (.int i5), .val (.int v1), .val (.int v3), .val (.int v5), .val (.ref v7), .val (.ref v11), .val (.ref b15), .val (.ref b43), .val (.int (((i5.toUInt32 >>> ((5 : Int32) &&& 31).toUInt32).toInt32) &&& (3 : Int32))), .val (.int (1 : Int32))] [])) (fun t k => XS.icmpNo X80.here hx rfl (hb hby at_181) rfl (teq (by decide : (1 : Int32) = (1 : Int32))).2 k) ?_
            refine Go.on (T' := T80) (g' := (mkF m 185 #[.val (.int i0), .val (.int i1), .val (.int i2), .val (.int i3), .val (.int i4), .val (.int i5), .val (.int v1), .val (.int v3), .val (.int v5), .val (.ref v7), .val (.ref v11), .val (.ref b15), .val (.ref b43), .val (.int (((i5.toUInt32 >>> ((5 : Int32) &&& 31).toUInt32).toInt32) &&& (3 : Int32))), .val (.int (1 : Int32))] [(.int (1 : Int32))])) (fun t k => XS.iconst X80.here hx rfl (hb hby at_184) k) ?_
            refine Go.on (T' := T80) (g' := (mkF m 189 #[.val (.int i0), .val (.int i1), .val (.int i2), .val (.int i3), .val (.int i4), .val (.int i5), .val (.int v1), .val (.int v3), .val (.int v5), .val (.ref v7), .val (.ref v11), .val (.ref b15), .val (.ref b43), .val (.int (((i5.toUInt32 >>> ((5 : Int32) &&& 31).toUInt32).toInt32) &&& (3 : Int32))), .val (.int (1 : Int32))] [(.int (1 : Int32))])) (fun t k => XS.goto X80.here hx rfl (pc0 := 185) (pc' := 189) rfl (hb hby at_185) (by decide) (by decide) k) ?_
            subst hG
            obtain ⟨fs, hr, hrun, hended, hW, hsame⟩ := X80.leave (v := some (.int (1 : Int32))) (fun h => by rw [Bd.returns] at h; cases h)
            exact ⟨_, _, retN X80 hx (t := .boolean) Bd.returns (by simp) (hb hby at_189) hr, hrun, hended, _, _, rfl, ⟨rfl, N80⟩, ⟨_, rfl⟩, hW, hsame.mono (by decide) (by decide)⟩
          · skip
            refine Go.on (T' := T44) (g' := (mkF m 157 #[.val (.int i0), .val (.int i1), .val (.int i2), .val (.int i3), .val (.int i4), .val (.int i5), .val (.int v1), .val (.int v3), .val (.int v5), .val (.ref v7), .val (.ref v11), .val (.ref b15), .val (.ref b43), .val (.int (((i5.toUInt32 >>> ((5 : Int32) &&& 31).toUInt32).toInt32) &&& (3 : Int32))), .unset] [])) (fun t k => Jvm.RoadKit.acmp (g := (mkF m 150 #[.val (.int i0), .val (.int i1), .val (.int i2), .val (.int i3), .val (.int i4), .val (.int i5), .val (.int v1), .val (.int v3), .val (.int v5), .val (.ref v7), .val (.ref v11), .val (.ref b15), .val (.ref b43), .val (.int (((i5.toUInt32 >>> ((5 : Int32) &&& 31).toUInt32).toInt32) &&& (3 : Int32))), .unset] [(.ref v11), (.ref v7)])) X44 hx rfl rfl rfl (pc0 := 150) (pc' := 157) (same := false) rfl (hb hby at_150) rfl (decide_eq_false fun q => h49 (Value.ref.inj q)) (by decide) (by decide) k) ?_
            refine Go.on (T' := T44) (g' := (mkF m 158 #[.val (.int i0), .val (.int i1), .val (.int i2), .val (.int i3), .val (.int i4), .val (.int i5), .val (.int v1), .val (.int v3), .val (.int v5), .val (.ref v7), .val (.ref v11), .val (.ref b15), .val (.ref b43), .val (.int (((i5.toUInt32 >>> ((5 : Int32) &&& 31).toUInt32).toInt32) &&& (3 : Int32))), .unset] [(.int (0 : Int32))])) (fun t k => XS.iconst X44.here hx rfl (hb hby at_157) k) ?_
            refine Go.on (T' := T44) (g' := (mkF m 160 #[.val (.int i0), .val (.int i1), .val (.int i2), .val (.int i3), .val (.int i4), .val (.int i5), .val (.int v1), .val (.int v3), .val (.int v5), .val (.ref v7), .val (.ref v11), .val (.ref b15), .val (.ref b43), .val (.int (((i5.toUInt32 >>> ((5 : Int32) &&& 31).toUInt32).toInt32) &&& (3 : Int32))), .val (.int (0 : Int32))] [])) (fun t k => XS.istore X44.here hx rfl (hb hby at_158) rfl (l' := #[.val (.int i0), .val (.int i1), .val (.int i2), .val (.int i3), .val (.int i4), .val (.int i5), .val (.int v1), .val (.int v3), .val (.int v5), .val (.ref v7), .val (.ref v11), .val (.ref b15), .val (.ref b43), .val (.int (((i5.toUInt32 >>> ((5 : Int32) &&& 31).toUInt32).toInt32) &&& (3 : Int32))), .val (.int (0 : Int32))]) rfl k) ?_
            refine Go.on (T' := T44) (g' := (mkF m 162 #[.val (.int i0), .val (.int i1), .val (.int i2), .val (.int i3), .val (.int i4), .val (.int i5), .val (.int v1), .val (.int v3), .val (.int v5), .val (.ref v7), .val (.ref v11), .val (.ref b15), .val (.ref b43), .val (.int (((i5.toUInt32 >>> ((5 : Int32) &&& 31).toUInt32).toInt32) &&& (3 : Int32))), .val (.int (0 : Int32))] [(.ref b15)])) (fun t k => XS.aload X44.here hx rfl (hb hby at_160) rfl rfl k) ?_
            refine Go.on (T' := T44) (g' := (mkF m 164 #[.val (.int i0), .val (.int i1), .val (.int i2), .val (.int i3), .val (.int i4), .val (.int i5), .val (.int v1), .val (.int v3), .val (.int v5), .val (.ref v7), .val (.ref v11), .val (.ref b15), .val (.ref b43), .val (.int (((i5.toUInt32 >>> ((5 : Int32) &&& 31).toUInt32).toInt32) &&& (3 : Int32))), .val (.int (0 : Int32))] [(.ref b43), (.ref b15)])) (fun t k => XS.aload X44.here hx rfl (hb hby at_162) rfl rfl k) ?_
            have f81 : Exa Z T44.heap b15 "com/example/pedina/pedina/rules/Position" := ((fq42_0.ext E43).keep K44)
            have f93 : Fld Z T44.heap b15 "com/example/pedina/pedina/rules/Position" "white" "I" (.int i0) := ((fq42_1.ext E43).keep K44 (ninS (Nat.ne_of_lt (Nat.lt_of_lt_of_le (A15.keep K42).lt (Nat.le_of_eq g43.symm))) nin0))
            have f94 : Fld Z T44.heap b15 "com/example/pedina/pedina/rules/Position" "black" "I" (.int i1) := ((fq42_2.ext E43).keep K44 (ninS (Nat.ne_of_lt (Nat.lt_of_lt_of_le (A15.keep K42).lt (Nat.le_of_eq g43.symm))) nin0))
            have f95 : Fld Z T44.heap b15 "com/example/pedina/pedina/rules/Position" "kings" "I" (.int i2) := ((fq42_3.ext E43).keep K44 (ninS (Nat.ne_of_lt (Nat.lt_of_lt_of_le (A15.keep K42).lt (Nat.le_of_eq g43.symm))) nin0))
            have f96 : Fld Z T44.heap b15 "com/example/pedina/pedina/rules/Position" "sideToMove" "Lcom/example/pedina/pedina/rules/Side;" (.ref v7) := ((fq42_4.ext E43).keep K44 (ninS (Nat.ne_of_lt (Nat.lt_of_lt_of_le (A15.keep K42).lt (Nat.le_of_eq g43.symm))) nin0))
            obtain ⟨cq92, kq92, q92a, q92b, q92c⟩ := isOf hZ e44 f81
            obtain ⟨_, _, ⟨T92, L92, k92, n92⟩, -, X92, ⟨Lc92, hQ92, l92, y92, z92⟩, st92⟩ := X44.virtualBack hx (y := (⟨"com/example/pedina/pedina/rules/Position", "equals", "(Ljava/lang/Object;)Z"⟩ : MethodName)) (z := (⟨"com/example/pedina/pedina/rules/Position", "equals", "(Ljava/lang/Object;)Z"⟩ : MethodName)) hown (mvT hZ (hw _ (List.mem_of_getElem? (i := 20) rfl))) (mvT hZ (hw _ (List.mem_of_getElem? (i := 21) rfl))) (notFace_of_selects (args := #[]) (mvT hZ (hw _ (List.mem_of_getElem? (i := 23) rfl)))) (mvT hZ (hw _ (List.mem_of_getElem? (i := 23) rfl))) (mvT hZ (hw _ (List.mem_of_getElem? (i := 22) rfl))) (by decide) (backOf (W := 0) (rm3_1 l Z a0 hw [] w hB hP T44.heap XT44 b15 i0 i1 i2 v7 b43 v1 v3 v5 v11 f81 f93 f94 f95 f96 gb15 fq44_0 fq44_1 fq44_2 fq44_3 fq44_4 gb43 (Nat.ne_of_lt (Nat.lt_of_lt_of_le (A15.keep K42).lt (Nat.le_of_eq g43.symm))) h46 h47 h48 h49) hZ (hw _ (List.mem_of_getElem? (i := 24) rfl)) (hw _ (List.mem_of_getElem? (i := 5) rfl)) (by decide) (by decide)) q92a q92c (g := (mkF m 164 #[.val (.int i0), .val (.int i1), .val (.int i2), .val (.int i3), .val (.int i4), .val (.int i5), .val (.int v1), .val (.int v3), .val (.int v5), .val (.ref v7), .val (.ref v11), .val (.ref b15), .val (.ref b43), .val (.int (((i5.toUInt32 >>> ((5 : Int32) &&& 31).toUInt32).toInt32) &&& (3 : Int32))), .val (.int (0 : Int32))] [(.ref b43), (.ref b15)])) rfl (by rw [hml]; rfl) (Steps.refl _) (argsL := [(.ref b43)]) (rest := []) (lenOf pd_1 rfl) rfl (by show 2 * 0 + _ ≤ _; exact Nat.le_of_eq rfl) (hb hby at_164) (fun _ _ => ⟨rfl, e44, (by decide : 2 + 0 ≤ _), (by decide : 8 + 0 ≤ _)⟩)
            dsimp only [Pt.U, Pt.locs, Pt.cells, Pt.slots] at X92 l92 y92 z92 st92 hQ92
            subst l92 y92 z92
            obtain ⟨⟨rfl, e92⟩, N92q⟩ := hQ92
            have N92 := Fr.app N44 N92q
            refine Go.on (T' := T92) (g' := (mkF m 167 #[.val (.int i0), .val (.int i1), .val (.int i2), .val (.int i3), .val (.int i4), .val (.int i5), .val (.int v1), .val (.int v3), .val (.int v5), .val (.ref v7), .val (.ref v11), .val (.ref b15), .val (.ref b43), .val (.int (((i5.toUInt32 >>> ((5 : Int32) &&& 31).toUInt32).toInt32) &&& (3 : Int32))), .val (.int (0 : Int32))] [(.int (0 : Int32))])) (fun t k => st92.trans k) ?_
            refine Go.on (T' := T92) (g' := (mkF m 169 #[.val (.int i0), .val (.int i1), .val (.int i2), .val (.int i3), .val (.int i4), .val (.int i5), .val (.int v1), .val (.int v3), .val (.int v5), .val (.ref v7), .val (.ref v11), .val (.ref b15), .val (.ref b43), .val (.int (((i5.toUInt32 >>> ((5 : Int32) &&& 31).toUInt32).toInt32) &&& (3 : Int32))), .val (.int (0 : Int32))] [(.int (0 : Int32)), (.int (0 : Int32))])) (fun t k => XS.iload X92.here hx rfl (hb hby at_167) rfl k) ?_
            refine Go.on (T' := T92) (g' := (mkF m 172 #[.val (.int i0), .val (.int i1), .val (.int i2), .val (.int i3), .val (.int i4), .val (.int i5), .val (.int v1), .val (.int v3), .val (.int v5), .val (.ref v7), .val (.ref v11), .val (.ref b15), .val (.ref b43), .val (.int (((i5.toUInt32 >>> ((5 : Int32) &&& 31).toUInt32).toInt32) &&& (3 : Int32))), .val (.int (0 : Int32))] [])) (fun t k => XS.icmpNo X92.here hx rfl (hb hby at_169) rfl (teq (by decide : (0 : Int32) = (0 : Int32))).2 k) ?_
            refine Go.on (T' := T92) (g' := (mkF m 174 #[.val (.int i0), .val (.int i1), .val (.int i2), .val (.int i3), .val (.int i4), .val (.int i5), .val (.int v1), .val (.int v3), .val (.int v5), .val (.ref v7), .val (.ref v11), .val (.ref b15), .val (.ref b43), .val (.int (((i5.toUInt32 >>> ((5 : Int32) &&& 31).toUInt32).toInt32) &&& (3 : Int32))), .val (.int (0 : Int32))] [(.ref b43)])) (fun t k => XS.aload X92.here hx rfl (hb hby at_172) rfl rfl k) ?_
            refine Go.on (T' := T92) (g' := (mkF m 176 #[.val (.int i0), .val (.int i1), .val (.int i2), .val (.int i3), .val (.int i4), .val (.int i5), .val (.int v1), .val (.int v3), .val (.int v5), .val (.ref v7), .val (.ref v11), .val (.ref b15), .val (.ref b43), .val (.int (((i5.toUInt32 >>> ((5 : Int32) &&& 31).toUInt32).toInt32) &&& (3 : Int32))), .val (.int (0 : Int32))] [(.ref b15), (.ref b43)])) (fun t k => XS.aload X92.here hx rfl (hb hby at_174) rfl rfl k) ?_
            obtain ⟨cq97, kq97, q97a, q97b, q97c⟩ := isOf hZ e92 fq44_0
            obtain ⟨_, _, ⟨T97, L97, k97, n97⟩, -, X97, ⟨Lc97, hQ97, l97, y97, z97⟩, st97⟩ := X92.virtualBack hx (y := (⟨"com/example/pedina/pedina/rules/Position", "equals", "(Ljava/lang/Object;)Z"⟩ : MethodName)) (z := (⟨"com/example/pedina/pedina/rules/Position", "equals", "(Ljava/lang/Object;)Z"⟩ : MethodName)) hown (mvT hZ (hw _ (List.mem_of_getElem? (i := 20) rfl))) (mvT hZ (hw _ (List.mem_of_getElem? (i := 21) rfl))) (notFace_of_selects (args := #[]) (mvT hZ (hw _ (List.mem_of_getElem? (i := 23) rfl)))) (mvT hZ (hw _ (List.mem_of_getElem? (i := 23) rfl))) (mvT hZ (hw _ (List.mem_of_getElem? (i := 22) rfl))) (by decide) (backOf (W := 0) (rm3_1 l Z a0 hw [] w hB hP T44.heap XT44 b43 v1 v3 v5 v11 b15 i0 i1 i2 v7 fq44_0 fq44_1 fq44_2 fq44_3 fq44_4 gb43 f81 f93 f94 f95 f96 gb15 (Ne.symm (Nat.ne_of_lt (Nat.lt_of_lt_of_le (A15.keep K42).lt (Nat.le_of_eq g43.symm)))) h46.symm h47.symm h48.symm (fun q => h49 q.symm)) hZ (hw _ (List.mem_of_getElem? (i := 24) rfl)) (hw _ (List.mem_of_getElem? (i := 5) rfl)) (by decide) (by decide)) q97a q97c (g := (mkF m 176 #[.val (.int i0), .val (.int i1), .val (.int i2), .val (.int i3), .val (.int i4), .val (.int i5), .val (.int v1), .val (.int v3), .val (.int v5), .val (.ref v7), .val (.ref v11), .val (.ref b15), .val (.ref b43), .val (.int (((i5.toUInt32 >>> ((5 : Int32) &&& 31).toUInt32).toInt32) &&& (3 : Int32))), .val (.int (0 : Int32))] [(.ref b15), (.ref b43)])) rfl (by rw [hml]; rfl) (Steps.refl _) (argsL := [(.ref b15)]) (rest := []) (lenOf pd_1 rfl) rfl (by show 2 * 0 + _ ≤ _; exact Nat.le_of_eq rfl) (hb hby at_176) (fun _ _ => ⟨rfl, e92, (by decide : 2 + 0 ≤ _), (by decide : 8 + 0 ≤ _)⟩)
            dsimp only [Pt.U, Pt.locs, Pt.cells, Pt.slots] at X97 l97 y97 z97 st97 hQ97
            subst l97 y97 z97
            obtain ⟨⟨rfl, e97⟩, N97q⟩ := hQ97
            have N97 := Fr.app N92 N97q
            refine Go.on (T' := T97) (g' := (mkF m 179 #[.val (.int i0), .val (.int i1), .val (.int i2), .val (.int i3), .val (.int i4), .val (.int i5), .val (.int v1), .val (.int v3), .val (.int v5), .val (.ref v7), .val (.ref v11), .val (.ref b15), .val (.ref b43), .val (.int (((i5.toUInt32 >>> ((5 : Int32) &&& 31).toUInt32).toInt32) &&& (3 : Int32))), .val (.int (0 : Int32))] [(.int (0 : Int32))])) (fun t k => st97.trans k) ?_
            refine Go.on (T' := T97) (g' := (mkF m 181 #[.val (.int i0), .val (.int i1), .val (.int i2), .val (.int i3), .val (.int i4), .val (.int i5), .val (.int v1), .val (.int v3), .val (.int v5), .val (.ref v7), .val (.ref v11), .val (.ref b15), .val (.ref b43), .val (.int (((i5.toUInt32 >>> ((5 : Int32) &&& 31).toUInt32).toInt32) &&& (3 : Int32))), .val (.int (0 : Int32))] [(.int (0 : Int32)), (.int (0 : Int32))])) (fun t k => XS.iload X97.here hx rfl (hb hby at_179) rfl k) ?_
            refine Go.on (T' := T97) (g' := (mkF m 184 #[.val (.int i0), .val (.int i1), .val (.int i2), .val (.int i3), .val (.int i4), .val (.int i5), .val (.int v1), .val (.int v3), .val (.int v5), .val (.ref v7), .val (.ref v11), .val (.ref b15), .val (.ref b43), .val (.int (((i5.toUInt32 >>> ((5 : Int32) &&& 31).toUInt32).toInt32) &&& (3 : Int32))), .val (.int (0 : Int32))] [])) (fun t k => XS.icmpNo X97.here hx rfl (hb hby at_181) rfl (teq (by decide : (0 : Int32) = (0 : Int32))).2 k) ?_
            refine Go.on (T' := T97) (g' := (mkF m 185 #[.val (.int i0), .val (.int i1), .val (.int i2), .val (.int i3), .val (.int i4), .val (.int i5), .val (.int v1), .val (.int v3), .val (.int v5), .val (.ref v7), .val (.ref v11), .val (.ref b15), .val (.ref b43), .val (.int (((i5.toUInt32 >>> ((5 : Int32) &&& 31).toUInt32).toInt32) &&& (3 : Int32))), .val (.int (0 : Int32))] [(.int (1 : Int32))])) (fun t k => XS.iconst X97.here hx rfl (hb hby at_184) k) ?_
            refine Go.on (T' := T97) (g' := (mkF m 189 #[.val (.int i0), .val (.int i1), .val (.int i2), .val (.int i3), .val (.int i4), .val (.int i5), .val (.int v1), .val (.int v3), .val (.int v5), .val (.ref v7), .val (.ref v11), .val (.ref b15), .val (.ref b43), .val (.int (((i5.toUInt32 >>> ((5 : Int32) &&& 31).toUInt32).toInt32) &&& (3 : Int32))), .val (.int (0 : Int32))] [(.int (1 : Int32))])) (fun t k => XS.goto X97.here hx rfl (pc0 := 185) (pc' := 189) rfl (hb hby at_185) (by decide) (by decide) k) ?_
            subst hG
            obtain ⟨fs, hr, hrun, hended, hW, hsame⟩ := X97.leave (v := some (.int (1 : Int32))) (fun h => by rw [Bd.returns] at h; cases h)
            exact ⟨_, _, retN X97 hx (t := .boolean) Bd.returns (by simp) (hb hby at_189) hr, hrun, hended, _, _, rfl, ⟨rfl, N97⟩, ⟨_, rfl⟩, hW, hsame.mono (by decide) (by decide)⟩
        · skip
          refine Go.on (T' := T44) (g' := (mkF m 157 #[.val (.int i0), .val (.int i1), .val (.int i2), .val (.int i3), .val (.int i4), .val (.int i5), .val (.int v1), .val (.int v3), .val (.int v5), .val (.ref v7), .val (.ref v11), .val (.ref b15), .val (.ref b43), .val (.int (((i5.toUInt32 >>> ((5 : Int32) &&& 31).toUInt32).toInt32) &&& (3 : Int32))), .unset] [])) (fun t k => XS.icmpYes X44.here hx rfl (pc0 := 143) (pc' := 157) rfl (hb hby at_143) rfl (feq h48).2 (by decide) (by decide) k) ?_
          refine Go.on (T' := T44) (g' := (mkF m 158 #[.val (.int i0), .val (.int i1), .val (.int i2), .val (.int i3), .val (.int i4), .val (.int i5), .val (.int v1), .val (.int v3), .val (.int v5), .val (.ref v7), .val (.ref v11), .val (.ref b15), .val (.ref b43), .val (.int (((i5.toUInt32 >>> ((5 : Int32) &&& 31).toUInt32).toInt32) &&& (3 : Int32))), .unset] [(.int (0 : Int32))])) (fun t k => XS.iconst X44.here hx rfl (hb hby at_157) k) ?_
          refine Go.on (T' := T44) (g' := (mkF m 160 #[.val (.int i0), .val (.int i1), .val (.int i2), .val (.int i3), .val (.int i4), .val (.int i5), .val (.int v1), .val (.int v3), .val (.int v5), .val (.ref v7), .val (.ref v11), .val (.ref b15), .val (.ref b43), .val (.int (((i5.toUInt32 >>> ((5 : Int32) &&& 31).toUInt32).toInt32) &&& (3 : Int32))), .val (.int (0 : Int32))] [])) (fun t k => XS.istore X44.here hx rfl (hb hby at_158) rfl (l' := #[.val (.int i0), .val (.int i1), .val (.int i2), .val (.int i3), .val (.int i4), .val (.int i5), .val (.int v1), .val (.int v3), .val (.int v5), .val (.ref v7), .val (.ref v11), .val (.ref b15), .val (.ref b43), .val (.int (((i5.toUInt32 >>> ((5 : Int32) &&& 31).toUInt32).toInt32) &&& (3 : Int32))), .val (.int (0 : Int32))]) rfl k) ?_
          refine Go.on (T' := T44) (g' := (mkF m 162 #[.val (.int i0), .val (.int i1), .val (.int i2), .val (.int i3), .val (.int i4), .val (.int i5), .val (.int v1), .val (.int v3), .val (.int v5), .val (.ref v7), .val (.ref v11), .val (.ref b15), .val (.ref b43), .val (.int (((i5.toUInt32 >>> ((5 : Int32) &&& 31).toUInt32).toInt32) &&& (3 : Int32))), .val (.int (0 : Int32))] [(.ref b15)])) (fun t k => XS.aload X44.here hx rfl (hb hby at_160) rfl rfl k) ?_
          refine Go.on (T' := T44) (g' := (mkF m 164 #[.val (.int i0), .val (.int i1), .val (.int i2), .val (.int i3), .val (.int i4), .val (.int i5), .val (.int v1), .val (.int v3), .val (.int v5), .val (.ref v7), .val (.ref v11), .val (.ref b15), .val (.ref b43), .val (.int (((i5.toUInt32 >>> ((5 : Int32) &&& 31).toUInt32).toInt32) &&& (3 : Int32))), .val (.int (0 : Int32))] [(.ref b43), (.ref b15)])) (fun t k => XS.aload X44.here hx rfl (hb hby at_162) rfl rfl k) ?_
          have f98 : Exa Z T44.heap b15 "com/example/pedina/pedina/rules/Position" := ((fq42_0.ext E43).keep K44)
          have f108 : Fld Z T44.heap b15 "com/example/pedina/pedina/rules/Position" "white" "I" (.int i0) := ((fq42_1.ext E43).keep K44 (ninS (Nat.ne_of_lt (Nat.lt_of_lt_of_le (A15.keep K42).lt (Nat.le_of_eq g43.symm))) nin0))
          have f109 : Fld Z T44.heap b15 "com/example/pedina/pedina/rules/Position" "black" "I" (.int i1) := ((fq42_2.ext E43).keep K44 (ninS (Nat.ne_of_lt (Nat.lt_of_lt_of_le (A15.keep K42).lt (Nat.le_of_eq g43.symm))) nin0))
          have f110 : Fld Z T44.heap b15 "com/example/pedina/pedina/rules/Position" "kings" "I" (.int i2) := ((fq42_3.ext E43).keep K44 (ninS (Nat.ne_of_lt (Nat.lt_of_lt_of_le (A15.keep K42).lt (Nat.le_of_eq g43.symm))) nin0))
          have f111 : Fld Z T44.heap b15 "com/example/pedina/pedina/rules/Position" "sideToMove" "Lcom/example/pedina/pedina/rules/Side;" (.ref v7) := ((fq42_4.ext E43).keep K44 (ninS (Nat.ne_of_lt (Nat.lt_of_lt_of_le (A15.keep K42).lt (Nat.le_of_eq g43.symm))) nin0))
          obtain ⟨cq107, kq107, q107a, q107b, q107c⟩ := isOf hZ e44 f98
          obtain ⟨_, _, ⟨T107, L107, k107, n107⟩, -, X107, ⟨Lc107, hQ107, l107, y107, z107⟩, st107⟩ := X44.virtualBack hx (y := (⟨"com/example/pedina/pedina/rules/Position", "equals", "(Ljava/lang/Object;)Z"⟩ : MethodName)) (z := (⟨"com/example/pedina/pedina/rules/Position", "equals", "(Ljava/lang/Object;)Z"⟩ : MethodName)) hown (mvT hZ (hw _ (List.mem_of_getElem? (i := 20) rfl))) (mvT hZ (hw _ (List.mem_of_getElem? (i := 21) rfl))) (notFace_of_selects (args := #[]) (mvT hZ (hw _ (List.mem_of_getElem? (i := 23) rfl)))) (mvT hZ (hw _ (List.mem_of_getElem? (i := 23) rfl))) (mvT hZ (hw _ (List.mem_of_getElem? (i := 22) rfl))) (by decide) (backOf (W := 0) (rm3_2 l Z a0 hw [] w hB hP T44.heap XT44 b15 i0 i1 i2 v7 b43 v1 v3 v5 v11 f98 f108 f109 f110 f111 gb15 fq44_0 fq44_1 fq44_2 fq44_3 fq44_4 gb43 (Nat.ne_of_lt (Nat.lt_of_lt_of_le (A15.keep K42).lt (Nat.le_of_eq g43.symm))) h46 h47 h48) hZ (hw _ (List.mem_of_getElem? (i := 24) rfl)) (hw _ (List.mem_of_getElem? (i := 5) rfl)) (by decide) (by decide)) q107a q107c (g := (mkF m 164 #[.val (.int i0), .val (.int i1), .val (.int i2), .val (.int i3), .val (.int i4), .val (.int i5), .val (.int v1), .val (.int v3), .val (.int v5), .val (.ref v7), .val (.ref v11), .val (.ref b15), .val (.ref b43), .val (.int (((i5.toUInt32 >>> ((5 : Int32) &&& 31).toUInt32).toInt32) &&& (3 : Int32))), .val (.int (0 : Int32))] [(.ref b43), (.ref b15)])) rfl (by rw [hml]; rfl) (Steps.refl _) (argsL := [(.ref b43)]) (rest := []) (lenOf pd_1 rfl) rfl (by show 2 * 0 + _ ≤ _; exact Nat.le_of_eq rfl) (hb hby at_164) (fun _ _ => ⟨rfl, e44, (by decide : 2 + 0 ≤ _), (by decide : 8 + 0 ≤ _)⟩)
          dsimp only [Pt.U, Pt.locs, Pt.cells, Pt.slots] at X107 l107 y107 z107 st107 hQ107
          subst l107 y107 z107
          obtain ⟨⟨rfl, e107⟩, N107q⟩ := hQ107
          have N107 := Fr.app N44 N107q
          refine Go.on (T' := T107) (g' := (mkF m 167 #[.val (.int i0), .val (.int i1), .val (.int i2), .val (.int i3), .val (.int i4), .val (.int i5), .val (.int v1), .val (.int v3), .val (.int v5), .val (.ref v7), .val (.ref v11), .val (.ref b15), .val (.ref b43), .val (.int (((i5.toUInt32 >>> ((5 : Int32) &&& 31).toUInt32).toInt32) &&& (3 : Int32))), .val (.int (0 : Int32))] [(.int (0 : Int32))])) (fun t k => st107.trans k) ?_
          refine Go.on (T' := T107) (g' := (mkF m 169 #[.val (.int i0), .val (.int i1), .val (.int i2), .val (.int i3), .val (.int i4), .val (.int i5), .val (.int v1), .val (.int v3), .val (.int v5), .val (.ref v7), .val (.ref v11), .val (.ref b15), .val (.ref b43), .val (.int (((i5.toUInt32 >>> ((5 : Int32) &&& 31).toUInt32).toInt32) &&& (3 : Int32))), .val (.int (0 : Int32))] [(.int (0 : Int32)), (.int (0 : Int32))])) (fun t k => XS.iload X107.here hx rfl (hb hby at_167) rfl k) ?_
          refine Go.on (T' := T107) (g' := (mkF m 172 #[.val (.int i0), .val (.int i1), .val (.int i2), .val (.int i3), .val (.int i4), .val (.int i5), .val (.int v1), .val (.int v3), .val (.int v5), .val (.ref v7), .val (.ref v11), .val (.ref b15), .val (.ref b43), .val (.int (((i5.toUInt32 >>> ((5 : Int32) &&& 31).toUInt32).toInt32) &&& (3 : Int32))), .val (.int (0 : Int32))] [])) (fun t k => XS.icmpNo X107.here hx rfl (hb hby at_169) rfl (teq (by decide : (0 : Int32) = (0 : Int32))).2 k) ?_
          refine Go.on (T' := T107) (g' := (mkF m 174 #[.val (.int i0), .val (.int i1), .val (.int i2), .val (.int i3), .val (.int i4), .val (.int i5), .val (.int v1), .val (.int v3), .val (.int v5), .val (.ref v7), .val (.ref v11), .val (.ref b15), .val (.ref b43), .val (.int (((i5.toUInt32 >>> ((5 : Int32) &&& 31).toUInt32).toInt32) &&& (3 : Int32))), .val (.int (0 : Int32))] [(.ref b43)])) (fun t k => XS.aload X107.here hx rfl (hb hby at_172) rfl rfl k) ?_
          refine Go.on (T' := T107) (g' := (mkF m 176 #[.val (.int i0), .val (.int i1), .val (.int i2), .val (.int i3), .val (.int i4), .val (.int i5), .val (.int v1), .val (.int v3), .val (.int v5), .val (.ref v7), .val (.ref v11), .val (.ref b15), .val (.ref b43), .val (.int (((i5.toUInt32 >>> ((5 : Int32) &&& 31).toUInt32).toInt32) &&& (3 : Int32))), .val (.int (0 : Int32))] [(.ref b15), (.ref b43)])) (fun t k => XS.aload X107.here hx rfl (hb hby at_174) rfl rfl k) ?_
          obtain ⟨cq112, kq112, q112a, q112b, q112c⟩ := isOf hZ e107 fq44_0
          obtain ⟨_, _, ⟨T112, L112, k112, n112⟩, -, X112, ⟨Lc112, hQ112, l112, y112, z112⟩, st112⟩ := X107.virtualBack hx (y := (⟨"com/example/pedina/pedina/rules/Position", "equals", "(Ljava/lang/Object;)Z"⟩ : MethodName)) (z := (⟨"com/example/pedina/pedina/rules/Position", "equals", "(Ljava/lang/Object;)Z"⟩ : MethodName)) hown (mvT hZ (hw _ (List.mem_of_getElem? (i := 20) rfl))) (mvT hZ (hw _ (List.mem_of_getElem? (i := 21) rfl))) (notFace_of_selects (args := #[]) (mvT hZ (hw _ (List.mem_of_getElem? (i := 23) rfl)))) (mvT hZ (hw _ (List.mem_of_getElem? (i := 23) rfl))) (mvT hZ (hw _ (List.mem_of_getElem? (i := 22) rfl))) (by decide) (backOf (W := 0) (rm3_2 l Z a0 hw [] w hB hP T44.heap XT44 b43 v1 v3 v5 v11 b15 i0 i1 i2 v7 fq44_0 fq44_1 fq44_2 fq44_3 fq44_4 gb43 f98 f108 f109 f110 f111 gb15 (Ne.symm (Nat.ne_of_lt (Nat.lt_of_lt_of_le (A15.keep K42).lt (Nat.le_of_eq g43.symm)))) h46.symm h47.symm (fun q => h48 q.symm)) hZ (hw _ (List.mem_of_getElem? (i := 24) rfl)) (hw _ (List.mem_of_getElem? (i := 5) rfl)) (by decide) (by decide)) q112a q112c (g := (mkF m 176 #[.val (.int i0), .val (.int i1), .val (.int i2), .val (.int i3), .val (.int i4), .val (.int i5), .val (.int v1), .val (.int v3), .val (.int v5), .val (.ref v7), .val (.ref v11), .val (.ref b15), .val (.ref b43), .val (.int (((i5.toUInt32 >>> ((5 : Int32) &&& 31).toUInt32).toInt32) &&& (3 : Int32))), .val (.int (0 : Int32))] [(.ref b15), (.ref b43)])) rfl (by rw [hml]; rfl) (Steps.refl _) (argsL := [(.ref b15)]) (rest := []) (lenOf pd_1 rfl) rfl (by show 2 * 0 + _ ≤ _; exact Nat.le_of_eq rfl) (hb hby at_176) (fun _ _ => ⟨rfl, e107, (by decide : 2 + 0 ≤ _), (by decide : 8 + 0 ≤ _)⟩)
          dsimp only [Pt.U, Pt.locs, Pt.cells, Pt.slots] at X112 l112 y112 z112 st112 hQ112
          subst l112 y112 z112
          obtain ⟨⟨rfl, e112⟩, N112q⟩ := hQ112
          have N112 := Fr.app N107 N112q
          refine Go.on (T' := T112) (g' := (mkF m 179 #[.val (.int i0), .val (.int i1), .val (.int i2), .val (.int i3), .val (.int i4), .val (.int i5), .val (.int v1), .val (.int v3), .val (.int v5), .val (.ref v7), .val (.ref v11), .val (.ref b15), .val (.ref b43), .val (.int (((i5.toUInt32 >>> ((5 : Int32) &&& 31).toUInt32).toInt32) &&& (3 : Int32))), .val (.int (0 : Int32))] [(.int (0 : Int32))])) (fun t k => st112.trans k) ?_
          refine Go.on (T' := T112) (g' := (mkF m 181 #[.val (.int i0), .val (.int i1), .val (.int i2), .val (.int i3), .val (.int i4), .val (.int i5), .val (.int v1), .val (.int v3), .val (.int v5), .val (.ref v7), .val (.ref v11), .val (.ref b15), .val (.ref b43), .val (.int (((i5.toUInt32 >>> ((5 : Int32) &&& 31).toUInt32).toInt32) &&& (3 : Int32))), .val (.int (0 : Int32))] [(.int (0 : Int32)), (.int (0 : Int32))])) (fun t k => XS.iload X112.here hx rfl (hb hby at_179) rfl k) ?_
          refine Go.on (T' := T112) (g' := (mkF m 184 #[.val (.int i0), .val (.int i1), .val (.int i2), .val (.int i3), .val (.int i4), .val (.int i5), .val (.int v1), .val (.int v3), .val (.int v5), .val (.ref v7), .val (.ref v11), .val (.ref b15), .val (.ref b43), .val (.int (((i5.toUInt32 >>> ((5 : Int32) &&& 31).toUInt32).toInt32) &&& (3 : Int32))), .val (.int (0 : Int32))] [])) (fun t k => XS.icmpNo X112.here hx rfl (hb hby at_181) rfl (teq (by decide : (0 : Int32) = (0 : Int32))).2 k) ?_
          refine Go.on (T' := T112) (g' := (mkF m 185 #[.val (.int i0), .val (.int i1), .val (.int i2), .val (.int i3), .val (.int i4), .val (.int i5), .val (.int v1), .val (.int v3), .val (.int v5), .val (.ref v7), .val (.ref v11), .val (.ref b15), .val (.ref b43), .val (.int (((i5.toUInt32 >>> ((5 : Int32) &&& 31).toUInt32).toInt32) &&& (3 : Int32))), .val (.int (0 : Int32))] [(.int (1 : Int32))])) (fun t k => XS.iconst X112.here hx rfl (hb hby at_184) k) ?_
          refine Go.on (T' := T112) (g' := (mkF m 189 #[.val (.int i0), .val (.int i1), .val (.int i2), .val (.int i3), .val (.int i4), .val (.int i5), .val (.int v1), .val (.int v3), .val (.int v5), .val (.ref v7), .val (.ref v11), .val (.ref b15), .val (.ref b43), .val (.int (((i5.toUInt32 >>> ((5 : Int32) &&& 31).toUInt32).toInt32) &&& (3 : Int32))), .val (.int (0 : Int32))] [(.int (1 : Int32))])) (fun t k => XS.goto X112.here hx rfl (pc0 := 185) (pc' := 189) rfl (hb hby at_185) (by decide) (by decide) k) ?_
          subst hG
          obtain ⟨fs, hr, hrun, hended, hW, hsame⟩ := X112.leave (v := some (.int (1 : Int32))) (fun h => by rw [Bd.returns] at h; cases h)
          exact ⟨_, _, retN X112 hx (t := .boolean) Bd.returns (by simp) (hb hby at_189) hr, hrun, hended, _, _, rfl, ⟨rfl, N112⟩, ⟨_, rfl⟩, hW, hsame.mono (by decide) (by decide)⟩
      · skip
        refine Go.on (T' := T44) (g' := (mkF m 157 #[.val (.int i0), .val (.int i1), .val (.int i2), .val (.int i3), .val (.int i4), .val (.int i5), .val (.int v1), .val (.int v3), .val (.int v5), .val (.ref v7), .val (.ref v11), .val (.ref b15), .val (.ref b43), .val (.int (((i5.toUInt32 >>> ((5 : Int32) &&& 31).toUInt32).toInt32) &&& (3 : Int32))), .unset] [])) (fun t k => XS.icmpYes X44.here hx rfl (pc0 := 137) (pc' := 157) rfl (hb hby at_137) rfl (feq h47).2 (by decide) (by decide) k) ?_
        refine Go.on (T' := T44) (g' := (mkF m 158 #[.val (.int i0), .val (.int i1), .val (.int i2), .val (.int i3), .val (.int i4), .val (.int i5), .val (.int v1), .val (.int v3), .val (.int v5), .val (.ref v7), .val (.ref v11), .val (.ref b15), .val (.ref b43), .val (.int (((i5.toUInt32 >>> ((5 : Int32) &&& 31).toUInt32).toInt32) &&& (3 : Int32))), .unset] [(.int (0 : Int32))])) (fun t k => XS.iconst X44.here hx rfl (hb hby at_157) k) ?_
        refine Go.on (T' := T44) (g' := (mkF m 160 #[.val (.int i0), .val (.int i1), .val (.int i2), .val (.int i3), .val (.int i4), .val (.int i5), .val (.int v1), .val (.int v3), .val (.int v5), .val (.ref v7), .val (.ref v11), .val (.ref b15), .val (.ref b43), .val (.int (((i5.toUInt32 >>> ((5 : Int32) &&& 31).toUInt32).toInt32) &&& (3 : Int32))), .val (.int (0 : Int32))] [])) (fun t k => XS.istore X44.here hx rfl (hb hby at_158) rfl (l' := #[.val (.int i0), .val (.int i1), .val (.int i2), .val (.int i3), .val (.int i4), .val (.int i5), .val (.int v1), .val (.int v3), .val (.int v5), .val (.ref v7), .val (.ref v11), .val (.ref b15), .val (.ref b43), .val (.int (((i5.toUInt32 >>> ((5 : Int32) &&& 31).toUInt32).toInt32) &&& (3 : Int32))), .val (.int (0 : Int32))]) rfl k) ?_
        refine Go.on (T' := T44) (g' := (mkF m 162 #[.val (.int i0), .val (.int i1), .val (.int i2), .val (.int i3), .val (.int i4), .val (.int i5), .val (.int v1), .val (.int v3), .val (.int v5), .val (.ref v7), .val (.ref v11), .val (.ref b15), .val (.ref b43), .val (.int (((i5.toUInt32 >>> ((5 : Int32) &&& 31).toUInt32).toInt32) &&& (3 : Int32))), .val (.int (0 : Int32))] [(.ref b15)])) (fun t k => XS.aload X44.here hx rfl (hb hby at_160) rfl rfl k) ?_
        refine Go.on (T' := T44) (g' := (mkF m 164 #[.val (.int i0), .val (.int i1), .val (.int i2), .val (.int i3), .val (.int i4), .val (.int i5), .val (.int v1), .val (.int v3), .val (.int v5), .val (.ref v7), .val (.ref v11), .val (.ref b15), .val (.ref b43), .val (.int (((i5.toUInt32 >>> ((5 : Int32) &&& 31).toUInt32).toInt32) &&& (3 : Int32))), .val (.int (0 : Int32))] [(.ref b43), (.ref b15)])) (fun t k => XS.aload X44.here hx rfl (hb hby at_162) rfl rfl k) ?_
        have f113 : Exa Z T44.heap b15 "com/example/pedina/pedina/rules/Position" := ((fq42_0.ext E43).keep K44)
        have f121 : Fld Z T44.heap b15 "com/example/pedina/pedina/rules/Position" "white" "I" (.int i0) := ((fq42_1.ext E43).keep K44 (ninS (Nat.ne_of_lt (Nat.lt_of_lt_of_le (A15.keep K42).lt (Nat.le_of_eq g43.symm))) nin0))
        have f122 : Fld Z T44.heap b15 "com/example/pedina/pedina/rules/Position" "black" "I" (.int i1) := ((fq42_2.ext E43).keep K44 (ninS (Nat.ne_of_lt (Nat.lt_of_lt_of_le (A15.keep K42).lt (Nat.le_of_eq g43.symm))) nin0))
        have f123 : Fld Z T44.heap b15 "com/example/pedina/pedina/rules/Position" "kings" "I" (.int i2) := ((fq42_3.ext E43).keep K44 (ninS (Nat.ne_of_lt (Nat.lt_of_lt_of_le (A15.keep K42).lt (Nat.le_of_eq g43.symm))) nin0))
        have f124 : Fld Z T44.heap b15 "com/example/pedina/pedina/rules/Position" "sideToMove" "Lcom/example/pedina/pedina/rules/Side;" (.ref v7) := ((fq42_4.ext E43).keep K44 (ninS (Nat.ne_of_lt (Nat.lt_of_lt_of_le (A15.keep K42).lt (Nat.le_of_eq g43.symm))) nin0))
        obtain ⟨cq120, kq120, q120a, q120b, q120c⟩ := isOf hZ e44 f113
        obtain ⟨_, _, ⟨T120, L120, k120, n120⟩, -, X120, ⟨Lc120, hQ120, l120, y120, z120⟩, st120⟩ := X44.virtualBack hx (y := (⟨"com/example/pedina/pedina/rules/Position", "equals", "(Ljava/lang/Object;)Z"⟩ : MethodName)) (z := (⟨"com/example/pedina/pedina/rules/Position", "equals", "(Ljava/lang/Object;)Z"⟩ : MethodName)) hown (mvT hZ (hw _ (List.mem_of_getElem? (i := 20) rfl))) (mvT hZ (hw _ (List.mem_of_getElem? (i := 21) rfl))) (notFace_of_selects (args := #[]) (mvT hZ (hw _ (List.mem_of_getElem? (i := 23) rfl)))) (mvT hZ (hw _ (List.mem_of_getElem? (i := 23) rfl))) (mvT hZ (hw _ (List.mem_of_getElem? (i := 22) rfl))) (by decide) (backOf (W := 0) (rm3_3 l Z a0 hw [] w hB hP T44.heap XT44 b15 i0 i1 i2 v7 b43 v1 v3 v5 v11 f113 f121 f122 f123 f124 gb15 fq44_0 fq44_1 fq44_2 fq44_3 fq44_4 gb43 (Nat.ne_of_lt (Nat.lt_of_lt_of_le (A15.keep K42).lt (Nat.le_of_eq g43.symm))) h46 h47) hZ (hw _ (List.mem_of_getElem? (i := 24) rfl)) (hw _ (List.mem_of_getElem? (i := 5) rfl)) (by decide) (by decide)) q120a q120c (g := (mkF m 164 #[.val (.int i0), .val (.int i1), .val (.int i2), .val (.int i3), .val (.int i4), .val (.int i5), .val (.int v1), .val (.int v3), .val (.int v5), .val (.ref v7), .val (.ref v11), .val (.ref b15), .val (.ref b43), .val (.int (((i5.toUInt32 >>> ((5 : Int32) &&& 31).toUInt32).toInt32) &&& (3 : Int32))), .val (.int (0 : Int32))] [(.ref b43), (.ref b15)])) rfl (by rw [hml]; rfl) (Steps.refl _) (argsL := [(.ref b43)]) (rest := []) (lenOf pd_1 rfl) rfl (by show 2 * 0 + _ ≤ _; exact Nat.le_of_eq rfl) (hb hby at_164) (fun _ _ => ⟨rfl, e44, (by decide : 2 + 0 ≤ _), (by decide : 8 + 0 ≤ _)⟩)
        dsimp only [Pt.U, Pt.locs, Pt.cells, Pt.slots] at X120 l120 y120 z120 st120 hQ120
        subst l120 y120 z120
        obtain ⟨⟨rfl, e120⟩, N120q⟩ := hQ120
        have N120 := Fr.app N44 N120q
        refine Go.on (T' := T120) (g' := (mkF m 167 #[.val (.int i0), .val (.int i1), .val (.int i2), .val (.int i3), .val (.int i4), .val (.int i5), .val (.int v1), .val (.int v3), .val (.int v5), .val (.ref v7), .val (.ref v11), .val (.ref b15), .val (.ref b43), .val (.int (((i5.toUInt32 >>> ((5 : Int32) &&& 31).toUInt32).toInt32) &&& (3 : Int32))), .val (.int (0 : Int32))] [(.int (0 : Int32))])) (fun t k => st120.trans k) ?_
        refine Go.on (T' := T120) (g' := (mkF m 169 #[.val (.int i0), .val (.int i1), .val (.int i2), .val (.int i3), .val (.int i4), .val (.int i5), .val (.int v1), .val (.int v3), .val (.int v5), .val (.ref v7), .val (.ref v11), .val (.ref b15), .val (.ref b43), .val (.int (((i5.toUInt32 >>> ((5 : Int32) &&& 31).toUInt32).toInt32) &&& (3 : Int32))), .val (.int (0 : Int32))] [(.int (0 : Int32)), (.int (0 : Int32))])) (fun t k => XS.iload X120.here hx rfl (hb hby at_167) rfl k) ?_
        refine Go.on (T' := T120) (g' := (mkF m 172 #[.val (.int i0), .val (.int i1), .val (.int i2), .val (.int i3), .val (.int i4), .val (.int i5), .val (.int v1), .val (.int v3), .val (.int v5), .val (.ref v7), .val (.ref v11), .val (.ref b15), .val (.ref b43), .val (.int (((i5.toUInt32 >>> ((5 : Int32) &&& 31).toUInt32).toInt32) &&& (3 : Int32))), .val (.int (0 : Int32))] [])) (fun t k => XS.icmpNo X120.here hx rfl (hb hby at_169) rfl (teq (by decide : (0 : Int32) = (0 : Int32))).2 k) ?_
        refine Go.on (T' := T120) (g' := (mkF m 174 #[.val (.int i0), .val (.int i1), .val (.int i2), .val (.int i3), .val (.int i4), .val (.int i5), .val (.int v1), .val (.int v3), .val (.int v5), .val (.ref v7), .val (.ref v11), .val (.ref b15), .val (.ref b43), .val (.int (((i5.toUInt32 >>> ((5 : Int32) &&& 31).toUInt32).toInt32) &&& (3 : Int32))), .val (.int (0 : Int32))] [(.ref b43)])) (fun t k => XS.aload X120.here hx rfl (hb hby at_172) rfl rfl k) ?_
        refine Go.on (T' := T120) (g' := (mkF m 176 #[.val (.int i0), .val (.int i1), .val (.int i2), .val (.int i3), .val (.int i4), .val (.int i5), .val (.int v1), .val (.int v3), .val (.int v5), .val (.ref v7), .val (.ref v11), .val (.ref b15), .val (.ref b43), .val (.int (((i5.toUInt32 >>> ((5 : Int32) &&& 31).toUInt32).toInt32) &&& (3 : Int32))), .val (.int (0 : Int32))] [(.ref b15), (.ref b43)])) (fun t k => XS.aload X120.here hx rfl (hb hby at_174) rfl rfl k) ?_
        obtain ⟨cq125, kq125, q125a, q125b, q125c⟩ := isOf hZ e120 fq44_0
        obtain ⟨_, _, ⟨T125, L125, k125, n125⟩, -, X125, ⟨Lc125, hQ125, l125, y125, z125⟩, st125⟩ := X120.virtualBack hx (y := (⟨"com/example/pedina/pedina/rules/Position", "equals", "(Ljava/lang/Object;)Z"⟩ : MethodName)) (z := (⟨"com/example/pedina/pedina/rules/Position", "equals", "(Ljava/lang/Object;)Z"⟩ : MethodName)) hown (mvT hZ (hw _ (List.mem_of_getElem? (i := 20) rfl))) (mvT hZ (hw _ (List.mem_of_getElem? (i := 21) rfl))) (notFace_of_selects (args := #[]) (mvT hZ (hw _ (List.mem_of_getElem? (i := 23) rfl)))) (mvT hZ (hw _ (List.mem_of_getElem? (i := 23) rfl))) (mvT hZ (hw _ (List.mem_of_getElem? (i := 22) rfl))) (by decide) (backOf (W := 0) (rm3_3 l Z a0 hw [] w hB hP T44.heap XT44 b43 v1 v3 v5 v11 b15 i0 i1 i2 v7 fq44_0 fq44_1 fq44_2 fq44_3 fq44_4 gb43 f113 f121 f122 f123 f124 gb15 (Ne.symm (Nat.ne_of_lt (Nat.lt_of_lt_of_le (A15.keep K42).lt (Nat.le_of_eq g43.symm)))) h46.symm (fun q => h47 q.symm)) hZ (hw _ (List.mem_of_getElem? (i := 24) rfl)) (hw _ (List.mem_of_getElem? (i := 5) rfl)) (by decide) (by decide)) q125a q125c (g := (mkF m 176 #[.val (.int i0), .val (.int i1), .val (.int i2), .val (.int i3), .val (.int i4), .val (.int i5), .val (.int v1), .val (.int v3), .val (.int v5), .val (.ref v7), .val (.ref v11), .val (.ref b15), .val (.ref b43), .val (.int (((i5.toUInt32 >>> ((5 : Int32) &&& 31).toUInt32).toInt32) &&& (3 : Int32))), .val (.int (0 : Int32))] [(.ref b15), (.ref b43)])) rfl (by rw [hml]; rfl) (Steps.refl _) (argsL := [(.ref b15)]) (rest := []) (lenOf pd_1 rfl) rfl (by show 2 * 0 + _ ≤ _; exact Nat.le_of_eq rfl) (hb hby at_176) (fun _ _ => ⟨rfl, e120, (by decide : 2 + 0 ≤ _), (by decide : 8 + 0 ≤ _)⟩)
        dsimp only [Pt.U, Pt.locs, Pt.cells, Pt.slots] at X125 l125 y125 z125 st125 hQ125
        subst l125 y125 z125
        obtain ⟨⟨rfl, e125⟩, N125q⟩ := hQ125
        have N125 := Fr.app N120 N125q
        refine Go.on (T' := T125) (g' := (mkF m 179 #[.val (.int i0), .val (.int i1), .val (.int i2), .val (.int i3), .val (.int i4), .val (.int i5), .val (.int v1), .val (.int v3), .val (.int v5), .val (.ref v7), .val (.ref v11), .val (.ref b15), .val (.ref b43), .val (.int (((i5.toUInt32 >>> ((5 : Int32) &&& 31).toUInt32).toInt32) &&& (3 : Int32))), .val (.int (0 : Int32))] [(.int (0 : Int32))])) (fun t k => st125.trans k) ?_
        refine Go.on (T' := T125) (g' := (mkF m 181 #[.val (.int i0), .val (.int i1), .val (.int i2), .val (.int i3), .val (.int i4), .val (.int i5), .val (.int v1), .val (.int v3), .val (.int v5), .val (.ref v7), .val (.ref v11), .val (.ref b15), .val (.ref b43), .val (.int (((i5.toUInt32 >>> ((5 : Int32) &&& 31).toUInt32).toInt32) &&& (3 : Int32))), .val (.int (0 : Int32))] [(.int (0 : Int32)), (.int (0 : Int32))])) (fun t k => XS.iload X125.here hx rfl (hb hby at_179) rfl k) ?_
        refine Go.on (T' := T125) (g' := (mkF m 184 #[.val (.int i0), .val (.int i1), .val (.int i2), .val (.int i3), .val (.int i4), .val (.int i5), .val (.int v1), .val (.int v3), .val (.int v5), .val (.ref v7), .val (.ref v11), .val (.ref b15), .val (.ref b43), .val (.int (((i5.toUInt32 >>> ((5 : Int32) &&& 31).toUInt32).toInt32) &&& (3 : Int32))), .val (.int (0 : Int32))] [])) (fun t k => XS.icmpNo X125.here hx rfl (hb hby at_181) rfl (teq (by decide : (0 : Int32) = (0 : Int32))).2 k) ?_
        refine Go.on (T' := T125) (g' := (mkF m 185 #[.val (.int i0), .val (.int i1), .val (.int i2), .val (.int i3), .val (.int i4), .val (.int i5), .val (.int v1), .val (.int v3), .val (.int v5), .val (.ref v7), .val (.ref v11), .val (.ref b15), .val (.ref b43), .val (.int (((i5.toUInt32 >>> ((5 : Int32) &&& 31).toUInt32).toInt32) &&& (3 : Int32))), .val (.int (0 : Int32))] [(.int (1 : Int32))])) (fun t k => XS.iconst X125.here hx rfl (hb hby at_184) k) ?_
        refine Go.on (T' := T125) (g' := (mkF m 189 #[.val (.int i0), .val (.int i1), .val (.int i2), .val (.int i3), .val (.int i4), .val (.int i5), .val (.int v1), .val (.int v3), .val (.int v5), .val (.ref v7), .val (.ref v11), .val (.ref b15), .val (.ref b43), .val (.int (((i5.toUInt32 >>> ((5 : Int32) &&& 31).toUInt32).toInt32) &&& (3 : Int32))), .val (.int (0 : Int32))] [(.int (1 : Int32))])) (fun t k => XS.goto X125.here hx rfl (pc0 := 185) (pc' := 189) rfl (hb hby at_185) (by decide) (by decide) k) ?_
        subst hG
        obtain ⟨fs, hr, hrun, hended, hW, hsame⟩ := X125.leave (v := some (.int (1 : Int32))) (fun h => by rw [Bd.returns] at h; cases h)
        exact ⟨_, _, retN X125 hx (t := .boolean) Bd.returns (by simp) (hb hby at_189) hr, hrun, hended, _, _, rfl, ⟨rfl, N125⟩, ⟨_, rfl⟩, hW, hsame.mono (by decide) (by decide)⟩
    · skip
      refine Go.on (T' := T44) (g' := (mkF m 157 #[.val (.int i0), .val (.int i1), .val (.int i2), .val (.int i3), .val (.int i4), .val (.int i5), .val (.int v1), .val (.int v3), .val (.int v5), .val (.ref v7), .val (.ref v11), .val (.ref b15), .val (.ref b43), .val (.int (((i5.toUInt32 >>> ((5 : Int32) &&& 31).toUInt32).toInt32) &&& (3 : Int32))), .unset] [])) (fun t k => XS.icmpYes X44.here hx rfl (pc0 := 131) (pc' := 157) rfl (hb hby at_131) rfl (feq h46).2 (by decide) (by decide) k) ?_
      refine Go.on (T' := T44) (g' := (mkF m 158 #[.val (.int i0), .val (.int i1), .val (.int i2), .val (.int i3), .val (.int i4), .val (.int i5), .val (.int v1), .val (.int v3), .val (.int v5), .val (.ref v7), .val (.ref v11), .val (.ref b15), .val (.ref b43), .val (.int (((i5.toUInt32 >>> ((5 : Int32) &&& 31).toUInt32).toInt32) &&& (3 : Int32))), .unset] [(.int (0 : Int32))])) (fun t k => XS.iconst X44.here hx rfl (hb hby at_157) k) ?_
      refine Go.on (T' := T44) (g' := (mkF m 160 #[.val (.int i0), .val (.int i1), .val (.int i2), .val (.int i3), .val (.int i4), .val (.int i5), .val (.int v1), .val (.int v3), .val (.int v5), .val (.ref v7), .val (.ref v11), .val (.ref b15), .val (.ref b43), .val (.int (((i5.toUInt32 >>> ((5 : Int32) &&& 31).toUInt32).toInt32) &&& (3 : Int32))), .val (.int (0 : Int32))] [])) (fun t k => XS.istore X44.here hx rfl (hb hby at_158) rfl (l' := #[.val (.int i0), .val (.int i1), .val (.int i2), .val (.int i3), .val (.int i4), .val (.int i5), .val (.int v1), .val (.int v3), .val (.int v5), .val (.ref v7), .val (.ref v11), .val (.ref b15), .val (.ref b43), .val (.int (((i5.toUInt32 >>> ((5 : Int32) &&& 31).toUInt32).toInt32) &&& (3 : Int32))), .val (.int (0 : Int32))]) rfl k) ?_
      refine Go.on (T' := T44) (g' := (mkF m 162 #[.val (.int i0), .val (.int i1), .val (.int i2), .val (.int i3), .val (.int i4), .val (.int i5), .val (.int v1), .val (.int v3), .val (.int v5), .val (.ref v7), .val (.ref v11), .val (.ref b15), .val (.ref b43), .val (.int (((i5.toUInt32 >>> ((5 : Int32) &&& 31).toUInt32).toInt32) &&& (3 : Int32))), .val (.int (0 : Int32))] [(.ref b15)])) (fun t k => XS.aload X44.here hx rfl (hb hby at_160) rfl rfl k) ?_
      refine Go.on (T' := T44) (g' := (mkF m 164 #[.val (.int i0), .val (.int i1), .val (.int i2), .val (.int i3), .val (.int i4), .val (.int i5), .val (.int v1), .val (.int v3), .val (.int v5), .val (.ref v7), .val (.ref v11), .val (.ref b15), .val (.ref b43), .val (.int (((i5.toUInt32 >>> ((5 : Int32) &&& 31).toUInt32).toInt32) &&& (3 : Int32))), .val (.int (0 : Int32))] [(.ref b43), (.ref b15)])) (fun t k => XS.aload X44.here hx rfl (hb hby at_162) rfl rfl k) ?_
      have f126 : Exa Z T44.heap b15 "com/example/pedina/pedina/rules/Position" := ((fq42_0.ext E43).keep K44)
      have f132 : Fld Z T44.heap b15 "com/example/pedina/pedina/rules/Position" "white" "I" (.int i0) := ((fq42_1.ext E43).keep K44 (ninS (Nat.ne_of_lt (Nat.lt_of_lt_of_le (A15.keep K42).lt (Nat.le_of_eq g43.symm))) nin0))
      have f133 : Fld Z T44.heap b15 "com/example/pedina/pedina/rules/Position" "black" "I" (.int i1) := ((fq42_2.ext E43).keep K44 (ninS (Nat.ne_of_lt (Nat.lt_of_lt_of_le (A15.keep K42).lt (Nat.le_of_eq g43.symm))) nin0))
      have f134 : Fld Z T44.heap b15 "com/example/pedina/pedina/rules/Position" "kings" "I" (.int i2) := ((fq42_3.ext E43).keep K44 (ninS (Nat.ne_of_lt (Nat.lt_of_lt_of_le (A15.keep K42).lt (Nat.le_of_eq g43.symm))) nin0))
      have f135 : Fld Z T44.heap b15 "com/example/pedina/pedina/rules/Position" "sideToMove" "Lcom/example/pedina/pedina/rules/Side;" (.ref v7) := ((fq42_4.ext E43).keep K44 (ninS (Nat.ne_of_lt (Nat.lt_of_lt_of_le (A15.keep K42).lt (Nat.le_of_eq g43.symm))) nin0))
      obtain ⟨cq131, kq131, q131a, q131b, q131c⟩ := isOf hZ e44 f126
      obtain ⟨_, _, ⟨T131, L131, k131, n131⟩, -, X131, ⟨Lc131, hQ131, l131, y131, z131⟩, st131⟩ := X44.virtualBack hx (y := (⟨"com/example/pedina/pedina/rules/Position", "equals", "(Ljava/lang/Object;)Z"⟩ : MethodName)) (z := (⟨"com/example/pedina/pedina/rules/Position", "equals", "(Ljava/lang/Object;)Z"⟩ : MethodName)) hown (mvT hZ (hw _ (List.mem_of_getElem? (i := 20) rfl))) (mvT hZ (hw _ (List.mem_of_getElem? (i := 21) rfl))) (notFace_of_selects (args := #[]) (mvT hZ (hw _ (List.mem_of_getElem? (i := 23) rfl)))) (mvT hZ (hw _ (List.mem_of_getElem? (i := 23) rfl))) (mvT hZ (hw _ (List.mem_of_getElem? (i := 22) rfl))) (by decide) (backOf (W := 0) (rm3_4 l Z a0 hw [] w hB hP T44.heap XT44 b15 i0 i1 i2 v7 b43 v1 v3 v5 v11 f126 f132 f133 f134 f135 gb15 fq44_0 fq44_1 fq44_2 fq44_3 fq44_4 gb43 (Nat.ne_of_lt (Nat.lt_of_lt_of_le (A15.keep K42).lt (Nat.le_of_eq g43.symm))) h46) hZ (hw _ (List.mem_of_getElem? (i := 24) rfl)) (hw _ (List.mem_of_getElem? (i := 5) rfl)) (by decide) (by decide)) q131a q131c (g := (mkF m 164 #[.val (.int i0), .val (.int i1), .val (.int i2), .val (.int i3), .val (.int i4), .val (.int i5), .val (.int v1), .val (.int v3), .val (.int v5), .val (.ref v7), .val (.ref v11), .val (.ref b15), .val (.ref b43), .val (.int (((i5.toUInt32 >>> ((5 : Int32) &&& 31).toUInt32).toInt32) &&& (3 : Int32))), .val (.int (0 : Int32))] [(.ref b43), (.ref b15)])) rfl (by rw [hml]; rfl) (Steps.refl _) (argsL := [(.ref b43)]) (rest := []) (lenOf pd_1 rfl) rfl (by show 2 * 0 + _ ≤ _; exact Nat.le_of_eq rfl) (hb hby at_164) (fun _ _ => ⟨rfl, e44, (by decide : 2 + 0 ≤ _), (by decide : 8 + 0 ≤ _)⟩)
      dsimp only [Pt.U, Pt.locs, Pt.cells, Pt.slots] at X131 l131 y131 z131 st131 hQ131
      subst l131 y131 z131
      obtain ⟨⟨rfl, e131⟩, N131q⟩ := hQ131
      have N131 := Fr.app N44 N131q
      refine Go.on (T' := T131) (g' := (mkF m 167 #[.val (.int i0), .val (.int i1), .val (.int i2), .val (.int i3), .val (.int i4), .val (.int i5), .val (.int v1), .val (.int v3), .val (.int v5), .val (.ref v7), .val (.ref v11), .val (.ref b15), .val (.ref b43), .val (.int (((i5.toUInt32 >>> ((5 : Int32) &&& 31).toUInt32).toInt32) &&& (3 : Int32))), .val (.int (0 : Int32))] [(.int (0 : Int32))])) (fun t k => st131.trans k) ?_
      refine Go.on (T' := T131) (g' := (mkF m 169 #[.val (.int i0), .val (.int i1), .val (.int i2), .val (.int i3), .val (.int i4), .val (.int i5), .val (.int v1), .val (.int v3), .val (.int v5), .val (.ref v7), .val (.ref v11), .val (.ref b15), .val (.ref b43), .val (.int (((i5.toUInt32 >>> ((5 : Int32) &&& 31).toUInt32).toInt32) &&& (3 : Int32))), .val (.int (0 : Int32))] [(.int (0 : Int32)), (.int (0 : Int32))])) (fun t k => XS.iload X131.here hx rfl (hb hby at_167) rfl k) ?_
      refine Go.on (T' := T131) (g' := (mkF m 172 #[.val (.int i0), .val (.int i1), .val (.int i2), .val (.int i3), .val (.int i4), .val (.int i5), .val (.int v1), .val (.int v3), .val (.int v5), .val (.ref v7), .val (.ref v11), .val (.ref b15), .val (.ref b43), .val (.int (((i5.toUInt32 >>> ((5 : Int32) &&& 31).toUInt32).toInt32) &&& (3 : Int32))), .val (.int (0 : Int32))] [])) (fun t k => XS.icmpNo X131.here hx rfl (hb hby at_169) rfl (teq (by decide : (0 : Int32) = (0 : Int32))).2 k) ?_
      refine Go.on (T' := T131) (g' := (mkF m 174 #[.val (.int i0), .val (.int i1), .val (.int i2), .val (.int i3), .val (.int i4), .val (.int i5), .val (.int v1), .val (.int v3), .val (.int v5), .val (.ref v7), .val (.ref v11), .val (.ref b15), .val (.ref b43), .val (.int (((i5.toUInt32 >>> ((5 : Int32) &&& 31).toUInt32).toInt32) &&& (3 : Int32))), .val (.int (0 : Int32))] [(.ref b43)])) (fun t k => XS.aload X131.here hx rfl (hb hby at_172) rfl rfl k) ?_
      refine Go.on (T' := T131) (g' := (mkF m 176 #[.val (.int i0), .val (.int i1), .val (.int i2), .val (.int i3), .val (.int i4), .val (.int i5), .val (.int v1), .val (.int v3), .val (.int v5), .val (.ref v7), .val (.ref v11), .val (.ref b15), .val (.ref b43), .val (.int (((i5.toUInt32 >>> ((5 : Int32) &&& 31).toUInt32).toInt32) &&& (3 : Int32))), .val (.int (0 : Int32))] [(.ref b15), (.ref b43)])) (fun t k => XS.aload X131.here hx rfl (hb hby at_174) rfl rfl k) ?_
      obtain ⟨cq136, kq136, q136a, q136b, q136c⟩ := isOf hZ e131 fq44_0
      obtain ⟨_, _, ⟨T136, L136, k136, n136⟩, -, X136, ⟨Lc136, hQ136, l136, y136, z136⟩, st136⟩ := X131.virtualBack hx (y := (⟨"com/example/pedina/pedina/rules/Position", "equals", "(Ljava/lang/Object;)Z"⟩ : MethodName)) (z := (⟨"com/example/pedina/pedina/rules/Position", "equals", "(Ljava/lang/Object;)Z"⟩ : MethodName)) hown (mvT hZ (hw _ (List.mem_of_getElem? (i := 20) rfl))) (mvT hZ (hw _ (List.mem_of_getElem? (i := 21) rfl))) (notFace_of_selects (args := #[]) (mvT hZ (hw _ (List.mem_of_getElem? (i := 23) rfl)))) (mvT hZ (hw _ (List.mem_of_getElem? (i := 23) rfl))) (mvT hZ (hw _ (List.mem_of_getElem? (i := 22) rfl))) (by decide) (backOf (W := 0) (rm3_4 l Z a0 hw [] w hB hP T44.heap XT44 b43 v1 v3 v5 v11 b15 i0 i1 i2 v7 fq44_0 fq44_1 fq44_2 fq44_3 fq44_4 gb43 f126 f132 f133 f134 f135 gb15 (Ne.symm (Nat.ne_of_lt (Nat.lt_of_lt_of_le (A15.keep K42).lt (Nat.le_of_eq g43.symm)))) (fun q => h46 q.symm)) hZ (hw _ (List.mem_of_getElem? (i := 24) rfl)) (hw _ (List.mem_of_getElem? (i := 5) rfl)) (by decide) (by decide)) q136a q136c (g := (mkF m 176 #[.val (.int i0), .val (.int i1), .val (.int i2), .val (.int i3), .val (.int i4), .val (.int i5), .val (.int v1), .val (.int v3), .val (.int v5), .val (.ref v7), .val (.ref v11), .val (.ref b15), .val (.ref b43), .val (.int (((i5.toUInt32 >>> ((5 : Int32) &&& 31).toUInt32).toInt32) &&& (3 : Int32))), .val (.int (0 : Int32))] [(.ref b15), (.ref b43)])) rfl (by rw [hml]; rfl) (Steps.refl _) (argsL := [(.ref b15)]) (rest := []) (lenOf pd_1 rfl) rfl (by show 2 * 0 + _ ≤ _; exact Nat.le_of_eq rfl) (hb hby at_176) (fun _ _ => ⟨rfl, e131, (by decide : 2 + 0 ≤ _), (by decide : 8 + 0 ≤ _)⟩)
      dsimp only [Pt.U, Pt.locs, Pt.cells, Pt.slots] at X136 l136 y136 z136 st136 hQ136
      subst l136 y136 z136
      obtain ⟨⟨rfl, e136⟩, N136q⟩ := hQ136
      have N136 := Fr.app N131 N136q
      refine Go.on (T' := T136) (g' := (mkF m 179 #[.val (.int i0), .val (.int i1), .val (.int i2), .val (.int i3), .val (.int i4), .val (.int i5), .val (.int v1), .val (.int v3), .val (.int v5), .val (.ref v7), .val (.ref v11), .val (.ref b15), .val (.ref b43), .val (.int (((i5.toUInt32 >>> ((5 : Int32) &&& 31).toUInt32).toInt32) &&& (3 : Int32))), .val (.int (0 : Int32))] [(.int (0 : Int32))])) (fun t k => st136.trans k) ?_
      refine Go.on (T' := T136) (g' := (mkF m 181 #[.val (.int i0), .val (.int i1), .val (.int i2), .val (.int i3), .val (.int i4), .val (.int i5), .val (.int v1), .val (.int v3), .val (.int v5), .val (.ref v7), .val (.ref v11), .val (.ref b15), .val (.ref b43), .val (.int (((i5.toUInt32 >>> ((5 : Int32) &&& 31).toUInt32).toInt32) &&& (3 : Int32))), .val (.int (0 : Int32))] [(.int (0 : Int32)), (.int (0 : Int32))])) (fun t k => XS.iload X136.here hx rfl (hb hby at_179) rfl k) ?_
      refine Go.on (T' := T136) (g' := (mkF m 184 #[.val (.int i0), .val (.int i1), .val (.int i2), .val (.int i3), .val (.int i4), .val (.int i5), .val (.int v1), .val (.int v3), .val (.int v5), .val (.ref v7), .val (.ref v11), .val (.ref b15), .val (.ref b43), .val (.int (((i5.toUInt32 >>> ((5 : Int32) &&& 31).toUInt32).toInt32) &&& (3 : Int32))), .val (.int (0 : Int32))] [])) (fun t k => XS.icmpNo X136.here hx rfl (hb hby at_181) rfl (teq (by decide : (0 : Int32) = (0 : Int32))).2 k) ?_
      refine Go.on (T' := T136) (g' := (mkF m 185 #[.val (.int i0), .val (.int i1), .val (.int i2), .val (.int i3), .val (.int i4), .val (.int i5), .val (.int v1), .val (.int v3), .val (.int v5), .val (.ref v7), .val (.ref v11), .val (.ref b15), .val (.ref b43), .val (.int (((i5.toUInt32 >>> ((5 : Int32) &&& 31).toUInt32).toInt32) &&& (3 : Int32))), .val (.int (0 : Int32))] [(.int (1 : Int32))])) (fun t k => XS.iconst X136.here hx rfl (hb hby at_184) k) ?_
      refine Go.on (T' := T136) (g' := (mkF m 189 #[.val (.int i0), .val (.int i1), .val (.int i2), .val (.int i3), .val (.int i4), .val (.int i5), .val (.int v1), .val (.int v3), .val (.int v5), .val (.ref v7), .val (.ref v11), .val (.ref b15), .val (.ref b43), .val (.int (((i5.toUInt32 >>> ((5 : Int32) &&& 31).toUInt32).toInt32) &&& (3 : Int32))), .val (.int (0 : Int32))] [(.int (1 : Int32))])) (fun t k => XS.goto X136.here hx rfl (pc0 := 185) (pc' := 189) rfl (hb hby at_185) (by decide) (by decide) k) ?_
      subst hG
      obtain ⟨fs, hr, hrun, hended, hW, hsame⟩ := X136.leave (v := some (.int (1 : Int32))) (fun h => by rw [Bd.returns] at h; cases h)
      exact ⟨_, _, retN X136 hx (t := .boolean) Bd.returns (by simp) (hb hby at_189) hr, hrun, hended, _, _, rfl, ⟨rfl, N136⟩, ⟨_, rfl⟩, hW, hsame.mono (by decide) (by decide)⟩
  · skip
    refine Go.on (T' := T44) (g' := (mkF m 190 #[.val (.int i0), .val (.int i1), .val (.int i2), .val (.int i3), .val (.int i4), .val (.int i5), .val (.int v1), .val (.int v3), .val (.int v5), .val (.ref v7), .val (.ref v11), .val (.ref b15), .val (.ref b43), .val (.int (((i5.toUInt32 >>> ((5 : Int32) &&& 31).toUInt32).toInt32) &&& (3 : Int32))), .unset] [])) (fun t k => XS.ifYes X44.here hx rfl (pc0 := 125) (pc' := 190) rfl (hb hby at_125) rfl ((if0 _ _).trans (feq h45).2) (by decide) (by decide) k) ?_
    refine Go.on (T' := T44) (g' := (mkF m 192 #[.val (.int i0), .val (.int i1), .val (.int i2), .val (.int i3), .val (.int i4), .val (.int i5), .val (.int v1), .val (.int v3), .val (.int v5), .val (.ref v7), .val (.ref v11), .val (.ref b15), .val (.ref b43), .val (.int (((i5.toUInt32 >>> ((5 : Int32) &&& 31).toUInt32).toInt32) &&& (3 : Int32))), .unset] [(.int (((i5.toUInt32 >>> ((5 : Int32) &&& 31).toUInt32).toInt32) &&& (3 : Int32)))])) (fun t k => XS.iload X44.here hx rfl (hb hby at_190) rfl k) ?_
    refine Go.on (T' := T44) (g' := (mkF m 193 #[.val (.int i0), .val (.int i1), .val (.int i2), .val (.int i3), .val (.int i4), .val (.int i5), .val (.int v1), .val (.int v3), .val (.int v5), .val (.ref v7), .val (.ref v11), .val (.ref b15), .val (.ref b43), .val (.int (((i5.toUInt32 >>> ((5 : Int32) &&& 31).toUInt32).toInt32) &&& (3 : Int32))), .unset] [(.int (1 : Int32)), (.int (((i5.toUInt32 >>> ((5 : Int32) &&& 31).toUInt32).toInt32) &&& (3 : Int32)))])) (fun t k => XS.iconst X44.here hx rfl (hb hby at_192) k) ?_
    by_cases h137 : (((i5.toUInt32 >>> ((5 : Int32) &&& 31).toUInt32).toInt32) &&& (3 : Int32)) = (1 : Int32)
    · skip
      refine Go.on (T' := T44) (g' := (mkF m 196 #[.val (.int i0), .val (.int i1), .val (.int i2), .val (.int i3), .val (.int i4), .val (.int i5), .val (.int v1), .val (.int v3), .val (.int v5), .val (.ref v7), .val (.ref v11), .val (.ref b15), .val (.ref b43), .val (.int (((i5.toUInt32 >>> ((5 : Int32) &&& 31).toUInt32).toInt32) &&& (3 : Int32))), .unset] [])) (fun t k => XS.icmpNo X44.here hx rfl (hb hby at_193) rfl (teq h137).2 k) ?_
      refine Go.on (T' := T44) (g' := (mkF m 198 #[.val (.int i0), .val (.int i1), .val (.int i2), .val (.int i3), .val (.int i4), .val (.int i5), .val (.int v1), .val (.int v3), .val (.int v5), .val (.ref v7), .val (.ref v11), .val (.ref b15), .val (.ref b43), .val (.int (((i5.toUInt32 >>> ((5 : Int32) &&& 31).toUInt32).toInt32) &&& (3 : Int32))), .unset] [(.ref b15)])) (fun t k => XS.aload X44.here hx rfl (hb hby at_196) rfl rfl k) ?_
      refine Go.on (T' := T44) (g' := (mkF m 199 #[.val (.int i0), .val (.int i1), .val (.int i2), .val (.int i3), .val (.int i4), .val (.int i5), .val (.int v1), .val (.int v3), .val (.int v5), .val (.ref v7), .val (.ref v11), .val (.ref b15), .val (.ref b43), .val (.int (((i5.toUInt32 >>> ((5 : Int32) &&& 31).toUInt32).toInt32) &&& (3 : Int32))), .unset] [.null, (.ref b15)])) (fun t k => XS.aconstNull X44.here hx rfl (hb hby at_198) k) ?_
      have f138 : Exa Z T44.heap b15 "com/example/pedina/pedina/rules/Position" := ((fq42_0.ext E43).keep K44)
      have f140 : Fld Z T44.heap b15 "com/example/pedina/pedina/rules/Position" "white" "I" (.int i0) := ((fq42_1.ext E43).keep K44 (ninS (Nat.ne_of_lt (Nat.lt_of_lt_of_le (A15.keep K42).lt (Nat.le_of_eq g43.symm))) nin0))
      have f141 : Fld Z T44.heap b15 "com/example/pedina/pedina/rules/Position" "black" "I" (.int i1) := ((fq42_2.ext E43).keep K44 (ninS (Nat.ne_of_lt (Nat.lt_of_lt_of_le (A15.keep K42).lt (Nat.le_of_eq g43.symm))) nin0))
      have f142 : Fld Z T44.heap b15 "com/example/pedina/pedina/rules/Position" "kings" "I" (.int i2) := ((fq42_3.ext E43).keep K44 (ninS (Nat.ne_of_lt (Nat.lt_of_lt_of_le (A15.keep K42).lt (Nat.le_of_eq g43.symm))) nin0))
      have f143 : Fld Z T44.heap b15 "com/example/pedina/pedina/rules/Position" "sideToMove" "Lcom/example/pedina/pedina/rules/Side;" (.ref v7) := ((fq42_4.ext E43).keep K44 (ninS (Nat.ne_of_lt (Nat.lt_of_lt_of_le (A15.keep K42).lt (Nat.le_of_eq g43.symm))) nin0))
      obtain ⟨cq139, kq139, q139a, q139b, q139c⟩ := isOf hZ e44 f138
      obtain ⟨_, _, ⟨T139, L139, k139, n139⟩, -, X139, ⟨Lc139, hQ139, l139, y139, z139⟩, st139⟩ := X44.virtualBack hx (y := (⟨"com/example/pedina/pedina/rules/Position", "equals", "(Ljava/lang/Object;)Z"⟩ : MethodName)) (z := (⟨"com/example/pedina/pedina/rules/Position", "equals", "(Ljava/lang/Object;)Z"⟩ : MethodName)) hown (mvT hZ (hw _ (List.mem_of_getElem? (i := 20) rfl))) (mvT hZ (hw _ (List.mem_of_getElem? (i := 21) rfl))) (notFace_of_selects (args := #[]) (mvT hZ (hw _ (List.mem_of_getElem? (i := 23) rfl)))) (mvT hZ (hw _ (List.mem_of_getElem? (i := 23) rfl))) (mvT hZ (hw _ (List.mem_of_getElem? (i := 22) rfl))) (by decide) (backOf (W := 0) (rm3_5 l Z a0 hw [] w hB hP T44.heap XT44 b15 i0 i1 i2 v7 f138 f140 f141 f142 f143 gb15) hZ (hw _ (List.mem_of_getElem? (i := 24) rfl)) (hw _ (List.mem_of_getElem? (i := 5) rfl)) (by decide) (by decide)) q139a q139c (g := (mkF m 199 #[.val (.int i0), .val (.int i1), .val (.int i2), .val (.int i3), .val (.int i4), .val (.int i5), .val (.int v1), .val (.int v3), .val (.int v5), .val (.ref v7), .val (.ref v11), .val (.ref b15), .val (.ref b43), .val (.int (((i5.toUInt32 >>> ((5 : Int32) &&& 31).toUInt32).toInt32) &&& (3 : Int32))), .unset] [.null, (.ref b15)])) rfl (by rw [hml]; rfl) (Steps.refl _) (argsL := [.null]) (rest := []) (lenOf pd_1 rfl) rfl (by show 2 * 0 + _ ≤ _; exact Nat.le_of_eq rfl) (hb hby at_199) (fun _ _ => ⟨rfl, e44, (by decide : 2 + 0 ≤ _), (by decide : 8 + 0 ≤ _)⟩)
      dsimp only [Pt.U, Pt.locs, Pt.cells, Pt.slots] at X139 l139 y139 z139 st139 hQ139
      subst l139 y139 z139
      obtain ⟨⟨rfl, e139⟩, N139q⟩ := hQ139
      have N139 := Fr.app N44 N139q
      refine Go.on (T' := T139) (g' := (mkF m 202 #[.val (.int i0), .val (.int i1), .val (.int i2), .val (.int i3), .val (.int i4), .val (.int i5), .val (.int v1), .val (.int v3), .val (.int v5), .val (.ref v7), .val (.ref v11), .val (.ref b15), .val (.ref b43), .val (.int (((i5.toUInt32 >>> ((5 : Int32) &&& 31).toUInt32).toInt32) &&& (3 : Int32))), .unset] [(.int (0 : Int32))])) (fun t k => st139.trans k) ?_
      refine Go.on (T' := T139) (g' := (mkF m 205 #[.val (.int i0), .val (.int i1), .val (.int i2), .val (.int i3), .val (.int i4), .val (.int i5), .val (.int v1), .val (.int v3), .val (.int v5), .val (.ref v7), .val (.ref v11), .val (.ref b15), .val (.ref b43), .val (.int (((i5.toUInt32 >>> ((5 : Int32) &&& 31).toUInt32).toInt32) &&& (3 : Int32))), .unset] [])) (fun t k => XS.ifNo X139.here hx rfl (hb hby at_202) rfl ((if0 _ _).trans (teq (by decide : (0 : Int32) = (0 : Int32))).2) k) ?_
      refine Go.on (T' := T139) (g' := (mkF m 206 #[.val (.int i0), .val (.int i1), .val (.int i2), .val (.int i3), .val (.int i4), .val (.int i5), .val (.int v1), .val (.int v3), .val (.int v5), .val (.ref v7), .val (.ref v11), .val (.ref b15), .val (.ref b43), .val (.int (((i5.toUInt32 >>> ((5 : Int32) &&& 31).toUInt32).toInt32) &&& (3 : Int32))), .unset] [(.int (1 : Int32))])) (fun t k => XS.iconst X139.here hx rfl (hb hby at_205) k) ?_
      refine Go.on (T' := T139) (g' := (mkF m 210 #[.val (.int i0), .val (.int i1), .val (.int i2), .val (.int i3), .val (.int i4), .val (.int i5), .val (.int v1), .val (.int v3), .val (.int v5), .val (.ref v7), .val (.ref v11), .val (.ref b15), .val (.ref b43), .val (.int (((i5.toUInt32 >>> ((5 : Int32) &&& 31).toUInt32).toInt32) &&& (3 : Int32))), .unset] [(.int (1 : Int32))])) (fun t k => XS.goto X139.here hx rfl (pc0 := 206) (pc' := 210) rfl (hb hby at_206) (by decide) (by decide) k) ?_
      subst hG
      obtain ⟨fs, hr, hrun, hended, hW, hsame⟩ := X139.leave (v := some (.int (1 : Int32))) (fun h => by rw [Bd.returns] at h; cases h)
      exact ⟨_, _, retN X139 hx (t := .boolean) Bd.returns (by simp) (hb hby at_210) hr, hrun, hended, _, _, rfl, ⟨rfl, N139⟩, ⟨_, rfl⟩, hW, hsame.mono (by decide) (by decide)⟩
    · skip
      refine Go.on (T' := T44) (g' := (mkF m 211 #[.val (.int i0), .val (.int i1), .val (.int i2), .val (.int i3), .val (.int i4), .val (.int i5), .val (.int v1), .val (.int v3), .val (.int v5), .val (.ref v7), .val (.ref v11), .val (.ref b15), .val (.ref b43), .val (.int (((i5.toUInt32 >>> ((5 : Int32) &&& 31).toUInt32).toInt32) &&& (3 : Int32))), .unset] [])) (fun t k => XS.icmpYes X44.here hx rfl (pc0 := 193) (pc' := 211) rfl (hb hby at_193) rfl (feq h137).2 (by decide) (by decide) k) ?_
      refine Go.on (T' := T44) (g' := (mkF m 213 #[.val (.int i0), .val (.int i1), .val (.int i2), .val (.int i3), .val (.int i4), .val (.int i5), .val (.int v1), .val (.int v3), .val (.int v5), .val (.ref v7), .val (.ref v11), .val (.ref b15), .val (.ref b43), .val (.int (((i5.toUInt32 >>> ((5 : Int32) &&& 31).toUInt32).toInt32) &&& (3 : Int32))), .unset] [(.int (((i5.toUInt32 >>> ((5 : Int32) &&& 31).toUInt32).toInt32) &&& (3 : Int32)))])) (fun t k => XS.iload X44.here hx rfl (hb hby at_211) rfl k) ?_
      refine Go.on (T' := T44) (g' := (mkF m 214 #[.val (.int i0), .val (.int i1), .val (.int i2), .val (.int i3), .val (.int i4), .val (.int i5), .val (.int v1), .val (.int v3), .val (.int v5), .val (.ref v7), .val (.ref v11), .val (.ref b15), .val (.ref b43), .val (.int (((i5.toUInt32 >>> ((5 : Int32) &&& 31).toUInt32).toInt32) &&& (3 : Int32))), .unset] [(.int (2 : Int32)), (.int (((i5.toUInt32 >>> ((5 : Int32) &&& 31).toUInt32).toInt32) &&& (3 : Int32)))])) (fun t k => XS.iconst X44.here hx rfl (hb hby at_213) k) ?_
      by_cases h144 : (((i5.toUInt32 >>> ((5 : Int32) &&& 31).toUInt32).toInt32) &&& (3 : Int32)) = (2 : Int32)
      · skip
        refine Go.on (T' := T44) (g' := (mkF m 217 #[.val (.int i0), .val (.int i1), .val (.int i2), .val (.int i3), .val (.int i4), .val (.int i5), .val (.int v1), .val (.int v3), .val (.int v5), .val (.ref v7), .val (.ref v11), .val (.ref b15), .val (.ref b43), .val (.int (((i5.toUInt32 >>> ((5 : Int32) &&& 31).toUInt32).toInt32) &&& (3 : Int32))), .unset] [])) (fun t k => XS.icmpNo X44.here hx rfl (hb hby at_214) rfl (teq h144).2 k) ?_
        refine Go.on (T' := T44) (g' := (mkF m 219 #[.val (.int i0), .val (.int i1), .val (.int i2), .val (.int i3), .val (.int i4), .val (.int i5), .val (.int v1), .val (.int v3), .val (.int v5), .val (.ref v7), .val (.ref v11), .val (.ref b15), .val (.ref b43), .val (.int (((i5.toUInt32 >>> ((5 : Int32) &&& 31).toUInt32).toInt32) &&& (3 : Int32))), .unset] [(.ref b15)])) (fun t k => XS.aload X44.here hx rfl (hb hby at_217) rfl rfl k) ?_
        refine Go.on (T' := T44) (g' := (mkF m 220 #[.val (.int i0), .val (.int i1), .val (.int i2), .val (.int i3), .val (.int i4), .val (.int i5), .val (.int v1), .val (.int v3), .val (.int v5), .val (.ref v7), .val (.ref v11), .val (.ref b15), .val (.ref b43), .val (.int (((i5.toUInt32 >>> ((5 : Int32) &&& 31).toUInt32).toInt32) &&& (3 : Int32))), .unset] [(.int i0), (.ref b15)])) (fun t k => XS.iloadN X44.here hx rfl (hb hby at_219) rfl k) ?_
        by_cases h157 : i0 < (-128 : Int32)
        · skip
          obtain ⟨_, _, ⟨T164, L164, k164, n164⟩, -, X164, ⟨Lc164, hQ164, l164, y164, z164⟩, st164⟩ := Jvm.LawKit.callS X44 hx (y := (⟨"java/lang/Integer", "valueOf", "(I)Ljava/lang/Integer;"⟩ : MethodName)) hown (mvT hZ (hw _ (List.mem_of_getElem? (i := 29) rfl))) (mvT hZ (hw _ (List.mem_of_getElem? (i := 30) rfl))) (mvT hZ (hw _ (List.mem_of_getElem? (i := 31) rfl))) (mvT hZ (hw _ (List.mem_of_getElem? (i := 32) rfl))) (by decide) (backOf (W := 1) (rm4_0 l Z a0 hw [] w hB hP T44.heap XT44 i0 h157) hZ (hw _ (List.mem_of_getElem? (i := 32) rfl)) (hw _ (List.mem_of_getElem? (i := 31) rfl)) (by decide) (by decide)) (g := (mkF m 220 #[.val (.int i0), .val (.int i1), .val (.int i2), .val (.int i3), .val (.int i4), .val (.int i5), .val (.int v1), .val (.int v3), .val (.int v5), .val (.ref v7), .val (.ref v11), .val (.ref b15), .val (.ref b43), .val (.int (((i5.toUInt32 >>> ((5 : Int32) &&& 31).toUInt32).toInt32) &&& (3 : Int32))), .unset] [(.int i0), (.ref b15)])) rfl (by rw [hml]; rfl) (argsL := [(.int i0)]) (rest := [(.ref b15)]) (lenOf pd_4 rfl) rfl (by show 2 * 0 + _ ≤ _; exact Nat.le_of_eq rfl) (hb hby at_220) (fun _ _ => ⟨rfl, e44, (by decide : 2 + 1 ≤ _), (by decide : 8 + 1 ≤ _)⟩)
          dsimp only [Pt.U, Pt.locs, Pt.cells, Pt.slots] at X164 l164 y164 z164 st164 hQ164
          subst l164 y164 z164
          obtain ⟨⟨c164_0, rfl, K164, fq164_0, fq164_1, fq164_2, -⟩, N164q⟩ := hQ164
          have e164 : T164.heap = T164.heap := rfl
          have N164 := Fr.app N44 N164q
          have XT164 : Ext hB T164.heap := own_extK XT44 K164 all0
          refine Go.on (T' := T164) (g' := (mkF m 223 #[.val (.int i0), .val (.int i1), .val (.int i2), .val (.int i3), .val (.int i4), .val (.int i5), .val (.int v1), .val (.int v3), .val (.int v5), .val (.ref v7), .val (.ref v11), .val (.ref b15), .val (.ref b43), .val (.int (((i5.toUInt32 >>> ((5 : Int32) &&& 31).toUInt32).toInt32) &&& (3 : Int32))), .unset] [(.ref c164_0), (.ref b15)])) st164 ?_
          have f165 : Exa Z T164.heap b15 "com/example/pedina/pedina/rules/Position" := (((fq42_0.ext E43).keep K44).keep K164)
          have f169 : Fld Z T164.heap b15 "com/example/pedina/pedina/rules/Position" "white" "I" (.int i0) := (((fq42_1.ext E43).keep K44 (ninS (Nat.ne_of_lt (Nat.lt_of_lt_of_le (A15.keep K42).lt (Nat.le_of_eq g43.symm))) nin0)).keep K164 nin0)
          have f170 : Fld Z T164.heap b15 "com/example/pedina/pedina/rules/Position" "black" "I" (.int i1) := (((fq42_2.ext E43).keep K44 (ninS (Nat.ne_of_lt (Nat.lt_of_lt_of_le (A15.keep K42).lt (Nat.le_of_eq g43.symm))) nin0)).keep K164 nin0)
          have f171 : Fld Z T164.heap b15 "com/example/pedina/pedina/rules/Position" "kings" "I" (.int i2) := (((fq42_3.ext E43).keep K44 (ninS (Nat.ne_of_lt (Nat.lt_of_lt_of_le (A15.keep K42).lt (Nat.le_of_eq g43.symm))) nin0)).keep K164 nin0)
          have f172 : Fld Z T164.heap b15 "com/example/pedina/pedina/rules/Position" "sideToMove" "Lcom/example/pedina/pedina/rules/Side;" (.ref v7) := (((fq42_4.ext E43).keep K44 (ninS (Nat.ne_of_lt (Nat.lt_of_lt_of_le (A15.keep K42).lt (Nat.le_of_eq g43.symm))) nin0)).keep K164 nin0)
          obtain ⟨cq168, kq168, q168a, q168b, q168c⟩ := isOf hZ e164 f165
          obtain ⟨_, _, ⟨T168, L168, k168, n168⟩, -, X168, ⟨Lc168, hQ168, l168, y168, z168⟩, st168⟩ := X164.virtualBack hx (y := (⟨"com/example/pedina/pedina/rules/Position", "equals", "(Ljava/lang/Object;)Z"⟩ : MethodName)) (z := (⟨"com/example/pedina/pedina/rules/Position", "equals", "(Ljava/lang/Object;)Z"⟩ : MethodName)) hown (mvT hZ (hw _ (List.mem_of_getElem? (i := 20) rfl))) (mvT hZ (hw _ (List.mem_of_getElem? (i := 21) rfl))) (notFace_of_selects (args := #[]) (mvT hZ (hw _ (List.mem_of_getElem? (i := 23) rfl)))) (mvT hZ (hw _ (List.mem_of_getElem? (i := 23) rfl))) (mvT hZ (hw _ (List.mem_of_getElem? (i := 22) rfl))) (by decide) (backOf (W := 0) (rm3_6 l Z a0 hw [] w hB hP T164.heap XT164 b15 i0 i1 i2 v7 c164_0 i0 f165 f169 f170 f171 f172 gb15 fq164_1 fq164_2 (Nat.le_trans XT44.1 fq164_0) (Nat.ne_of_lt (Nat.lt_of_lt_of_le (((A15.keep K42).ext E43).keep K44).lt fq164_0))) hZ (hw _ (List.mem_of_getElem? (i := 24) rfl)) (hw _ (List.mem_of_getElem? (i := 5) rfl)) (by decide) (by decide)) q168a q168c (g := (mkF m 223 #[.val (.int i0), .val (.int i1), .val (.int i2), .val (.int i3), .val (.int i4), .val (.int i5), .val (.int v1), .val (.int v3), .val (.int v5), .val (.ref v7), .val (.ref v11), .val (.ref b15), .val (.ref b43), .val (.int (((i5.toUInt32 >>> ((5 : Int32) &&& 31).toUInt32).toInt32) &&& (3 : Int32))), .unset] [(.ref c164_0), (.ref b15)])) rfl (by rw [hml]; rfl) (Steps.refl _) (argsL := [(.ref c164_0)]) (rest := []) (lenOf pd_1 rfl) rfl (by show 2 * 0 + _ ≤ _; exact Nat.le_of_eq rfl) (hb hby at_223) (fun _ _ => ⟨rfl, e164, (by decide : 3 + 0 ≤ _), (by decide : 9 + 0 ≤ _)⟩)
          dsimp only [Pt.U, Pt.locs, Pt.cells, Pt.slots] at X168 l168 y168 z168 st168 hQ168
          subst l168 y168 z168
          obtain ⟨⟨rfl, e168⟩, N168q⟩ := hQ168
          have N168 := Fr.app N164 N168q
          refine Go.on (T' := T168) (g' := (mkF m 226 #[.val (.int i0), .val (.int i1), .val (.int i2), .val (.int i3), .val (.int i4), .val (.int i5), .val (.int v1), .val (.int v3), .val (.int v5), .val (.ref v7), .val (.ref v11), .val (.ref b15), .val (.ref b43), .val (.int (((i5.toUInt32 >>> ((5 : Int32) &&& 31).toUInt32).toInt32) &&& (3 : Int32))), .unset] [(.int (0 : Int32))])) (fun t k => st168.trans k) ?_
          refine Go.on (T' := T168) (g' := (mkF m 229 #[.val (.int i0), .val (.int i1), .val (.int i2), .val (.int i3), .val (.int i4), .val (.int i5), .val (.int v1), .val (.int v3), .val (.int v5), .val (.ref v7), .val (.ref v11), .val (.ref b15), .val (.ref b43), .val (.int (((i5.toUInt32 >>> ((5 : Int32) &&& 31).toUInt32).toInt32) &&& (3 : Int32))), .unset] [])) (fun t k => XS.ifNo X168.here hx rfl (hb hby at_226) rfl ((if0 _ _).trans (teq (by decide : (0 : Int32) = (0 : Int32))).2) k) ?_
          refine Go.on (T' := T168) (g' := (mkF m 230 #[.val (.int i0), .val (.int i1), .val (.int i2), .val (.int i3), .val (.int i4), .val (.int i5), .val (.int v1), .val (.int v3), .val (.int v5), .val (.ref v7), .val (.ref v11), .val (.ref b15), .val (.ref b43), .val (.int (((i5.toUInt32 >>> ((5 : Int32) &&& 31).toUInt32).toInt32) &&& (3 : Int32))), .unset] [(.int (1 : Int32))])) (fun t k => XS.iconst X168.here hx rfl (hb hby at_229) k) ?_
          refine Go.on (T' := T168) (g' := (mkF m 234 #[.val (.int i0), .val (.int i1), .val (.int i2), .val (.int i3), .val (.int i4), .val (.int i5), .val (.int v1), .val (.int v3), .val (.int v5), .val (.ref v7), .val (.ref v11), .val (.ref b15), .val (.ref b43), .val (.int (((i5.toUInt32 >>> ((5 : Int32) &&& 31).toUInt32).toInt32) &&& (3 : Int32))), .unset] [(.int (1 : Int32))])) (fun t k => XS.goto X168.here hx rfl (pc0 := 230) (pc' := 234) rfl (hb hby at_230) (by decide) (by decide) k) ?_
          subst hG
          obtain ⟨fs, hr, hrun, hended, hW, hsame⟩ := X168.leave (v := some (.int (1 : Int32))) (fun h => by rw [Bd.returns] at h; cases h)
          exact ⟨_, _, retN X168 hx (t := .boolean) Bd.returns (by simp) (hb hby at_234) hr, hrun, hended, _, _, rfl, ⟨rfl, N168⟩, ⟨_, rfl⟩, hW, hsame.mono (by decide) (by decide)⟩
        · skip
          by_cases h173 : (127 : Int32) < i0
          · skip
            obtain ⟨_, _, ⟨T177, L177, k177, n177⟩, -, X177, ⟨Lc177, hQ177, l177, y177, z177⟩, st177⟩ := Jvm.LawKit.callS X44 hx (y := (⟨"java/lang/Integer", "valueOf", "(I)Ljava/lang/Integer;"⟩ : MethodName)) hown (mvT hZ (hw _ (List.mem_of_getElem? (i := 29) rfl))) (mvT hZ (hw _ (List.mem_of_getElem? (i := 30) rfl))) (mvT hZ (hw _ (List.mem_of_getElem? (i := 31) rfl))) (mvT hZ (hw _ (List.mem_of_getElem? (i := 32) rfl))) (by decide) (backOf (W := 1) (rm4_1 l Z a0 hw [] w hB hP T44.heap XT44 i0 h157 h173) hZ (hw _ (List.mem_of_getElem? (i := 32) rfl)) (hw _ (List.mem_of_getElem? (i := 31) rfl)) (by decide) (by decide)) (g := (mkF m 220 #[.val (.int i0), .val (.int i1), .val (.int i2), .val (.int i3), .val (.int i4), .val (.int i5), .val (.int v1), .val (.int v3), .val (.int v5), .val (.ref v7), .val (.ref v11), .val (.ref b15), .val (.ref b43), .val (.int (((i5.toUInt32 >>> ((5 : Int32) &&& 31).toUInt32).toInt32) &&& (3 : Int32))), .unset] [(.int i0), (.ref b15)])) rfl (by rw [hml]; rfl) (argsL := [(.int i0)]) (rest := [(.ref b15)]) (lenOf pd_4 rfl) rfl (by show 2 * 0 + _ ≤ _; exact Nat.le_of_eq rfl) (hb hby at_220) (fun _ _ => ⟨rfl, e44, (by decide : 2 + 1 ≤ _), (by decide : 8 + 1 ≤ _)⟩)
            dsimp only [Pt.U, Pt.locs, Pt.cells, Pt.slots] at X177 l177 y177 z177 st177 hQ177
            subst l177 y177 z177
            obtain ⟨⟨c177_0, rfl, K177, fq177_0, fq177_1, fq177_2, -⟩, N177q⟩ := hQ177
            have e177 : T177.heap = T177.heap := rfl
            have N177 := Fr.app N44 N177q
            have XT177 : Ext hB T177.heap := own_extK XT44 K177 all0
            refine Go.on (T' := T177) (g' := (mkF m 223 #[.val (.int i0), .val (.int i1), .val (.int i2), .val (.int i3), .val (.int i4), .val (.int i5), .val (.int v1), .val (.int v3), .val (.int v5), .val (.ref v7), .val (.ref v11), .val (.ref b15), .val (.ref b43), .val (.int (((i5.toUInt32 >>> ((5 : Int32) &&& 31).toUInt32).toInt32) &&& (3 : Int32))), .unset] [(.ref c177_0), (.ref b15)])) st177 ?_
            have f178 : Exa Z T177.heap b15 "com/example/pedina/pedina/rules/Position" := (((fq42_0.ext E43).keep K44).keep K177)
            have f180 : Fld Z T177.heap b15 "com/example/pedina/pedina/rules/Position" "white" "I" (.int i0) := (((fq42_1.ext E43).keep K44 (ninS (Nat.ne_of_lt (Nat.lt_of_lt_of_le (A15.keep K42).lt (Nat.le_of_eq g43.symm))) nin0)).keep K177 nin0)
            have f181 : Fld Z T177.heap b15 "com/example/pedina/pedina/rules/Position" "black" "I" (.int i1) := (((fq42_2.ext E43).keep K44 (ninS (Nat.ne_of_lt (Nat.lt_of_lt_of_le (A15.keep K42).lt (Nat.le_of_eq g43.symm))) nin0)).keep K177 nin0)
            have f182 : Fld Z T177.heap b15 "com/example/pedina/pedina/rules/Position" "kings" "I" (.int i2) := (((fq42_3.ext E43).keep K44 (ninS (Nat.ne_of_lt (Nat.lt_of_lt_of_le (A15.keep K42).lt (Nat.le_of_eq g43.symm))) nin0)).keep K177 nin0)
            have f183 : Fld Z T177.heap b15 "com/example/pedina/pedina/rules/Position" "sideToMove" "Lcom/example/pedina/pedina/rules/Side;" (.ref v7) := (((fq42_4.ext E43).keep K44 (ninS (Nat.ne_of_lt (Nat.lt_of_lt_of_le (A15.keep K42).lt (Nat.le_of_eq g43.symm))) nin0)).keep K177 nin0)
            obtain ⟨cq179, kq179, q179a, q179b, q179c⟩ := isOf hZ e177 f178
            obtain ⟨_, _, ⟨T179, L179, k179, n179⟩, -, X179, ⟨Lc179, hQ179, l179, y179, z179⟩, st179⟩ := X177.virtualBack hx (y := (⟨"com/example/pedina/pedina/rules/Position", "equals", "(Ljava/lang/Object;)Z"⟩ : MethodName)) (z := (⟨"com/example/pedina/pedina/rules/Position", "equals", "(Ljava/lang/Object;)Z"⟩ : MethodName)) hown (mvT hZ (hw _ (List.mem_of_getElem? (i := 20) rfl))) (mvT hZ (hw _ (List.mem_of_getElem? (i := 21) rfl))) (notFace_of_selects (args := #[]) (mvT hZ (hw _ (List.mem_of_getElem? (i := 23) rfl)))) (mvT hZ (hw _ (List.mem_of_getElem? (i := 23) rfl))) (mvT hZ (hw _ (List.mem_of_getElem? (i := 22) rfl))) (by decide) (backOf (W := 0) (rm3_6 l Z a0 hw [] w hB hP T177.heap XT177 b15 i0 i1 i2 v7 c177_0 i0 f178 f180 f181 f182 f183 gb15 fq177_1 fq177_2 (Nat.le_trans XT44.1 fq177_0) (Nat.ne_of_lt (Nat.lt_of_lt_of_le (((A15.keep K42).ext E43).keep K44).lt fq177_0))) hZ (hw _ (List.mem_of_getElem? (i := 24) rfl)) (hw _ (List.mem_of_getElem? (i := 5) rfl)) (by decide) (by decide)) q179a q179c (g := (mkF m 223 #[.val (.int i0), .val (.int i1), .val (.int i2), .val (.int i3), .val (.int i4), .val (.int i5), .val (.int v1), .val (.int v3), .val (.int v5), .val (.ref v7), .val (.ref v11), .val (.ref b15), .val (.ref b43), .val (.int (((i5.toUInt32 >>> ((5 : Int32) &&& 31).toUInt32).toInt32) &&& (3 : Int32))), .unset] [(.ref c177_0), (.ref b15)])) rfl (by rw [hml]; rfl) (Steps.refl _) (argsL := [(.ref c177_0)]) (rest := []) (lenOf pd_1 rfl) rfl (by show 2 * 0 + _ ≤ _; exact Nat.le_of_eq rfl) (hb hby at_223) (fun _ _ => ⟨rfl, e177, (by decide : 3 + 0 ≤ _), (by decide : 9 + 0 ≤ _)⟩)
            dsimp only [Pt.U, Pt.locs, Pt.cells, Pt.slots] at X179 l179 y179 z179 st179 hQ179
            subst l179 y179 z179
            obtain ⟨⟨rfl, e179⟩, N179q⟩ := hQ179
            have N179 := Fr.app N177 N179q
            refine Go.on (T' := T179) (g' := (mkF m 226 #[.val (.int i0), .val (.int i1), .val (.int i2), .val (.int i3), .val (.int i4), .val (.int i5), .val (.int v1), .val (.int v3), .val (.int v5), .val (.ref v7), .val (.ref v11), .val (.ref b15), .val (.ref b43), .val (.int (((i5.toUInt32 >>> ((5 : Int32) &&& 31).toUInt32).toInt32) &&& (3 : Int32))), .unset] [(.int (0 : Int32))])) (fun t k => st179.trans k) ?_
            refine Go.on (T' := T179) (g' := (mkF m 229 #[.val (.int i0), .val (.int i1), .val (.int i2), .val (.int i3), .val (.int i4), .val (.int i5), .val (.int v1), .val (.int v3), .val (.int v5), .val (.ref v7), .val (.ref v11), .val (.ref b15), .val (.ref b43), .val (.int (((i5.toUInt32 >>> ((5 : Int32) &&& 31).toUInt32).toInt32) &&& (3 : Int32))), .unset] [])) (fun t k => XS.ifNo X179.here hx rfl (hb hby at_226) rfl ((if0 _ _).trans (teq (by decide : (0 : Int32) = (0 : Int32))).2) k) ?_
            refine Go.on (T' := T179) (g' := (mkF m 230 #[.val (.int i0), .val (.int i1), .val (.int i2), .val (.int i3), .val (.int i4), .val (.int i5), .val (.int v1), .val (.int v3), .val (.int v5), .val (.ref v7), .val (.ref v11), .val (.ref b15), .val (.ref b43), .val (.int (((i5.toUInt32 >>> ((5 : Int32) &&& 31).toUInt32).toInt32) &&& (3 : Int32))), .unset] [(.int (1 : Int32))])) (fun t k => XS.iconst X179.here hx rfl (hb hby at_229) k) ?_
            refine Go.on (T' := T179) (g' := (mkF m 234 #[.val (.int i0), .val (.int i1), .val (.int i2), .val (.int i3), .val (.int i4), .val (.int i5), .val (.int v1), .val (.int v3), .val (.int v5), .val (.ref v7), .val (.ref v11), .val (.ref b15), .val (.ref b43), .val (.int (((i5.toUInt32 >>> ((5 : Int32) &&& 31).toUInt32).toInt32) &&& (3 : Int32))), .unset] [(.int (1 : Int32))])) (fun t k => XS.goto X179.here hx rfl (pc0 := 230) (pc' := 234) rfl (hb hby at_230) (by decide) (by decide) k) ?_
            subst hG
            obtain ⟨fs, hr, hrun, hended, hW, hsame⟩ := X179.leave (v := some (.int (1 : Int32))) (fun h => by rw [Bd.returns] at h; cases h)
            exact ⟨_, _, retN X179 hx (t := .boolean) Bd.returns (by simp) (hb hby at_234) hr, hrun, hended, _, _, rfl, ⟨rfl, N179⟩, ⟨_, rfl⟩, hW, hsame.mono (by decide) (by decide)⟩
          · skip
            obtain ⟨_, _, ⟨T187, L187, k187, n187⟩, -, X187, ⟨Lc187, hQ187, l187, y187, z187⟩, st187⟩ := Jvm.LawKit.callS X44 hx (y := (⟨"java/lang/Integer", "valueOf", "(I)Ljava/lang/Integer;"⟩ : MethodName)) hown (mvT hZ (hw _ (List.mem_of_getElem? (i := 29) rfl))) (mvT hZ (hw _ (List.mem_of_getElem? (i := 30) rfl))) (mvT hZ (hw _ (List.mem_of_getElem? (i := 31) rfl))) (mvT hZ (hw _ (List.mem_of_getElem? (i := 32) rfl))) (by decide) (backOf (W := 1) (rm4_2 l Z a0 hw [] w hB hP T44.heap XT44 i0 h157 h173) hZ (hw _ (List.mem_of_getElem? (i := 32) rfl)) (hw _ (List.mem_of_getElem? (i := 31) rfl)) (by decide) (by decide)) (g := (mkF m 220 #[.val (.int i0), .val (.int i1), .val (.int i2), .val (.int i3), .val (.int i4), .val (.int i5), .val (.int v1), .val (.int v3), .val (.int v5), .val (.ref v7), .val (.ref v11), .val (.ref b15), .val (.ref b43), .val (.int (((i5.toUInt32 >>> ((5 : Int32) &&& 31).toUInt32).toInt32) &&& (3 : Int32))), .unset] [(.int i0), (.ref b15)])) rfl (by rw [hml]; rfl) (argsL := [(.int i0)]) (rest := [(.ref b15)]) (lenOf pd_4 rfl) rfl (by show 2 * 0 + _ ≤ _; exact Nat.le_of_eq rfl) (hb hby at_220) (fun _ _ => ⟨rfl, e44, (by decide : 2 + 0 ≤ _), (by decide : 8 + 0 ≤ _)⟩)
            dsimp only [Pt.U, Pt.locs, Pt.cells, Pt.slots] at X187 l187 y187 z187 st187 hQ187
            subst l187 y187 z187
            obtain ⟨⟨c187_0, rfl, K187, fq187_0, -⟩, N187q⟩ := hQ187
            have e187 : T187.heap = T187.heap := rfl
            have N187 := Fr.app N44 N187q
            have XT187 : Ext hB T187.heap := own_extK XT44 K187 all0
            refine Go.on (T' := T187) (g' := (mkF m 223 #[.val (.int i0), .val (.int i1), .val (.int i2), .val (.int i3), .val (.int i4), .val (.int i5), .val (.int v1), .val (.int v3), .val (.int v5), .val (.ref v7), .val (.ref v11), .val (.ref b15), .val (.ref b43), .val (.int (((i5.toUInt32 >>> ((5 : Int32) &&& 31).toUInt32).toInt32) &&& (3 : Int32))), .unset] [(.ref c187_0), (.ref b15)])) st187 ?_
            have f188 : Exa Z T187.heap b15 "com/example/pedina/pedina/rules/Position" := (((fq42_0.ext E43).keep K44).keep K187)
            have f192 : Fld Z T187.heap b15 "com/example/pedina/pedina/rules/Position" "white" "I" (.int i0) := (((fq42_1.ext E43).keep K44 (ninS (Nat.ne_of_lt (Nat.lt_of_lt_of_le (A15.keep K42).lt (Nat.le_of_eq g43.symm))) nin0)).keep K187 nin0)
            have f193 : Fld Z T187.heap b15 "com/example/pedina/pedina/rules/Position" "black" "I" (.int i1) := (((fq42_2.ext E43).keep K44 (ninS (Nat.ne_of_lt (Nat.lt_of_lt_of_le (A15.keep K42).lt (Nat.le_of_eq g43.symm))) nin0)).keep K187 nin0)
            have f194 : Fld Z T187.heap b15 "com/example/pedina/pedina/rules/Position" "kings" "I" (.int i2) := (((fq42_3.ext E43).keep K44 (ninS (Nat.ne_of_lt (Nat.lt_of_lt_of_le (A15.keep K42).lt (Nat.le_of_eq g43.symm))) nin0)).keep K187 nin0)
            have f195 : Fld Z T187.heap b15 "com/example/pedina/pedina/rules/Position" "sideToMove" "Lcom/example/pedina/pedina/rules/Side;" (.ref v7) := (((fq42_4.ext E43).keep K44 (ninS (Nat.ne_of_lt (Nat.lt_of_lt_of_le (A15.keep K42).lt (Nat.le_of_eq g43.symm))) nin0)).keep K187 nin0)
            obtain ⟨cq191, kq191, q191a, q191b, q191c⟩ := isOf hZ e187 f188
            obtain ⟨_, _, ⟨T191, L191, k191, n191⟩, -, X191, ⟨Lc191, hQ191, l191, y191, z191⟩, st191⟩ := X187.virtualBack hx (y := (⟨"com/example/pedina/pedina/rules/Position", "equals", "(Ljava/lang/Object;)Z"⟩ : MethodName)) (z := (⟨"com/example/pedina/pedina/rules/Position", "equals", "(Ljava/lang/Object;)Z"⟩ : MethodName)) hown (mvT hZ (hw _ (List.mem_of_getElem? (i := 20) rfl))) (mvT hZ (hw _ (List.mem_of_getElem? (i := 21) rfl))) (notFace_of_selects (args := #[]) (mvT hZ (hw _ (List.mem_of_getElem? (i := 23) rfl)))) (mvT hZ (hw _ (List.mem_of_getElem? (i := 23) rfl))) (mvT hZ (hw _ (List.mem_of_getElem? (i := 22) rfl))) (by decide) (backOf (W := 0) (rm3_7 l Z a0 hw [] w hB hP T187.heap XT187 b15 i0 i1 i2 v7 c187_0 f188 f192 f193 f194 f195 gb15 fq187_0) hZ (hw _ (List.mem_of_getElem? (i := 24) rfl)) (hw _ (List.mem_of_getElem? (i := 5) rfl)) (by decide) (by decide)) q191a q191c (g := (mkF m 223 #[.val (.int i0), .val (.int i1), .val (.int i2), .val (.int i3), .val (.int i4), .val (.int i5), .val (.int v1), .val (.int v3), .val (.int v5), .val (.ref v7), .val (.ref v11), .val (.ref b15), .val (.ref b43), .val (.int (((i5.toUInt32 >>> ((5 : Int32) &&& 31).toUInt32).toInt32) &&& (3 : Int32))), .unset] [(.ref c187_0), (.ref b15)])) rfl (by rw [hml]; rfl) (Steps.refl _) (argsL := [(.ref c187_0)]) (rest := []) (lenOf pd_1 rfl) rfl (by show 2 * 0 + _ ≤ _; exact Nat.le_of_eq rfl) (hb hby at_223) (fun _ _ => ⟨rfl, e187, (by decide : 2 + 0 ≤ _), (by decide : 8 + 0 ≤ _)⟩)
            dsimp only [Pt.U, Pt.locs, Pt.cells, Pt.slots] at X191 l191 y191 z191 st191 hQ191
            subst l191 y191 z191
            obtain ⟨⟨rfl, e191⟩, N191q⟩ := hQ191
            have N191 := Fr.app N187 N191q
            refine Go.on (T' := T191) (g' := (mkF m 226 #[.val (.int i0), .val (.int i1), .val (.int i2), .val (.int i3), .val (.int i4), .val (.int i5), .val (.int v1), .val (.int v3), .val (.int v5), .val (.ref v7), .val (.ref v11), .val (.ref b15), .val (.ref b43), .val (.int (((i5.toUInt32 >>> ((5 : Int32) &&& 31).toUInt32).toInt32) &&& (3 : Int32))), .unset] [(.int (0 : Int32))])) (fun t k => st191.trans k) ?_
            refine Go.on (T' := T191) (g' := (mkF m 229 #[.val (.int i0), .val (.int i1), .val (.int i2), .val (.int i3), .val (.int i4), .val (.int i5), .val (.int v1), .val (.int v3), .val (.int v5), .val (.ref v7), .val (.ref v11), .val (.ref b15), .val (.ref b43), .val (.int (((i5.toUInt32 >>> ((5 : Int32) &&& 31).toUInt32).toInt32) &&& (3 : Int32))), .unset] [])) (fun t k => XS.ifNo X191.here hx rfl (hb hby at_226) rfl ((if0 _ _).trans (teq (by decide : (0 : Int32) = (0 : Int32))).2) k) ?_
            refine Go.on (T' := T191) (g' := (mkF m 230 #[.val (.int i0), .val (.int i1), .val (.int i2), .val (.int i3), .val (.int i4), .val (.int i5), .val (.int v1), .val (.int v3), .val (.int v5), .val (.ref v7), .val (.ref v11), .val (.ref b15), .val (.ref b43), .val (.int (((i5.toUInt32 >>> ((5 : Int32) &&& 31).toUInt32).toInt32) &&& (3 : Int32))), .unset] [(.int (1 : Int32))])) (fun t k => XS.iconst X191.here hx rfl (hb hby at_229) k) ?_
            refine Go.on (T' := T191) (g' := (mkF m 234 #[.val (.int i0), .val (.int i1), .val (.int i2), .val (.int i3), .val (.int i4), .val (.int i5), .val (.int v1), .val (.int v3), .val (.int v5), .val (.ref v7), .val (.ref v11), .val (.ref b15), .val (.ref b43), .val (.int (((i5.toUInt32 >>> ((5 : Int32) &&& 31).toUInt32).toInt32) &&& (3 : Int32))), .unset] [(.int (1 : Int32))])) (fun t k => XS.goto X191.here hx rfl (pc0 := 230) (pc' := 234) rfl (hb hby at_230) (by decide) (by decide) k) ?_
            subst hG
            obtain ⟨fs, hr, hrun, hended, hW, hsame⟩ := X191.leave (v := some (.int (1 : Int32))) (fun h => by rw [Bd.returns] at h; cases h)
            exact ⟨_, _, retN X191 hx (t := .boolean) Bd.returns (by simp) (hb hby at_234) hr, hrun, hended, _, _, rfl, ⟨rfl, N191⟩, ⟨_, rfl⟩, hW, hsame.mono (by decide) (by decide)⟩
      · skip
        refine Go.on (T' := T44) (g' := (mkF m 235 #[.val (.int i0), .val (.int i1), .val (.int i2), .val (.int i3), .val (.int i4), .val (.int i5), .val (.int v1), .val (.int v3), .val (.int v5), .val (.ref v7), .val (.ref v11), .val (.ref b15), .val (.ref b43), .val (.int (((i5.toUInt32 >>> ((5 : Int32) &&& 31).toUInt32).toInt32) &&& (3 : Int32))), .unset] [])) (fun t k => XS.icmpYes X44.here hx rfl (pc0 := 214) (pc' := 235) rfl (hb hby at_214) rfl (feq h144).2 (by decide) (by decide) k) ?_
        refine Go.on (T' := T44) (g' := (mkF m 237 #[.val (.int i0), .val (.int i1), .val (.int i2), .val (.int i3), .val (.int i4), .val (.int i5), .val (.int v1), .val (.int v3), .val (.int v5), .val (.ref v7), .val (.ref v11), .val (.ref b15), .val (.ref b43), .val (.int (((i5.toUInt32 >>> ((5 : Int32) &&& 31).toUInt32).toInt32) &&& (3 : Int32))), .unset] [(.ref b15)])) (fun t k => XS.aload X44.here hx rfl (hb hby at_235) rfl rfl k) ?_
        refine Go.on (T' := T44) (g' := (mkF m 239 #[.val (.int i0), .val (.int i1), .val (.int i2), .val (.int i3), .val (.int i4), .val (.int i5), .val (.int v1), .val (.int v3), .val (.int v5), .val (.ref v7), .val (.ref v11), .val (.ref b15), .val (.ref b43), .val (.int (((i5.toUInt32 >>> ((5 : Int32) &&& 31).toUInt32).toInt32) &&& (3 : Int32))), .unset] [(.ref b15), (.ref b15)])) (fun t k => XS.aload X44.here hx rfl (hb hby at_237) rfl rfl k) ?_
        have f196 : Exa Z T44.heap b15 "com/example/pedina/pedina/rules/Position" := ((fq42_0.ext E43).keep K44)
        have f218 : Fld Z T44.heap b15 "com/example/pedina/pedina/rules/Position" "white" "I" (.int i0) := ((fq42_1.ext E43).keep K44 (ninS (Nat.ne_of_lt (Nat.lt_of_lt_of_le (A15.keep K42).lt (Nat.le_of_eq g43.symm))) nin0))
        have f219 : Fld Z T44.heap b15 "com/example/pedina/pedina/rules/Position" "black" "I" (.int i1) := ((fq42_2.ext E43).keep K44 (ninS (Nat.ne_of_lt (Nat.lt_of_lt_of_le (A15.keep K42).lt (Nat.le_of_eq g43.symm))) nin0))
        have f220 : Fld Z T44.heap b15 "com/example/pedina/pedina/rules/Position" "kings" "I" (.int i2) := ((fq42_3.ext E43).keep K44 (ninS (Nat.ne_of_lt (Nat.lt_of_lt_of_le (A15.keep K42).lt (Nat.le_of_eq g43.symm))) nin0))
        have f221 : Fld Z T44.heap b15 "com/example/pedina/pedina/rules/Position" "sideToMove" "Lcom/example/pedina/pedina/rules/Side;" (.ref v7) := ((fq42_4.ext E43).keep K44 (ninS (Nat.ne_of_lt (Nat.lt_of_lt_of_le (A15.keep K42).lt (Nat.le_of_eq g43.symm))) nin0))
        obtain ⟨cq217, kq217, q217a, q217b, q217c⟩ := isOf hZ e44 f196
        obtain ⟨_, _, ⟨T217, L217, k217, n217⟩, -, X217, ⟨Lc217, hQ217, l217, y217, z217⟩, st217⟩ := X44.virtualBack hx (y := (⟨"com/example/pedina/pedina/rules/Position", "equals", "(Ljava/lang/Object;)Z"⟩ : MethodName)) (z := (⟨"com/example/pedina/pedina/rules/Position", "equals", "(Ljava/lang/Object;)Z"⟩ : MethodName)) hown (mvT hZ (hw _ (List.mem_of_getElem? (i := 20) rfl))) (mvT hZ (hw _ (List.mem_of_getElem? (i := 21) rfl))) (notFace_of_selects (args := #[]) (mvT hZ (hw _ (List.mem_of_getElem? (i := 23) rfl)))) (mvT hZ (hw _ (List.mem_of_getElem? (i := 23) rfl))) (mvT hZ (hw _ (List.mem_of_getElem? (i := 22) rfl))) (by decide) (backOf (W := 0) (rm3_8 l Z a0 hw [] w hB hP T44.heap XT44 b15 i0 i1 i2 v7 f196 f218 f219 f220 f221 gb15) hZ (hw _ (List.mem_of_getElem? (i := 24) rfl)) (hw _ (List.mem_of_getElem? (i := 5) rfl)) (by decide) (by decide)) q217a q217c (g := (mkF m 239 #[.val (.int i0), .val (.int i1), .val (.int i2), .val (.int i3), .val (.int i4), .val (.int i5), .val (.int v1), .val (.int v3), .val (.int v5), .val (.ref v7), .val (.ref v11), .val (.ref b15), .val (.ref b43), .val (.int (((i5.toUInt32 >>> ((5 : Int32) &&& 31).toUInt32).toInt32) &&& (3 : Int32))), .unset] [(.ref b15), (.ref b15)])) rfl (by rw [hml]; rfl) (Steps.refl _) (argsL := [(.ref b15)]) (rest := []) (lenOf pd_1 rfl) rfl (by show 2 * 0 + _ ≤ _; exact Nat.le_of_eq rfl) (hb hby at_239) (fun _ _ => ⟨rfl, e44, (by decide : 2 + 0 ≤ _), (by decide : 8 + 0 ≤ _)⟩)
        dsimp only [Pt.U, Pt.locs, Pt.cells, Pt.slots] at X217 l217 y217 z217 st217 hQ217
        subst l217 y217 z217
        obtain ⟨⟨rfl, e217⟩, N217q⟩ := hQ217
        have N217 := Fr.app N44 N217q
        refine Go.on (T' := T217) (g' := (mkF m 242 #[.val (.int i0), .val (.int i1), .val (.int i2), .val (.int i3), .val (.int i4), .val (.int i5), .val (.int v1), .val (.int v3), .val (.int v5), .val (.ref v7), .val (.ref v11), .val (.ref b15), .val (.ref b43), .val (.int (((i5.toUInt32 >>> ((5 : Int32) &&& 31).toUInt32).toInt32) &&& (3 : Int32))), .unset] [(.int (1 : Int32))])) (fun t k => st217.trans k) ?_
        subst hG
        obtain ⟨fs, hr, hrun, hended, hW, hsame⟩ := X217.leave (v := some (.int (1 : Int32))) (fun h => by rw [Bd.returns] at h; cases h)
        exact ⟨_, _, retN X217 hx (t := .boolean) Bd.returns (by simp) (hb hby at_242) hr, hrun, hended, _, _, rfl, ⟨rfl, N217⟩, ⟨_, rfl⟩, hW, hsame.mono (by decide) (by decide)⟩
set_option maxRecDepth 65536 in
set_option maxHeartbeats 40000000 in
theorem comes_1 {Post : Tables → Env → Array Value → State → Outcome → State → Prop} (hpost : ∀ tb e args s v u, (limb_1_1.after args s (.returned v) u = true ∧ limb_1_2.after args s (.returned v) u = true ∧ True) → FrameEnd s (.returned v) u (Jvm.fieldLocs frame_1_writes args s ++ Jvm.arrayLocs frame_1_arrays args s ++ Jvm.staticLocs frame_1_statics s) 16 128 → Post tb e args s (.returned v) u) :
    ArmFor flags0 classFile x code maxLocals ret World_1 tables_1 room_1 Calls_1 rest_1 Pre_1 Post := by
  intro l hfl _ _ p e ha hc hk s m args below hf hA hF happ hP
  obtain ⟨hcalls, hrest, hpre⟩ := hP
  obtain ⟨-, -, -, hnamed, -, -, -, hat⟩ := (Spec.applies_iff hf).mp happ
  obtain ⟨hg, hn⟩ := and_e (Cond.before_iff.mp (show (Jvm.Cond.and given_1 narrow_1).before args s = true from hpre))
  obtain ⟨u1, v1⟩ := and_e hg
  obtain ⟨u2, v2⟩ := and_e v1
  obtain ⟨u3, v3⟩ := and_e v2
  obtain ⟨u4, v4⟩ := and_e v3
  obtain ⟨u5, v5⟩ := and_e v4
  obtain ⟨u6, v6⟩ := and_e v5
  obtain ⟨w0, w1, w2, w3, w4, w5, rfl⟩ : ∃ w0 w1 w2 w3 w4 w5 : Value, args = #[w0, w1, w2, w3, w4, w5] := by
    have hs : args.size = 6 := by simpa [Cond.value, given_1] using u1
    obtain ⟨L⟩ := args
    match L, hs with
    | [w0, w1, w2, w3, w4, w5], _ => exact ⟨w0, w1, w2, w3, w4, w5, rfl⟩
  have hw := fun d (hd : d ∈ tables_1) => atoms_spec (ws := Jvm.Cond.code x code maxLocals ret :: tables_1) hat d (List.mem_cons_of_mem _ hd)
  have hfit : Fit s := fun {y c} hc i hi => by
    obtain ⟨ha, rfl⟩ := Array.getElem?_eq_some_iff.mp hc
    have q := List.all_eq_true.mp ((Array.all_eq_true_iff_forall_mem.mp hF) _ (Array.getElem_mem ha)) i (List.mem_range.mpr hi)
    simpa [Array.getElem?_eq_getElem hi] using q
  obtain ⟨i0, ei0⟩ := is_v u2
  obtain rfl : w0 = (.int i0) := Option.some.inj ei0
  obtain ⟨i1, ei1⟩ := is_v u3
  obtain rfl : w1 = (.int i1) := Option.some.inj ei1
  obtain ⟨i2, ei2⟩ := is_v u4
  obtain rfl : w2 = (.int i2) := Option.some.inj ei2
  obtain ⟨i3, ei3⟩ := is_v u5
  obtain rfl : w3 = (.int i3) := Option.some.inj ei3
  obtain ⟨i4, ei4⟩ := is_v u6
  obtain rfl : w4 = (.int i4) := Option.some.inj ei4
  obtain ⟨i5, ei5⟩ := is_v v6
  obtain rfl : w5 = (.int i5) := Option.some.inj ei5
  obtain ⟨u7, v7⟩ := and_e hn
  obtain ⟨u8, v8⟩ := and_e v7
  obtain ⟨u9, v9⟩ := and_e v8
  obtain ⟨hsets, hown0⟩ := atoms_of _ (rest_1_c_eq ▸ (show rest_1_c.before _ s = true from hrest))
  obtain ⟨x0, ev0⟩ := arr_v (Cond.before_iff.mp (hsets _ (List.mem_of_getElem? (i := 4) rfl)))
  obtain ⟨cl0, Ar0⟩ := Arr.start ev0 (Cond.before_iff.mp (hsets _ (List.mem_of_getElem? (i := 4) rfl)))
  obtain ⟨x1, ev1⟩ := exa_v u7
  obtain ⟨x2, ev2⟩ := exa_v u8
  have sl0 : cl0.slots.size = 256 := own_len (own_eqI (Cond.before_iff.mp (hsets _ (List.mem_of_getElem? (i := 6) rfl)))) ev0 Ar0 (by decide)
  obtain ⟨w, hw_⟩ : ∃ w : Nat → Addr, w 0 = x0 ∧ w 1 = x1 ∧ w 2 = x2 ∧ True := ⟨fun k => [x0, x1, x2].getD k 0, rfl, rfl, rfl, trivial⟩
  obtain ⟨rfl, rfl, rfl, -⟩ := hw_
  have hPin : Pins s s.heap w := ⟨Sta.start ev0 (Or.inr ⟨(hw _ (List.mem_of_getElem? (i := 34) rfl)), (hsets _ (List.mem_of_getElem? (i := 2) rfl))⟩),
    Sta.start ev1 (Or.inr ⟨(hw _ (List.mem_of_getElem? (i := 1) rfl)), (hw _ (List.mem_of_getElem? (i := 2) rfl))⟩),
    Sta.start ev2 (Or.inr ⟨(hw _ (List.mem_of_getElem? (i := 1) rfl)), (hw _ (List.mem_of_getElem? (i := 28) rfl))⟩),
    Exa.start ev1 u7,
    Exa.start ev2 u8,
    Exa.start ev0 (Cond.before_iff.mp (hsets _ (List.mem_of_getElem? (i := 5) rfl))),
    Fld.start ((fld_at ev2).symm.trans (own_eqI u9)),
    Fld.start ((fld_at ev1).symm.trans (own_eqI v9)),
    Sta.start (own_eqI (Cond.before_iff.mp (hsets _ (List.mem_of_getElem? (i := 3) rfl)))) (Or.inl (hsets _ (List.mem_of_getElem? (i := 1) rfl))),
    ⟨cl0, Ar0, sl0, fun j hj => own_cache (fun _ => ev0) Ar0 (Cond.before_iff.mp (hsets _ (List.mem_of_getElem? (i := 7) rfl))) j (by rw [sl0]; exact hj)⟩,
    trivial⟩
  obtain ⟨n, o, h1, h2, h3, _, L, rfl, ⟨rfl, N⟩, hq⟩ := rm0 l s _ hw tables_1 w s.heap hPin s.heap (own_ext0 _) i0 i1 i2 i3 i4 i5 p e ha hc hk s m _ below hf ((Spec.applies_iff_loose hf).mp happ).1 ⟨rfl, State.Warmed39.refl s, rfl⟩ trivial
  refine ⟨n, _, h1, h2, h3, hpost _ _ _ _ _ _ ⟨Cond.after_iff.mpr rfl, Cond.after_iff.mpr (eq_i res_at (Term.int_eval (1)) rfl), trivial⟩ ⟨hq.1, hq.2.1, (hq.2.2.sift fun y hy => Or.inr (N y hy)).mono (by decide) (by decide)⟩⟩
theorem main_1_1 : Claimed_1_1 := comes_1 fun _ _ _ _ _ _ h hF => ⟨h.1, hF⟩
theorem main_1_2 : Claimed_1_2 := comes_1 fun _ _ _ _ _ _ h hF => ⟨h.2.1, hF⟩
end Jvm.Pilot.@@N@@
namespace Jvm.Pilot.@@N@@
open Jvm Jvm.ClassFile Sem Op Lib Jvm.Free Jvm.Stand Jvm.Pilot.@@N@@.Jvm.D
/-! MADE BY PROGRAM (witnessworld.py) out of the Statement's table words and the real class files: 18 classes; the members and pool entries that the words name. The judged class is class 1, her method 1. -/
namespace start1
open Jvm.ClassFile
def u (s : String) : CpInfo := .utf8 (stringToUtf16 s)
/-- a pool by its gaps: so many unusable entries, then the entry; so many at the end -/
def gap : Nat → List CpInfo → List CpInfo
  | 0, r => r
  | n + 1, r => .unusable :: gap n r
def poolList (es : List (Nat × CpInfo)) (last : Nat) : List CpInfo := es.foldr (fun e r => gap e.1 (e.2 :: r)) (gap last [])
def pool (es : List (Nat × CpInfo)) (last : Nat) : Array CpInfo := ⟨poolList es last⟩
def fileOf (pool : Array CpInfo) (this : Nat) (attrs : Array Attribute := #[]) (ms : Array MethodInfo := #[]) (fl : Nat := 33) (sup : Nat := 0) (ifs : Array Nat := #[]) (fds : Array FieldInfo := #[]) : ClassFile where
  minorVersion := 0
  majorVersion := 65
  constantPool := pool
  accessFlags := fl
  thisClass := this
  superClass := sup
  interfaces := ifs
  fields := fds
  methods := ms
  attributes := attrs
def plain (name : String) (sup : Option ClassId) : Class where
  name := name
  kind := .ordinary
  loader := none
  accessFlags := 33
  super := sup
  interfaces := #[]
  cf := none
  fields := #[]
  methods := #[]
  instanceTypes := #[]
  staticTypes := #[]
  resolved := #[]
  callSites := []
  init := .initialized
  statics := none
  mirror := none

def pool0 : Array CpInfo := pool [(5, u "<init>"), (0, u "()V"), (1, .class_ 10), (1, u "java/lang/Object")] 113

def k0c0 : Code := { maxStack := 0, maxLocals := 1, code := object_method_1_code, exceptionTable := #[], attributes := #[] }
def k0m0 : Method := { name := "<init>", desc := "()V", sig := { parameters := [], returnType := none }, accessFlags := 1, code := some k0c0 }
/-- java/lang/Object -/
def k0 : Class := { plain "java/lang/Object" none with
  accessFlags := 33
  interfaces := #[]
  cf := some (fileOf pool0 8 #[] #[{ accessFlags := 1, nameIndex := 5, descriptorIndex := 6, attributes := #[] }] 33 0 #[] #[])
  fields := #[]
  methods := #[k0m0]
  instanceTypes := #[]
  staticTypes := #[]
  resolved := Array.replicate 124 none
  statics := none }

def pool1 : Array CpInfo := pool [(2, .class_ 4), (1, u "java/lang/Object"), (0, u "<init>"), (0, u "()V"), (0, .fieldref 8 9), (0, .class_ 10), (0, .nameAndType 11 12), (0, u "com/example/pedina/pedina/rules/Side"), (0, u "BLACK"), (0, u "Lcom/example/pedina/pedina/rules/Side;"), (0, .fieldref 8 14), (0, .nameAndType 15 12), (0, u "WHITE"), (0, .class_ 17), (0, u "com/example/pedina/pedina/rules/Position"), (0, .methodref 16 19), (0, .nameAndType 5 20), (0, u "(IIILcom/example/pedina/pedina/rules/Side;)V"), (0, .methodref 16 22), (0, .nameAndType 23 24), (0, u "equals"), (0, u "(Ljava/lang/Object;)Z"), (0, .methodref 26 27), (0, .class_ 28), (0, .nameAndType 29 30), (0, u "java/lang/Integer"), (0, u "valueOf"), (0, u "(I)Ljava/lang/Integer;"), (0, .class_ 32), (0, u "com/example/pedina/pedina/rules/PositionEqualsPinLaw"), (2, u "law"), (0, u "(IIIIII)Z")] 3

def k1m0 : Method := { name := "<init>", desc := "()V", sig := { parameters := [], returnType := none }, accessFlags := 1, code := none }
def k1c1 : Code := { maxStack := 6, maxLocals := 15, code := code, exceptionTable := #[], attributes := #[] }
def k1m1 : Method := { name := "law", desc := "(IIIIII)Z", sig := { parameters := [.int, .int, .int, .int, .int, .int], returnType := some .boolean }, accessFlags := 9, code := some k1c1 }
/-- com/example/pedina/pedina/rules/PositionEqualsPinLaw -/
def k1 : Class := { plain "com/example/pedina/pedina/rules/PositionEqualsPinLaw" (some 0) with
  accessFlags := 49
  interfaces := #[]
  cf := some (fileOf pool1 31 #[] #[{ accessFlags := 1, nameIndex := 5, descriptorIndex := 6, attributes := #[] }, { accessFlags := 9, nameIndex := 35, descriptorIndex := 36, attributes := #[] }] 49 2 #[] #[])
  fields := #[]
  methods := #[k1m0, k1m1]
  instanceTypes := #[]
  staticTypes := #[]
  resolved := Array.replicate 40 none
  statics := none }

def pool2 : Array CpInfo := pool [(1, .class_ 2), (0, u "java/lang/constant/Constable"), (0, .class_ 4), (0, u "java/lang/Object")] 6

/-- java/lang/constant/Constable -/
def k2 : Class := { plain "java/lang/constant/Constable" (some 0) with
  accessFlags := 1537
  interfaces := #[]
  cf := some (fileOf pool2 1 #[] #[] 1537 3 #[] #[])
  fields := #[]
  methods := #[]
  instanceTypes := #[]
  staticTypes := #[]
  resolved := Array.replicate 11 none
  statics := none }

def pool3 : Array CpInfo := pool [(1, .class_ 2), (0, u "java/lang/Comparable"), (0, .class_ 4), (0, u "java/lang/Object")] 7

/-- java/lang/Comparable -/
def k3 : Class := { plain "java/lang/Comparable" (some 0) with
  accessFlags := 1537
  interfaces := #[]
  cf := some (fileOf pool3 1 #[] #[] 1537 3 #[] #[])
  fields := #[]
  methods := #[]
  instanceTypes := #[]
  staticTypes := #[]
  resolved := Array.replicate 12 none
  statics := none }

def pool4 : Array CpInfo := pool [(1, .class_ 2), (0, u "java/io/Serializable"), (0, .class_ 4), (0, u "java/lang/Object")] 2

/-- java/io/Serializable -/
def k4 : Class := { plain "java/io/Serializable" (some 0) with
  accessFlags := 1537
  interfaces := #[]
  cf := some (fileOf pool4 1 #[] #[] 1537 3 #[] #[])
  fields := #[]
  methods := #[]
  instanceTypes := #[]
  staticTypes := #[]
  resolved := Array.replicate 7 none
  statics := none }

def pool5 : Array CpInfo := pool [(2, .class_ 4), (1, u "java/lang/Enum"), (0, u "name"), (0, u "Ljava/lang/String;"), (2, u "ordinal"), (0, u "I"), (1, .class_ 14), (1, u "java/lang/Object"), (4, u "hash"), (86, .class_ 108), (1, u "java/lang/Enum$EnumDesc"), (2, .class_ 112), (0, u "java/lang/constant/Constable"), (0, .class_ 114), (0, u "java/lang/Comparable"), (0, .class_ 116), (0, u "java/io/Serializable")] 87

/-- java/lang/Enum -/
def k5 : Class := { plain "java/lang/Enum" (some 0) with
  accessFlags := 1057
  interfaces := #[2, 3, 4]
  cf := some (fileOf pool5 2 #[.nestMembers #[106]] #[] 1057 12 #[111, 113, 115] #[{ accessFlags := 18, nameIndex := 5, descriptorIndex := 6, attributes := #[] }, { accessFlags := 18, nameIndex := 9, descriptorIndex := 10, attributes := #[] }, { accessFlags := 2, nameIndex := 19, descriptorIndex := 10, attributes := #[] }])
  fields := #[{ name := "name", type := (.object "java/lang/String"), accessFlags := 18, slot := 0, constantValue := 0 }, { name := "ordinal", type := .int, accessFlags := 18, slot := 1, constantValue := 0 }, { name := "hash", type := .int, accessFlags := 2, slot := 2, constantValue := 0 }]
  methods := #[]
  instanceTypes := #[(.object "java/lang/String"), .int, .int]
  staticTypes := #[]
  resolved := Array.replicate 204 none
  statics := none }

def pool6 : Array CpInfo := pool [(1, .class_ 2), (0, u "com/example/pedina/pedina/rules/Side"), (2, u "WHITE"), (0, u "Lcom/example/pedina/pedina/rules/Side;"), (2, u "BLACK"), (2, u "$VALUES"), (0, u "[Lcom/example/pedina/pedina/rules/Side;"), (6, .class_ 22), (1, u "java/lang/Enum")] 35

/-- com/example/pedina/pedina/rules/Side -/
def k6 : Class := { plain "com/example/pedina/pedina/rules/Side" (some 5) with
  accessFlags := 16433
  interfaces := #[]
  cf := some (fileOf pool6 1 #[] #[] 16433 20 #[] #[{ accessFlags := 16409, nameIndex := 5, descriptorIndex := 6, attributes := #[] }, { accessFlags := 16409, nameIndex := 9, descriptorIndex := 6, attributes := #[] }, { accessFlags := 4122, nameIndex := 12, descriptorIndex := 13, attributes := #[] }])
  fields := #[{ name := "WHITE", type := (.object "com/example/pedina/pedina/rules/Side"), accessFlags := 16409, slot := 0, constantValue := 0 }, { name := "BLACK", type := (.object "com/example/pedina/pedina/rules/Side"), accessFlags := 16409, slot := 1, constantValue := 0 }, { name := "$VALUES", type := (.array (.object "com/example/pedina/pedina/rules/Side")), accessFlags := 4122, slot := 2, constantValue := 0 }]
  methods := #[]
  instanceTypes := #[(.object "java/lang/String"), .int, .int]
  staticTypes := #[(.object "com/example/pedina/pedina/rules/Side"), (.object "com/example/pedina/pedina/rules/Side"), (.array (.object "com/example/pedina/pedina/rules/Side"))]
  resolved := Array.replicate 58 none
  statics := some 0 }

def pool7 : Array CpInfo := pool [(3, .methodref 4 5), (0, .class_ 6), (0, .nameAndType 7 8), (0, u "java/lang/Object"), (0, u "<init>"), (0, u "()V"), (0, .fieldref 10 11), (0, .class_ 12), (0, .nameAndType 13 14), (0, u "com/example/pedina/pedina/rules/Position"), (0, u "white"), (0, u "I"), (0, .fieldref 10 16), (0, .nameAndType 17 14), (0, u "black"), (0, .fieldref 10 19), (0, .nameAndType 20 14), (0, u "kings"), (0, .fieldref 10 22), (0, .nameAndType 23 24), (0, u "sideToMove"), (0, u "Lcom/example/pedina/pedina/rules/Side;"), (86, u "(IIILcom/example/pedina/pedina/rules/Side;)V"), (3, u "SQUARES"), (2, u "ROWS"), (11, u "equals"), (0, u "(Ljava/lang/Object;)Z"), (4, .class_ 137), (0, u "com/example/pedina/pedina/rules/Position$Builder")] 16

def k7c0 : Code := { maxStack := 2, maxLocals := 5, code := prog_27_method_1_code, exceptionTable := #[], attributes := #[] }
def k7m0 : Method := { name := "<init>", desc := "(IIILcom/example/pedina/pedina/rules/Side;)V", sig := { parameters := [.int, .int, .int, (.object "com/example/pedina/pedina/rules/Side")], returnType := none }, accessFlags := 0, code := some k7c0 }
def k7c1 : Code := { maxStack := 2, maxLocals := 3, code := prog_27_method_9_code, exceptionTable := #[], attributes := #[] }
def k7m1 : Method := { name := "equals", desc := "(Ljava/lang/Object;)Z", sig := { parameters := [(.object "java/lang/Object")], returnType := some .boolean }, accessFlags := 1, code := some k7c1 }
/-- com/example/pedina/pedina/rules/Position -/
def k7 : Class := { plain "com/example/pedina/pedina/rules/Position" (some 0) with
  accessFlags := 49
  interfaces := #[]
  cf := some (fileOf pool7 10 #[.nestMembers #[136]] #[{ accessFlags := 0, nameIndex := 7, descriptorIndex := 111, attributes := #[] }, { accessFlags := 1, nameIndex := 130, descriptorIndex := 131, attributes := #[] }] 49 4 #[] #[{ accessFlags := 25, nameIndex := 115, descriptorIndex := 14, attributes := #[] }, { accessFlags := 25, nameIndex := 118, descriptorIndex := 14, attributes := #[] }, { accessFlags := 18, nameIndex := 13, descriptorIndex := 14, attributes := #[] }, { accessFlags := 18, nameIndex := 17, descriptorIndex := 14, attributes := #[] }, { accessFlags := 18, nameIndex := 20, descriptorIndex := 14, attributes := #[] }, { accessFlags := 18, nameIndex := 23, descriptorIndex := 24, attributes := #[] }])
  fields := #[{ name := "SQUARES", type := .int, accessFlags := 25, slot := 0, constantValue := 0 }, { name := "ROWS", type := .int, accessFlags := 25, slot := 1, constantValue := 0 }, { name := "white", type := .int, accessFlags := 18, slot := 0, constantValue := 0 }, { name := "black", type := .int, accessFlags := 18, slot := 1, constantValue := 0 }, { name := "kings", type := .int, accessFlags := 18, slot := 2, constantValue := 0 }, { name := "sideToMove", type := (.object "com/example/pedina/pedina/rules/Side"), accessFlags := 18, slot := 3, constantValue := 0 }]
  methods := #[k7m0, k7m1]
  instanceTypes := #[.int, .int, .int, (.object "com/example/pedina/pedina/rules/Side")]
  staticTypes := #[.int, .int]
  resolved := Array.replicate 154 none
  statics := none }

def pool8 : Array CpInfo := pool [(1, .methodref 2 3), (0, .class_ 4), (0, .nameAndType 5 6), (0, u "java/lang/Object"), (0, u "<init>"), (0, u "()V"), (1, .class_ 10), (1, u "java/lang/Number"), (2, .class_ 14), (0, u "java/io/Serializable"), (0, u "serialVersionUID"), (0, u "J")] 20

def k8c0 : Code := { maxStack := 1, maxLocals := 1, code := jdk_18_method_1_code, exceptionTable := #[], attributes := #[] }
def k8m0 : Method := { name := "<init>", desc := "()V", sig := { parameters := [], returnType := none }, accessFlags := 1, code := some k8c0 }
/-- java/lang/Number -/
def k8 : Class := { plain "java/lang/Number" (some 0) with
  accessFlags := 1057
  interfaces := #[4]
  cf := some (fileOf pool8 8 #[] #[{ accessFlags := 1, nameIndex := 5, descriptorIndex := 6, attributes := #[] }] 1057 2 #[13] #[{ accessFlags := 26, nameIndex := 15, descriptorIndex := 16, attributes := #[] }])
  fields := #[{ name := "serialVersionUID", type := .long, accessFlags := 26, slot := 0, constantValue := 0 }]
  methods := #[k8m0]
  instanceTypes := #[]
  staticTypes := #[.long]
  resolved := Array.replicate 37 none
  statics := none }

def pool9 : Array CpInfo := pool [(1, .class_ 2), (0, u "java/lang/constant/ConstantDesc"), (0, .class_ 4), (0, u "java/lang/Object")] 32

/-- java/lang/constant/ConstantDesc -/
def k9 : Class := { plain "java/lang/constant/ConstantDesc" (some 0) with
  accessFlags := 1537
  interfaces := #[]
  cf := some (fileOf pool9 1 #[] #[] 1537 3 #[] #[])
  fields := #[]
  methods := #[]
  instanceTypes := #[]
  staticTypes := #[]
  resolved := Array.replicate 37 none
  statics := none }

def pool10 : Array CpInfo := pool [(1, .class_ 2), (0, u "java/lang/Integer"), (16, u "digits"), (0, u "[C"), (46, u "<init>"), (17, u "DigitOnes"), (0, u "[B"), (2, u "DigitTens"), (10, .nameAndType 67 101), (0, u "()V"), (85, u "valueOf"), (0, u "(I)Ljava/lang/Integer;"), (0, .class_ 190), (0, u "java/lang/Integer$IntegerCache"), (0, .fieldref 189 192), (0, .nameAndType 193 194), (0, u "high"), (0, u "I"), (0, .fieldref 189 196), (0, .nameAndType 197 198), (0, u "cache"), (0, u "[Ljava/lang/Integer;"), (0, .methodref 1 200), (0, .nameAndType 67 201), (0, u "(I)V"), (0, .methodref 203 100), (0, .class_ 204), (0, u "java/lang/Number"), (0, .fieldref 1 206), (0, .nameAndType 207 194), (0, u "value"), (94, u "TYPE"), (0, u "Ljava/lang/Class;"), (0, .class_ 305), (0, u "java/lang/Comparable"), (0, .class_ 307), (0, u "java/lang/constant/Constable"), (0, .class_ 309), (0, u "java/lang/constant/ConstantDesc"), (0, u "MIN_VALUE"), (1, u "MAX_VALUE"), (3, u "SIZE"), (1, u "BYTES"), (1, u "serialVersionUID"), (0, u "J")] 131

def k10c0 : Code := { maxStack := 3, maxLocals := 1, code := jdk_33_method_22_code, exceptionTable := #[], attributes := #[] }
def k10m0 : Method := { name := "valueOf", desc := "(I)Ljava/lang/Integer;", sig := { parameters := [.int], returnType := some (.object "java/lang/Integer") }, accessFlags := 9, code := some k10c0 }
def k10c1 : Code := { maxStack := 2, maxLocals := 2, code := jdk_33_method_23_code, exceptionTable := #[], attributes := #[] }
def k10m1 : Method := { name := "<init>", desc := "(I)V", sig := { parameters := [.int], returnType := none }, accessFlags := 1, code := some k10c1 }
/-- java/lang/Integer -/
def k10 : Class := { plain "java/lang/Integer" (some 8) with
  accessFlags := 49
  interfaces := #[3, 2, 9]
  cf := some (fileOf pool10 1 #[.nestMembers #[189]] #[{ accessFlags := 9, nameIndex := 187, descriptorIndex := 188, attributes := #[] }, { accessFlags := 1, nameIndex := 67, descriptorIndex := 201, attributes := #[] }] 49 203 #[304, 306, 308] #[{ accessFlags := 25, nameIndex := 310, descriptorIndex := 194, attributes := #[] }, { accessFlags := 25, nameIndex := 312, descriptorIndex := 194, attributes := #[] }, { accessFlags := 25, nameIndex := 302, descriptorIndex := 303, attributes := #[] }, { accessFlags := 24, nameIndex := 19, descriptorIndex := 20, attributes := #[] }, { accessFlags := 24, nameIndex := 89, descriptorIndex := 86, attributes := #[] }, { accessFlags := 24, nameIndex := 85, descriptorIndex := 86, attributes := #[] }, { accessFlags := 18, nameIndex := 207, descriptorIndex := 194, attributes := #[] }, { accessFlags := 25, nameIndex := 316, descriptorIndex := 194, attributes := #[] }, { accessFlags := 25, nameIndex := 318, descriptorIndex := 194, attributes := #[] }, { accessFlags := 26, nameIndex := 320, descriptorIndex := 321, attributes := #[] }])
  fields := #[{ name := "MIN_VALUE", type := .int, accessFlags := 25, slot := 0, constantValue := 0 }, { name := "MAX_VALUE", type := .int, accessFlags := 25, slot := 1, constantValue := 0 }, { name := "TYPE", type := (.object "java/lang/Class"), accessFlags := 25, slot := 2, constantValue := 0 }, { name := "digits", type := (.array .char), accessFlags := 24, slot := 3, constantValue := 0 }, { name := "DigitTens", type := (.array .byte), accessFlags := 24, slot := 4, constantValue := 0 }, { name := "DigitOnes", type := (.array .byte), accessFlags := 24, slot := 5, constantValue := 0 }, { name := "value", type := .int, accessFlags := 18, slot := 0, constantValue := 0 }, { name := "SIZE", type := .int, accessFlags := 25, slot := 6, constantValue := 0 }, { name := "BYTES", type := .int, accessFlags := 25, slot := 7, constantValue := 0 }, { name := "serialVersionUID", type := .long, accessFlags := 26, slot := 8, constantValue := 0 }]
  methods := #[k10m0, k10m1]
  instanceTypes := #[.int]
  staticTypes := #[.int, .int, (.object "java/lang/Class"), (.array .char), (.array .byte), (.array .byte), .int, .int, .long]
  resolved := Array.replicate 453 none
  statics := none }

def pool11 : Array CpInfo := pool [(2, .class_ 4), (1, u "java/lang/Object"), (0, u "<init>"), (0, u "()V"), (0, .class_ 8), (0, u "java/lang/Integer"), (7, .class_ 18), (1, u "java/lang/Integer$IntegerCache"), (0, u "$assertionsDisabled"), (0, u "Z"), (26, u "high"), (0, u "I"), (8, u "archivedCache"), (0, u "[Ljava/lang/Integer;"), (12, u "cache"), (0, u "low")] 27

def k11m0 : Method := { name := "<init>", desc := "()V", sig := { parameters := [], returnType := none }, accessFlags := 2, code := none }
/-- java/lang/Integer$IntegerCache -/
def k11 : Class := { plain "java/lang/Integer$IntegerCache" (some 0) with
  accessFlags := 48
  interfaces := #[]
  cf := some (fileOf pool11 16 #[.nestHost 7] #[{ accessFlags := 2, nameIndex := 5, descriptorIndex := 6, attributes := #[] }] 48 2 #[] #[{ accessFlags := 24, nameIndex := 72, descriptorIndex := 48, attributes := #[] }, { accessFlags := 24, nameIndex := 47, descriptorIndex := 48, attributes := #[] }, { accessFlags := 24, nameIndex := 71, descriptorIndex := 58, attributes := #[] }, { accessFlags := 8, nameIndex := 57, descriptorIndex := 58, attributes := #[] }, { accessFlags := 4120, nameIndex := 19, descriptorIndex := 20, attributes := #[] }])
  fields := #[{ name := "low", type := .int, accessFlags := 24, slot := 0, constantValue := 0 }, { name := "high", type := .int, accessFlags := 24, slot := 1, constantValue := 0 }, { name := "cache", type := (.array (.object "java/lang/Integer")), accessFlags := 24, slot := 2, constantValue := 0 }, { name := "archivedCache", type := (.array (.object "java/lang/Integer")), accessFlags := 8, slot := 3, constantValue := 0 }, { name := "$assertionsDisabled", type := .boolean, accessFlags := 4120, slot := 4, constantValue := 0 }]
  methods := #[k11m0]
  instanceTypes := #[]
  staticTypes := #[.int, .int, (.array (.object "java/lang/Integer")), (.array (.object "java/lang/Integer")), .boolean]
  resolved := Array.replicate 100 none
  statics := some 1 }

def pool12 : Array CpInfo := pool [(1, u "java/lang/Cloneable"), (0, .class_ 1), (0, u "java/lang/Object"), (0, .class_ 3)] 3

/-- java/lang/Cloneable -/
def k12 : Class := { plain "java/lang/Cloneable" (some 0) with
  accessFlags := 1537
  interfaces := #[]
  cf := some (fileOf pool12 2 #[] #[] 1537 4 #[] #[])
  fields := #[]
  methods := #[]
  instanceTypes := #[]
  staticTypes := #[]
  resolved := Array.replicate 8 none
  statics := none }

/-- the primitive byte -/
def k13 : Class := { plain "byte" none with kind := .primitive 'B', accessFlags := 0x411 }
/-- [B -/
def k14 : Class := { plain "[B" (some 0) with kind := .array 13 .byte, interfaces := #[12, 4], accessFlags := 1041 }

/-- the primitive int -/
def k15 : Class := { plain "int" none with kind := .primitive 'I', accessFlags := 0x411 }
/-- [I -/
def k16 : Class := { plain "[I" (some 0) with kind := .array 15 .int, interfaces := #[12, 4], accessFlags := 1041 }

/-- [Ljava/lang/Integer; -/
def k17 : Class := { plain "[Ljava/lang/Integer;" (some 0) with kind := .array 10 (.object "java/lang/Integer"), interfaces := #[12, 4], accessFlags := 1041 }

def heap : Heap := #[{ cls := 6, slots := #[.ref 3, .ref 4, .null], vm := .statics 6 },
  { cls := 11, slots := #[.int 0, .int 127, .ref 2, .null, .int 0], vm := .statics 11 },
  { cls := 17, slots := #[.ref 5, .ref 6, .ref 7, .ref 8, .ref 9, .ref 10, .ref 11, .ref 12, .ref 13, .ref 14, .ref 15, .ref 16, .ref 17, .ref 18, .ref 19, .ref 20, .ref 21, .ref 22, .ref 23, .ref 24, .ref 25, .ref 26, .ref 27, .ref 28, .ref 29, .ref 30, .ref 31, .ref 32, .ref 33, .ref 34, .ref 35, .ref 36, .ref 37, .ref 38, .ref 39, .ref 40, .ref 41, .ref 42, .ref 43, .ref 44, .ref 45, .ref 46, .ref 47, .ref 48, .ref 49, .ref 50, .ref 51, .ref 52, .ref 53, .ref 54, .ref 55, .ref 56, .ref 57, .ref 58, .ref 59, .ref 60, .ref 61, .ref 62, .ref 63, .ref 64, .ref 65, .ref 66, .ref 67, .ref 68, .ref 69, .ref 70, .ref 71, .ref 72, .ref 73, .ref 74, .ref 75, .ref 76, .ref 77, .ref 78, .ref 79, .ref 80, .ref 81, .ref 82, .ref 83, .ref 84, .ref 85, .ref 86, .ref 87, .ref 88, .ref 89, .ref 90, .ref 91, .ref 92, .ref 93, .ref 94, .ref 95, .ref 96, .ref 97, .ref 98, .ref 99, .ref 100, .ref 101, .ref 102, .ref 103, .ref 104, .ref 105, .ref 106, .ref 107, .ref 108, .ref 109, .ref 110, .ref 111, .ref 112, .ref 113, .ref 114, .ref 115, .ref 116, .ref 117, .ref 118, .ref 119, .ref 120, .ref 121, .ref 122, .ref 123, .ref 124, .ref 125, .ref 126, .ref 127, .ref 128, .ref 129, .ref 130, .ref 131, .ref 132, .ref 133, .ref 134, .ref 135, .ref 136, .ref 137, .ref 138, .ref 139, .ref 140, .ref 141, .ref 142, .ref 143, .ref 144, .ref 145, .ref 146, .ref 147, .ref 148, .ref 149, .ref 150, .ref 151, .ref 152, .ref 153, .ref 154, .ref 155, .ref 156, .ref 157, .ref 158, .ref 159, .ref 160, .ref 161, .ref 162, .ref 163, .ref 164, .ref 165, .ref 166, .ref 167, .ref 168, .ref 169, .ref 170, .ref 171, .ref 172, .ref 173, .ref 174, .ref 175, .ref 176, .ref 177, .ref 178, .ref 179, .ref 180, .ref 181, .ref 182, .ref 183, .ref 184, .ref 185, .ref 186, .ref 187, .ref 188, .ref 189, .ref 190, .ref 191, .ref 192, .ref 193, .ref 194, .ref 195, .ref 196, .ref 197, .ref 198, .ref 199, .ref 200, .ref 201, .ref 202, .ref 203, .ref 204, .ref 205, .ref 206, .ref 207, .ref 208, .ref 209, .ref 210, .ref 211, .ref 212, .ref 213, .ref 214, .ref 215, .ref 216, .ref 217, .ref 218, .ref 219, .ref 220, .ref 221, .ref 222, .ref 223, .ref 224, .ref 225, .ref 226, .ref 227, .ref 228, .ref 229, .ref 230, .ref 231, .ref 232, .ref 233, .ref 234, .ref 235, .ref 236, .ref 237, .ref 238, .ref 239, .ref 240, .ref 241, .ref 242, .ref 243, .ref 244, .ref 245, .ref 246, .ref 247, .ref 248, .ref 249, .ref 250, .ref 251, .ref 252, .ref 253, .ref 254, .ref 255, .ref 256, .ref 257, .ref 258, .ref 259, .ref 260], vm := .none },
  { cls := 6, slots := #[.null, .int 0, .int 0], vm := .none },
  { cls := 6, slots := #[.null, .int 1, .int 0], vm := .none },
  { cls := 10, slots := #[.int (-128)], vm := .none },
  { cls := 10, slots := #[.int (-127)], vm := .none },
  { cls := 10, slots := #[.int (-126)], vm := .none },
  { cls := 10, slots := #[.int (-125)], vm := .none },
  { cls := 10, slots := #[.int (-124)], vm := .none },
  { cls := 10, slots := #[.int (-123)], vm := .none },
  { cls := 10, slots := #[.int (-122)], vm := .none },
  { cls := 10, slots := #[.int (-121)], vm := .none },
  { cls := 10, slots := #[.int (-120)], vm := .none },
  { cls := 10, slots := #[.int (-119)], vm := .none },
  { cls := 10, slots := #[.int (-118)], vm := .none },
  { cls := 10, slots := #[.int (-117)], vm := .none },
  { cls := 10, slots := #[.int (-116)], vm := .none },
  { cls := 10, slots := #[.int (-115)], vm := .none },
  { cls := 10, slots := #[.int (-114)], vm := .none },
  { cls := 10, slots := #[.int (-113)], vm := .none },
  { cls := 10, slots := #[.int (-112)], vm := .none },
  { cls := 10, slots := #[.int (-111)], vm := .none },
  { cls := 10, slots := #[.int (-110)], vm := .none },
  { cls := 10, slots := #[.int (-109)], vm := .none },
  { cls := 10, slots := #[.int (-108)], vm := .none },
  { cls := 10, slots := #[.int (-107)], vm := .none },
  { cls := 10, slots := #[.int (-106)], vm := .none },
  { cls := 10, slots := #[.int (-105)], vm := .none },
  { cls := 10, slots := #[.int (-104)], vm := .none },
  { cls := 10, slots := #[.int (-103)], vm := .none },
  { cls := 10, slots := #[.int (-102)], vm := .none },
  { cls := 10, slots := #[.int (-101)], vm := .none },
  { cls := 10, slots := #[.int (-100)], vm := .none },
  { cls := 10, slots := #[.int (-99)], vm := .none },
  { cls := 10, slots := #[.int (-98)], vm := .none },
  { cls := 10, slots := #[.int (-97)], vm := .none },
  { cls := 10, slots := #[.int (-96)], vm := .none },
  { cls := 10, slots := #[.int (-95)], vm := .none },
  { cls := 10, slots := #[.int (-94)], vm := .none },
  { cls := 10, slots := #[.int (-93)], vm := .none },
  { cls := 10, slots := #[.int (-92)], vm := .none },
  { cls := 10, slots := #[.int (-91)], vm := .none },
  { cls := 10, slots := #[.int (-90)], vm := .none },
  { cls := 10, slots := #[.int (-89)], vm := .none },
  { cls := 10, slots := #[.int (-88)], vm := .none },
  { cls := 10, slots := #[.int (-87)], vm := .none },
  { cls := 10, slots := #[.int (-86)], vm := .none },
  { cls := 10, slots := #[.int (-85)], vm := .none },
  { cls := 10, slots := #[.int (-84)], vm := .none },
  { cls := 10, slots := #[.int (-83)], vm := .none },
  { cls := 10, slots := #[.int (-82)], vm := .none },
  { cls := 10, slots := #[.int (-81)], vm := .none },
  { cls := 10, slots := #[.int (-80)], vm := .none },
  { cls := 10, slots := #[.int (-79)], vm := .none },
  { cls := 10, slots := #[.int (-78)], vm := .none },
  { cls := 10, slots := #[.int (-77)], vm := .none },
  { cls := 10, slots := #[.int (-76)], vm := .none },
  { cls := 10, slots := #[.int (-75)], vm := .none },
  { cls := 10, slots := #[.int (-74)], vm := .none },
  { cls := 10, slots := #[.int (-73)], vm := .none },
  { cls := 10, slots := #[.int (-72)], vm := .none },
  { cls := 10, slots := #[.int (-71)], vm := .none },
  { cls := 10, slots := #[.int (-70)], vm := .none },
  { cls := 10, slots := #[.int (-69)], vm := .none },
  { cls := 10, slots := #[.int (-68)], vm := .none },
  { cls := 10, slots := #[.int (-67)], vm := .none },
  { cls := 10, slots := #[.int (-66)], vm := .none },
  { cls := 10, slots := #[.int (-65)], vm := .none },
  { cls := 10, slots := #[.int (-64)], vm := .none },
  { cls := 10, slots := #[.int (-63)], vm := .none },
  { cls := 10, slots := #[.int (-62)], vm := .none },
  { cls := 10, slots := #[.int (-61)], vm := .none },
  { cls := 10, slots := #[.int (-60)], vm := .none },
  { cls := 10, slots := #[.int (-59)], vm := .none },
  { cls := 10, slots := #[.int (-58)], vm := .none },
  { cls := 10, slots := #[.int (-57)], vm := .none },
  { cls := 10, slots := #[.int (-56)], vm := .none },
  { cls := 10, slots := #[.int (-55)], vm := .none },
  { cls := 10, slots := #[.int (-54)], vm := .none },
  { cls := 10, slots := #[.int (-53)], vm := .none },
  { cls := 10, slots := #[.int (-52)], vm := .none },
  { cls := 10, slots := #[.int (-51)], vm := .none },
  { cls := 10, slots := #[.int (-50)], vm := .none },
  { cls := 10, slots := #[.int (-49)], vm := .none },
  { cls := 10, slots := #[.int (-48)], vm := .none },
  { cls := 10, slots := #[.int (-47)], vm := .none },
  { cls := 10, slots := #[.int (-46)], vm := .none },
  { cls := 10, slots := #[.int (-45)], vm := .none },
  { cls := 10, slots := #[.int (-44)], vm := .none },
  { cls := 10, slots := #[.int (-43)], vm := .none },
  { cls := 10, slots := #[.int (-42)], vm := .none },
  { cls := 10, slots := #[.int (-41)], vm := .none },
  { cls := 10, slots := #[.int (-40)], vm := .none },
  { cls := 10, slots := #[.int (-39)], vm := .none },
  { cls := 10, slots := #[.int (-38)], vm := .none },
  { cls := 10, slots := #[.int (-37)], vm := .none },
  { cls := 10, slots := #[.int (-36)], vm := .none },
  { cls := 10, slots := #[.int (-35)], vm := .none },
  { cls := 10, slots := #[.int (-34)], vm := .none },
  { cls := 10, slots := #[.int (-33)], vm := .none },
  { cls := 10, slots := #[.int (-32)], vm := .none },
  { cls := 10, slots := #[.int (-31)], vm := .none },
  { cls := 10, slots := #[.int (-30)], vm := .none },
  { cls := 10, slots := #[.int (-29)], vm := .none },
  { cls := 10, slots := #[.int (-28)], vm := .none },
  { cls := 10, slots := #[.int (-27)], vm := .none },
  { cls := 10, slots := #[.int (-26)], vm := .none },
  { cls := 10, slots := #[.int (-25)], vm := .none },
  { cls := 10, slots := #[.int (-24)], vm := .none },
  { cls := 10, slots := #[.int (-23)], vm := .none },
  { cls := 10, slots := #[.int (-22)], vm := .none },
  { cls := 10, slots := #[.int (-21)], vm := .none },
  { cls := 10, slots := #[.int (-20)], vm := .none },
  { cls := 10, slots := #[.int (-19)], vm := .none },
  { cls := 10, slots := #[.int (-18)], vm := .none },
  { cls := 10, slots := #[.int (-17)], vm := .none },
  { cls := 10, slots := #[.int (-16)], vm := .none },
  { cls := 10, slots := #[.int (-15)], vm := .none },
  { cls := 10, slots := #[.int (-14)], vm := .none },
  { cls := 10, slots := #[.int (-13)], vm := .none },
  { cls := 10, slots := #[.int (-12)], vm := .none },
  { cls := 10, slots := #[.int (-11)], vm := .none },
  { cls := 10, slots := #[.int (-10)], vm := .none },
  { cls := 10, slots := #[.int (-9)], vm := .none },
  { cls := 10, slots := #[.int (-8)], vm := .none },
  { cls := 10, slots := #[.int (-7)], vm := .none },
  { cls := 10, slots := #[.int (-6)], vm := .none },
  { cls := 10, slots := #[.int (-5)], vm := .none },
  { cls := 10, slots := #[.int (-4)], vm := .none },
  { cls := 10, slots := #[.int (-3)], vm := .none },
  { cls := 10, slots := #[.int (-2)], vm := .none },
  { cls := 10, slots := #[.int (-1)], vm := .none },
  { cls := 10, slots := #[.int (0)], vm := .none },
  { cls := 10, slots := #[.int (1)], vm := .none },
  { cls := 10, slots := #[.int (2)], vm := .none },
  { cls := 10, slots := #[.int (3)], vm := .none },
  { cls := 10, slots := #[.int (4)], vm := .none },
  { cls := 10, slots := #[.int (5)], vm := .none },
  { cls := 10, slots := #[.int (6)], vm := .none },
  { cls := 10, slots := #[.int (7)], vm := .none },
  { cls := 10, slots := #[.int (8)], vm := .none },
  { cls := 10, slots := #[.int (9)], vm := .none },
  { cls := 10, slots := #[.int (10)], vm := .none },
  { cls := 10, slots := #[.int (11)], vm := .none },
  { cls := 10, slots := #[.int (12)], vm := .none },
  { cls := 10, slots := #[.int (13)], vm := .none },
  { cls := 10, slots := #[.int (14)], vm := .none },
  { cls := 10, slots := #[.int (15)], vm := .none },
  { cls := 10, slots := #[.int (16)], vm := .none },
  { cls := 10, slots := #[.int (17)], vm := .none },
  { cls := 10, slots := #[.int (18)], vm := .none },
  { cls := 10, slots := #[.int (19)], vm := .none },
  { cls := 10, slots := #[.int (20)], vm := .none },
  { cls := 10, slots := #[.int (21)], vm := .none },
  { cls := 10, slots := #[.int (22)], vm := .none },
  { cls := 10, slots := #[.int (23)], vm := .none },
  { cls := 10, slots := #[.int (24)], vm := .none },
  { cls := 10, slots := #[.int (25)], vm := .none },
  { cls := 10, slots := #[.int (26)], vm := .none },
  { cls := 10, slots := #[.int (27)], vm := .none },
  { cls := 10, slots := #[.int (28)], vm := .none },
  { cls := 10, slots := #[.int (29)], vm := .none },
  { cls := 10, slots := #[.int (30)], vm := .none },
  { cls := 10, slots := #[.int (31)], vm := .none },
  { cls := 10, slots := #[.int (32)], vm := .none },
  { cls := 10, slots := #[.int (33)], vm := .none },
  { cls := 10, slots := #[.int (34)], vm := .none },
  { cls := 10, slots := #[.int (35)], vm := .none },
  { cls := 10, slots := #[.int (36)], vm := .none },
  { cls := 10, slots := #[.int (37)], vm := .none },
  { cls := 10, slots := #[.int (38)], vm := .none },
  { cls := 10, slots := #[.int (39)], vm := .none },
  { cls := 10, slots := #[.int (40)], vm := .none },
  { cls := 10, slots := #[.int (41)], vm := .none },
  { cls := 10, slots := #[.int (42)], vm := .none },
  { cls := 10, slots := #[.int (43)], vm := .none },
  { cls := 10, slots := #[.int (44)], vm := .none },
  { cls := 10, slots := #[.int (45)], vm := .none },
  { cls := 10, slots := #[.int (46)], vm := .none },
  { cls := 10, slots := #[.int (47)], vm := .none },
  { cls := 10, slots := #[.int (48)], vm := .none },
  { cls := 10, slots := #[.int (49)], vm := .none },
  { cls := 10, slots := #[.int (50)], vm := .none },
  { cls := 10, slots := #[.int (51)], vm := .none },
  { cls := 10, slots := #[.int (52)], vm := .none },
  { cls := 10, slots := #[.int (53)], vm := .none },
  { cls := 10, slots := #[.int (54)], vm := .none },
  { cls := 10, slots := #[.int (55)], vm := .none },
  { cls := 10, slots := #[.int (56)], vm := .none },
  { cls := 10, slots := #[.int (57)], vm := .none },
  { cls := 10, slots := #[.int (58)], vm := .none },
  { cls := 10, slots := #[.int (59)], vm := .none },
  { cls := 10, slots := #[.int (60)], vm := .none },
  { cls := 10, slots := #[.int (61)], vm := .none },
  { cls := 10, slots := #[.int (62)], vm := .none },
  { cls := 10, slots := #[.int (63)], vm := .none },
  { cls := 10, slots := #[.int (64)], vm := .none },
  { cls := 10, slots := #[.int (65)], vm := .none },
  { cls := 10, slots := #[.int (66)], vm := .none },
  { cls := 10, slots := #[.int (67)], vm := .none },
  { cls := 10, slots := #[.int (68)], vm := .none },
  { cls := 10, slots := #[.int (69)], vm := .none },
  { cls := 10, slots := #[.int (70)], vm := .none },
  { cls := 10, slots := #[.int (71)], vm := .none },
  { cls := 10, slots := #[.int (72)], vm := .none },
  { cls := 10, slots := #[.int (73)], vm := .none },
  { cls := 10, slots := #[.int (74)], vm := .none },
  { cls := 10, slots := #[.int (75)], vm := .none },
  { cls := 10, slots := #[.int (76)], vm := .none },
  { cls := 10, slots := #[.int (77)], vm := .none },
  { cls := 10, slots := #[.int (78)], vm := .none },
  { cls := 10, slots := #[.int (79)], vm := .none },
  { cls := 10, slots := #[.int (80)], vm := .none },
  { cls := 10, slots := #[.int (81)], vm := .none },
  { cls := 10, slots := #[.int (82)], vm := .none },
  { cls := 10, slots := #[.int (83)], vm := .none },
  { cls := 10, slots := #[.int (84)], vm := .none },
  { cls := 10, slots := #[.int (85)], vm := .none },
  { cls := 10, slots := #[.int (86)], vm := .none },
  { cls := 10, slots := #[.int (87)], vm := .none },
  { cls := 10, slots := #[.int (88)], vm := .none },
  { cls := 10, slots := #[.int (89)], vm := .none },
  { cls := 10, slots := #[.int (90)], vm := .none },
  { cls := 10, slots := #[.int (91)], vm := .none },
  { cls := 10, slots := #[.int (92)], vm := .none },
  { cls := 10, slots := #[.int (93)], vm := .none },
  { cls := 10, slots := #[.int (94)], vm := .none },
  { cls := 10, slots := #[.int (95)], vm := .none },
  { cls := 10, slots := #[.int (96)], vm := .none },
  { cls := 10, slots := #[.int (97)], vm := .none },
  { cls := 10, slots := #[.int (98)], vm := .none },
  { cls := 10, slots := #[.int (99)], vm := .none },
  { cls := 10, slots := #[.int (100)], vm := .none },
  { cls := 10, slots := #[.int (101)], vm := .none },
  { cls := 10, slots := #[.int (102)], vm := .none },
  { cls := 10, slots := #[.int (103)], vm := .none },
  { cls := 10, slots := #[.int (104)], vm := .none },
  { cls := 10, slots := #[.int (105)], vm := .none },
  { cls := 10, slots := #[.int (106)], vm := .none },
  { cls := 10, slots := #[.int (107)], vm := .none },
  { cls := 10, slots := #[.int (108)], vm := .none },
  { cls := 10, slots := #[.int (109)], vm := .none },
  { cls := 10, slots := #[.int (110)], vm := .none },
  { cls := 10, slots := #[.int (111)], vm := .none },
  { cls := 10, slots := #[.int (112)], vm := .none },
  { cls := 10, slots := #[.int (113)], vm := .none },
  { cls := 10, slots := #[.int (114)], vm := .none },
  { cls := 10, slots := #[.int (115)], vm := .none },
  { cls := 10, slots := #[.int (116)], vm := .none },
  { cls := 10, slots := #[.int (117)], vm := .none },
  { cls := 10, slots := #[.int (118)], vm := .none },
  { cls := 10, slots := #[.int (119)], vm := .none },
  { cls := 10, slots := #[.int (120)], vm := .none },
  { cls := 10, slots := #[.int (121)], vm := .none },
  { cls := 10, slots := #[.int (122)], vm := .none },
  { cls := 10, slots := #[.int (123)], vm := .none },
  { cls := 10, slots := #[.int (124)], vm := .none },
  { cls := 10, slots := #[.int (125)], vm := .none },
  { cls := 10, slots := #[.int (126)], vm := .none },
  { cls := 10, slots := #[.int (127)], vm := .none }]
def classes : Array Class := #[k0, k1, k2, k3, k4, k5, k6, k7, k8, k9, k10, k11, k12, k13, k14, k15, k16, k17]
def interned : List (Array UInt16 × Addr) := []
def slotsUsed : Nat := 526
def theMethod : MethodId := ⟨1, 1⟩
def args0 : Array Value := #[.int 5, .int 8, .int 11, .int 14, .int 17, .int 20]
def aboutOver (below : List Frame) : State where
  vm := { classes := classes, interned := interned.toArray }
  heap := heap
  slotsUsed := slotsUsed
  threads := #[{ frames := .invoking theMethod args0 :: below }]
def below0 : List Frame := [.native { method := ⟨0, 0⟩, args := #[] }]
def about1 : State := aboutOver below0
def p0 : Program := .bare "" "" ""
def e0 : Env := launch0.env 0 0 0
theorem w_frames : about1.frames = Frame.invoking theMethod args0 :: below0 := rfl
set_option maxRecDepth 65536 in
theorem w_args : argsFit about1.vm theMethod args0 = true := by decide +kernel
set_option maxRecDepth 65536 in
theorem w_heap : heapFits about1 = true := by decide +kernel
set_option maxRecDepth 65536 in
theorem w_runnable : about1.curStatus? = some .runnable := by decide +kernel
set_option maxRecDepth 65536 in
theorem w_alone : about1.alone = true := by decide +kernel
set_option maxRecDepth 65536 in
theorem w_named : about1.methodNamed? x = some theMethod := by decide +kernel
set_option maxRecDepth 65536 in
theorem w_hears : about1.hears theMethod below0 = true := by decide +kernel
set_option maxRecDepth 65536 in
theorem w_ripe : about1.ripe theMethod args0 below0 = true := by decide +kernel
theorem w_running : about1.status = .running := rfl
set_option maxRecDepth 65536 in
theorem w_room : about1.hasRoom e0.platform room_1 = true :=
  launch0.hasRoom_least _ room_1 (by decide +kernel) (by decide +kernel) (by decide +kernel) (by decide +kernel) (by decide +kernel) (by decide +kernel)
theorem allAtoms_all (ts : List Jvm.Cond) (a : Array Jvm.Value) (st : Jvm.State) : (allAtoms ts).before a st = ts.all (fun c => c.before a st) := by
  induction ts with
  | nil => rfl
  | cons c t ih =>
    show (Jvm.Cond.and c (allAtoms t)).before a st = _
    rw [Jvm.Cond.before_and, ih, List.all_cons]
def words1 : List Jvm.Cond := Jvm.Cond.code x code maxLocals ret :: tables_1
/-- a 'code' word, met by the world's own term for the bytes: nothing is compared byte by byte -/
theorem code_word {y : MethodName} {bytes : ByteArray} {mx : Nat} {rt : Option FieldType} {a : Array Value} {s : State} {m : MethodId} {meth : Method} {c : Code} (h1 : s.methodNamed? y = some m) (h2 : s.vm.method? m = some meth) (h3 : meth.code = some c) (h4 : c.code = bytes)
    (h5 : (c.maxLocals == mx && c.exceptionTable.isEmpty && decide (c.maxStack ≤ mostOperands) && decide (meth.sig.returnType = rt) && !meth.locks && decide (parseMethodDescriptor y.desc = some meth.sig)) = true) : (Jvm.Cond.code y bytes mx rt).before a s = true := by
  simp only [Bool.and_eq_true, beq_iff_eq, Bool.not_eq_true', decide_eq_true_eq] at h5
  obtain ⟨⟨⟨⟨⟨g1, g2⟩, g3⟩, g4⟩, g5⟩, g6⟩ := h5
  simp [Cond.before, Cond.holds, Cond.value, h1, h2, h3, h4, g1, g2, g3, g4, g5, g6]
def isCode : Jvm.Cond → Bool
  | .code _ _ _ _ => true
  | _ => false
theorem all_split {L : List Jvm.Cond} {P : Jvm.Cond → Bool} (h1 : L.all (fun c => isCode c || P c) = true) (h2 : ∀ c ∈ L.filter isCode, P c = true) : L.all P = true := by
  refine List.all_eq_true.mpr fun c hc => ?_
  have h := List.all_eq_true.mp h1 c hc
  rcases Bool.eq_false_or_eq_true (isCode c) with hi | hi
  · exact h2 c (List.mem_filter.mpr ⟨hc, hi⟩)
  · simpa [hi] using h
set_option maxRecDepth 65536 in
theorem w_c0 : (Jvm.Cond.code x code maxLocals ret).before args0 about1 = true := code_word (m := ⟨1, 1⟩) (meth := k1m1) (c := k1c1) (by decide +kernel) rfl rfl rfl (by decide +kernel)
set_option maxRecDepth 65536 in
theorem w_c1 : (Jvm.Cond.code ({ cls := "com/example/pedina/pedina/rules/Position", name := "<init>", desc := "(IIILcom/example/pedina/pedina/rules/Side;)V" } : Jvm.MethodName) prog_27_method_1_code (5 : Nat) (Option.none : Option Jvm.ClassFile.FieldType)).before args0 about1 = true := code_word (m := ⟨7, 0⟩) (meth := k7m0) (c := k7c0) (by decide +kernel) rfl rfl rfl (by decide +kernel)
set_option maxRecDepth 65536 in
theorem w_c2 : (Jvm.Cond.code ({ cls := "java/lang/Object", name := "<init>", desc := "()V" } : Jvm.MethodName) object_method_1_code (1 : Nat) (Option.none : Option Jvm.ClassFile.FieldType)).before args0 about1 = true := code_word (m := ⟨0, 0⟩) (meth := k0m0) (c := k0c0) (by decide +kernel) rfl rfl rfl (by decide +kernel)
set_option maxRecDepth 65536 in
theorem w_c3 : (Jvm.Cond.code ({ cls := "com/example/pedina/pedina/rules/Position", name := "equals", desc := "(Ljava/lang/Object;)Z" } : Jvm.MethodName) prog_27_method_9_code (3 : Nat) (Option.some Jvm.ClassFile.FieldType.boolean)).before args0 about1 = true := code_word (m := ⟨7, 1⟩) (meth := k7m1) (c := k7c1) (by decide +kernel) rfl rfl rfl (by decide +kernel)
set_option maxRecDepth 65536 in
theorem w_c4 : (Jvm.Cond.code ({ cls := "java/lang/Integer", name := "valueOf", desc := "(I)Ljava/lang/Integer;" } : Jvm.MethodName) jdk_33_method_22_code (1 : Nat) (Option.some (Jvm.ClassFile.FieldType.object "java/lang/Integer"))).before args0 about1 = true := code_word (m := ⟨10, 0⟩) (meth := k10m0) (c := k10c0) (by decide +kernel) rfl rfl rfl (by decide +kernel)
set_option maxRecDepth 65536 in
theorem w_c5 : (Jvm.Cond.code ({ cls := "java/lang/Integer", name := "<init>", desc := "(I)V" } : Jvm.MethodName) jdk_33_method_23_code (2 : Nat) (Option.none : Option Jvm.ClassFile.FieldType)).before args0 about1 = true := code_word (m := ⟨10, 1⟩) (meth := k10m1) (c := k10c1) (by decide +kernel) rfl rfl rfl (by decide +kernel)
set_option maxRecDepth 65536 in
theorem w_c6 : (Jvm.Cond.code ({ cls := "java/lang/Number", name := "<init>", desc := "()V" } : Jvm.MethodName) jdk_18_method_1_code (1 : Nat) (Option.none : Option Jvm.ClassFile.FieldType)).before args0 about1 = true := code_word (m := ⟨8, 0⟩) (meth := k8m0) (c := k8c0) (by decide +kernel) rfl rfl rfl (by decide +kernel)
def codes1 : List Jvm.Cond := [Jvm.Cond.code x code maxLocals ret, Jvm.Cond.code ({ cls := "com/example/pedina/pedina/rules/Position", name := "<init>", desc := "(IIILcom/example/pedina/pedina/rules/Side;)V" } : Jvm.MethodName) prog_27_method_1_code (5 : Nat) (Option.none : Option Jvm.ClassFile.FieldType), Jvm.Cond.code ({ cls := "java/lang/Object", name := "<init>", desc := "()V" } : Jvm.MethodName) object_method_1_code (1 : Nat) (Option.none : Option Jvm.ClassFile.FieldType), Jvm.Cond.code ({ cls := "com/example/pedina/pedina/rules/Position", name := "equals", desc := "(Ljava/lang/Object;)Z" } : Jvm.MethodName) prog_27_method_9_code (3 : Nat) (Option.some Jvm.ClassFile.FieldType.boolean), Jvm.Cond.code ({ cls := "java/lang/Integer", name := "valueOf", desc := "(I)Ljava/lang/Integer;" } : Jvm.MethodName) jdk_33_method_22_code (1 : Nat) (Option.some (Jvm.ClassFile.FieldType.object "java/lang/Integer")), Jvm.Cond.code ({ cls := "java/lang/Integer", name := "<init>", desc := "(I)V" } : Jvm.MethodName) jdk_33_method_23_code (2 : Nat) (Option.none : Option Jvm.ClassFile.FieldType), Jvm.Cond.code ({ cls := "java/lang/Number", name := "<init>", desc := "()V" } : Jvm.MethodName) jdk_18_method_1_code (1 : Nat) (Option.none : Option Jvm.ClassFile.FieldType)]
set_option maxRecDepth 65536 in
theorem codes_eq : words1.filter isCode = codes1 := rfl
theorem w_codes : ∀ c ∈ words1.filter isCode, c.before args0 about1 = true := by
  rw [codes_eq]
  intro c hc
  simp only [codes1, List.mem_cons, List.not_mem_nil, or_false] at hc
  rcases hc with rfl | rfl | rfl | rfl | rfl | rfl | rfl
  · exact w_c0
  · exact w_c1
  · exact w_c2
  · exact w_c3
  · exact w_c4
  · exact w_c5
  · exact w_c6
set_option maxRecDepth 65536 in
theorem w_t1 : (words1.take 24).all (fun c => isCode c || c.before args0 about1) = true := by decide +kernel
set_option maxRecDepth 65536 in
theorem w_t2 : ((words1.drop 24).take 24).all (fun c => isCode c || c.before args0 about1) = true := by decide +kernel
set_option maxRecDepth 65536 in
theorem w_t3 : ((words1.drop 24).drop 24).all (fun c => isCode c || c.before args0 about1) = true := by decide +kernel
theorem w_tables : (allAtoms (Jvm.Cond.code x code maxLocals ret :: tables_1)).before args0 about1 = true := by
  rw [allAtoms_all]
  show words1.all (fun c => c.before args0 about1) = true
  refine all_split ?_ w_codes
  rw [← List.take_append_drop 24 words1, List.all_append, w_t1, ← List.take_append_drop 24 (words1.drop 24), List.all_append, w_t2, w_t3]
  rfl
set_option maxRecDepth 65536 in
theorem w_rest : rest_1_c.before args0 about1 = true := by decide +kernel
set_option maxRecDepth 65536 in
theorem w_case : (Jvm.Cond.and given_1 narrow_1).before args0 about1 = true := by decide +kernel
theorem w_applies : (headSpec (Jvm.Cond.code x code maxLocals ret :: tables_1) room_1).applies x e0.platform about1 = true :=
  (Spec.applies_iff w_frames).mpr ⟨w_running, w_runnable, w_alone, w_named, w_hears, w_ripe, w_room, w_tables⟩
theorem atStart : AtStart classFile x code maxLocals ret World_1 tables_1 room_1 Calls_1 rest_1 Pre_1 launch0 p0 e0 about1 theMethod args0 below0 :=
  ⟨lists_1, trivial, launch0.admits_env _ _ _, launch0.least_env, fairChoices_fair.cas, fairChoices_fair.clock, w_frames, w_args, w_heap, w_applies, trivial, w_rest, w_case⟩
end start1
theorem witness_1 : WitnessClaimed_1 := ⟨start1.p0, start1.e0, start1.about1, start1.theMethod, start1.args0, start1.below0, start1.atStart⟩
end Jvm.Pilot.@@N@@
