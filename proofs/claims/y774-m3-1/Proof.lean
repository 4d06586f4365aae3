import JvmDerived
import JvmDerived.Pilot.@@N@@Statement
import JvmDerived.Pilot.@@N@@Code
set_option linter.unusedVariables false
set_option linter.unusedSimpArgs false
@@BLOCK:NumsL.lean.txt@@
namespace Jvm.Pilot.@@N@@
open Jvm Jvm.ClassFile Sem Op Lib Jvm.Free Jvm.Stand Jvm.LawKit Jvm.RoadKit Bundle Jvm.Pilot.@@N@@.Jvm.D
/-- from here the run comes to its end, and G holds there -/
def Go (p : Program) (e : Env) (below : List Frame) (G : Outcome → State → Prop) (T : State) (g : JFrame) : Prop := ∃ s₂ o, Steps p.tables e below (T.setTop g) s₂ ∧ s₂.status = .running ∧ Ended s₂ below o ∧ G o s₂
theorem Go.on {p : Program} {e : Env} {below : List Frame} {G : Outcome → State → Prop} {T T' : State} {g g' : JFrame} (h : ∀ t, Steps p.tables e below (T'.setTop g') t → Steps p.tables e below (T.setTop g) t) (k : Go p e below G T' g') : Go p e below G T g := by
  obtain ⟨s2, o, k1, k2⟩ := k
  exact ⟨s2, o, h _ k1, k2⟩
/-- a body that writes nothing: what it returns; the heap as it was -/
def Qp (r : Option Value) (h0 : Heap) (n0 : Nat) (v : Option Value) (h : Heap) (L : List Loc) : Prop := v = r ∧ Fr n0 L ∧ h = h0
def Ql (r : Option Value) (n0 : Nat) (v : Option Value) (L : List Loc) : Prop := v = r ∧ Fr n0 L
/-- a body that only makes new cells -/
def Qx (r : Option Value) (F : Heap → Prop) (h0 : Heap) (n0 : Nat) (v : Option Value) (h : Heap) (L : List Loc) : Prop := v = r ∧ Fr n0 L ∧ Ext h0 h ∧ F h
theorem own_ext0 (h : Heap) : Ext h h := ⟨Nat.le_refl _, fun _ _ q => q⟩
theorem own_ext2 {a b c : Heap} (E : Ext a b) (F : Ext b c) : Ext a c := ⟨Nat.le_trans E.1 F.1, fun x y q => F.2 x y (E.2 x y q)⟩
theorem own_extw {h0 h h' : Heap} {a : Addr} {sl : Nat} {v : Value} (E : Ext h0 h) (W : Wr h h' a sl v) (q : h0.size ≤ a) : Ext h0 h' := by
  refine ⟨by rw [W.size]; exact E.1, fun x c hx => ?_⟩
  obtain ⟨c', g1, -, -, -, g5, -⟩ := wr_at W (E.2 x c hx)
  have hne : x ≠ a := Nat.ne_of_lt (Nat.lt_of_lt_of_le (Array.getElem?_eq_some_iff.mp hx).1 q)
  rw [g1, g5 hne]
theorem own_extE {h a b : Heap} (e : a = b) (X : Ext h b) : Ext h a := e ▸ X
theorem own_arrE {Z : State} {a b : Heap} {x : Addr} {c : Cell} {ty : FieldType} (e : a = b) (A : Arr Z b x c ty) : Arr Z a x c ty := e ▸ A
theorem own_ne {Z : State} {h : Heap} {a b : Addr} {C n d : String} {v v' : Value} (F : Fld Z h a C n d v) (G : Fld Z h b C n d v') (hv : v ≠ v') : ¬ (a = b) := by
  rintro rfl
  obtain ⟨cell, cf, k, i, f, h1, h2, -, -, -, -, h7⟩ := F
  obtain ⟨cell', cf', k', i', f', g1, g2, -, -, -, -, g7⟩ := G
  cases h1.symm.trans g1
  cases h2.symm.trans g2
  exact hv (Option.some.inj (h7.symm.trans g7))
theorem own_irrI (x : Int32) : ¬ (x < x) := by simp
theorem own_irrJ (x : Int64) : ¬ (x < x) := by simp
theorem own_eqI {args : Array Value} {s : State} {t : Term} {n : Int32} (h : (Jvm.Cond.eq t (.int n)).value args s none s [] = some true) : t.eval args s none [] s = some (.int n) := by
  exact eqv_i (Term.int_eval n) h
theorem own_len {args : Array Value} {s : State} {t : Term} {n : Int32} {a : Addr} {cl : Cell} {ty : FieldType} {k : Nat} (h : (Term.length t).eval args s none [] s = some (.int n)) (ht : t.eval args s none [] s = some (.ref a)) (A : Arr s s.heap a cl ty) (hk : n.toInt = k) : cl.slots.size = k := by
  have ha := A.fin (U := s) (Vm.Alike.refl _)
  by_cases hl : cl.slots.size < 2 ^ 31
  · have e := (len_f ht ha hl).symm.trans h
    have e2 : cl.slots.size.toInt32 = n := by simpa using e
    have e3 := len_toInt hl
    rw [e2, hk] at e3
    omega
  · simp [Term.eval, ht, ha, hl] at h
theorem own_slots {cl : Cell} {vs : List Value} (h1 : cl.slots.size = vs.length) (h2 : ∀ (i : Nat) (v : Value), vs[i]? = some v → cl.slots[i]? = some v) : cl.slots = vs.toArray := by
  apply Array.ext
  · simp [h1]
  · intro i hi hj
    have hj' : i < vs.length := by simpa using hj
    have q := h2 i vs[i] (by simp [hj'])
    rw [Array.getElem?_eq_getElem hi] at q
    simpa using q
theorem own_eqR {args : Array Value} {s : State} {t u : Term} {a : Addr} (h : (Jvm.Cond.eq t u).value args s none s [] = some true) (hu : u.eval args s none [] s = some (.ref a)) : t.eval args s none [] s = some (.ref a) := by
  obtain ⟨x, y, h1, h2, k1, k2⟩ := cmp_v (Or.inl h)
  cases h2.symm.trans hu
  have q := gotT (eq_R h1 h2 k2.2 rfl) h
  rw [h1, q]
def Pins (Z : State) (h : Heap) (w : Nat → Addr) : Prop :=
  Sta Z h "com/example/rederive/rederive/program/Comparison$Operator" "EQUAL" "Lcom/example/rederive/rederive/program/Comparison$Operator;" (.ref (w 0)) ∧
  Sta Z h "com/example/rederive/rederive/program/Comparison$Operator" "NOT_EQUAL" "Lcom/example/rederive/rederive/program/Comparison$Operator;" (.ref (w 1)) ∧
  Sta Z h "com/example/rederive/rederive/program/Comparison$Operator" "LESS" "Lcom/example/rederive/rederive/program/Comparison$Operator;" (.ref (w 2)) ∧
  Sta Z h "com/example/rederive/rederive/program/Comparison$Operator" "LESS_EQUAL" "Lcom/example/rederive/rederive/program/Comparison$Operator;" (.ref (w 3)) ∧
  Sta Z h "com/example/rederive/rederive/program/Comparison$Operator" "GREATER" "Lcom/example/rederive/rederive/program/Comparison$Operator;" (.ref (w 4)) ∧
  Sta Z h "com/example/rederive/rederive/program/Comparison$Operator" "GREATER_EQUAL" "Lcom/example/rederive/rederive/program/Comparison$Operator;" (.ref (w 5)) ∧
  Exa Z h (w 0) "com/example/rederive/rederive/program/Comparison$Operator" ∧
  Exa Z h (w 1) "com/example/rederive/rederive/program/Comparison$Operator" ∧
  Exa Z h (w 2) "com/example/rederive/rederive/program/Comparison$Operator" ∧
  Exa Z h (w 3) "com/example/rederive/rederive/program/Comparison$Operator" ∧
  Exa Z h (w 4) "com/example/rederive/rederive/program/Comparison$Operator" ∧
  Exa Z h (w 5) "com/example/rederive/rederive/program/Comparison$Operator" ∧
  Fld Z h (w 0) "java/lang/Enum" "ordinal" "I" (.int (0 : Int32)) ∧
  Fld Z h (w 3) "java/lang/Enum" "ordinal" "I" (.int (3 : Int32)) ∧
  Fld Z h (w 1) "java/lang/Enum" "ordinal" "I" (.int (1 : Int32)) ∧
  Fld Z h (w 2) "java/lang/Enum" "ordinal" "I" (.int (2 : Int32)) ∧
  Fld Z h (w 5) "java/lang/Enum" "ordinal" "I" (.int (5 : Int32)) ∧
  Fld Z h (w 4) "java/lang/Enum" "ordinal" "I" (.int (4 : Int32)) ∧
  True
theorem pin_0 {Z : State} {h : Heap} {w : Nat → Addr} (P : Pins Z h w) : Sta Z h "com/example/rederive/rederive/program/Comparison$Operator" "EQUAL" "Lcom/example/rederive/rederive/program/Comparison$Operator;" (.ref (w 0)) := P.1
theorem pin_1 {Z : State} {h : Heap} {w : Nat → Addr} (P : Pins Z h w) : Sta Z h "com/example/rederive/rederive/program/Comparison$Operator" "NOT_EQUAL" "Lcom/example/rederive/rederive/program/Comparison$Operator;" (.ref (w 1)) := P.2.1
theorem pin_2 {Z : State} {h : Heap} {w : Nat → Addr} (P : Pins Z h w) : Sta Z h "com/example/rederive/rederive/program/Comparison$Operator" "LESS" "Lcom/example/rederive/rederive/program/Comparison$Operator;" (.ref (w 2)) := P.2.2.1
theorem pin_3 {Z : State} {h : Heap} {w : Nat → Addr} (P : Pins Z h w) : Sta Z h "com/example/rederive/rederive/program/Comparison$Operator" "LESS_EQUAL" "Lcom/example/rederive/rederive/program/Comparison$Operator;" (.ref (w 3)) := P.2.2.2.1
theorem pin_4 {Z : State} {h : Heap} {w : Nat → Addr} (P : Pins Z h w) : Sta Z h "com/example/rederive/rederive/program/Comparison$Operator" "GREATER" "Lcom/example/rederive/rederive/program/Comparison$Operator;" (.ref (w 4)) := P.2.2.2.2.1
theorem pin_5 {Z : State} {h : Heap} {w : Nat → Addr} (P : Pins Z h w) : Sta Z h "com/example/rederive/rederive/program/Comparison$Operator" "GREATER_EQUAL" "Lcom/example/rederive/rederive/program/Comparison$Operator;" (.ref (w 5)) := P.2.2.2.2.2.1
theorem pin_6 {Z : State} {h : Heap} {w : Nat → Addr} (P : Pins Z h w) : Exa Z h (w 0) "com/example/rederive/rederive/program/Comparison$Operator" := P.2.2.2.2.2.2.1
theorem pin_7 {Z : State} {h : Heap} {w : Nat → Addr} (P : Pins Z h w) : Exa Z h (w 1) "com/example/rederive/rederive/program/Comparison$Operator" := P.2.2.2.2.2.2.2.1
theorem pin_8 {Z : State} {h : Heap} {w : Nat → Addr} (P : Pins Z h w) : Exa Z h (w 2) "com/example/rederive/rederive/program/Comparison$Operator" := P.2.2.2.2.2.2.2.2.1
theorem pin_9 {Z : State} {h : Heap} {w : Nat → Addr} (P : Pins Z h w) : Exa Z h (w 3) "com/example/rederive/rederive/program/Comparison$Operator" := P.2.2.2.2.2.2.2.2.2.1
theorem pin_10 {Z : State} {h : Heap} {w : Nat → Addr} (P : Pins Z h w) : Exa Z h (w 4) "com/example/rederive/rederive/program/Comparison$Operator" := P.2.2.2.2.2.2.2.2.2.2.1
theorem pin_11 {Z : State} {h : Heap} {w : Nat → Addr} (P : Pins Z h w) : Exa Z h (w 5) "com/example/rederive/rederive/program/Comparison$Operator" := P.2.2.2.2.2.2.2.2.2.2.2.1
theorem pin_12 {Z : State} {h : Heap} {w : Nat → Addr} (P : Pins Z h w) : Fld Z h (w 0) "java/lang/Enum" "ordinal" "I" (.int (0 : Int32)) := P.2.2.2.2.2.2.2.2.2.2.2.2.1
theorem pin_13 {Z : State} {h : Heap} {w : Nat → Addr} (P : Pins Z h w) : Fld Z h (w 3) "java/lang/Enum" "ordinal" "I" (.int (3 : Int32)) := P.2.2.2.2.2.2.2.2.2.2.2.2.2.1
theorem pin_14 {Z : State} {h : Heap} {w : Nat → Addr} (P : Pins Z h w) : Fld Z h (w 1) "java/lang/Enum" "ordinal" "I" (.int (1 : Int32)) := P.2.2.2.2.2.2.2.2.2.2.2.2.2.2.1
theorem pin_15 {Z : State} {h : Heap} {w : Nat → Addr} (P : Pins Z h w) : Fld Z h (w 2) "java/lang/Enum" "ordinal" "I" (.int (2 : Int32)) := P.2.2.2.2.2.2.2.2.2.2.2.2.2.2.2.1
theorem pin_16 {Z : State} {h : Heap} {w : Nat → Addr} (P : Pins Z h w) : Fld Z h (w 5) "java/lang/Enum" "ordinal" "I" (.int (5 : Int32)) := P.2.2.2.2.2.2.2.2.2.2.2.2.2.2.2.2.1
theorem pin_17 {Z : State} {h : Heap} {w : Nat → Addr} (P : Pins Z h w) : Fld Z h (w 4) "java/lang/Enum" "ordinal" "I" (.int (4 : Int32)) := P.2.2.2.2.2.2.2.2.2.2.2.2.2.2.2.2.2.1
theorem pins_ext {Z : State} {h h' : Heap} {w : Nat → Addr} (E : Ext h h') (P : Pins Z h w) : Pins Z h' w :=
  ⟨(pin_0 P).ext E, (pin_1 P).ext E, (pin_2 P).ext E, (pin_3 P).ext E, (pin_4 P).ext E, (pin_5 P).ext E, (pin_6 P).ext E, (pin_7 P).ext E, (pin_8 P).ext E, (pin_9 P).ext E, (pin_10 P).ext E, (pin_11 P).ext E, (pin_12 P).ext E, (pin_13 P).ext E, (pin_14 P).ext E, (pin_15 P).ext E, (pin_16 P).ext E, (pin_17 P).ext E, trivial⟩
theorem own_mod6 (x : Int32) : ((x &&& (2147483647 : Int32)) % (6 : Int32)) = (0 : Int32) ∨ ((x &&& (2147483647 : Int32)) % (6 : Int32)) = (1 : Int32) ∨ ((x &&& (2147483647 : Int32)) % (6 : Int32)) = (2 : Int32) ∨ ((x &&& (2147483647 : Int32)) % (6 : Int32)) = (3 : Int32) ∨ ((x &&& (2147483647 : Int32)) % (6 : Int32)) = (4 : Int32) ∨ ((x &&& (2147483647 : Int32)) % (6 : Int32)) = (5 : Int32) := by
  have e := Jvm.Kit.i32_mask x 2147483647 (k := 31) (by decide) (by decide)
  have e2 : ((x &&& 2147483647) % (6 : Int32)).toInt = (x &&& 2147483647).toInt % (6 : Int32).toInt := Jvm.Kit.i32_rem_nonneg (by rw [e]; omega)
  have e3 : (6 : Int32).toInt = 6 := by decide
  rw [e3] at e2
  generalize ((x &&& 2147483647) % (6 : Int32)) = y at *
  simp only [← Int32.toInt_inj]
  show y.toInt = 0 ∨ y.toInt = 1 ∨ y.toInt = 2 ∨ y.toInt = 3 ∨ y.toInt = 4 ∨ y.toInt = 5
  omega
theorem d1_0 : decode prog_41_method_4_code 0 = .ok (.aload_n 0, 1) := by decide +kernel
theorem d1_1 : decode prog_41_method_4_code 1 = .ok (.getstatic 3, 3) := by decide +kernel
theorem d1_4 : decode prog_41_method_4_code 4 = .ok (.if_acmp .eq 14, 3) := by decide +kernel
theorem d1_18 : decode prog_41_method_4_code 18 = .ok (.iconst 0, 1) := by decide +kernel
theorem d1_19 : decode prog_41_method_4_code 19 = .ok (.ireturn, 1) := by decide +kernel
theorem pn_0 : plainName "com/example/rederive/rederive/program/Comparison$Operator" = true := by first | (simp [plainName, overriddenIn]; done) | decide +kernel
set_option maxRecDepth 65536 in
set_option maxHeartbeats 40000000 in
theorem rm1_0 (l : Launch) (Z : State) (a0 : Array Value) (hw : ∀ d ∈ tables_1, d.before a0 Z = true) (ws : List Jvm.Cond) (w : Nat → Addr) (h0 : Heap) (n0 : Nat) (Z0 : n0 ≤ h0.size) (hP : Pins Z h0 w) :
    MetFree l (⟨"com/example/rederive/rederive/program/Comparison$Operator", "ordersNumbers", "()Z"⟩ : MethodName) (head1 (Jvm.Cond.code (⟨"com/example/rederive/rederive/program/Comparison$Operator", "ordersNumbers", "()Z"⟩ : MethodName) prog_41_method_4_code 1 (some .boolean) :: ws) ({ frames := 0, cells := 0, slots := 0, locals := 0 } : Room)) (fun a U => a = #[(.ref (w 0))] ∧ Z.Warmed39 U.vm ∧ U.heap = h0) (fun _ _ _ _ _ => True) (fun _ U o U' => ∃ v L, o = .returned v ∧ Qp (some (.int (0 : Int32))) h0 n0 v U'.heap L ∧ FrameEnd U o U' L ({ frames := 0, cells := 0, slots := 0, locals := 0 } : Room).cells ({ frames := 0, cells := 0, slots := 0, locals := 0 } : Room).slots) := by
  refine MetFree.of_bodySF (plainFor_of_name pn_0) hisR ?_
  intro p e s m args below meth c s₁ Bd hml0 hP0 hK
  obtain ⟨rfl, hZ, hh⟩ := hP0
  have hx := Bd.exec
  have hby := Bd.bytes
  have hml : c.maxLocals = 1 := hml0
  have hown : s.vm.findClass "com/example/rederive/rederive/program/Comparison$Operator" = some m.cls := findClass_of_methodNamed Bd.named
  have hnm := (name_of_methodNamed Bd.named Bd.method).1
  have X0 : Stand p l e ({ frames := 0, cells := 0, slots := 0, locals := 0 } : Room) s m #[(.ref (w 0))] below meth c s₁ [] 0 0 := Stand.of_body Bd
  have e0 : s₁.heap = h0 := by rw [← hh, Bd.state]; rfl
  have N0 := Fr.nil n0
  suffices hgo : Go p e below (fun o U' => ∃ v L, o = .returned v ∧ Qp (some (.int (0 : Int32))) h0 n0 v U'.heap L ∧ FrameEnd s o U' L ({ frames := 0, cells := 0, slots := 0, locals := 0 } : Room).cells ({ frames := 0, cells := 0, slots := 0, locals := 0 } : Room).slots) s₁ (mkF m 0 #[.val (.ref (w 0))] []) by
    obtain ⟨s2, o, g1, g2, g3, g4⟩ := hgo
    refine ⟨s2, o, castTop (?_ : entryFrame m #[(.ref (w 0))] 1 = _) g1, g2, g3, g4⟩
    first | (simp [entryFrame, mkF, argsToLocals, Value.category]; done) | rfl
  refine Go.on (T' := s₁) (g' := (mkF m 1 #[.val (.ref (w 0))] [(.ref (w 0))])) (fun t k => XS.aloadN X0.here hx rfl (hb hby d1_0) rfl rfl k) ?_
  obtain ⟨T16, X16, e16, st16⟩ := getS2 X0 hx hZ hown (host := "") (Or.inl (hw _ (List.mem_of_getElem? (i := 22) rfl))) Via.refl e0 (pin_0 hP) (g := (mkF m 1 #[.val (.ref (w 0))] [(.ref (w 0))])) rfl (hb hby d1_1)
  refine Go.on (T' := T16) (g' := (mkF m 4 #[.val (.ref (w 0))] [(.ref (w 0)), (.ref (w 0))])) st16 ?_
  refine Go.on (T' := T16) (g' := (mkF m 18 #[.val (.ref (w 0))] [])) (fun t k => Jvm.RoadKit.acmp (g := (mkF m 4 #[.val (.ref (w 0))] [(.ref (w 0)), (.ref (w 0))])) X16 hx rfl rfl rfl (pc0 := 4) (pc' := 18) (same := true) rfl (hb hby d1_4) rfl (decide_eq_true rfl) (by decide) (by decide) k) ?_
  refine Go.on (T' := T16) (g' := (mkF m 19 #[.val (.ref (w 0))] [(.int (0 : Int32))])) (fun t k => XS.iconst X16.here hx rfl (hb hby d1_18) k) ?_
  obtain ⟨fs, hr, hrun, hended, hW, hsame⟩ := X16.leave (v := some (.int (0 : Int32))) (fun h => by rw [Bd.returns] at h; cases h)
  exact ⟨_, _, retN X16 hx (t := .boolean) Bd.returns (by simp) (hb hby d1_19) hr, hrun, hended, _, _, rfl, ⟨rfl, N0, e16⟩, ⟨_, rfl⟩, hW, hsame.mono (by decide) (by decide)⟩
theorem pd_0 : parseMethodDescriptor "()Z" = some ⟨[], some .boolean⟩ := by decide +kernel
theorem d2_0 : decode prog_41_method_5_code 0 = .ok (.aload_n 0, 1) := by decide +kernel
theorem d2_1 : decode prog_41_method_5_code 1 = .ok (.invokevirtual 45, 3) := by decide +kernel
theorem d3_0 : decode jdk_37_method_2_code 0 = .ok (.aload_n 0, 1) := by decide +kernel
theorem d3_1 : decode jdk_37_method_2_code 1 = .ok (.getfield 7, 3) := by decide +kernel
theorem d3_4 : decode jdk_37_method_2_code 4 = .ok (.ireturn, 1) := by decide +kernel
theorem pn_1 : plainName "java/lang/Enum" = true := by first | (simp [plainName, overriddenIn]; done) | decide +kernel
set_option maxRecDepth 65536 in
set_option maxHeartbeats 40000000 in
theorem rm3_0 (l : Launch) (Z : State) (a0 : Array Value) (hw : ∀ d ∈ tables_1, d.before a0 Z = true) (ws : List Jvm.Cond) (w : Nat → Addr) (h0 : Heap) (n0 : Nat) (Z0 : n0 ≤ h0.size) (hP : Pins Z h0 w) :
    MetFree l (⟨"java/lang/Enum", "ordinal", "()I"⟩ : MethodName) (head1 (Jvm.Cond.code (⟨"java/lang/Enum", "ordinal", "()I"⟩ : MethodName) jdk_37_method_2_code 1 (some .int) :: ws) ({ frames := 0, cells := 0, slots := 0, locals := 0 } : Room)) (fun a U => a = #[(.ref (w 0))] ∧ Z.Warmed39 U.vm ∧ U.heap = h0) (fun _ _ _ _ _ => True) (fun _ U o U' => ∃ v L, o = .returned v ∧ Qp (some (.int (0 : Int32))) h0 n0 v U'.heap L ∧ FrameEnd U o U' L ({ frames := 0, cells := 0, slots := 0, locals := 0 } : Room).cells ({ frames := 0, cells := 0, slots := 0, locals := 0 } : Room).slots) := by
  refine MetFree.of_bodySF (plainFor_of_name pn_1) hisR ?_
  intro p e s m args below meth c s₁ Bd hml0 hP0 hK
  obtain ⟨rfl, hZ, hh⟩ := hP0
  have hx := Bd.exec
  have hby := Bd.bytes
  have hml : c.maxLocals = 1 := hml0
  have hown : s.vm.findClass "java/lang/Enum" = some m.cls := findClass_of_methodNamed Bd.named
  have hnm := (name_of_methodNamed Bd.named Bd.method).1
  have X0 : Stand p l e ({ frames := 0, cells := 0, slots := 0, locals := 0 } : Room) s m #[(.ref (w 0))] below meth c s₁ [] 0 0 := Stand.of_body Bd
  have e0 : s₁.heap = h0 := by rw [← hh, Bd.state]; rfl
  have N0 := Fr.nil n0
  suffices hgo : Go p e below (fun o U' => ∃ v L, o = .returned v ∧ Qp (some (.int (0 : Int32))) h0 n0 v U'.heap L ∧ FrameEnd s o U' L ({ frames := 0, cells := 0, slots := 0, locals := 0 } : Room).cells ({ frames := 0, cells := 0, slots := 0, locals := 0 } : Room).slots) s₁ (mkF m 0 #[.val (.ref (w 0))] []) by
    obtain ⟨s2, o, g1, g2, g3, g4⟩ := hgo
    refine ⟨s2, o, castTop (?_ : entryFrame m #[(.ref (w 0))] 1 = _) g1, g2, g3, g4⟩
    first | (simp [entryFrame, mkF, argsToLocals, Value.category]; done) | rfl
  refine Go.on (T' := s₁) (g' := (mkF m 1 #[.val (.ref (w 0))] [(.ref (w 0))])) (fun t k => XS.aloadN X0.here hx rfl (hb hby d3_0) rfl rfl k) ?_
  obtain ⟨T20, X20, e20, st20⟩ := getF X0 hx hZ hown (host := "") (Or.inl (hw _ (List.mem_of_getElem? (i := 35) rfl))) Via.refl e0 (pin_12 hP) (g := (mkF m 1 #[.val (.ref (w 0))] [(.ref (w 0))])) rfl rfl (hb hby d3_1)
  refine Go.on (T' := T20) (g' := (mkF m 4 #[.val (.ref (w 0))] [(.int (0 : Int32))])) st20 ?_
  obtain ⟨fs, hr, hrun, hended, hW, hsame⟩ := X20.leave (v := some (.int (0 : Int32))) (fun h => by rw [Bd.returns] at h; cases h)
  exact ⟨_, _, retOut X20 hx Bd.returns rfl (Or.inl ⟨rfl, Or.inl rfl, _, rfl⟩) (hb hby d3_4) hr, hrun, hended, _, _, rfl, ⟨rfl, N0, e20⟩, ⟨_, rfl⟩, hW, hsame.mono (by decide) (by decide)⟩
theorem pd_1 : parseMethodDescriptor "()I" = some ⟨[], some .int⟩ := by decide +kernel
theorem d2_4 : decode prog_41_method_5_code 4 = .ok (.tableswitch 106 0 4 #[36, 50, 64, 78, 92], 36) := by decide +kernel
theorem d2_40 : decode prog_41_method_5_code 40 = .ok (.iload_n 1, 1) := by decide +kernel
theorem d2_41 : decode prog_41_method_5_code 41 = .ok (.iload_n 2, 1) := by decide +kernel
theorem d2_42 : decode prog_41_method_5_code 42 = .ok (.if_icmp .ne 7, 3) := by decide +kernel
theorem d2_49 : decode prog_41_method_5_code 49 = .ok (.iconst 0, 1) := by decide +kernel
theorem d2_50 : decode prog_41_method_5_code 50 = .ok (.istore_n 3, 1) := by decide +kernel
theorem d2_51 : decode prog_41_method_5_code 51 = .ok (.goto 70, 3) := by decide +kernel
theorem d2_121 : decode prog_41_method_5_code 121 = .ok (.iload_n 3, 1) := by decide +kernel
theorem d2_122 : decode prog_41_method_5_code 122 = .ok (.ireturn, 1) := by decide +kernel
set_option maxRecDepth 65536 in
set_option maxHeartbeats 40000000 in
theorem rm2_0 (l : Launch) (Z : State) (a0 : Array Value) (hw : ∀ d ∈ tables_1, d.before a0 Z = true) (ws : List Jvm.Cond) (w : Nat → Addr) (h0 : Heap) (n0 : Nat) (Z0 : n0 ≤ h0.size) (hP : Pins Z h0 w) :
    MetFree l (⟨"com/example/rederive/rederive/program/Comparison$Operator", "holds", "(II)Z"⟩ : MethodName) (head1 (Jvm.Cond.code (⟨"com/example/rederive/rederive/program/Comparison$Operator", "holds", "(II)Z"⟩ : MethodName) prog_41_method_5_code 4 (some .boolean) :: ws) ({ frames := 1, cells := 0, slots := 0, locals := 12 } : Room)) (fun a U => a = #[(.ref (w 0)), (.int (0 : Int32)), (.int (1 : Int32))] ∧ Z.Warmed39 U.vm ∧ U.heap = h0) (fun _ _ _ _ _ => True) (fun _ U o U' => ∃ v L, o = .returned v ∧ Qp (some (.int (0 : Int32))) h0 n0 v U'.heap L ∧ FrameEnd U o U' L ({ frames := 1, cells := 0, slots := 0, locals := 12 } : Room).cells ({ frames := 1, cells := 0, slots := 0, locals := 12 } : Room).slots) := by
  refine MetFree.of_bodySF (plainFor_of_name pn_0) hisR ?_
  intro p e s m args below meth c s₁ Bd hml0 hP0 hK
  obtain ⟨rfl, hZ, hh⟩ := hP0
  have hx := Bd.exec
  have hby := Bd.bytes
  have hml : c.maxLocals = 4 := hml0
  have hown : s.vm.findClass "com/example/rederive/rederive/program/Comparison$Operator" = some m.cls := findClass_of_methodNamed Bd.named
  have hnm := (name_of_methodNamed Bd.named Bd.method).1
  have X0 : Stand p l e ({ frames := 1, cells := 0, slots := 0, locals := 12 } : Room) s m #[(.ref (w 0)), (.int (0 : Int32)), (.int (1 : Int32))] below meth c s₁ [] 0 0 := Stand.of_body Bd
  have e0 : s₁.heap = h0 := by rw [← hh, Bd.state]; rfl
  have N0 := Fr.nil n0
  suffices hgo : Go p e below (fun o U' => ∃ v L, o = .returned v ∧ Qp (some (.int (0 : Int32))) h0 n0 v U'.heap L ∧ FrameEnd s o U' L ({ frames := 1, cells := 0, slots := 0, locals := 12 } : Room).cells ({ frames := 1, cells := 0, slots := 0, locals := 12 } : Room).slots) s₁ (mkF m 0 #[.val (.ref (w 0)), .val (.int (0 : Int32)), .val (.int (1 : Int32)), .unset] []) by
    obtain ⟨s2, o, g1, g2, g3, g4⟩ := hgo
    refine ⟨s2, o, castTop (?_ : entryFrame m #[(.ref (w 0)), (.int (0 : Int32)), (.int (1 : Int32))] 4 = _) g1, g2, g3, g4⟩
    first | (simp [entryFrame, mkF, argsToLocals, Value.category]; done) | rfl
  refine Go.on (T' := s₁) (g' := (mkF m 1 #[.val (.ref (w 0)), .val (.int (0 : Int32)), .val (.int (1 : Int32)), .unset] [(.ref (w 0))])) (fun t k => XS.aloadN X0.here hx rfl (hb hby d2_0) rfl rfl k) ?_
  obtain ⟨cq21, kq21, q21a, q21b, q21c⟩ := isOf hZ e0 (pin_6 hP)
  obtain ⟨_, _, ⟨T21, L21, k21, n21⟩, -, X21, ⟨Lc21, hQ21, l21, y21, z21⟩, st21⟩ := X0.virtualBackUp hx (x := (⟨"com/example/rederive/rederive/program/Comparison$Operator", "ordinal", "()I"⟩ : MethodName)) (y := (⟨"java/lang/Enum", "ordinal", "()I"⟩ : MethodName)) (owner := "java/lang/Enum") hown (mvT hZ (hw _ (List.mem_of_getElem? (i := 28) rfl))) (mvT hZ (hw _ (List.mem_of_getElem? (i := 29) rfl))) (mvT hZ (hw _ (List.mem_of_getElem? (i := 30) rfl))) (by decide) (mvT hZ (hw _ (List.mem_of_getElem? (i := 32) rfl))) (mvT hZ (hw _ (List.mem_of_getElem? (i := 31) rfl))) (backOf (W := 0) (rm3_0 l Z a0 hw [] w h0 n0 (Nat.le_trans Z0 (own_ext0 h0).1) hP) hZ (hw _ (List.mem_of_getElem? (i := 34) rfl)) (hw _ (List.mem_of_getElem? (i := 33) rfl)) (by decide) (by decide)) q21a q21c (g := (mkF m 1 #[.val (.ref (w 0)), .val (.int (0 : Int32)), .val (.int (1 : Int32)), .unset] [(.ref (w 0))])) rfl (by rw [hml]; rfl) (Steps.refl _) (argsL := []) (rest := []) (lenOf pd_1 rfl) rfl (by show 2 * 0 + _ ≤ _; exact Nat.le_of_eq rfl) (hb hby d2_1) (fun _ _ => ⟨rfl, e0, (by decide : 0 + 0 ≤ _), (by decide : 0 + 0 ≤ _)⟩)
  dsimp only [Pt.U, Pt.locs, Pt.cells, Pt.slots] at X21 l21 y21 z21 st21 hQ21
  subst l21 y21 z21
  obtain ⟨rfl, N21q, e21⟩ := hQ21
  have N21 := Fr.app N0 N21q
  refine Go.on (T' := T21) (g' := (mkF m 4 #[.val (.ref (w 0)), .val (.int (0 : Int32)), .val (.int (1 : Int32)), .unset] [(.int (0 : Int32))])) (fun t k => st21.trans k) ?_
  refine Go.on (T' := T21) (g' := (mkF m 40 #[.val (.ref (w 0)), .val (.int (0 : Int32)), .val (.int (1 : Int32)), .unset] [])) (fun t k => XS.tswIn X21.here hx rfl (pc0 := 4) (pc' := 40) (o := 36) rfl (hb hby d2_4) rfl (by decide) (by decide) (by decide) (by decide) k) ?_
  refine Go.on (T' := T21) (g' := (mkF m 41 #[.val (.ref (w 0)), .val (.int (0 : Int32)), .val (.int (1 : Int32)), .unset] [(.int (0 : Int32))])) (fun t k => XS.iloadN X21.here hx rfl (hb hby d2_40) rfl k) ?_
  refine Go.on (T' := T21) (g' := (mkF m 42 #[.val (.ref (w 0)), .val (.int (0 : Int32)), .val (.int (1 : Int32)), .unset] [(.int (1 : Int32)), (.int (0 : Int32))])) (fun t k => XS.iloadN X21.here hx rfl (hb hby d2_41) rfl k) ?_
  refine Go.on (T' := T21) (g' := (mkF m 49 #[.val (.ref (w 0)), .val (.int (0 : Int32)), .val (.int (1 : Int32)), .unset] [])) (fun t k => XS.icmpYes X21.here hx rfl (pc0 := 42) (pc' := 49) rfl (hb hby d2_42) rfl (feq (by decide : ¬ ((0 : Int32) = (1 : Int32)))).2 (by decide) (by decide) k) ?_
  refine Go.on (T' := T21) (g' := (mkF m 50 #[.val (.ref (w 0)), .val (.int (0 : Int32)), .val (.int (1 : Int32)), .unset] [(.int (0 : Int32))])) (fun t k => XS.iconst X21.here hx rfl (hb hby d2_49) k) ?_
  refine Go.on (T' := T21) (g' := (mkF m 51 #[.val (.ref (w 0)), .val (.int (0 : Int32)), .val (.int (1 : Int32)), .val (.int (0 : Int32))] [])) (fun t k => XS.istoreN X21.here hx rfl (hb hby d2_50) rfl (l' := #[.val (.ref (w 0)), .val (.int (0 : Int32)), .val (.int (1 : Int32)), .val (.int (0 : Int32))]) rfl k) ?_
  refine Go.on (T' := T21) (g' := (mkF m 121 #[.val (.ref (w 0)), .val (.int (0 : Int32)), .val (.int (1 : Int32)), .val (.int (0 : Int32))] [])) (fun t k => XS.goto X21.here hx rfl (pc0 := 51) (pc' := 121) rfl (hb hby d2_51) (by decide) (by decide) k) ?_
  refine Go.on (T' := T21) (g' := (mkF m 122 #[.val (.ref (w 0)), .val (.int (0 : Int32)), .val (.int (1 : Int32)), .val (.int (0 : Int32))] [(.int (0 : Int32))])) (fun t k => XS.iloadN X21.here hx rfl (hb hby d2_121) rfl k) ?_
  obtain ⟨fs, hr, hrun, hended, hW, hsame⟩ := X21.leave (v := some (.int (0 : Int32))) (fun h => by rw [Bd.returns] at h; cases h)
  exact ⟨_, _, retN X21 hx (t := .boolean) Bd.returns (by simp) (hb hby d2_122) hr, hrun, hended, _, _, rfl, ⟨rfl, N21, e21⟩, ⟨_, rfl⟩, hW, hsame.mono (by decide) (by decide)⟩
theorem pd_2 : parseMethodDescriptor "(II)Z" = some ⟨[.int, .int], some .boolean⟩ := by decide +kernel
set_option maxRecDepth 65536 in
set_option maxHeartbeats 40000000 in
theorem rm2_1 (l : Launch) (Z : State) (a0 : Array Value) (hw : ∀ d ∈ tables_1, d.before a0 Z = true) (ws : List Jvm.Cond) (w : Nat → Addr) (h0 : Heap) (n0 : Nat) (Z0 : n0 ≤ h0.size) (hP : Pins Z h0 w) :
    MetFree l (⟨"com/example/rederive/rederive/program/Comparison$Operator", "holds", "(II)Z"⟩ : MethodName) (head1 (Jvm.Cond.code (⟨"com/example/rederive/rederive/program/Comparison$Operator", "holds", "(II)Z"⟩ : MethodName) prog_41_method_5_code 4 (some .boolean) :: ws) ({ frames := 1, cells := 0, slots := 0, locals := 12 } : Room)) (fun a U => a = #[(.ref (w 0)), (.int (1 : Int32)), (.int (0 : Int32))] ∧ Z.Warmed39 U.vm ∧ U.heap = h0) (fun _ _ _ _ _ => True) (fun _ U o U' => ∃ v L, o = .returned v ∧ Qp (some (.int (0 : Int32))) h0 n0 v U'.heap L ∧ FrameEnd U o U' L ({ frames := 1, cells := 0, slots := 0, locals := 12 } : Room).cells ({ frames := 1, cells := 0, slots := 0, locals := 12 } : Room).slots) := by
  refine MetFree.of_bodySF (plainFor_of_name pn_0) hisR ?_
  intro p e s m args below meth c s₁ Bd hml0 hP0 hK
  obtain ⟨rfl, hZ, hh⟩ := hP0
  have hx := Bd.exec
  have hby := Bd.bytes
  have hml : c.maxLocals = 4 := hml0
  have hown : s.vm.findClass "com/example/rederive/rederive/program/Comparison$Operator" = some m.cls := findClass_of_methodNamed Bd.named
  have hnm := (name_of_methodNamed Bd.named Bd.method).1
  have X0 : Stand p l e ({ frames := 1, cells := 0, slots := 0, locals := 12 } : Room) s m #[(.ref (w 0)), (.int (1 : Int32)), (.int (0 : Int32))] below meth c s₁ [] 0 0 := Stand.of_body Bd
  have e0 : s₁.heap = h0 := by rw [← hh, Bd.state]; rfl
  have N0 := Fr.nil n0
  suffices hgo : Go p e below (fun o U' => ∃ v L, o = .returned v ∧ Qp (some (.int (0 : Int32))) h0 n0 v U'.heap L ∧ FrameEnd s o U' L ({ frames := 1, cells := 0, slots := 0, locals := 12 } : Room).cells ({ frames := 1, cells := 0, slots := 0, locals := 12 } : Room).slots) s₁ (mkF m 0 #[.val (.ref (w 0)), .val (.int (1 : Int32)), .val (.int (0 : Int32)), .unset] []) by
    obtain ⟨s2, o, g1, g2, g3, g4⟩ := hgo
    refine ⟨s2, o, castTop (?_ : entryFrame m #[(.ref (w 0)), (.int (1 : Int32)), (.int (0 : Int32))] 4 = _) g1, g2, g3, g4⟩
    first | (simp [entryFrame, mkF, argsToLocals, Value.category]; done) | rfl
  refine Go.on (T' := s₁) (g' := (mkF m 1 #[.val (.ref (w 0)), .val (.int (1 : Int32)), .val (.int (0 : Int32)), .unset] [(.ref (w 0))])) (fun t k => XS.aloadN X0.here hx rfl (hb hby d2_0) rfl rfl k) ?_
  obtain ⟨cq24, kq24, q24a, q24b, q24c⟩ := isOf hZ e0 (pin_6 hP)
  obtain ⟨_, _, ⟨T24, L24, k24, n24⟩, -, X24, ⟨Lc24, hQ24, l24, y24, z24⟩, st24⟩ := X0.virtualBackUp hx (x := (⟨"com/example/rederive/rederive/program/Comparison$Operator", "ordinal", "()I"⟩ : MethodName)) (y := (⟨"java/lang/Enum", "ordinal", "()I"⟩ : MethodName)) (owner := "java/lang/Enum") hown (mvT hZ (hw _ (List.mem_of_getElem? (i := 28) rfl))) (mvT hZ (hw _ (List.mem_of_getElem? (i := 29) rfl))) (mvT hZ (hw _ (List.mem_of_getElem? (i := 30) rfl))) (by decide) (mvT hZ (hw _ (List.mem_of_getElem? (i := 32) rfl))) (mvT hZ (hw _ (List.mem_of_getElem? (i := 31) rfl))) (backOf (W := 0) (rm3_0 l Z a0 hw [] w h0 n0 (Nat.le_trans Z0 (own_ext0 h0).1) hP) hZ (hw _ (List.mem_of_getElem? (i := 34) rfl)) (hw _ (List.mem_of_getElem? (i := 33) rfl)) (by decide) (by decide)) q24a q24c (g := (mkF m 1 #[.val (.ref (w 0)), .val (.int (1 : Int32)), .val (.int (0 : Int32)), .unset] [(.ref (w 0))])) rfl (by rw [hml]; rfl) (Steps.refl _) (argsL := []) (rest := []) (lenOf pd_1 rfl) rfl (by show 2 * 0 + _ ≤ _; exact Nat.le_of_eq rfl) (hb hby d2_1) (fun _ _ => ⟨rfl, e0, (by decide : 0 + 0 ≤ _), (by decide : 0 + 0 ≤ _)⟩)
  dsimp only [Pt.U, Pt.locs, Pt.cells, Pt.slots] at X24 l24 y24 z24 st24 hQ24
  subst l24 y24 z24
  obtain ⟨rfl, N24q, e24⟩ := hQ24
  have N24 := Fr.app N0 N24q
  refine Go.on (T' := T24) (g' := (mkF m 4 #[.val (.ref (w 0)), .val (.int (1 : Int32)), .val (.int (0 : Int32)), .unset] [(.int (0 : Int32))])) (fun t k => st24.trans k) ?_
  refine Go.on (T' := T24) (g' := (mkF m 40 #[.val (.ref (w 0)), .val (.int (1 : Int32)), .val (.int (0 : Int32)), .unset] [])) (fun t k => XS.tswIn X24.here hx rfl (pc0 := 4) (pc' := 40) (o := 36) rfl (hb hby d2_4) rfl (by decide) (by decide) (by decide) (by decide) k) ?_
  refine Go.on (T' := T24) (g' := (mkF m 41 #[.val (.ref (w 0)), .val (.int (1 : Int32)), .val (.int (0 : Int32)), .unset] [(.int (1 : Int32))])) (fun t k => XS.iloadN X24.here hx rfl (hb hby d2_40) rfl k) ?_
  refine Go.on (T' := T24) (g' := (mkF m 42 #[.val (.ref (w 0)), .val (.int (1 : Int32)), .val (.int (0 : Int32)), .unset] [(.int (0 : Int32)), (.int (1 : Int32))])) (fun t k => XS.iloadN X24.here hx rfl (hb hby d2_41) rfl k) ?_
  refine Go.on (T' := T24) (g' := (mkF m 49 #[.val (.ref (w 0)), .val (.int (1 : Int32)), .val (.int (0 : Int32)), .unset] [])) (fun t k => XS.icmpYes X24.here hx rfl (pc0 := 42) (pc' := 49) rfl (hb hby d2_42) rfl (feq (by decide : ¬ ((1 : Int32) = (0 : Int32)))).2 (by decide) (by decide) k) ?_
  refine Go.on (T' := T24) (g' := (mkF m 50 #[.val (.ref (w 0)), .val (.int (1 : Int32)), .val (.int (0 : Int32)), .unset] [(.int (0 : Int32))])) (fun t k => XS.iconst X24.here hx rfl (hb hby d2_49) k) ?_
  refine Go.on (T' := T24) (g' := (mkF m 51 #[.val (.ref (w 0)), .val (.int (1 : Int32)), .val (.int (0 : Int32)), .val (.int (0 : Int32))] [])) (fun t k => XS.istoreN X24.here hx rfl (hb hby d2_50) rfl (l' := #[.val (.ref (w 0)), .val (.int (1 : Int32)), .val (.int (0 : Int32)), .val (.int (0 : Int32))]) rfl k) ?_
  refine Go.on (T' := T24) (g' := (mkF m 121 #[.val (.ref (w 0)), .val (.int (1 : Int32)), .val (.int (0 : Int32)), .val (.int (0 : Int32))] [])) (fun t k => XS.goto X24.here hx rfl (pc0 := 51) (pc' := 121) rfl (hb hby d2_51) (by decide) (by decide) k) ?_
  refine Go.on (T' := T24) (g' := (mkF m 122 #[.val (.ref (w 0)), .val (.int (1 : Int32)), .val (.int (0 : Int32)), .val (.int (0 : Int32))] [(.int (0 : Int32))])) (fun t k => XS.iloadN X24.here hx rfl (hb hby d2_121) rfl k) ?_
  obtain ⟨fs, hr, hrun, hended, hW, hsame⟩ := X24.leave (v := some (.int (0 : Int32))) (fun h => by rw [Bd.returns] at h; cases h)
  exact ⟨_, _, retN X24 hx (t := .boolean) Bd.returns (by simp) (hb hby d2_122) hr, hrun, hended, _, _, rfl, ⟨rfl, N24, e24⟩, ⟨_, rfl⟩, hW, hsame.mono (by decide) (by decide)⟩
theorem d1_7 : decode prog_41_method_4_code 7 = .ok (.aload_n 0, 1) := by decide +kernel
theorem d1_8 : decode prog_41_method_4_code 8 = .ok (.getstatic 7, 3) := by decide +kernel
theorem d1_11 : decode prog_41_method_4_code 11 = .ok (.if_acmp .eq 7, 3) := by decide +kernel
set_option maxRecDepth 65536 in
set_option maxHeartbeats 40000000 in
theorem rm1_1 (l : Launch) (Z : State) (a0 : Array Value) (hw : ∀ d ∈ tables_1, d.before a0 Z = true) (ws : List Jvm.Cond) (w : Nat → Addr) (h0 : Heap) (n0 : Nat) (Z0 : n0 ≤ h0.size) (hP : Pins Z h0 w) :
    MetFree l (⟨"com/example/rederive/rederive/program/Comparison$Operator", "ordersNumbers", "()Z"⟩ : MethodName) (head1 (Jvm.Cond.code (⟨"com/example/rederive/rederive/program/Comparison$Operator", "ordersNumbers", "()Z"⟩ : MethodName) prog_41_method_4_code 1 (some .boolean) :: ws) ({ frames := 0, cells := 0, slots := 0, locals := 0 } : Room)) (fun a U => a = #[(.ref (w 1))] ∧ Z.Warmed39 U.vm ∧ U.heap = h0) (fun _ _ _ _ _ => True) (fun _ U o U' => ∃ v L, o = .returned v ∧ Qp (some (.int (0 : Int32))) h0 n0 v U'.heap L ∧ FrameEnd U o U' L ({ frames := 0, cells := 0, slots := 0, locals := 0 } : Room).cells ({ frames := 0, cells := 0, slots := 0, locals := 0 } : Room).slots) := by
  refine MetFree.of_bodySF (plainFor_of_name pn_0) hisR ?_
  intro p e s m args below meth c s₁ Bd hml0 hP0 hK
  obtain ⟨rfl, hZ, hh⟩ := hP0
  have hx := Bd.exec
  have hby := Bd.bytes
  have hml : c.maxLocals = 1 := hml0
  have hown : s.vm.findClass "com/example/rederive/rederive/program/Comparison$Operator" = some m.cls := findClass_of_methodNamed Bd.named
  have hnm := (name_of_methodNamed Bd.named Bd.method).1
  have X0 : Stand p l e ({ frames := 0, cells := 0, slots := 0, locals := 0 } : Room) s m #[(.ref (w 1))] below meth c s₁ [] 0 0 := Stand.of_body Bd
  have e0 : s₁.heap = h0 := by rw [← hh, Bd.state]; rfl
  have N0 := Fr.nil n0
  suffices hgo : Go p e below (fun o U' => ∃ v L, o = .returned v ∧ Qp (some (.int (0 : Int32))) h0 n0 v U'.heap L ∧ FrameEnd s o U' L ({ frames := 0, cells := 0, slots := 0, locals := 0 } : Room).cells ({ frames := 0, cells := 0, slots := 0, locals := 0 } : Room).slots) s₁ (mkF m 0 #[.val (.ref (w 1))] []) by
    obtain ⟨s2, o, g1, g2, g3, g4⟩ := hgo
    refine ⟨s2, o, castTop (?_ : entryFrame m #[(.ref (w 1))] 1 = _) g1, g2, g3, g4⟩
    first | (simp [entryFrame, mkF, argsToLocals, Value.category]; done) | rfl
  refine Go.on (T' := s₁) (g' := (mkF m 1 #[.val (.ref (w 1))] [(.ref (w 1))])) (fun t k => XS.aloadN X0.here hx rfl (hb hby d1_0) rfl rfl k) ?_
  obtain ⟨T28, X28, e28, st28⟩ := getS2 X0 hx hZ hown (host := "") (Or.inl (hw _ (List.mem_of_getElem? (i := 22) rfl))) Via.refl e0 (pin_0 hP) (g := (mkF m 1 #[.val (.ref (w 1))] [(.ref (w 1))])) rfl (hb hby d1_1)
  refine Go.on (T' := T28) (g' := (mkF m 4 #[.val (.ref (w 1))] [(.ref (w 0)), (.ref (w 1))])) st28 ?_
  refine Go.on (T' := T28) (g' := (mkF m 7 #[.val (.ref (w 1))] [])) (fun t k => Jvm.RoadKit.acmp (g := (mkF m 4 #[.val (.ref (w 1))] [(.ref (w 0)), (.ref (w 1))])) X28 hx rfl rfl rfl (pc0 := 4) (pc' := 7) (same := false) rfl (hb hby d1_4) rfl (decide_eq_false fun q => (own_ne (pin_14 hP) (pin_12 hP) (by decide)) (Value.ref.inj q)) (by decide) (by decide) k) ?_
  refine Go.on (T' := T28) (g' := (mkF m 8 #[.val (.ref (w 1))] [(.ref (w 1))])) (fun t k => XS.aloadN X28.here hx rfl (hb hby d1_7) rfl rfl k) ?_
  obtain ⟨T29, X29, e29, st29⟩ := getS2 X28 hx hZ hown (host := "") (Or.inl (hw _ (List.mem_of_getElem? (i := 37) rfl))) Via.refl e28 (pin_1 hP) (g := (mkF m 8 #[.val (.ref (w 1))] [(.ref (w 1))])) rfl (hb hby d1_8)
  refine Go.on (T' := T29) (g' := (mkF m 11 #[.val (.ref (w 1))] [(.ref (w 1)), (.ref (w 1))])) st29 ?_
  refine Go.on (T' := T29) (g' := (mkF m 18 #[.val (.ref (w 1))] [])) (fun t k => Jvm.RoadKit.acmp (g := (mkF m 11 #[.val (.ref (w 1))] [(.ref (w 1)), (.ref (w 1))])) X29 hx rfl rfl rfl (pc0 := 11) (pc' := 18) (same := true) rfl (hb hby d1_11) rfl (decide_eq_true rfl) (by decide) (by decide) k) ?_
  refine Go.on (T' := T29) (g' := (mkF m 19 #[.val (.ref (w 1))] [(.int (0 : Int32))])) (fun t k => XS.iconst X29.here hx rfl (hb hby d1_18) k) ?_
  obtain ⟨fs, hr, hrun, hended, hW, hsame⟩ := X29.leave (v := some (.int (0 : Int32))) (fun h => by rw [Bd.returns] at h; cases h)
  exact ⟨_, _, retN X29 hx (t := .boolean) Bd.returns (by simp) (hb hby d1_19) hr, hrun, hended, _, _, rfl, ⟨rfl, N0, e29⟩, ⟨_, rfl⟩, hW, hsame.mono (by decide) (by decide)⟩
set_option maxRecDepth 65536 in
set_option maxHeartbeats 40000000 in
theorem rm3_1 (l : Launch) (Z : State) (a0 : Array Value) (hw : ∀ d ∈ tables_1, d.before a0 Z = true) (ws : List Jvm.Cond) (w : Nat → Addr) (h0 : Heap) (n0 : Nat) (Z0 : n0 ≤ h0.size) (hP : Pins Z h0 w) :
    MetFree l (⟨"java/lang/Enum", "ordinal", "()I"⟩ : MethodName) (head1 (Jvm.Cond.code (⟨"java/lang/Enum", "ordinal", "()I"⟩ : MethodName) jdk_37_method_2_code 1 (some .int) :: ws) ({ frames := 0, cells := 0, slots := 0, locals := 0 } : Room)) (fun a U => a = #[(.ref (w 1))] ∧ Z.Warmed39 U.vm ∧ U.heap = h0) (fun _ _ _ _ _ => True) (fun _ U o U' => ∃ v L, o = .returned v ∧ Qp (some (.int (1 : Int32))) h0 n0 v U'.heap L ∧ FrameEnd U o U' L ({ frames := 0, cells := 0, slots := 0, locals := 0 } : Room).cells ({ frames := 0, cells := 0, slots := 0, locals := 0 } : Room).slots) := by
  refine MetFree.of_bodySF (plainFor_of_name pn_1) hisR ?_
  intro p e s m args below meth c s₁ Bd hml0 hP0 hK
  obtain ⟨rfl, hZ, hh⟩ := hP0
  have hx := Bd.exec
  have hby := Bd.bytes
  have hml : c.maxLocals = 1 := hml0
  have hown : s.vm.findClass "java/lang/Enum" = some m.cls := findClass_of_methodNamed Bd.named
  have hnm := (name_of_methodNamed Bd.named Bd.method).1
  have X0 : Stand p l e ({ frames := 0, cells := 0, slots := 0, locals := 0 } : Room) s m #[(.ref (w 1))] below meth c s₁ [] 0 0 := Stand.of_body Bd
  have e0 : s₁.heap = h0 := by rw [← hh, Bd.state]; rfl
  have N0 := Fr.nil n0
  suffices hgo : Go p e below (fun o U' => ∃ v L, o = .returned v ∧ Qp (some (.int (1 : Int32))) h0 n0 v U'.heap L ∧ FrameEnd s o U' L ({ frames := 0, cells := 0, slots := 0, locals := 0 } : Room).cells ({ frames := 0, cells := 0, slots := 0, locals := 0 } : Room).slots) s₁ (mkF m 0 #[.val (.ref (w 1))] []) by
    obtain ⟨s2, o, g1, g2, g3, g4⟩ := hgo
    refine ⟨s2, o, castTop (?_ : entryFrame m #[(.ref (w 1))] 1 = _) g1, g2, g3, g4⟩
    first | (simp [entryFrame, mkF, argsToLocals, Value.category]; done) | rfl
  refine Go.on (T' := s₁) (g' := (mkF m 1 #[.val (.ref (w 1))] [(.ref (w 1))])) (fun t k => XS.aloadN X0.here hx rfl (hb hby d3_0) rfl rfl k) ?_
  obtain ⟨T33, X33, e33, st33⟩ := getF X0 hx hZ hown (host := "") (Or.inl (hw _ (List.mem_of_getElem? (i := 35) rfl))) Via.refl e0 (pin_14 hP) (g := (mkF m 1 #[.val (.ref (w 1))] [(.ref (w 1))])) rfl rfl (hb hby d3_1)
  refine Go.on (T' := T33) (g' := (mkF m 4 #[.val (.ref (w 1))] [(.int (1 : Int32))])) st33 ?_
  obtain ⟨fs, hr, hrun, hended, hW, hsame⟩ := X33.leave (v := some (.int (1 : Int32))) (fun h => by rw [Bd.returns] at h; cases h)
  exact ⟨_, _, retOut X33 hx Bd.returns rfl (Or.inl ⟨rfl, Or.inl rfl, _, rfl⟩) (hb hby d3_4) hr, hrun, hended, _, _, rfl, ⟨rfl, N0, e33⟩, ⟨_, rfl⟩, hW, hsame.mono (by decide) (by decide)⟩
theorem d2_54 : decode prog_41_method_5_code 54 = .ok (.iload_n 1, 1) := by decide +kernel
theorem d2_55 : decode prog_41_method_5_code 55 = .ok (.iload_n 2, 1) := by decide +kernel
theorem d2_56 : decode prog_41_method_5_code 56 = .ok (.if_icmp .eq 7, 3) := by decide +kernel
theorem d2_59 : decode prog_41_method_5_code 59 = .ok (.iconst 1, 1) := by decide +kernel
theorem d2_60 : decode prog_41_method_5_code 60 = .ok (.goto 4, 3) := by decide +kernel
theorem d2_64 : decode prog_41_method_5_code 64 = .ok (.istore_n 3, 1) := by decide +kernel
theorem d2_65 : decode prog_41_method_5_code 65 = .ok (.goto 56, 3) := by decide +kernel
set_option maxRecDepth 65536 in
set_option maxHeartbeats 40000000 in
theorem rm2_2 (l : Launch) (Z : State) (a0 : Array Value) (hw : ∀ d ∈ tables_1, d.before a0 Z = true) (ws : List Jvm.Cond) (w : Nat → Addr) (h0 : Heap) (n0 : Nat) (Z0 : n0 ≤ h0.size) (hP : Pins Z h0 w) :
    MetFree l (⟨"com/example/rederive/rederive/program/Comparison$Operator", "holds", "(II)Z"⟩ : MethodName) (head1 (Jvm.Cond.code (⟨"com/example/rederive/rederive/program/Comparison$Operator", "holds", "(II)Z"⟩ : MethodName) prog_41_method_5_code 4 (some .boolean) :: ws) ({ frames := 1, cells := 0, slots := 0, locals := 12 } : Room)) (fun a U => a = #[(.ref (w 1)), (.int (0 : Int32)), (.int (1 : Int32))] ∧ Z.Warmed39 U.vm ∧ U.heap = h0) (fun _ _ _ _ _ => True) (fun _ U o U' => ∃ v L, o = .returned v ∧ Qp (some (.int (1 : Int32))) h0 n0 v U'.heap L ∧ FrameEnd U o U' L ({ frames := 1, cells := 0, slots := 0, locals := 12 } : Room).cells ({ frames := 1, cells := 0, slots := 0, locals := 12 } : Room).slots) := by
  refine MetFree.of_bodySF (plainFor_of_name pn_0) hisR ?_
  intro p e s m args below meth c s₁ Bd hml0 hP0 hK
  obtain ⟨rfl, hZ, hh⟩ := hP0
  have hx := Bd.exec
  have hby := Bd.bytes
  have hml : c.maxLocals = 4 := hml0
  have hown : s.vm.findClass "com/example/rederive/rederive/program/Comparison$Operator" = some m.cls := findClass_of_methodNamed Bd.named
  have hnm := (name_of_methodNamed Bd.named Bd.method).1
  have X0 : Stand p l e ({ frames := 1, cells := 0, slots := 0, locals := 12 } : Room) s m #[(.ref (w 1)), (.int (0 : Int32)), (.int (1 : Int32))] below meth c s₁ [] 0 0 := Stand.of_body Bd
  have e0 : s₁.heap = h0 := by rw [← hh, Bd.state]; rfl
  have N0 := Fr.nil n0
  suffices hgo : Go p e below (fun o U' => ∃ v L, o = .returned v ∧ Qp (some (.int (1 : Int32))) h0 n0 v U'.heap L ∧ FrameEnd s o U' L ({ frames := 1, cells := 0, slots := 0, locals := 12 } : Room).cells ({ frames := 1, cells := 0, slots := 0, locals := 12 } : Room).slots) s₁ (mkF m 0 #[.val (.ref (w 1)), .val (.int (0 : Int32)), .val (.int (1 : Int32)), .unset] []) by
    obtain ⟨s2, o, g1, g2, g3, g4⟩ := hgo
    refine ⟨s2, o, castTop (?_ : entryFrame m #[(.ref (w 1)), (.int (0 : Int32)), (.int (1 : Int32))] 4 = _) g1, g2, g3, g4⟩
    first | (simp [entryFrame, mkF, argsToLocals, Value.category]; done) | rfl
  refine Go.on (T' := s₁) (g' := (mkF m 1 #[.val (.ref (w 1)), .val (.int (0 : Int32)), .val (.int (1 : Int32)), .unset] [(.ref (w 1))])) (fun t k => XS.aloadN X0.here hx rfl (hb hby d2_0) rfl rfl k) ?_
  obtain ⟨cq34, kq34, q34a, q34b, q34c⟩ := isOf hZ e0 (pin_7 hP)
  obtain ⟨_, _, ⟨T34, L34, k34, n34⟩, -, X34, ⟨Lc34, hQ34, l34, y34, z34⟩, st34⟩ := X0.virtualBackUp hx (x := (⟨"com/example/rederive/rederive/program/Comparison$Operator", "ordinal", "()I"⟩ : MethodName)) (y := (⟨"java/lang/Enum", "ordinal", "()I"⟩ : MethodName)) (owner := "java/lang/Enum") hown (mvT hZ (hw _ (List.mem_of_getElem? (i := 28) rfl))) (mvT hZ (hw _ (List.mem_of_getElem? (i := 29) rfl))) (mvT hZ (hw _ (List.mem_of_getElem? (i := 30) rfl))) (by decide) (mvT hZ (hw _ (List.mem_of_getElem? (i := 32) rfl))) (mvT hZ (hw _ (List.mem_of_getElem? (i := 31) rfl))) (backOf (W := 0) (rm3_1 l Z a0 hw [] w h0 n0 (Nat.le_trans Z0 (own_ext0 h0).1) hP) hZ (hw _ (List.mem_of_getElem? (i := 34) rfl)) (hw _ (List.mem_of_getElem? (i := 33) rfl)) (by decide) (by decide)) q34a q34c (g := (mkF m 1 #[.val (.ref (w 1)), .val (.int (0 : Int32)), .val (.int (1 : Int32)), .unset] [(.ref (w 1))])) rfl (by rw [hml]; rfl) (Steps.refl _) (argsL := []) (rest := []) (lenOf pd_1 rfl) rfl (by show 2 * 0 + _ ≤ _; exact Nat.le_of_eq rfl) (hb hby d2_1) (fun _ _ => ⟨rfl, e0, (by decide : 0 + 0 ≤ _), (by decide : 0 + 0 ≤ _)⟩)
  dsimp only [Pt.U, Pt.locs, Pt.cells, Pt.slots] at X34 l34 y34 z34 st34 hQ34
  subst l34 y34 z34
  obtain ⟨rfl, N34q, e34⟩ := hQ34
  have N34 := Fr.app N0 N34q
  refine Go.on (T' := T34) (g' := (mkF m 4 #[.val (.ref (w 1)), .val (.int (0 : Int32)), .val (.int (1 : Int32)), .unset] [(.int (1 : Int32))])) (fun t k => st34.trans k) ?_
  refine Go.on (T' := T34) (g' := (mkF m 54 #[.val (.ref (w 1)), .val (.int (0 : Int32)), .val (.int (1 : Int32)), .unset] [])) (fun t k => XS.tswIn X34.here hx rfl (pc0 := 4) (pc' := 54) (o := 50) rfl (hb hby d2_4) rfl (by decide) (by decide) (by decide) (by decide) k) ?_
  refine Go.on (T' := T34) (g' := (mkF m 55 #[.val (.ref (w 1)), .val (.int (0 : Int32)), .val (.int (1 : Int32)), .unset] [(.int (0 : Int32))])) (fun t k => XS.iloadN X34.here hx rfl (hb hby d2_54) rfl k) ?_
  refine Go.on (T' := T34) (g' := (mkF m 56 #[.val (.ref (w 1)), .val (.int (0 : Int32)), .val (.int (1 : Int32)), .unset] [(.int (1 : Int32)), (.int (0 : Int32))])) (fun t k => XS.iloadN X34.here hx rfl (hb hby d2_55) rfl k) ?_
  refine Go.on (T' := T34) (g' := (mkF m 59 #[.val (.ref (w 1)), .val (.int (0 : Int32)), .val (.int (1 : Int32)), .unset] [])) (fun t k => XS.icmpNo X34.here hx rfl (hb hby d2_56) rfl (feq (by decide : ¬ ((0 : Int32) = (1 : Int32)))).1 k) ?_
  refine Go.on (T' := T34) (g' := (mkF m 60 #[.val (.ref (w 1)), .val (.int (0 : Int32)), .val (.int (1 : Int32)), .unset] [(.int (1 : Int32))])) (fun t k => XS.iconst X34.here hx rfl (hb hby d2_59) k) ?_
  refine Go.on (T' := T34) (g' := (mkF m 64 #[.val (.ref (w 1)), .val (.int (0 : Int32)), .val (.int (1 : Int32)), .unset] [(.int (1 : Int32))])) (fun t k => XS.goto X34.here hx rfl (pc0 := 60) (pc' := 64) rfl (hb hby d2_60) (by decide) (by decide) k) ?_
  refine Go.on (T' := T34) (g' := (mkF m 65 #[.val (.ref (w 1)), .val (.int (0 : Int32)), .val (.int (1 : Int32)), .val (.int (1 : Int32))] [])) (fun t k => XS.istoreN X34.here hx rfl (hb hby d2_64) rfl (l' := #[.val (.ref (w 1)), .val (.int (0 : Int32)), .val (.int (1 : Int32)), .val (.int (1 : Int32))]) rfl k) ?_
  refine Go.on (T' := T34) (g' := (mkF m 121 #[.val (.ref (w 1)), .val (.int (0 : Int32)), .val (.int (1 : Int32)), .val (.int (1 : Int32))] [])) (fun t k => XS.goto X34.here hx rfl (pc0 := 65) (pc' := 121) rfl (hb hby d2_65) (by decide) (by decide) k) ?_
  refine Go.on (T' := T34) (g' := (mkF m 122 #[.val (.ref (w 1)), .val (.int (0 : Int32)), .val (.int (1 : Int32)), .val (.int (1 : Int32))] [(.int (1 : Int32))])) (fun t k => XS.iloadN X34.here hx rfl (hb hby d2_121) rfl k) ?_
  obtain ⟨fs, hr, hrun, hended, hW, hsame⟩ := X34.leave (v := some (.int (1 : Int32))) (fun h => by rw [Bd.returns] at h; cases h)
  exact ⟨_, _, retN X34 hx (t := .boolean) Bd.returns (by simp) (hb hby d2_122) hr, hrun, hended, _, _, rfl, ⟨rfl, N34, e34⟩, ⟨_, rfl⟩, hW, hsame.mono (by decide) (by decide)⟩
set_option maxRecDepth 65536 in
set_option maxHeartbeats 40000000 in
theorem rm2_3 (l : Launch) (Z : State) (a0 : Array Value) (hw : ∀ d ∈ tables_1, d.before a0 Z = true) (ws : List Jvm.Cond) (w : Nat → Addr) (h0 : Heap) (n0 : Nat) (Z0 : n0 ≤ h0.size) (hP : Pins Z h0 w) :
    MetFree l (⟨"com/example/rederive/rederive/program/Comparison$Operator", "holds", "(II)Z"⟩ : MethodName) (head1 (Jvm.Cond.code (⟨"com/example/rederive/rederive/program/Comparison$Operator", "holds", "(II)Z"⟩ : MethodName) prog_41_method_5_code 4 (some .boolean) :: ws) ({ frames := 1, cells := 0, slots := 0, locals := 12 } : Room)) (fun a U => a = #[(.ref (w 1)), (.int (1 : Int32)), (.int (0 : Int32))] ∧ Z.Warmed39 U.vm ∧ U.heap = h0) (fun _ _ _ _ _ => True) (fun _ U o U' => ∃ v L, o = .returned v ∧ Qp (some (.int (1 : Int32))) h0 n0 v U'.heap L ∧ FrameEnd U o U' L ({ frames := 1, cells := 0, slots := 0, locals := 12 } : Room).cells ({ frames := 1, cells := 0, slots := 0, locals := 12 } : Room).slots) := by
  refine MetFree.of_bodySF (plainFor_of_name pn_0) hisR ?_
  intro p e s m args below meth c s₁ Bd hml0 hP0 hK
  obtain ⟨rfl, hZ, hh⟩ := hP0
  have hx := Bd.exec
  have hby := Bd.bytes
  have hml : c.maxLocals = 4 := hml0
  have hown : s.vm.findClass "com/example/rederive/rederive/program/Comparison$Operator" = some m.cls := findClass_of_methodNamed Bd.named
  have hnm := (name_of_methodNamed Bd.named Bd.method).1
  have X0 : Stand p l e ({ frames := 1, cells := 0, slots := 0, locals := 12 } : Room) s m #[(.ref (w 1)), (.int (1 : Int32)), (.int (0 : Int32))] below meth c s₁ [] 0 0 := Stand.of_body Bd
  have e0 : s₁.heap = h0 := by rw [← hh, Bd.state]; rfl
  have N0 := Fr.nil n0
  suffices hgo : Go p e below (fun o U' => ∃ v L, o = .returned v ∧ Qp (some (.int (1 : Int32))) h0 n0 v U'.heap L ∧ FrameEnd s o U' L ({ frames := 1, cells := 0, slots := 0, locals := 12 } : Room).cells ({ frames := 1, cells := 0, slots := 0, locals := 12 } : Room).slots) s₁ (mkF m 0 #[.val (.ref (w 1)), .val (.int (1 : Int32)), .val (.int (0 : Int32)), .unset] []) by
    obtain ⟨s2, o, g1, g2, g3, g4⟩ := hgo
    refine ⟨s2, o, castTop (?_ : entryFrame m #[(.ref (w 1)), (.int (1 : Int32)), (.int (0 : Int32))] 4 = _) g1, g2, g3, g4⟩
    first | (simp [entryFrame, mkF, argsToLocals, Value.category]; done) | rfl
  refine Go.on (T' := s₁) (g' := (mkF m 1 #[.val (.ref (w 1)), .val (.int (1 : Int32)), .val (.int (0 : Int32)), .unset] [(.ref (w 1))])) (fun t k => XS.aloadN X0.here hx rfl (hb hby d2_0) rfl rfl k) ?_
  obtain ⟨cq37, kq37, q37a, q37b, q37c⟩ := isOf hZ e0 (pin_7 hP)
  obtain ⟨_, _, ⟨T37, L37, k37, n37⟩, -, X37, ⟨Lc37, hQ37, l37, y37, z37⟩, st37⟩ := X0.virtualBackUp hx (x := (⟨"com/example/rederive/rederive/program/Comparison$Operator", "ordinal", "()I"⟩ : MethodName)) (y := (⟨"java/lang/Enum", "ordinal", "()I"⟩ : MethodName)) (owner := "java/lang/Enum") hown (mvT hZ (hw _ (List.mem_of_getElem? (i := 28) rfl))) (mvT hZ (hw _ (List.mem_of_getElem? (i := 29) rfl))) (mvT hZ (hw _ (List.mem_of_getElem? (i := 30) rfl))) (by decide) (mvT hZ (hw _ (List.mem_of_getElem? (i := 32) rfl))) (mvT hZ (hw _ (List.mem_of_getElem? (i := 31) rfl))) (backOf (W := 0) (rm3_1 l Z a0 hw [] w h0 n0 (Nat.le_trans Z0 (own_ext0 h0).1) hP) hZ (hw _ (List.mem_of_getElem? (i := 34) rfl)) (hw _ (List.mem_of_getElem? (i := 33) rfl)) (by decide) (by decide)) q37a q37c (g := (mkF m 1 #[.val (.ref (w 1)), .val (.int (1 : Int32)), .val (.int (0 : Int32)), .unset] [(.ref (w 1))])) rfl (by rw [hml]; rfl) (Steps.refl _) (argsL := []) (rest := []) (lenOf pd_1 rfl) rfl (by show 2 * 0 + _ ≤ _; exact Nat.le_of_eq rfl) (hb hby d2_1) (fun _ _ => ⟨rfl, e0, (by decide : 0 + 0 ≤ _), (by decide : 0 + 0 ≤ _)⟩)
  dsimp only [Pt.U, Pt.locs, Pt.cells, Pt.slots] at X37 l37 y37 z37 st37 hQ37
  subst l37 y37 z37
  obtain ⟨rfl, N37q, e37⟩ := hQ37
  have N37 := Fr.app N0 N37q
  refine Go.on (T' := T37) (g' := (mkF m 4 #[.val (.ref (w 1)), .val (.int (1 : Int32)), .val (.int (0 : Int32)), .unset] [(.int (1 : Int32))])) (fun t k => st37.trans k) ?_
  refine Go.on (T' := T37) (g' := (mkF m 54 #[.val (.ref (w 1)), .val (.int (1 : Int32)), .val (.int (0 : Int32)), .unset] [])) (fun t k => XS.tswIn X37.here hx rfl (pc0 := 4) (pc' := 54) (o := 50) rfl (hb hby d2_4) rfl (by decide) (by decide) (by decide) (by decide) k) ?_
  refine Go.on (T' := T37) (g' := (mkF m 55 #[.val (.ref (w 1)), .val (.int (1 : Int32)), .val (.int (0 : Int32)), .unset] [(.int (1 : Int32))])) (fun t k => XS.iloadN X37.here hx rfl (hb hby d2_54) rfl k) ?_
  refine Go.on (T' := T37) (g' := (mkF m 56 #[.val (.ref (w 1)), .val (.int (1 : Int32)), .val (.int (0 : Int32)), .unset] [(.int (0 : Int32)), (.int (1 : Int32))])) (fun t k => XS.iloadN X37.here hx rfl (hb hby d2_55) rfl k) ?_
  refine Go.on (T' := T37) (g' := (mkF m 59 #[.val (.ref (w 1)), .val (.int (1 : Int32)), .val (.int (0 : Int32)), .unset] [])) (fun t k => XS.icmpNo X37.here hx rfl (hb hby d2_56) rfl (feq (by decide : ¬ ((1 : Int32) = (0 : Int32)))).1 k) ?_
  refine Go.on (T' := T37) (g' := (mkF m 60 #[.val (.ref (w 1)), .val (.int (1 : Int32)), .val (.int (0 : Int32)), .unset] [(.int (1 : Int32))])) (fun t k => XS.iconst X37.here hx rfl (hb hby d2_59) k) ?_
  refine Go.on (T' := T37) (g' := (mkF m 64 #[.val (.ref (w 1)), .val (.int (1 : Int32)), .val (.int (0 : Int32)), .unset] [(.int (1 : Int32))])) (fun t k => XS.goto X37.here hx rfl (pc0 := 60) (pc' := 64) rfl (hb hby d2_60) (by decide) (by decide) k) ?_
  refine Go.on (T' := T37) (g' := (mkF m 65 #[.val (.ref (w 1)), .val (.int (1 : Int32)), .val (.int (0 : Int32)), .val (.int (1 : Int32))] [])) (fun t k => XS.istoreN X37.here hx rfl (hb hby d2_64) rfl (l' := #[.val (.ref (w 1)), .val (.int (1 : Int32)), .val (.int (0 : Int32)), .val (.int (1 : Int32))]) rfl k) ?_
  refine Go.on (T' := T37) (g' := (mkF m 121 #[.val (.ref (w 1)), .val (.int (1 : Int32)), .val (.int (0 : Int32)), .val (.int (1 : Int32))] [])) (fun t k => XS.goto X37.here hx rfl (pc0 := 65) (pc' := 121) rfl (hb hby d2_65) (by decide) (by decide) k) ?_
  refine Go.on (T' := T37) (g' := (mkF m 122 #[.val (.ref (w 1)), .val (.int (1 : Int32)), .val (.int (0 : Int32)), .val (.int (1 : Int32))] [(.int (1 : Int32))])) (fun t k => XS.iloadN X37.here hx rfl (hb hby d2_121) rfl k) ?_
  obtain ⟨fs, hr, hrun, hended, hW, hsame⟩ := X37.leave (v := some (.int (1 : Int32))) (fun h => by rw [Bd.returns] at h; cases h)
  exact ⟨_, _, retN X37 hx (t := .boolean) Bd.returns (by simp) (hb hby d2_122) hr, hrun, hended, _, _, rfl, ⟨rfl, N37, e37⟩, ⟨_, rfl⟩, hW, hsame.mono (by decide) (by decide)⟩
theorem d1_14 : decode prog_41_method_4_code 14 = .ok (.iconst 1, 1) := by decide +kernel
theorem d1_15 : decode prog_41_method_4_code 15 = .ok (.goto 4, 3) := by decide +kernel
set_option maxRecDepth 65536 in
set_option maxHeartbeats 40000000 in
theorem rm1_2 (l : Launch) (Z : State) (a0 : Array Value) (hw : ∀ d ∈ tables_1, d.before a0 Z = true) (ws : List Jvm.Cond) (w : Nat → Addr) (h0 : Heap) (n0 : Nat) (Z0 : n0 ≤ h0.size) (hP : Pins Z h0 w) :
    MetFree l (⟨"com/example/rederive/rederive/program/Comparison$Operator", "ordersNumbers", "()Z"⟩ : MethodName) (head1 (Jvm.Cond.code (⟨"com/example/rederive/rederive/program/Comparison$Operator", "ordersNumbers", "()Z"⟩ : MethodName) prog_41_method_4_code 1 (some .boolean) :: ws) ({ frames := 0, cells := 0, slots := 0, locals := 0 } : Room)) (fun a U => a = #[(.ref (w 2))] ∧ Z.Warmed39 U.vm ∧ U.heap = h0) (fun _ _ _ _ _ => True) (fun _ U o U' => ∃ v L, o = .returned v ∧ Qp (some (.int (1 : Int32))) h0 n0 v U'.heap L ∧ FrameEnd U o U' L ({ frames := 0, cells := 0, slots := 0, locals := 0 } : Room).cells ({ frames := 0, cells := 0, slots := 0, locals := 0 } : Room).slots) := by
  refine MetFree.of_bodySF (plainFor_of_name pn_0) hisR ?_
  intro p e s m args below meth c s₁ Bd hml0 hP0 hK
  obtain ⟨rfl, hZ, hh⟩ := hP0
  have hx := Bd.exec
  have hby := Bd.bytes
  have hml : c.maxLocals = 1 := hml0
  have hown : s.vm.findClass "com/example/rederive/rederive/program/Comparison$Operator" = some m.cls := findClass_of_methodNamed Bd.named
  have hnm := (name_of_methodNamed Bd.named Bd.method).1
  have X0 : Stand p l e ({ frames := 0, cells := 0, slots := 0, locals := 0 } : Room) s m #[(.ref (w 2))] below meth c s₁ [] 0 0 := Stand.of_body Bd
  have e0 : s₁.heap = h0 := by rw [← hh, Bd.state]; rfl
  have N0 := Fr.nil n0
  suffices hgo : Go p e below (fun o U' => ∃ v L, o = .returned v ∧ Qp (some (.int (1 : Int32))) h0 n0 v U'.heap L ∧ FrameEnd s o U' L ({ frames := 0, cells := 0, slots := 0, locals := 0 } : Room).cells ({ frames := 0, cells := 0, slots := 0, locals := 0 } : Room).slots) s₁ (mkF m 0 #[.val (.ref (w 2))] []) by
    obtain ⟨s2, o, g1, g2, g3, g4⟩ := hgo
    refine ⟨s2, o, castTop (?_ : entryFrame m #[(.ref (w 2))] 1 = _) g1, g2, g3, g4⟩
    first | (simp [entryFrame, mkF, argsToLocals, Value.category]; done) | rfl
  refine Go.on (T' := s₁) (g' := (mkF m 1 #[.val (.ref (w 2))] [(.ref (w 2))])) (fun t k => XS.aloadN X0.here hx rfl (hb hby d1_0) rfl rfl k) ?_
  obtain ⟨T41, X41, e41, st41⟩ := getS2 X0 hx hZ hown (host := "") (Or.inl (hw _ (List.mem_of_getElem? (i := 22) rfl))) Via.refl e0 (pin_0 hP) (g := (mkF m 1 #[.val (.ref (w 2))] [(.ref (w 2))])) rfl (hb hby d1_1)
  refine Go.on (T' := T41) (g' := (mkF m 4 #[.val (.ref (w 2))] [(.ref (w 0)), (.ref (w 2))])) st41 ?_
  refine Go.on (T' := T41) (g' := (mkF m 7 #[.val (.ref (w 2))] [])) (fun t k => Jvm.RoadKit.acmp (g := (mkF m 4 #[.val (.ref (w 2))] [(.ref (w 0)), (.ref (w 2))])) X41 hx rfl rfl rfl (pc0 := 4) (pc' := 7) (same := false) rfl (hb hby d1_4) rfl (decide_eq_false fun q => (own_ne (pin_15 hP) (pin_12 hP) (by decide)) (Value.ref.inj q)) (by decide) (by decide) k) ?_
  refine Go.on (T' := T41) (g' := (mkF m 8 #[.val (.ref (w 2))] [(.ref (w 2))])) (fun t k => XS.aloadN X41.here hx rfl (hb hby d1_7) rfl rfl k) ?_
  obtain ⟨T42, X42, e42, st42⟩ := getS2 X41 hx hZ hown (host := "") (Or.inl (hw _ (List.mem_of_getElem? (i := 37) rfl))) Via.refl e41 (pin_1 hP) (g := (mkF m 8 #[.val (.ref (w 2))] [(.ref (w 2))])) rfl (hb hby d1_8)
  refine Go.on (T' := T42) (g' := (mkF m 11 #[.val (.ref (w 2))] [(.ref (w 1)), (.ref (w 2))])) st42 ?_
  refine Go.on (T' := T42) (g' := (mkF m 14 #[.val (.ref (w 2))] [])) (fun t k => Jvm.RoadKit.acmp (g := (mkF m 11 #[.val (.ref (w 2))] [(.ref (w 1)), (.ref (w 2))])) X42 hx rfl rfl rfl (pc0 := 11) (pc' := 14) (same := false) rfl (hb hby d1_11) rfl (decide_eq_false fun q => (own_ne (pin_15 hP) (pin_14 hP) (by decide)) (Value.ref.inj q)) (by decide) (by decide) k) ?_
  refine Go.on (T' := T42) (g' := (mkF m 15 #[.val (.ref (w 2))] [(.int (1 : Int32))])) (fun t k => XS.iconst X42.here hx rfl (hb hby d1_14) k) ?_
  refine Go.on (T' := T42) (g' := (mkF m 19 #[.val (.ref (w 2))] [(.int (1 : Int32))])) (fun t k => XS.goto X42.here hx rfl (pc0 := 15) (pc' := 19) rfl (hb hby d1_15) (by decide) (by decide) k) ?_
  obtain ⟨fs, hr, hrun, hended, hW, hsame⟩ := X42.leave (v := some (.int (1 : Int32))) (fun h => by rw [Bd.returns] at h; cases h)
  exact ⟨_, _, retN X42 hx (t := .boolean) Bd.returns (by simp) (hb hby d1_19) hr, hrun, hended, _, _, rfl, ⟨rfl, N0, e42⟩, ⟨_, rfl⟩, hW, hsame.mono (by decide) (by decide)⟩
set_option maxRecDepth 65536 in
set_option maxHeartbeats 40000000 in
theorem rm3_2 (l : Launch) (Z : State) (a0 : Array Value) (hw : ∀ d ∈ tables_1, d.before a0 Z = true) (ws : List Jvm.Cond) (w : Nat → Addr) (h0 : Heap) (n0 : Nat) (Z0 : n0 ≤ h0.size) (hP : Pins Z h0 w) :
    MetFree l (⟨"java/lang/Enum", "ordinal", "()I"⟩ : MethodName) (head1 (Jvm.Cond.code (⟨"java/lang/Enum", "ordinal", "()I"⟩ : MethodName) jdk_37_method_2_code 1 (some .int) :: ws) ({ frames := 0, cells := 0, slots := 0, locals := 0 } : Room)) (fun a U => a = #[(.ref (w 2))] ∧ Z.Warmed39 U.vm ∧ U.heap = h0) (fun _ _ _ _ _ => True) (fun _ U o U' => ∃ v L, o = .returned v ∧ Qp (some (.int (2 : Int32))) h0 n0 v U'.heap L ∧ FrameEnd U o U' L ({ frames := 0, cells := 0, slots := 0, locals := 0 } : Room).cells ({ frames := 0, cells := 0, slots := 0, locals := 0 } : Room).slots) := by
  refine MetFree.of_bodySF (plainFor_of_name pn_1) hisR ?_
  intro p e s m args below meth c s₁ Bd hml0 hP0 hK
  obtain ⟨rfl, hZ, hh⟩ := hP0
  have hx := Bd.exec
  have hby := Bd.bytes
  have hml : c.maxLocals = 1 := hml0
  have hown : s.vm.findClass "java/lang/Enum" = some m.cls := findClass_of_methodNamed Bd.named
  have hnm := (name_of_methodNamed Bd.named Bd.method).1
  have X0 : Stand p l e ({ frames := 0, cells := 0, slots := 0, locals := 0 } : Room) s m #[(.ref (w 2))] below meth c s₁ [] 0 0 := Stand.of_body Bd
  have e0 : s₁.heap = h0 := by rw [← hh, Bd.state]; rfl
  have N0 := Fr.nil n0
  suffices hgo : Go p e below (fun o U' => ∃ v L, o = .returned v ∧ Qp (some (.int (2 : Int32))) h0 n0 v U'.heap L ∧ FrameEnd s o U' L ({ frames := 0, cells := 0, slots := 0, locals := 0 } : Room).cells ({ frames := 0, cells := 0, slots := 0, locals := 0 } : Room).slots) s₁ (mkF m 0 #[.val (.ref (w 2))] []) by
    obtain ⟨s2, o, g1, g2, g3, g4⟩ := hgo
    refine ⟨s2, o, castTop (?_ : entryFrame m #[(.ref (w 2))] 1 = _) g1, g2, g3, g4⟩
    first | (simp [entryFrame, mkF, argsToLocals, Value.category]; done) | rfl
  refine Go.on (T' := s₁) (g' := (mkF m 1 #[.val (.ref (w 2))] [(.ref (w 2))])) (fun t k => XS.aloadN X0.here hx rfl (hb hby d3_0) rfl rfl k) ?_
  obtain ⟨T46, X46, e46, st46⟩ := getF X0 hx hZ hown (host := "") (Or.inl (hw _ (List.mem_of_getElem? (i := 35) rfl))) Via.refl e0 (pin_15 hP) (g := (mkF m 1 #[.val (.ref (w 2))] [(.ref (w 2))])) rfl rfl (hb hby d3_1)
  refine Go.on (T' := T46) (g' := (mkF m 4 #[.val (.ref (w 2))] [(.int (2 : Int32))])) st46 ?_
  obtain ⟨fs, hr, hrun, hended, hW, hsame⟩ := X46.leave (v := some (.int (2 : Int32))) (fun h => by rw [Bd.returns] at h; cases h)
  exact ⟨_, _, retOut X46 hx Bd.returns rfl (Or.inl ⟨rfl, Or.inl rfl, _, rfl⟩) (hb hby d3_4) hr, hrun, hended, _, _, rfl, ⟨rfl, N0, e46⟩, ⟨_, rfl⟩, hW, hsame.mono (by decide) (by decide)⟩
theorem d2_68 : decode prog_41_method_5_code 68 = .ok (.iload_n 1, 1) := by decide +kernel
theorem d2_69 : decode prog_41_method_5_code 69 = .ok (.iload_n 2, 1) := by decide +kernel
theorem d2_70 : decode prog_41_method_5_code 70 = .ok (.if_icmp .ge 7, 3) := by decide +kernel
theorem d2_73 : decode prog_41_method_5_code 73 = .ok (.iconst 1, 1) := by decide +kernel
theorem d2_74 : decode prog_41_method_5_code 74 = .ok (.goto 4, 3) := by decide +kernel
theorem d2_78 : decode prog_41_method_5_code 78 = .ok (.istore_n 3, 1) := by decide +kernel
theorem d2_79 : decode prog_41_method_5_code 79 = .ok (.goto 42, 3) := by decide +kernel
set_option maxRecDepth 65536 in
set_option maxHeartbeats 40000000 in
theorem rm2_4 (l : Launch) (Z : State) (a0 : Array Value) (hw : ∀ d ∈ tables_1, d.before a0 Z = true) (ws : List Jvm.Cond) (w : Nat → Addr) (h0 : Heap) (n0 : Nat) (Z0 : n0 ≤ h0.size) (hP : Pins Z h0 w) :
    MetFree l (⟨"com/example/rederive/rederive/program/Comparison$Operator", "holds", "(II)Z"⟩ : MethodName) (head1 (Jvm.Cond.code (⟨"com/example/rederive/rederive/program/Comparison$Operator", "holds", "(II)Z"⟩ : MethodName) prog_41_method_5_code 4 (some .boolean) :: ws) ({ frames := 1, cells := 0, slots := 0, locals := 12 } : Room)) (fun a U => a = #[(.ref (w 2)), (.int (0 : Int32)), (.int (1 : Int32))] ∧ Z.Warmed39 U.vm ∧ U.heap = h0) (fun _ _ _ _ _ => True) (fun _ U o U' => ∃ v L, o = .returned v ∧ Qp (some (.int (1 : Int32))) h0 n0 v U'.heap L ∧ FrameEnd U o U' L ({ frames := 1, cells := 0, slots := 0, locals := 12 } : Room).cells ({ frames := 1, cells := 0, slots := 0, locals := 12 } : Room).slots) := by
  refine MetFree.of_bodySF (plainFor_of_name pn_0) hisR ?_
  intro p e s m args below meth c s₁ Bd hml0 hP0 hK
  obtain ⟨rfl, hZ, hh⟩ := hP0
  have hx := Bd.exec
  have hby := Bd.bytes
  have hml : c.maxLocals = 4 := hml0
  have hown : s.vm.findClass "com/example/rederive/rederive/program/Comparison$Operator" = some m.cls := findClass_of_methodNamed Bd.named
  have hnm := (name_of_methodNamed Bd.named Bd.method).1
  have X0 : Stand p l e ({ frames := 1, cells := 0, slots := 0, locals := 12 } : Room) s m #[(.ref (w 2)), (.int (0 : Int32)), (.int (1 : Int32))] below meth c s₁ [] 0 0 := Stand.of_body Bd
  have e0 : s₁.heap = h0 := by rw [← hh, Bd.state]; rfl
  have N0 := Fr.nil n0
  suffices hgo : Go p e below (fun o U' => ∃ v L, o = .returned v ∧ Qp (some (.int (1 : Int32))) h0 n0 v U'.heap L ∧ FrameEnd s o U' L ({ frames := 1, cells := 0, slots := 0, locals := 12 } : Room).cells ({ frames := 1, cells := 0, slots := 0, locals := 12 } : Room).slots) s₁ (mkF m 0 #[.val (.ref (w 2)), .val (.int (0 : Int32)), .val (.int (1 : Int32)), .unset] []) by
    obtain ⟨s2, o, g1, g2, g3, g4⟩ := hgo
    refine ⟨s2, o, castTop (?_ : entryFrame m #[(.ref (w 2)), (.int (0 : Int32)), (.int (1 : Int32))] 4 = _) g1, g2, g3, g4⟩
    first | (simp [entryFrame, mkF, argsToLocals, Value.category]; done) | rfl
  refine Go.on (T' := s₁) (g' := (mkF m 1 #[.val (.ref (w 2)), .val (.int (0 : Int32)), .val (.int (1 : Int32)), .unset] [(.ref (w 2))])) (fun t k => XS.aloadN X0.here hx rfl (hb hby d2_0) rfl rfl k) ?_
  obtain ⟨cq47, kq47, q47a, q47b, q47c⟩ := isOf hZ e0 (pin_8 hP)
  obtain ⟨_, _, ⟨T47, L47, k47, n47⟩, -, X47, ⟨Lc47, hQ47, l47, y47, z47⟩, st47⟩ := X0.virtualBackUp hx (x := (⟨"com/example/rederive/rederive/program/Comparison$Operator", "ordinal", "()I"⟩ : MethodName)) (y := (⟨"java/lang/Enum", "ordinal", "()I"⟩ : MethodName)) (owner := "java/lang/Enum") hown (mvT hZ (hw _ (List.mem_of_getElem? (i := 28) rfl))) (mvT hZ (hw _ (List.mem_of_getElem? (i := 29) rfl))) (mvT hZ (hw _ (List.mem_of_getElem? (i := 30) rfl))) (by decide) (mvT hZ (hw _ (List.mem_of_getElem? (i := 32) rfl))) (mvT hZ (hw _ (List.mem_of_getElem? (i := 31) rfl))) (backOf (W := 0) (rm3_2 l Z a0 hw [] w h0 n0 (Nat.le_trans Z0 (own_ext0 h0).1) hP) hZ (hw _ (List.mem_of_getElem? (i := 34) rfl)) (hw _ (List.mem_of_getElem? (i := 33) rfl)) (by decide) (by decide)) q47a q47c (g := (mkF m 1 #[.val (.ref (w 2)), .val (.int (0 : Int32)), .val (.int (1 : Int32)), .unset] [(.ref (w 2))])) rfl (by rw [hml]; rfl) (Steps.refl _) (argsL := []) (rest := []) (lenOf pd_1 rfl) rfl (by show 2 * 0 + _ ≤ _; exact Nat.le_of_eq rfl) (hb hby d2_1) (fun _ _ => ⟨rfl, e0, (by decide : 0 + 0 ≤ _), (by decide : 0 + 0 ≤ _)⟩)
  dsimp only [Pt.U, Pt.locs, Pt.cells, Pt.slots] at X47 l47 y47 z47 st47 hQ47
  subst l47 y47 z47
  obtain ⟨rfl, N47q, e47⟩ := hQ47
  have N47 := Fr.app N0 N47q
  refine Go.on (T' := T47) (g' := (mkF m 4 #[.val (.ref (w 2)), .val (.int (0 : Int32)), .val (.int (1 : Int32)), .unset] [(.int (2 : Int32))])) (fun t k => st47.trans k) ?_
  refine Go.on (T' := T47) (g' := (mkF m 68 #[.val (.ref (w 2)), .val (.int (0 : Int32)), .val (.int (1 : Int32)), .unset] [])) (fun t k => XS.tswIn X47.here hx rfl (pc0 := 4) (pc' := 68) (o := 64) rfl (hb hby d2_4) rfl (by decide) (by decide) (by decide) (by decide) k) ?_
  refine Go.on (T' := T47) (g' := (mkF m 69 #[.val (.ref (w 2)), .val (.int (0 : Int32)), .val (.int (1 : Int32)), .unset] [(.int (0 : Int32))])) (fun t k => XS.iloadN X47.here hx rfl (hb hby d2_68) rfl k) ?_
  refine Go.on (T' := T47) (g' := (mkF m 70 #[.val (.ref (w 2)), .val (.int (0 : Int32)), .val (.int (1 : Int32)), .unset] [(.int (1 : Int32)), (.int (0 : Int32))])) (fun t k => XS.iloadN X47.here hx rfl (hb hby d2_69) rfl k) ?_
  refine Go.on (T' := T47) (g' := (mkF m 73 #[.val (.ref (w 2)), .val (.int (0 : Int32)), .val (.int (1 : Int32)), .unset] [])) (fun t k => XS.icmpNo X47.here hx rfl (hb hby d2_70) rfl (tlt (by decide : (0 : Int32) < (1 : Int32))).2.1 k) ?_
  refine Go.on (T' := T47) (g' := (mkF m 74 #[.val (.ref (w 2)), .val (.int (0 : Int32)), .val (.int (1 : Int32)), .unset] [(.int (1 : Int32))])) (fun t k => XS.iconst X47.here hx rfl (hb hby d2_73) k) ?_
  refine Go.on (T' := T47) (g' := (mkF m 78 #[.val (.ref (w 2)), .val (.int (0 : Int32)), .val (.int (1 : Int32)), .unset] [(.int (1 : Int32))])) (fun t k => XS.goto X47.here hx rfl (pc0 := 74) (pc' := 78) rfl (hb hby d2_74) (by decide) (by decide) k) ?_
  refine Go.on (T' := T47) (g' := (mkF m 79 #[.val (.ref (w 2)), .val (.int (0 : Int32)), .val (.int (1 : Int32)), .val (.int (1 : Int32))] [])) (fun t k => XS.istoreN X47.here hx rfl (hb hby d2_78) rfl (l' := #[.val (.ref (w 2)), .val (.int (0 : Int32)), .val (.int (1 : Int32)), .val (.int (1 : Int32))]) rfl k) ?_
  refine Go.on (T' := T47) (g' := (mkF m 121 #[.val (.ref (w 2)), .val (.int (0 : Int32)), .val (.int (1 : Int32)), .val (.int (1 : Int32))] [])) (fun t k => XS.goto X47.here hx rfl (pc0 := 79) (pc' := 121) rfl (hb hby d2_79) (by decide) (by decide) k) ?_
  refine Go.on (T' := T47) (g' := (mkF m 122 #[.val (.ref (w 2)), .val (.int (0 : Int32)), .val (.int (1 : Int32)), .val (.int (1 : Int32))] [(.int (1 : Int32))])) (fun t k => XS.iloadN X47.here hx rfl (hb hby d2_121) rfl k) ?_
  obtain ⟨fs, hr, hrun, hended, hW, hsame⟩ := X47.leave (v := some (.int (1 : Int32))) (fun h => by rw [Bd.returns] at h; cases h)
  exact ⟨_, _, retN X47 hx (t := .boolean) Bd.returns (by simp) (hb hby d2_122) hr, hrun, hended, _, _, rfl, ⟨rfl, N47, e47⟩, ⟨_, rfl⟩, hW, hsame.mono (by decide) (by decide)⟩
theorem d2_77 : decode prog_41_method_5_code 77 = .ok (.iconst 0, 1) := by decide +kernel
set_option maxRecDepth 65536 in
set_option maxHeartbeats 40000000 in
theorem rm2_5 (l : Launch) (Z : State) (a0 : Array Value) (hw : ∀ d ∈ tables_1, d.before a0 Z = true) (ws : List Jvm.Cond) (w : Nat → Addr) (h0 : Heap) (n0 : Nat) (Z0 : n0 ≤ h0.size) (hP : Pins Z h0 w) :
    MetFree l (⟨"com/example/rederive/rederive/program/Comparison$Operator", "holds", "(II)Z"⟩ : MethodName) (head1 (Jvm.Cond.code (⟨"com/example/rederive/rederive/program/Comparison$Operator", "holds", "(II)Z"⟩ : MethodName) prog_41_method_5_code 4 (some .boolean) :: ws) ({ frames := 1, cells := 0, slots := 0, locals := 12 } : Room)) (fun a U => a = #[(.ref (w 2)), (.int (1 : Int32)), (.int (0 : Int32))] ∧ Z.Warmed39 U.vm ∧ U.heap = h0) (fun _ _ _ _ _ => True) (fun _ U o U' => ∃ v L, o = .returned v ∧ Qp (some (.int (0 : Int32))) h0 n0 v U'.heap L ∧ FrameEnd U o U' L ({ frames := 1, cells := 0, slots := 0, locals := 12 } : Room).cells ({ frames := 1, cells := 0, slots := 0, locals := 12 } : Room).slots) := by
  refine MetFree.of_bodySF (plainFor_of_name pn_0) hisR ?_
  intro p e s m args below meth c s₁ Bd hml0 hP0 hK
  obtain ⟨rfl, hZ, hh⟩ := hP0
  have hx := Bd.exec
  have hby := Bd.bytes
  have hml : c.maxLocals = 4 := hml0
  have hown : s.vm.findClass "com/example/rederive/rederive/program/Comparison$Operator" = some m.cls := findClass_of_methodNamed Bd.named
  have hnm := (name_of_methodNamed Bd.named Bd.method).1
  have X0 : Stand p l e ({ frames := 1, cells := 0, slots := 0, locals := 12 } : Room) s m #[(.ref (w 2)), (.int (1 : Int32)), (.int (0 : Int32))] below meth c s₁ [] 0 0 := Stand.of_body Bd
  have e0 : s₁.heap = h0 := by rw [← hh, Bd.state]; rfl
  have N0 := Fr.nil n0
  suffices hgo : Go p e below (fun o U' => ∃ v L, o = .returned v ∧ Qp (some (.int (0 : Int32))) h0 n0 v U'.heap L ∧ FrameEnd s o U' L ({ frames := 1, cells := 0, slots := 0, locals := 12 } : Room).cells ({ frames := 1, cells := 0, slots := 0, locals := 12 } : Room).slots) s₁ (mkF m 0 #[.val (.ref (w 2)), .val (.int (1 : Int32)), .val (.int (0 : Int32)), .unset] []) by
    obtain ⟨s2, o, g1, g2, g3, g4⟩ := hgo
    refine ⟨s2, o, castTop (?_ : entryFrame m #[(.ref (w 2)), (.int (1 : Int32)), (.int (0 : Int32))] 4 = _) g1, g2, g3, g4⟩
    first | (simp [entryFrame, mkF, argsToLocals, Value.category]; done) | rfl
  refine Go.on (T' := s₁) (g' := (mkF m 1 #[.val (.ref (w 2)), .val (.int (1 : Int32)), .val (.int (0 : Int32)), .unset] [(.ref (w 2))])) (fun t k => XS.aloadN X0.here hx rfl (hb hby d2_0) rfl rfl k) ?_
  obtain ⟨cq50, kq50, q50a, q50b, q50c⟩ := isOf hZ e0 (pin_8 hP)
  obtain ⟨_, _, ⟨T50, L50, k50, n50⟩, -, X50, ⟨Lc50, hQ50, l50, y50, z50⟩, st50⟩ := X0.virtualBackUp hx (x := (⟨"com/example/rederive/rederive/program/Comparison$Operator", "ordinal", "()I"⟩ : MethodName)) (y := (⟨"java/lang/Enum", "ordinal", "()I"⟩ : MethodName)) (owner := "java/lang/Enum") hown (mvT hZ (hw _ (List.mem_of_getElem? (i := 28) rfl))) (mvT hZ (hw _ (List.mem_of_getElem? (i := 29) rfl))) (mvT hZ (hw _ (List.mem_of_getElem? (i := 30) rfl))) (by decide) (mvT hZ (hw _ (List.mem_of_getElem? (i := 32) rfl))) (mvT hZ (hw _ (List.mem_of_getElem? (i := 31) rfl))) (backOf (W := 0) (rm3_2 l Z a0 hw [] w h0 n0 (Nat.le_trans Z0 (own_ext0 h0).1) hP) hZ (hw _ (List.mem_of_getElem? (i := 34) rfl)) (hw _ (List.mem_of_getElem? (i := 33) rfl)) (by decide) (by decide)) q50a q50c (g := (mkF m 1 #[.val (.ref (w 2)), .val (.int (1 : Int32)), .val (.int (0 : Int32)), .unset] [(.ref (w 2))])) rfl (by rw [hml]; rfl) (Steps.refl _) (argsL := []) (rest := []) (lenOf pd_1 rfl) rfl (by show 2 * 0 + _ ≤ _; exact Nat.le_of_eq rfl) (hb hby d2_1) (fun _ _ => ⟨rfl, e0, (by decide : 0 + 0 ≤ _), (by decide : 0 + 0 ≤ _)⟩)
  dsimp only [Pt.U, Pt.locs, Pt.cells, Pt.slots] at X50 l50 y50 z50 st50 hQ50
  subst l50 y50 z50
  obtain ⟨rfl, N50q, e50⟩ := hQ50
  have N50 := Fr.app N0 N50q
  refine Go.on (T' := T50) (g' := (mkF m 4 #[.val (.ref (w 2)), .val (.int (1 : Int32)), .val (.int (0 : Int32)), .unset] [(.int (2 : Int32))])) (fun t k => st50.trans k) ?_
  refine Go.on (T' := T50) (g' := (mkF m 68 #[.val (.ref (w 2)), .val (.int (1 : Int32)), .val (.int (0 : Int32)), .unset] [])) (fun t k => XS.tswIn X50.here hx rfl (pc0 := 4) (pc' := 68) (o := 64) rfl (hb hby d2_4) rfl (by decide) (by decide) (by decide) (by decide) k) ?_
  refine Go.on (T' := T50) (g' := (mkF m 69 #[.val (.ref (w 2)), .val (.int (1 : Int32)), .val (.int (0 : Int32)), .unset] [(.int (1 : Int32))])) (fun t k => XS.iloadN X50.here hx rfl (hb hby d2_68) rfl k) ?_
  refine Go.on (T' := T50) (g' := (mkF m 70 #[.val (.ref (w 2)), .val (.int (1 : Int32)), .val (.int (0 : Int32)), .unset] [(.int (0 : Int32)), (.int (1 : Int32))])) (fun t k => XS.iloadN X50.here hx rfl (hb hby d2_69) rfl k) ?_
  refine Go.on (T' := T50) (g' := (mkF m 77 #[.val (.ref (w 2)), .val (.int (1 : Int32)), .val (.int (0 : Int32)), .unset] [])) (fun t k => XS.icmpYes X50.here hx rfl (pc0 := 70) (pc' := 77) rfl (hb hby d2_70) rfl (flt (by decide : ¬ ((1 : Int32) < (0 : Int32)))).2.1 (by decide) (by decide) k) ?_
  refine Go.on (T' := T50) (g' := (mkF m 78 #[.val (.ref (w 2)), .val (.int (1 : Int32)), .val (.int (0 : Int32)), .unset] [(.int (0 : Int32))])) (fun t k => XS.iconst X50.here hx rfl (hb hby d2_77) k) ?_
  refine Go.on (T' := T50) (g' := (mkF m 79 #[.val (.ref (w 2)), .val (.int (1 : Int32)), .val (.int (0 : Int32)), .val (.int (0 : Int32))] [])) (fun t k => XS.istoreN X50.here hx rfl (hb hby d2_78) rfl (l' := #[.val (.ref (w 2)), .val (.int (1 : Int32)), .val (.int (0 : Int32)), .val (.int (0 : Int32))]) rfl k) ?_
  refine Go.on (T' := T50) (g' := (mkF m 121 #[.val (.ref (w 2)), .val (.int (1 : Int32)), .val (.int (0 : Int32)), .val (.int (0 : Int32))] [])) (fun t k => XS.goto X50.here hx rfl (pc0 := 79) (pc' := 121) rfl (hb hby d2_79) (by decide) (by decide) k) ?_
  refine Go.on (T' := T50) (g' := (mkF m 122 #[.val (.ref (w 2)), .val (.int (1 : Int32)), .val (.int (0 : Int32)), .val (.int (0 : Int32))] [(.int (0 : Int32))])) (fun t k => XS.iloadN X50.here hx rfl (hb hby d2_121) rfl k) ?_
  obtain ⟨fs, hr, hrun, hended, hW, hsame⟩ := X50.leave (v := some (.int (0 : Int32))) (fun h => by rw [Bd.returns] at h; cases h)
  exact ⟨_, _, retN X50 hx (t := .boolean) Bd.returns (by simp) (hb hby d2_122) hr, hrun, hended, _, _, rfl, ⟨rfl, N50, e50⟩, ⟨_, rfl⟩, hW, hsame.mono (by decide) (by decide)⟩
set_option maxRecDepth 65536 in
set_option maxHeartbeats 40000000 in
theorem rm1_3 (l : Launch) (Z : State) (a0 : Array Value) (hw : ∀ d ∈ tables_1, d.before a0 Z = true) (ws : List Jvm.Cond) (w : Nat → Addr) (h0 : Heap) (n0 : Nat) (Z0 : n0 ≤ h0.size) (hP : Pins Z h0 w) :
    MetFree l (⟨"com/example/rederive/rederive/program/Comparison$Operator", "ordersNumbers", "()Z"⟩ : MethodName) (head1 (Jvm.Cond.code (⟨"com/example/rederive/rederive/program/Comparison$Operator", "ordersNumbers", "()Z"⟩ : MethodName) prog_41_method_4_code 1 (some .boolean) :: ws) ({ frames := 0, cells := 0, slots := 0, locals := 0 } : Room)) (fun a U => a = #[(.ref (w 3))] ∧ Z.Warmed39 U.vm ∧ U.heap = h0) (fun _ _ _ _ _ => True) (fun _ U o U' => ∃ v L, o = .returned v ∧ Qp (some (.int (1 : Int32))) h0 n0 v U'.heap L ∧ FrameEnd U o U' L ({ frames := 0, cells := 0, slots := 0, locals := 0 } : Room).cells ({ frames := 0, cells := 0, slots := 0, locals := 0 } : Room).slots) := by
  refine MetFree.of_bodySF (plainFor_of_name pn_0) hisR ?_
  intro p e s m args below meth c s₁ Bd hml0 hP0 hK
  obtain ⟨rfl, hZ, hh⟩ := hP0
  have hx := Bd.exec
  have hby := Bd.bytes
  have hml : c.maxLocals = 1 := hml0
  have hown : s.vm.findClass "com/example/rederive/rederive/program/Comparison$Operator" = some m.cls := findClass_of_methodNamed Bd.named
  have hnm := (name_of_methodNamed Bd.named Bd.method).1
  have X0 : Stand p l e ({ frames := 0, cells := 0, slots := 0, locals := 0 } : Room) s m #[(.ref (w 3))] below meth c s₁ [] 0 0 := Stand.of_body Bd
  have e0 : s₁.heap = h0 := by rw [← hh, Bd.state]; rfl
  have N0 := Fr.nil n0
  suffices hgo : Go p e below (fun o U' => ∃ v L, o = .returned v ∧ Qp (some (.int (1 : Int32))) h0 n0 v U'.heap L ∧ FrameEnd s o U' L ({ frames := 0, cells := 0, slots := 0, locals := 0 } : Room).cells ({ frames := 0, cells := 0, slots := 0, locals := 0 } : Room).slots) s₁ (mkF m 0 #[.val (.ref (w 3))] []) by
    obtain ⟨s2, o, g1, g2, g3, g4⟩ := hgo
    refine ⟨s2, o, castTop (?_ : entryFrame m #[(.ref (w 3))] 1 = _) g1, g2, g3, g4⟩
    first | (simp [entryFrame, mkF, argsToLocals, Value.category]; done) | rfl
  refine Go.on (T' := s₁) (g' := (mkF m 1 #[.val (.ref (w 3))] [(.ref (w 3))])) (fun t k => XS.aloadN X0.here hx rfl (hb hby d1_0) rfl rfl k) ?_
  obtain ⟨T54, X54, e54, st54⟩ := getS2 X0 hx hZ hown (host := "") (Or.inl (hw _ (List.mem_of_getElem? (i := 22) rfl))) Via.refl e0 (pin_0 hP) (g := (mkF m 1 #[.val (.ref (w 3))] [(.ref (w 3))])) rfl (hb hby d1_1)
  refine Go.on (T' := T54) (g' := (mkF m 4 #[.val (.ref (w 3))] [(.ref (w 0)), (.ref (w 3))])) st54 ?_
  refine Go.on (T' := T54) (g' := (mkF m 7 #[.val (.ref (w 3))] [])) (fun t k => Jvm.RoadKit.acmp (g := (mkF m 4 #[.val (.ref (w 3))] [(.ref (w 0)), (.ref (w 3))])) X54 hx rfl rfl rfl (pc0 := 4) (pc' := 7) (same := false) rfl (hb hby d1_4) rfl (decide_eq_false fun q => (own_ne (pin_13 hP) (pin_12 hP) (by decide)) (Value.ref.inj q)) (by decide) (by decide) k) ?_
  refine Go.on (T' := T54) (g' := (mkF m 8 #[.val (.ref (w 3))] [(.ref (w 3))])) (fun t k => XS.aloadN X54.here hx rfl (hb hby d1_7) rfl rfl k) ?_
  obtain ⟨T55, X55, e55, st55⟩ := getS2 X54 hx hZ hown (host := "") (Or.inl (hw _ (List.mem_of_getElem? (i := 37) rfl))) Via.refl e54 (pin_1 hP) (g := (mkF m 8 #[.val (.ref (w 3))] [(.ref (w 3))])) rfl (hb hby d1_8)
  refine Go.on (T' := T55) (g' := (mkF m 11 #[.val (.ref (w 3))] [(.ref (w 1)), (.ref (w 3))])) st55 ?_
  refine Go.on (T' := T55) (g' := (mkF m 14 #[.val (.ref (w 3))] [])) (fun t k => Jvm.RoadKit.acmp (g := (mkF m 11 #[.val (.ref (w 3))] [(.ref (w 1)), (.ref (w 3))])) X55 hx rfl rfl rfl (pc0 := 11) (pc' := 14) (same := false) rfl (hb hby d1_11) rfl (decide_eq_false fun q => (own_ne (pin_13 hP) (pin_14 hP) (by decide)) (Value.ref.inj q)) (by decide) (by decide) k) ?_
  refine Go.on (T' := T55) (g' := (mkF m 15 #[.val (.ref (w 3))] [(.int (1 : Int32))])) (fun t k => XS.iconst X55.here hx rfl (hb hby d1_14) k) ?_
  refine Go.on (T' := T55) (g' := (mkF m 19 #[.val (.ref (w 3))] [(.int (1 : Int32))])) (fun t k => XS.goto X55.here hx rfl (pc0 := 15) (pc' := 19) rfl (hb hby d1_15) (by decide) (by decide) k) ?_
  obtain ⟨fs, hr, hrun, hended, hW, hsame⟩ := X55.leave (v := some (.int (1 : Int32))) (fun h => by rw [Bd.returns] at h; cases h)
  exact ⟨_, _, retN X55 hx (t := .boolean) Bd.returns (by simp) (hb hby d1_19) hr, hrun, hended, _, _, rfl, ⟨rfl, N0, e55⟩, ⟨_, rfl⟩, hW, hsame.mono (by decide) (by decide)⟩
set_option maxRecDepth 65536 in
set_option maxHeartbeats 40000000 in
theorem rm3_3 (l : Launch) (Z : State) (a0 : Array Value) (hw : ∀ d ∈ tables_1, d.before a0 Z = true) (ws : List Jvm.Cond) (w : Nat → Addr) (h0 : Heap) (n0 : Nat) (Z0 : n0 ≤ h0.size) (hP : Pins Z h0 w) :
    MetFree l (⟨"java/lang/Enum", "ordinal", "()I"⟩ : MethodName) (head1 (Jvm.Cond.code (⟨"java/lang/Enum", "ordinal", "()I"⟩ : MethodName) jdk_37_method_2_code 1 (some .int) :: ws) ({ frames := 0, cells := 0, slots := 0, locals := 0 } : Room)) (fun a U => a = #[(.ref (w 3))] ∧ Z.Warmed39 U.vm ∧ U.heap = h0) (fun _ _ _ _ _ => True) (fun _ U o U' => ∃ v L, o = .returned v ∧ Qp (some (.int (3 : Int32))) h0 n0 v U'.heap L ∧ FrameEnd U o U' L ({ frames := 0, cells := 0, slots := 0, locals := 0 } : Room).cells ({ frames := 0, cells := 0, slots := 0, locals := 0 } : Room).slots) := by
  refine MetFree.of_bodySF (plainFor_of_name pn_1) hisR ?_
  intro p e s m args below meth c s₁ Bd hml0 hP0 hK
  obtain ⟨rfl, hZ, hh⟩ := hP0
  have hx := Bd.exec
  have hby := Bd.bytes
  have hml : c.maxLocals = 1 := hml0
  have hown : s.vm.findClass "java/lang/Enum" = some m.cls := findClass_of_methodNamed Bd.named
  have hnm := (name_of_methodNamed Bd.named Bd.method).1
  have X0 : Stand p l e ({ frames := 0, cells := 0, slots := 0, locals := 0 } : Room) s m #[(.ref (w 3))] below meth c s₁ [] 0 0 := Stand.of_body Bd
  have e0 : s₁.heap = h0 := by rw [← hh, Bd.state]; rfl
  have N0 := Fr.nil n0
  suffices hgo : Go p e below (fun o U' => ∃ v L, o = .returned v ∧ Qp (some (.int (3 : Int32))) h0 n0 v U'.heap L ∧ FrameEnd s o U' L ({ frames := 0, cells := 0, slots := 0, locals := 0 } : Room).cells ({ frames := 0, cells := 0, slots := 0, locals := 0 } : Room).slots) s₁ (mkF m 0 #[.val (.ref (w 3))] []) by
    obtain ⟨s2, o, g1, g2, g3, g4⟩ := hgo
    refine ⟨s2, o, castTop (?_ : entryFrame m #[(.ref (w 3))] 1 = _) g1, g2, g3, g4⟩
    first | (simp [entryFrame, mkF, argsToLocals, Value.category]; done) | rfl
  refine Go.on (T' := s₁) (g' := (mkF m 1 #[.val (.ref (w 3))] [(.ref (w 3))])) (fun t k => XS.aloadN X0.here hx rfl (hb hby d3_0) rfl rfl k) ?_
  obtain ⟨T59, X59, e59, st59⟩ := getF X0 hx hZ hown (host := "") (Or.inl (hw _ (List.mem_of_getElem? (i := 35) rfl))) Via.refl e0 (pin_13 hP) (g := (mkF m 1 #[.val (.ref (w 3))] [(.ref (w 3))])) rfl rfl (hb hby d3_1)
  refine Go.on (T' := T59) (g' := (mkF m 4 #[.val (.ref (w 3))] [(.int (3 : Int32))])) st59 ?_
  obtain ⟨fs, hr, hrun, hended, hW, hsame⟩ := X59.leave (v := some (.int (3 : Int32))) (fun h => by rw [Bd.returns] at h; cases h)
  exact ⟨_, _, retOut X59 hx Bd.returns rfl (Or.inl ⟨rfl, Or.inl rfl, _, rfl⟩) (hb hby d3_4) hr, hrun, hended, _, _, rfl, ⟨rfl, N0, e59⟩, ⟨_, rfl⟩, hW, hsame.mono (by decide) (by decide)⟩
theorem d2_82 : decode prog_41_method_5_code 82 = .ok (.iload_n 1, 1) := by decide +kernel
theorem d2_83 : decode prog_41_method_5_code 83 = .ok (.iload_n 2, 1) := by decide +kernel
theorem d2_84 : decode prog_41_method_5_code 84 = .ok (.if_icmp .gt 7, 3) := by decide +kernel
theorem d2_87 : decode prog_41_method_5_code 87 = .ok (.iconst 1, 1) := by decide +kernel
theorem d2_88 : decode prog_41_method_5_code 88 = .ok (.goto 4, 3) := by decide +kernel
theorem d2_92 : decode prog_41_method_5_code 92 = .ok (.istore_n 3, 1) := by decide +kernel
theorem d2_93 : decode prog_41_method_5_code 93 = .ok (.goto 28, 3) := by decide +kernel
set_option maxRecDepth 65536 in
set_option maxHeartbeats 40000000 in
theorem rm2_6 (l : Launch) (Z : State) (a0 : Array Value) (hw : ∀ d ∈ tables_1, d.before a0 Z = true) (ws : List Jvm.Cond) (w : Nat → Addr) (h0 : Heap) (n0 : Nat) (Z0 : n0 ≤ h0.size) (hP : Pins Z h0 w) :
    MetFree l (⟨"com/example/rederive/rederive/program/Comparison$Operator", "holds", "(II)Z"⟩ : MethodName) (head1 (Jvm.Cond.code (⟨"com/example/rederive/rederive/program/Comparison$Operator", "holds", "(II)Z"⟩ : MethodName) prog_41_method_5_code 4 (some .boolean) :: ws) ({ frames := 1, cells := 0, slots := 0, locals := 12 } : Room)) (fun a U => a = #[(.ref (w 3)), (.int (0 : Int32)), (.int (1 : Int32))] ∧ Z.Warmed39 U.vm ∧ U.heap = h0) (fun _ _ _ _ _ => True) (fun _ U o U' => ∃ v L, o = .returned v ∧ Qp (some (.int (1 : Int32))) h0 n0 v U'.heap L ∧ FrameEnd U o U' L ({ frames := 1, cells := 0, slots := 0, locals := 12 } : Room).cells ({ frames := 1, cells := 0, slots := 0, locals := 12 } : Room).slots) := by
  refine MetFree.of_bodySF (plainFor_of_name pn_0) hisR ?_
  intro p e s m args below meth c s₁ Bd hml0 hP0 hK
  obtain ⟨rfl, hZ, hh⟩ := hP0
  have hx := Bd.exec
  have hby := Bd.bytes
  have hml : c.maxLocals = 4 := hml0
  have hown : s.vm.findClass "com/example/rederive/rederive/program/Comparison$Operator" = some m.cls := findClass_of_methodNamed Bd.named
  have hnm := (name_of_methodNamed Bd.named Bd.method).1
  have X0 : Stand p l e ({ frames := 1, cells := 0, slots := 0, locals := 12 } : Room) s m #[(.ref (w 3)), (.int (0 : Int32)), (.int (1 : Int32))] below meth c s₁ [] 0 0 := Stand.of_body Bd
  have e0 : s₁.heap = h0 := by rw [← hh, Bd.state]; rfl
  have N0 := Fr.nil n0
  suffices hgo : Go p e below (fun o U' => ∃ v L, o = .returned v ∧ Qp (some (.int (1 : Int32))) h0 n0 v U'.heap L ∧ FrameEnd s o U' L ({ frames := 1, cells := 0, slots := 0, locals := 12 } : Room).cells ({ frames := 1, cells := 0, slots := 0, locals := 12 } : Room).slots) s₁ (mkF m 0 #[.val (.ref (w 3)), .val (.int (0 : Int32)), .val (.int (1 : Int32)), .unset] []) by
    obtain ⟨s2, o, g1, g2, g3, g4⟩ := hgo
    refine ⟨s2, o, castTop (?_ : entryFrame m #[(.ref (w 3)), (.int (0 : Int32)), (.int (1 : Int32))] 4 = _) g1, g2, g3, g4⟩
    first | (simp [entryFrame, mkF, argsToLocals, Value.category]; done) | rfl
  refine Go.on (T' := s₁) (g' := (mkF m 1 #[.val (.ref (w 3)), .val (.int (0 : Int32)), .val (.int (1 : Int32)), .unset] [(.ref (w 3))])) (fun t k => XS.aloadN X0.here hx rfl (hb hby d2_0) rfl rfl k) ?_
  obtain ⟨cq60, kq60, q60a, q60b, q60c⟩ := isOf hZ e0 (pin_9 hP)
  obtain ⟨_, _, ⟨T60, L60, k60, n60⟩, -, X60, ⟨Lc60, hQ60, l60, y60, z60⟩, st60⟩ := X0.virtualBackUp hx (x := (⟨"com/example/rederive/rederive/program/Comparison$Operator", "ordinal", "()I"⟩ : MethodName)) (y := (⟨"java/lang/Enum", "ordinal", "()I"⟩ : MethodName)) (owner := "java/lang/Enum") hown (mvT hZ (hw _ (List.mem_of_getElem? (i := 28) rfl))) (mvT hZ (hw _ (List.mem_of_getElem? (i := 29) rfl))) (mvT hZ (hw _ (List.mem_of_getElem? (i := 30) rfl))) (by decide) (mvT hZ (hw _ (List.mem_of_getElem? (i := 32) rfl))) (mvT hZ (hw _ (List.mem_of_getElem? (i := 31) rfl))) (backOf (W := 0) (rm3_3 l Z a0 hw [] w h0 n0 (Nat.le_trans Z0 (own_ext0 h0).1) hP) hZ (hw _ (List.mem_of_getElem? (i := 34) rfl)) (hw _ (List.mem_of_getElem? (i := 33) rfl)) (by decide) (by decide)) q60a q60c (g := (mkF m 1 #[.val (.ref (w 3)), .val (.int (0 : Int32)), .val (.int (1 : Int32)), .unset] [(.ref (w 3))])) rfl (by rw [hml]; rfl) (Steps.refl _) (argsL := []) (rest := []) (lenOf pd_1 rfl) rfl (by show 2 * 0 + _ ≤ _; exact Nat.le_of_eq rfl) (hb hby d2_1) (fun _ _ => ⟨rfl, e0, (by decide : 0 + 0 ≤ _), (by decide : 0 + 0 ≤ _)⟩)
  dsimp only [Pt.U, Pt.locs, Pt.cells, Pt.slots] at X60 l60 y60 z60 st60 hQ60
  subst l60 y60 z60
  obtain ⟨rfl, N60q, e60⟩ := hQ60
  have N60 := Fr.app N0 N60q
  refine Go.on (T' := T60) (g' := (mkF m 4 #[.val (.ref (w 3)), .val (.int (0 : Int32)), .val (.int (1 : Int32)), .unset] [(.int (3 : Int32))])) (fun t k => st60.trans k) ?_
  refine Go.on (T' := T60) (g' := (mkF m 82 #[.val (.ref (w 3)), .val (.int (0 : Int32)), .val (.int (1 : Int32)), .unset] [])) (fun t k => XS.tswIn X60.here hx rfl (pc0 := 4) (pc' := 82) (o := 78) rfl (hb hby d2_4) rfl (by decide) (by decide) (by decide) (by decide) k) ?_
  refine Go.on (T' := T60) (g' := (mkF m 83 #[.val (.ref (w 3)), .val (.int (0 : Int32)), .val (.int (1 : Int32)), .unset] [(.int (0 : Int32))])) (fun t k => XS.iloadN X60.here hx rfl (hb hby d2_82) rfl k) ?_
  refine Go.on (T' := T60) (g' := (mkF m 84 #[.val (.ref (w 3)), .val (.int (0 : Int32)), .val (.int (1 : Int32)), .unset] [(.int (1 : Int32)), (.int (0 : Int32))])) (fun t k => XS.iloadN X60.here hx rfl (hb hby d2_83) rfl k) ?_
  refine Go.on (T' := T60) (g' := (mkF m 87 #[.val (.ref (w 3)), .val (.int (0 : Int32)), .val (.int (1 : Int32)), .unset] [])) (fun t k => XS.icmpNo X60.here hx rfl (hb hby d2_84) rfl (flt (by decide : ¬ ((1 : Int32) < (0 : Int32)))).2.2.1 k) ?_
  refine Go.on (T' := T60) (g' := (mkF m 88 #[.val (.ref (w 3)), .val (.int (0 : Int32)), .val (.int (1 : Int32)), .unset] [(.int (1 : Int32))])) (fun t k => XS.iconst X60.here hx rfl (hb hby d2_87) k) ?_
  refine Go.on (T' := T60) (g' := (mkF m 92 #[.val (.ref (w 3)), .val (.int (0 : Int32)), .val (.int (1 : Int32)), .unset] [(.int (1 : Int32))])) (fun t k => XS.goto X60.here hx rfl (pc0 := 88) (pc' := 92) rfl (hb hby d2_88) (by decide) (by decide) k) ?_
  refine Go.on (T' := T60) (g' := (mkF m 93 #[.val (.ref (w 3)), .val (.int (0 : Int32)), .val (.int (1 : Int32)), .val (.int (1 : Int32))] [])) (fun t k => XS.istoreN X60.here hx rfl (hb hby d2_92) rfl (l' := #[.val (.ref (w 3)), .val (.int (0 : Int32)), .val (.int (1 : Int32)), .val (.int (1 : Int32))]) rfl k) ?_
  refine Go.on (T' := T60) (g' := (mkF m 121 #[.val (.ref (w 3)), .val (.int (0 : Int32)), .val (.int (1 : Int32)), .val (.int (1 : Int32))] [])) (fun t k => XS.goto X60.here hx rfl (pc0 := 93) (pc' := 121) rfl (hb hby d2_93) (by decide) (by decide) k) ?_
  refine Go.on (T' := T60) (g' := (mkF m 122 #[.val (.ref (w 3)), .val (.int (0 : Int32)), .val (.int (1 : Int32)), .val (.int (1 : Int32))] [(.int (1 : Int32))])) (fun t k => XS.iloadN X60.here hx rfl (hb hby d2_121) rfl k) ?_
  obtain ⟨fs, hr, hrun, hended, hW, hsame⟩ := X60.leave (v := some (.int (1 : Int32))) (fun h => by rw [Bd.returns] at h; cases h)
  exact ⟨_, _, retN X60 hx (t := .boolean) Bd.returns (by simp) (hb hby d2_122) hr, hrun, hended, _, _, rfl, ⟨rfl, N60, e60⟩, ⟨_, rfl⟩, hW, hsame.mono (by decide) (by decide)⟩
theorem d2_91 : decode prog_41_method_5_code 91 = .ok (.iconst 0, 1) := by decide +kernel
set_option maxRecDepth 65536 in
set_option maxHeartbeats 40000000 in
theorem rm2_7 (l : Launch) (Z : State) (a0 : Array Value) (hw : ∀ d ∈ tables_1, d.before a0 Z = true) (ws : List Jvm.Cond) (w : Nat → Addr) (h0 : Heap) (n0 : Nat) (Z0 : n0 ≤ h0.size) (hP : Pins Z h0 w) :
    MetFree l (⟨"com/example/rederive/rederive/program/Comparison$Operator", "holds", "(II)Z"⟩ : MethodName) (head1 (Jvm.Cond.code (⟨"com/example/rederive/rederive/program/Comparison$Operator", "holds", "(II)Z"⟩ : MethodName) prog_41_method_5_code 4 (some .boolean) :: ws) ({ frames := 1, cells := 0, slots := 0, locals := 12 } : Room)) (fun a U => a = #[(.ref (w 3)), (.int (1 : Int32)), (.int (0 : Int32))] ∧ Z.Warmed39 U.vm ∧ U.heap = h0) (fun _ _ _ _ _ => True) (fun _ U o U' => ∃ v L, o = .returned v ∧ Qp (some (.int (0 : Int32))) h0 n0 v U'.heap L ∧ FrameEnd U o U' L ({ frames := 1, cells := 0, slots := 0, locals := 12 } : Room).cells ({ frames := 1, cells := 0, slots := 0, locals := 12 } : Room).slots) := by
  refine MetFree.of_bodySF (plainFor_of_name pn_0) hisR ?_
  intro p e s m args below meth c s₁ Bd hml0 hP0 hK
  obtain ⟨rfl, hZ, hh⟩ := hP0
  have hx := Bd.exec
  have hby := Bd.bytes
  have hml : c.maxLocals = 4 := hml0
  have hown : s.vm.findClass "com/example/rederive/rederive/program/Comparison$Operator" = some m.cls := findClass_of_methodNamed Bd.named
  have hnm := (name_of_methodNamed Bd.named Bd.method).1
  have X0 : Stand p l e ({ frames := 1, cells := 0, slots := 0, locals := 12 } : Room) s m #[(.ref (w 3)), (.int (1 : Int32)), (.int (0 : Int32))] below meth c s₁ [] 0 0 := Stand.of_body Bd
  have e0 : s₁.heap = h0 := by rw [← hh, Bd.state]; rfl
  have N0 := Fr.nil n0
  suffices hgo : Go p e below (fun o U' => ∃ v L, o = .returned v ∧ Qp (some (.int (0 : Int32))) h0 n0 v U'.heap L ∧ FrameEnd s o U' L ({ frames := 1, cells := 0, slots := 0, locals := 12 } : Room).cells ({ frames := 1, cells := 0, slots := 0, locals := 12 } : Room).slots) s₁ (mkF m 0 #[.val (.ref (w 3)), .val (.int (1 : Int32)), .val (.int (0 : Int32)), .unset] []) by
    obtain ⟨s2, o, g1, g2, g3, g4⟩ := hgo
    refine ⟨s2, o, castTop (?_ : entryFrame m #[(.ref (w 3)), (.int (1 : Int32)), (.int (0 : Int32))] 4 = _) g1, g2, g3, g4⟩
    first | (simp [entryFrame, mkF, argsToLocals, Value.category]; done) | rfl
  refine Go.on (T' := s₁) (g' := (mkF m 1 #[.val (.ref (w 3)), .val (.int (1 : Int32)), .val (.int (0 : Int32)), .unset] [(.ref (w 3))])) (fun t k => XS.aloadN X0.here hx rfl (hb hby d2_0) rfl rfl k) ?_
  obtain ⟨cq63, kq63, q63a, q63b, q63c⟩ := isOf hZ e0 (pin_9 hP)
  obtain ⟨_, _, ⟨T63, L63, k63, n63⟩, -, X63, ⟨Lc63, hQ63, l63, y63, z63⟩, st63⟩ := X0.virtualBackUp hx (x := (⟨"com/example/rederive/rederive/program/Comparison$Operator", "ordinal", "()I"⟩ : MethodName)) (y := (⟨"java/lang/Enum", "ordinal", "()I"⟩ : MethodName)) (owner := "java/lang/Enum") hown (mvT hZ (hw _ (List.mem_of_getElem? (i := 28) rfl))) (mvT hZ (hw _ (List.mem_of_getElem? (i := 29) rfl))) (mvT hZ (hw _ (List.mem_of_getElem? (i := 30) rfl))) (by decide) (mvT hZ (hw _ (List.mem_of_getElem? (i := 32) rfl))) (mvT hZ (hw _ (List.mem_of_getElem? (i := 31) rfl))) (backOf (W := 0) (rm3_3 l Z a0 hw [] w h0 n0 (Nat.le_trans Z0 (own_ext0 h0).1) hP) hZ (hw _ (List.mem_of_getElem? (i := 34) rfl)) (hw _ (List.mem_of_getElem? (i := 33) rfl)) (by decide) (by decide)) q63a q63c (g := (mkF m 1 #[.val (.ref (w 3)), .val (.int (1 : Int32)), .val (.int (0 : Int32)), .unset] [(.ref (w 3))])) rfl (by rw [hml]; rfl) (Steps.refl _) (argsL := []) (rest := []) (lenOf pd_1 rfl) rfl (by show 2 * 0 + _ ≤ _; exact Nat.le_of_eq rfl) (hb hby d2_1) (fun _ _ => ⟨rfl, e0, (by decide : 0 + 0 ≤ _), (by decide : 0 + 0 ≤ _)⟩)
  dsimp only [Pt.U, Pt.locs, Pt.cells, Pt.slots] at X63 l63 y63 z63 st63 hQ63
  subst l63 y63 z63
  obtain ⟨rfl, N63q, e63⟩ := hQ63
  have N63 := Fr.app N0 N63q
  refine Go.on (T' := T63) (g' := (mkF m 4 #[.val (.ref (w 3)), .val (.int (1 : Int32)), .val (.int (0 : Int32)), .unset] [(.int (3 : Int32))])) (fun t k => st63.trans k) ?_
  refine Go.on (T' := T63) (g' := (mkF m 82 #[.val (.ref (w 3)), .val (.int (1 : Int32)), .val (.int (0 : Int32)), .unset] [])) (fun t k => XS.tswIn X63.here hx rfl (pc0 := 4) (pc' := 82) (o := 78) rfl (hb hby d2_4) rfl (by decide) (by decide) (by decide) (by decide) k) ?_
  refine Go.on (T' := T63) (g' := (mkF m 83 #[.val (.ref (w 3)), .val (.int (1 : Int32)), .val (.int (0 : Int32)), .unset] [(.int (1 : Int32))])) (fun t k => XS.iloadN X63.here hx rfl (hb hby d2_82) rfl k) ?_
  refine Go.on (T' := T63) (g' := (mkF m 84 #[.val (.ref (w 3)), .val (.int (1 : Int32)), .val (.int (0 : Int32)), .unset] [(.int (0 : Int32)), (.int (1 : Int32))])) (fun t k => XS.iloadN X63.here hx rfl (hb hby d2_83) rfl k) ?_
  refine Go.on (T' := T63) (g' := (mkF m 91 #[.val (.ref (w 3)), .val (.int (1 : Int32)), .val (.int (0 : Int32)), .unset] [])) (fun t k => XS.icmpYes X63.here hx rfl (pc0 := 84) (pc' := 91) rfl (hb hby d2_84) rfl (tlt (by decide : (0 : Int32) < (1 : Int32))).2.2.1 (by decide) (by decide) k) ?_
  refine Go.on (T' := T63) (g' := (mkF m 92 #[.val (.ref (w 3)), .val (.int (1 : Int32)), .val (.int (0 : Int32)), .unset] [(.int (0 : Int32))])) (fun t k => XS.iconst X63.here hx rfl (hb hby d2_91) k) ?_
  refine Go.on (T' := T63) (g' := (mkF m 93 #[.val (.ref (w 3)), .val (.int (1 : Int32)), .val (.int (0 : Int32)), .val (.int (0 : Int32))] [])) (fun t k => XS.istoreN X63.here hx rfl (hb hby d2_92) rfl (l' := #[.val (.ref (w 3)), .val (.int (1 : Int32)), .val (.int (0 : Int32)), .val (.int (0 : Int32))]) rfl k) ?_
  refine Go.on (T' := T63) (g' := (mkF m 121 #[.val (.ref (w 3)), .val (.int (1 : Int32)), .val (.int (0 : Int32)), .val (.int (0 : Int32))] [])) (fun t k => XS.goto X63.here hx rfl (pc0 := 93) (pc' := 121) rfl (hb hby d2_93) (by decide) (by decide) k) ?_
  refine Go.on (T' := T63) (g' := (mkF m 122 #[.val (.ref (w 3)), .val (.int (1 : Int32)), .val (.int (0 : Int32)), .val (.int (0 : Int32))] [(.int (0 : Int32))])) (fun t k => XS.iloadN X63.here hx rfl (hb hby d2_121) rfl k) ?_
  obtain ⟨fs, hr, hrun, hended, hW, hsame⟩ := X63.leave (v := some (.int (0 : Int32))) (fun h => by rw [Bd.returns] at h; cases h)
  exact ⟨_, _, retN X63 hx (t := .boolean) Bd.returns (by simp) (hb hby d2_122) hr, hrun, hended, _, _, rfl, ⟨rfl, N63, e63⟩, ⟨_, rfl⟩, hW, hsame.mono (by decide) (by decide)⟩
set_option maxRecDepth 65536 in
set_option maxHeartbeats 40000000 in
theorem rm1_4 (l : Launch) (Z : State) (a0 : Array Value) (hw : ∀ d ∈ tables_1, d.before a0 Z = true) (ws : List Jvm.Cond) (w : Nat → Addr) (h0 : Heap) (n0 : Nat) (Z0 : n0 ≤ h0.size) (hP : Pins Z h0 w) :
    MetFree l (⟨"com/example/rederive/rederive/program/Comparison$Operator", "ordersNumbers", "()Z"⟩ : MethodName) (head1 (Jvm.Cond.code (⟨"com/example/rederive/rederive/program/Comparison$Operator", "ordersNumbers", "()Z"⟩ : MethodName) prog_41_method_4_code 1 (some .boolean) :: ws) ({ frames := 0, cells := 0, slots := 0, locals := 0 } : Room)) (fun a U => a = #[(.ref (w 4))] ∧ Z.Warmed39 U.vm ∧ U.heap = h0) (fun _ _ _ _ _ => True) (fun _ U o U' => ∃ v L, o = .returned v ∧ Qp (some (.int (1 : Int32))) h0 n0 v U'.heap L ∧ FrameEnd U o U' L ({ frames := 0, cells := 0, slots := 0, locals := 0 } : Room).cells ({ frames := 0, cells := 0, slots := 0, locals := 0 } : Room).slots) := by
  refine MetFree.of_bodySF (plainFor_of_name pn_0) hisR ?_
  intro p e s m args below meth c s₁ Bd hml0 hP0 hK
  obtain ⟨rfl, hZ, hh⟩ := hP0
  have hx := Bd.exec
  have hby := Bd.bytes
  have hml : c.maxLocals = 1 := hml0
  have hown : s.vm.findClass "com/example/rederive/rederive/program/Comparison$Operator" = some m.cls := findClass_of_methodNamed Bd.named
  have hnm := (name_of_methodNamed Bd.named Bd.method).1
  have X0 : Stand p l e ({ frames := 0, cells := 0, slots := 0, locals := 0 } : Room) s m #[(.ref (w 4))] below meth c s₁ [] 0 0 := Stand.of_body Bd
  have e0 : s₁.heap = h0 := by rw [← hh, Bd.state]; rfl
  have N0 := Fr.nil n0
  suffices hgo : Go p e below (fun o U' => ∃ v L, o = .returned v ∧ Qp (some (.int (1 : Int32))) h0 n0 v U'.heap L ∧ FrameEnd s o U' L ({ frames := 0, cells := 0, slots := 0, locals := 0 } : Room).cells ({ frames := 0, cells := 0, slots := 0, locals := 0 } : Room).slots) s₁ (mkF m 0 #[.val (.ref (w 4))] []) by
    obtain ⟨s2, o, g1, g2, g3, g4⟩ := hgo
    refine ⟨s2, o, castTop (?_ : entryFrame m #[(.ref (w 4))] 1 = _) g1, g2, g3, g4⟩
    first | (simp [entryFrame, mkF, argsToLocals, Value.category]; done) | rfl
  refine Go.on (T' := s₁) (g' := (mkF m 1 #[.val (.ref (w 4))] [(.ref (w 4))])) (fun t k => XS.aloadN X0.here hx rfl (hb hby d1_0) rfl rfl k) ?_
  obtain ⟨T67, X67, e67, st67⟩ := getS2 X0 hx hZ hown (host := "") (Or.inl (hw _ (List.mem_of_getElem? (i := 22) rfl))) Via.refl e0 (pin_0 hP) (g := (mkF m 1 #[.val (.ref (w 4))] [(.ref (w 4))])) rfl (hb hby d1_1)
  refine Go.on (T' := T67) (g' := (mkF m 4 #[.val (.ref (w 4))] [(.ref (w 0)), (.ref (w 4))])) st67 ?_
  refine Go.on (T' := T67) (g' := (mkF m 7 #[.val (.ref (w 4))] [])) (fun t k => Jvm.RoadKit.acmp (g := (mkF m 4 #[.val (.ref (w 4))] [(.ref (w 0)), (.ref (w 4))])) X67 hx rfl rfl rfl (pc0 := 4) (pc' := 7) (same := false) rfl (hb hby d1_4) rfl (decide_eq_false fun q => (own_ne (pin_17 hP) (pin_12 hP) (by decide)) (Value.ref.inj q)) (by decide) (by decide) k) ?_
  refine Go.on (T' := T67) (g' := (mkF m 8 #[.val (.ref (w 4))] [(.ref (w 4))])) (fun t k => XS.aloadN X67.here hx rfl (hb hby d1_7) rfl rfl k) ?_
  obtain ⟨T68, X68, e68, st68⟩ := getS2 X67 hx hZ hown (host := "") (Or.inl (hw _ (List.mem_of_getElem? (i := 37) rfl))) Via.refl e67 (pin_1 hP) (g := (mkF m 8 #[.val (.ref (w 4))] [(.ref (w 4))])) rfl (hb hby d1_8)
  refine Go.on (T' := T68) (g' := (mkF m 11 #[.val (.ref (w 4))] [(.ref (w 1)), (.ref (w 4))])) st68 ?_
  refine Go.on (T' := T68) (g' := (mkF m 14 #[.val (.ref (w 4))] [])) (fun t k => Jvm.RoadKit.acmp (g := (mkF m 11 #[.val (.ref (w 4))] [(.ref (w 1)), (.ref (w 4))])) X68 hx rfl rfl rfl (pc0 := 11) (pc' := 14) (same := false) rfl (hb hby d1_11) rfl (decide_eq_false fun q => (own_ne (pin_17 hP) (pin_14 hP) (by decide)) (Value.ref.inj q)) (by decide) (by decide) k) ?_
  refine Go.on (T' := T68) (g' := (mkF m 15 #[.val (.ref (w 4))] [(.int (1 : Int32))])) (fun t k => XS.iconst X68.here hx rfl (hb hby d1_14) k) ?_
  refine Go.on (T' := T68) (g' := (mkF m 19 #[.val (.ref (w 4))] [(.int (1 : Int32))])) (fun t k => XS.goto X68.here hx rfl (pc0 := 15) (pc' := 19) rfl (hb hby d1_15) (by decide) (by decide) k) ?_
  obtain ⟨fs, hr, hrun, hended, hW, hsame⟩ := X68.leave (v := some (.int (1 : Int32))) (fun h => by rw [Bd.returns] at h; cases h)
  exact ⟨_, _, retN X68 hx (t := .boolean) Bd.returns (by simp) (hb hby d1_19) hr, hrun, hended, _, _, rfl, ⟨rfl, N0, e68⟩, ⟨_, rfl⟩, hW, hsame.mono (by decide) (by decide)⟩
set_option maxRecDepth 65536 in
set_option maxHeartbeats 40000000 in
theorem rm3_4 (l : Launch) (Z : State) (a0 : Array Value) (hw : ∀ d ∈ tables_1, d.before a0 Z = true) (ws : List Jvm.Cond) (w : Nat → Addr) (h0 : Heap) (n0 : Nat) (Z0 : n0 ≤ h0.size) (hP : Pins Z h0 w) :
    MetFree l (⟨"java/lang/Enum", "ordinal", "()I"⟩ : MethodName) (head1 (Jvm.Cond.code (⟨"java/lang/Enum", "ordinal", "()I"⟩ : MethodName) jdk_37_method_2_code 1 (some .int) :: ws) ({ frames := 0, cells := 0, slots := 0, locals := 0 } : Room)) (fun a U => a = #[(.ref (w 4))] ∧ Z.Warmed39 U.vm ∧ U.heap = h0) (fun _ _ _ _ _ => True) (fun _ U o U' => ∃ v L, o = .returned v ∧ Qp (some (.int (4 : Int32))) h0 n0 v U'.heap L ∧ FrameEnd U o U' L ({ frames := 0, cells := 0, slots := 0, locals := 0 } : Room).cells ({ frames := 0, cells := 0, slots := 0, locals := 0 } : Room).slots) := by
  refine MetFree.of_bodySF (plainFor_of_name pn_1) hisR ?_
  intro p e s m args below meth c s₁ Bd hml0 hP0 hK
  obtain ⟨rfl, hZ, hh⟩ := hP0
  have hx := Bd.exec
  have hby := Bd.bytes
  have hml : c.maxLocals = 1 := hml0
  have hown : s.vm.findClass "java/lang/Enum" = some m.cls := findClass_of_methodNamed Bd.named
  have hnm := (name_of_methodNamed Bd.named Bd.method).1
  have X0 : Stand p l e ({ frames := 0, cells := 0, slots := 0, locals := 0 } : Room) s m #[(.ref (w 4))] below meth c s₁ [] 0 0 := Stand.of_body Bd
  have e0 : s₁.heap = h0 := by rw [← hh, Bd.state]; rfl
  have N0 := Fr.nil n0
  suffices hgo : Go p e below (fun o U' => ∃ v L, o = .returned v ∧ Qp (some (.int (4 : Int32))) h0 n0 v U'.heap L ∧ FrameEnd s o U' L ({ frames := 0, cells := 0, slots := 0, locals := 0 } : Room).cells ({ frames := 0, cells := 0, slots := 0, locals := 0 } : Room).slots) s₁ (mkF m 0 #[.val (.ref (w 4))] []) by
    obtain ⟨s2, o, g1, g2, g3, g4⟩ := hgo
    refine ⟨s2, o, castTop (?_ : entryFrame m #[(.ref (w 4))] 1 = _) g1, g2, g3, g4⟩
    first | (simp [entryFrame, mkF, argsToLocals, Value.category]; done) | rfl
  refine Go.on (T' := s₁) (g' := (mkF m 1 #[.val (.ref (w 4))] [(.ref (w 4))])) (fun t k => XS.aloadN X0.here hx rfl (hb hby d3_0) rfl rfl k) ?_
  obtain ⟨T72, X72, e72, st72⟩ := getF X0 hx hZ hown (host := "") (Or.inl (hw _ (List.mem_of_getElem? (i := 35) rfl))) Via.refl e0 (pin_17 hP) (g := (mkF m 1 #[.val (.ref (w 4))] [(.ref (w 4))])) rfl rfl (hb hby d3_1)
  refine Go.on (T' := T72) (g' := (mkF m 4 #[.val (.ref (w 4))] [(.int (4 : Int32))])) st72 ?_
  obtain ⟨fs, hr, hrun, hended, hW, hsame⟩ := X72.leave (v := some (.int (4 : Int32))) (fun h => by rw [Bd.returns] at h; cases h)
  exact ⟨_, _, retOut X72 hx Bd.returns rfl (Or.inl ⟨rfl, Or.inl rfl, _, rfl⟩) (hb hby d3_4) hr, hrun, hended, _, _, rfl, ⟨rfl, N0, e72⟩, ⟨_, rfl⟩, hW, hsame.mono (by decide) (by decide)⟩
theorem d2_96 : decode prog_41_method_5_code 96 = .ok (.iload_n 1, 1) := by decide +kernel
theorem d2_97 : decode prog_41_method_5_code 97 = .ok (.iload_n 2, 1) := by decide +kernel
theorem d2_98 : decode prog_41_method_5_code 98 = .ok (.if_icmp .le 7, 3) := by decide +kernel
theorem d2_105 : decode prog_41_method_5_code 105 = .ok (.iconst 0, 1) := by decide +kernel
theorem d2_106 : decode prog_41_method_5_code 106 = .ok (.istore_n 3, 1) := by decide +kernel
theorem d2_107 : decode prog_41_method_5_code 107 = .ok (.goto 14, 3) := by decide +kernel
set_option maxRecDepth 65536 in
set_option maxHeartbeats 40000000 in
theorem rm2_8 (l : Launch) (Z : State) (a0 : Array Value) (hw : ∀ d ∈ tables_1, d.before a0 Z = true) (ws : List Jvm.Cond) (w : Nat → Addr) (h0 : Heap) (n0 : Nat) (Z0 : n0 ≤ h0.size) (hP : Pins Z h0 w) :
    MetFree l (⟨"com/example/rederive/rederive/program/Comparison$Operator", "holds", "(II)Z"⟩ : MethodName) (head1 (Jvm.Cond.code (⟨"com/example/rederive/rederive/program/Comparison$Operator", "holds", "(II)Z"⟩ : MethodName) prog_41_method_5_code 4 (some .boolean) :: ws) ({ frames := 1, cells := 0, slots := 0, locals := 12 } : Room)) (fun a U => a = #[(.ref (w 4)), (.int (0 : Int32)), (.int (1 : Int32))] ∧ Z.Warmed39 U.vm ∧ U.heap = h0) (fun _ _ _ _ _ => True) (fun _ U o U' => ∃ v L, o = .returned v ∧ Qp (some (.int (0 : Int32))) h0 n0 v U'.heap L ∧ FrameEnd U o U' L ({ frames := 1, cells := 0, slots := 0, locals := 12 } : Room).cells ({ frames := 1, cells := 0, slots := 0, locals := 12 } : Room).slots) := by
  refine MetFree.of_bodySF (plainFor_of_name pn_0) hisR ?_
  intro p e s m args below meth c s₁ Bd hml0 hP0 hK
  obtain ⟨rfl, hZ, hh⟩ := hP0
  have hx := Bd.exec
  have hby := Bd.bytes
  have hml : c.maxLocals = 4 := hml0
  have hown : s.vm.findClass "com/example/rederive/rederive/program/Comparison$Operator" = some m.cls := findClass_of_methodNamed Bd.named
  have hnm := (name_of_methodNamed Bd.named Bd.method).1
  have X0 : Stand p l e ({ frames := 1, cells := 0, slots := 0, locals := 12 } : Room) s m #[(.ref (w 4)), (.int (0 : Int32)), (.int (1 : Int32))] below meth c s₁ [] 0 0 := Stand.of_body Bd
  have e0 : s₁.heap = h0 := by rw [← hh, Bd.state]; rfl
  have N0 := Fr.nil n0
  suffices hgo : Go p e below (fun o U' => ∃ v L, o = .returned v ∧ Qp (some (.int (0 : Int32))) h0 n0 v U'.heap L ∧ FrameEnd s o U' L ({ frames := 1, cells := 0, slots := 0, locals := 12 } : Room).cells ({ frames := 1, cells := 0, slots := 0, locals := 12 } : Room).slots) s₁ (mkF m 0 #[.val (.ref (w 4)), .val (.int (0 : Int32)), .val (.int (1 : Int32)), .unset] []) by
    obtain ⟨s2, o, g1, g2, g3, g4⟩ := hgo
    refine ⟨s2, o, castTop (?_ : entryFrame m #[(.ref (w 4)), (.int (0 : Int32)), (.int (1 : Int32))] 4 = _) g1, g2, g3, g4⟩
    first | (simp [entryFrame, mkF, argsToLocals, Value.category]; done) | rfl
  refine Go.on (T' := s₁) (g' := (mkF m 1 #[.val (.ref (w 4)), .val (.int (0 : Int32)), .val (.int (1 : Int32)), .unset] [(.ref (w 4))])) (fun t k => XS.aloadN X0.here hx rfl (hb hby d2_0) rfl rfl k) ?_
  obtain ⟨cq73, kq73, q73a, q73b, q73c⟩ := isOf hZ e0 (pin_10 hP)
  obtain ⟨_, _, ⟨T73, L73, k73, n73⟩, -, X73, ⟨Lc73, hQ73, l73, y73, z73⟩, st73⟩ := X0.virtualBackUp hx (x := (⟨"com/example/rederive/rederive/program/Comparison$Operator", "ordinal", "()I"⟩ : MethodName)) (y := (⟨"java/lang/Enum", "ordinal", "()I"⟩ : MethodName)) (owner := "java/lang/Enum") hown (mvT hZ (hw _ (List.mem_of_getElem? (i := 28) rfl))) (mvT hZ (hw _ (List.mem_of_getElem? (i := 29) rfl))) (mvT hZ (hw _ (List.mem_of_getElem? (i := 30) rfl))) (by decide) (mvT hZ (hw _ (List.mem_of_getElem? (i := 32) rfl))) (mvT hZ (hw _ (List.mem_of_getElem? (i := 31) rfl))) (backOf (W := 0) (rm3_4 l Z a0 hw [] w h0 n0 (Nat.le_trans Z0 (own_ext0 h0).1) hP) hZ (hw _ (List.mem_of_getElem? (i := 34) rfl)) (hw _ (List.mem_of_getElem? (i := 33) rfl)) (by decide) (by decide)) q73a q73c (g := (mkF m 1 #[.val (.ref (w 4)), .val (.int (0 : Int32)), .val (.int (1 : Int32)), .unset] [(.ref (w 4))])) rfl (by rw [hml]; rfl) (Steps.refl _) (argsL := []) (rest := []) (lenOf pd_1 rfl) rfl (by show 2 * 0 + _ ≤ _; exact Nat.le_of_eq rfl) (hb hby d2_1) (fun _ _ => ⟨rfl, e0, (by decide : 0 + 0 ≤ _), (by decide : 0 + 0 ≤ _)⟩)
  dsimp only [Pt.U, Pt.locs, Pt.cells, Pt.slots] at X73 l73 y73 z73 st73 hQ73
  subst l73 y73 z73
  obtain ⟨rfl, N73q, e73⟩ := hQ73
  have N73 := Fr.app N0 N73q
  refine Go.on (T' := T73) (g' := (mkF m 4 #[.val (.ref (w 4)), .val (.int (0 : Int32)), .val (.int (1 : Int32)), .unset] [(.int (4 : Int32))])) (fun t k => st73.trans k) ?_
  refine Go.on (T' := T73) (g' := (mkF m 96 #[.val (.ref (w 4)), .val (.int (0 : Int32)), .val (.int (1 : Int32)), .unset] [])) (fun t k => XS.tswIn X73.here hx rfl (pc0 := 4) (pc' := 96) (o := 92) rfl (hb hby d2_4) rfl (by decide) (by decide) (by decide) (by decide) k) ?_
  refine Go.on (T' := T73) (g' := (mkF m 97 #[.val (.ref (w 4)), .val (.int (0 : Int32)), .val (.int (1 : Int32)), .unset] [(.int (0 : Int32))])) (fun t k => XS.iloadN X73.here hx rfl (hb hby d2_96) rfl k) ?_
  refine Go.on (T' := T73) (g' := (mkF m 98 #[.val (.ref (w 4)), .val (.int (0 : Int32)), .val (.int (1 : Int32)), .unset] [(.int (1 : Int32)), (.int (0 : Int32))])) (fun t k => XS.iloadN X73.here hx rfl (hb hby d2_97) rfl k) ?_
  refine Go.on (T' := T73) (g' := (mkF m 105 #[.val (.ref (w 4)), .val (.int (0 : Int32)), .val (.int (1 : Int32)), .unset] [])) (fun t k => XS.icmpYes X73.here hx rfl (pc0 := 98) (pc' := 105) rfl (hb hby d2_98) rfl (flt (by decide : ¬ ((1 : Int32) < (0 : Int32)))).2.2.2 (by decide) (by decide) k) ?_
  refine Go.on (T' := T73) (g' := (mkF m 106 #[.val (.ref (w 4)), .val (.int (0 : Int32)), .val (.int (1 : Int32)), .unset] [(.int (0 : Int32))])) (fun t k => XS.iconst X73.here hx rfl (hb hby d2_105) k) ?_
  refine Go.on (T' := T73) (g' := (mkF m 107 #[.val (.ref (w 4)), .val (.int (0 : Int32)), .val (.int (1 : Int32)), .val (.int (0 : Int32))] [])) (fun t k => XS.istoreN X73.here hx rfl (hb hby d2_106) rfl (l' := #[.val (.ref (w 4)), .val (.int (0 : Int32)), .val (.int (1 : Int32)), .val (.int (0 : Int32))]) rfl k) ?_
  refine Go.on (T' := T73) (g' := (mkF m 121 #[.val (.ref (w 4)), .val (.int (0 : Int32)), .val (.int (1 : Int32)), .val (.int (0 : Int32))] [])) (fun t k => XS.goto X73.here hx rfl (pc0 := 107) (pc' := 121) rfl (hb hby d2_107) (by decide) (by decide) k) ?_
  refine Go.on (T' := T73) (g' := (mkF m 122 #[.val (.ref (w 4)), .val (.int (0 : Int32)), .val (.int (1 : Int32)), .val (.int (0 : Int32))] [(.int (0 : Int32))])) (fun t k => XS.iloadN X73.here hx rfl (hb hby d2_121) rfl k) ?_
  obtain ⟨fs, hr, hrun, hended, hW, hsame⟩ := X73.leave (v := some (.int (0 : Int32))) (fun h => by rw [Bd.returns] at h; cases h)
  exact ⟨_, _, retN X73 hx (t := .boolean) Bd.returns (by simp) (hb hby d2_122) hr, hrun, hended, _, _, rfl, ⟨rfl, N73, e73⟩, ⟨_, rfl⟩, hW, hsame.mono (by decide) (by decide)⟩
theorem d2_101 : decode prog_41_method_5_code 101 = .ok (.iconst 1, 1) := by decide +kernel
theorem d2_102 : decode prog_41_method_5_code 102 = .ok (.goto 4, 3) := by decide +kernel
set_option maxRecDepth 65536 in
set_option maxHeartbeats 40000000 in
theorem rm2_9 (l : Launch) (Z : State) (a0 : Array Value) (hw : ∀ d ∈ tables_1, d.before a0 Z = true) (ws : List Jvm.Cond) (w : Nat → Addr) (h0 : Heap) (n0 : Nat) (Z0 : n0 ≤ h0.size) (hP : Pins Z h0 w) :
    MetFree l (⟨"com/example/rederive/rederive/program/Comparison$Operator", "holds", "(II)Z"⟩ : MethodName) (head1 (Jvm.Cond.code (⟨"com/example/rederive/rederive/program/Comparison$Operator", "holds", "(II)Z"⟩ : MethodName) prog_41_method_5_code 4 (some .boolean) :: ws) ({ frames := 1, cells := 0, slots := 0, locals := 12 } : Room)) (fun a U => a = #[(.ref (w 4)), (.int (1 : Int32)), (.int (0 : Int32))] ∧ Z.Warmed39 U.vm ∧ U.heap = h0) (fun _ _ _ _ _ => True) (fun _ U o U' => ∃ v L, o = .returned v ∧ Qp (some (.int (1 : Int32))) h0 n0 v U'.heap L ∧ FrameEnd U o U' L ({ frames := 1, cells := 0, slots := 0, locals := 12 } : Room).cells ({ frames := 1, cells := 0, slots := 0, locals := 12 } : Room).slots) := by
  refine MetFree.of_bodySF (plainFor_of_name pn_0) hisR ?_
  intro p e s m args below meth c s₁ Bd hml0 hP0 hK
  obtain ⟨rfl, hZ, hh⟩ := hP0
  have hx := Bd.exec
  have hby := Bd.bytes
  have hml : c.maxLocals = 4 := hml0
  have hown : s.vm.findClass "com/example/rederive/rederive/program/Comparison$Operator" = some m.cls := findClass_of_methodNamed Bd.named
  have hnm := (name_of_methodNamed Bd.named Bd.method).1
  have X0 : Stand p l e ({ frames := 1, cells := 0, slots := 0, locals := 12 } : Room) s m #[(.ref (w 4)), (.int (1 : Int32)), (.int (0 : Int32))] below meth c s₁ [] 0 0 := Stand.of_body Bd
  have e0 : s₁.heap = h0 := by rw [← hh, Bd.state]; rfl
  have N0 := Fr.nil n0
  suffices hgo : Go p e below (fun o U' => ∃ v L, o = .returned v ∧ Qp (some (.int (1 : Int32))) h0 n0 v U'.heap L ∧ FrameEnd s o U' L ({ frames := 1, cells := 0, slots := 0, locals := 12 } : Room).cells ({ frames := 1, cells := 0, slots := 0, locals := 12 } : Room).slots) s₁ (mkF m 0 #[.val (.ref (w 4)), .val (.int (1 : Int32)), .val (.int (0 : Int32)), .unset] []) by
    obtain ⟨s2, o, g1, g2, g3, g4⟩ := hgo
    refine ⟨s2, o, castTop (?_ : entryFrame m #[(.ref (w 4)), (.int (1 : Int32)), (.int (0 : Int32))] 4 = _) g1, g2, g3, g4⟩
    first | (simp [entryFrame, mkF, argsToLocals, Value.category]; done) | rfl
  refine Go.on (T' := s₁) (g' := (mkF m 1 #[.val (.ref (w 4)), .val (.int (1 : Int32)), .val (.int (0 : Int32)), .unset] [(.ref (w 4))])) (fun t k => XS.aloadN X0.here hx rfl (hb hby d2_0) rfl rfl k) ?_
  obtain ⟨cq76, kq76, q76a, q76b, q76c⟩ := isOf hZ e0 (pin_10 hP)
  obtain ⟨_, _, ⟨T76, L76, k76, n76⟩, -, X76, ⟨Lc76, hQ76, l76, y76, z76⟩, st76⟩ := X0.virtualBackUp hx (x := (⟨"com/example/rederive/rederive/program/Comparison$Operator", "ordinal", "()I"⟩ : MethodName)) (y := (⟨"java/lang/Enum", "ordinal", "()I"⟩ : MethodName)) (owner := "java/lang/Enum") hown (mvT hZ (hw _ (List.mem_of_getElem? (i := 28) rfl))) (mvT hZ (hw _ (List.mem_of_getElem? (i := 29) rfl))) (mvT hZ (hw _ (List.mem_of_getElem? (i := 30) rfl))) (by decide) (mvT hZ (hw _ (List.mem_of_getElem? (i := 32) rfl))) (mvT hZ (hw _ (List.mem_of_getElem? (i := 31) rfl))) (backOf (W := 0) (rm3_4 l Z a0 hw [] w h0 n0 (Nat.le_trans Z0 (own_ext0 h0).1) hP) hZ (hw _ (List.mem_of_getElem? (i := 34) rfl)) (hw _ (List.mem_of_getElem? (i := 33) rfl)) (by decide) (by decide)) q76a q76c (g := (mkF m 1 #[.val (.ref (w 4)), .val (.int (1 : Int32)), .val (.int (0 : Int32)), .unset] [(.ref (w 4))])) rfl (by rw [hml]; rfl) (Steps.refl _) (argsL := []) (rest := []) (lenOf pd_1 rfl) rfl (by show 2 * 0 + _ ≤ _; exact Nat.le_of_eq rfl) (hb hby d2_1) (fun _ _ => ⟨rfl, e0, (by decide : 0 + 0 ≤ _), (by decide : 0 + 0 ≤ _)⟩)
  dsimp only [Pt.U, Pt.locs, Pt.cells, Pt.slots] at X76 l76 y76 z76 st76 hQ76
  subst l76 y76 z76
  obtain ⟨rfl, N76q, e76⟩ := hQ76
  have N76 := Fr.app N0 N76q
  refine Go.on (T' := T76) (g' := (mkF m 4 #[.val (.ref (w 4)), .val (.int (1 : Int32)), .val (.int (0 : Int32)), .unset] [(.int (4 : Int32))])) (fun t k => st76.trans k) ?_
  refine Go.on (T' := T76) (g' := (mkF m 96 #[.val (.ref (w 4)), .val (.int (1 : Int32)), .val (.int (0 : Int32)), .unset] [])) (fun t k => XS.tswIn X76.here hx rfl (pc0 := 4) (pc' := 96) (o := 92) rfl (hb hby d2_4) rfl (by decide) (by decide) (by decide) (by decide) k) ?_
  refine Go.on (T' := T76) (g' := (mkF m 97 #[.val (.ref (w 4)), .val (.int (1 : Int32)), .val (.int (0 : Int32)), .unset] [(.int (1 : Int32))])) (fun t k => XS.iloadN X76.here hx rfl (hb hby d2_96) rfl k) ?_
  refine Go.on (T' := T76) (g' := (mkF m 98 #[.val (.ref (w 4)), .val (.int (1 : Int32)), .val (.int (0 : Int32)), .unset] [(.int (0 : Int32)), (.int (1 : Int32))])) (fun t k => XS.iloadN X76.here hx rfl (hb hby d2_97) rfl k) ?_
  refine Go.on (T' := T76) (g' := (mkF m 101 #[.val (.ref (w 4)), .val (.int (1 : Int32)), .val (.int (0 : Int32)), .unset] [])) (fun t k => XS.icmpNo X76.here hx rfl (hb hby d2_98) rfl (tlt (by decide : (0 : Int32) < (1 : Int32))).2.2.2 k) ?_
  refine Go.on (T' := T76) (g' := (mkF m 102 #[.val (.ref (w 4)), .val (.int (1 : Int32)), .val (.int (0 : Int32)), .unset] [(.int (1 : Int32))])) (fun t k => XS.iconst X76.here hx rfl (hb hby d2_101) k) ?_
  refine Go.on (T' := T76) (g' := (mkF m 106 #[.val (.ref (w 4)), .val (.int (1 : Int32)), .val (.int (0 : Int32)), .unset] [(.int (1 : Int32))])) (fun t k => XS.goto X76.here hx rfl (pc0 := 102) (pc' := 106) rfl (hb hby d2_102) (by decide) (by decide) k) ?_
  refine Go.on (T' := T76) (g' := (mkF m 107 #[.val (.ref (w 4)), .val (.int (1 : Int32)), .val (.int (0 : Int32)), .val (.int (1 : Int32))] [])) (fun t k => XS.istoreN X76.here hx rfl (hb hby d2_106) rfl (l' := #[.val (.ref (w 4)), .val (.int (1 : Int32)), .val (.int (0 : Int32)), .val (.int (1 : Int32))]) rfl k) ?_
  refine Go.on (T' := T76) (g' := (mkF m 121 #[.val (.ref (w 4)), .val (.int (1 : Int32)), .val (.int (0 : Int32)), .val (.int (1 : Int32))] [])) (fun t k => XS.goto X76.here hx rfl (pc0 := 107) (pc' := 121) rfl (hb hby d2_107) (by decide) (by decide) k) ?_
  refine Go.on (T' := T76) (g' := (mkF m 122 #[.val (.ref (w 4)), .val (.int (1 : Int32)), .val (.int (0 : Int32)), .val (.int (1 : Int32))] [(.int (1 : Int32))])) (fun t k => XS.iloadN X76.here hx rfl (hb hby d2_121) rfl k) ?_
  obtain ⟨fs, hr, hrun, hended, hW, hsame⟩ := X76.leave (v := some (.int (1 : Int32))) (fun h => by rw [Bd.returns] at h; cases h)
  exact ⟨_, _, retN X76 hx (t := .boolean) Bd.returns (by simp) (hb hby d2_122) hr, hrun, hended, _, _, rfl, ⟨rfl, N76, e76⟩, ⟨_, rfl⟩, hW, hsame.mono (by decide) (by decide)⟩
set_option maxRecDepth 65536 in
set_option maxHeartbeats 40000000 in
theorem rm1_5 (l : Launch) (Z : State) (a0 : Array Value) (hw : ∀ d ∈ tables_1, d.before a0 Z = true) (ws : List Jvm.Cond) (w : Nat → Addr) (h0 : Heap) (n0 : Nat) (Z0 : n0 ≤ h0.size) (hP : Pins Z h0 w) :
    MetFree l (⟨"com/example/rederive/rederive/program/Comparison$Operator", "ordersNumbers", "()Z"⟩ : MethodName) (head1 (Jvm.Cond.code (⟨"com/example/rederive/rederive/program/Comparison$Operator", "ordersNumbers", "()Z"⟩ : MethodName) prog_41_method_4_code 1 (some .boolean) :: ws) ({ frames := 0, cells := 0, slots := 0, locals := 0 } : Room)) (fun a U => a = #[(.ref (w 5))] ∧ Z.Warmed39 U.vm ∧ U.heap = h0) (fun _ _ _ _ _ => True) (fun _ U o U' => ∃ v L, o = .returned v ∧ Qp (some (.int (1 : Int32))) h0 n0 v U'.heap L ∧ FrameEnd U o U' L ({ frames := 0, cells := 0, slots := 0, locals := 0 } : Room).cells ({ frames := 0, cells := 0, slots := 0, locals := 0 } : Room).slots) := by
  refine MetFree.of_bodySF (plainFor_of_name pn_0) hisR ?_
  intro p e s m args below meth c s₁ Bd hml0 hP0 hK
  obtain ⟨rfl, hZ, hh⟩ := hP0
  have hx := Bd.exec
  have hby := Bd.bytes
  have hml : c.maxLocals = 1 := hml0
  have hown : s.vm.findClass "com/example/rederive/rederive/program/Comparison$Operator" = some m.cls := findClass_of_methodNamed Bd.named
  have hnm := (name_of_methodNamed Bd.named Bd.method).1
  have X0 : Stand p l e ({ frames := 0, cells := 0, slots := 0, locals := 0 } : Room) s m #[(.ref (w 5))] below meth c s₁ [] 0 0 := Stand.of_body Bd
  have e0 : s₁.heap = h0 := by rw [← hh, Bd.state]; rfl
  have N0 := Fr.nil n0
  suffices hgo : Go p e below (fun o U' => ∃ v L, o = .returned v ∧ Qp (some (.int (1 : Int32))) h0 n0 v U'.heap L ∧ FrameEnd s o U' L ({ frames := 0, cells := 0, slots := 0, locals := 0 } : Room).cells ({ frames := 0, cells := 0, slots := 0, locals := 0 } : Room).slots) s₁ (mkF m 0 #[.val (.ref (w 5))] []) by
    obtain ⟨s2, o, g1, g2, g3, g4⟩ := hgo
    refine ⟨s2, o, castTop (?_ : entryFrame m #[(.ref (w 5))] 1 = _) g1, g2, g3, g4⟩
    first | (simp [entryFrame, mkF, argsToLocals, Value.category]; done) | rfl
  refine Go.on (T' := s₁) (g' := (mkF m 1 #[.val (.ref (w 5))] [(.ref (w 5))])) (fun t k => XS.aloadN X0.here hx rfl (hb hby d1_0) rfl rfl k) ?_
  obtain ⟨T80, X80, e80, st80⟩ := getS2 X0 hx hZ hown (host := "") (Or.inl (hw _ (List.mem_of_getElem? (i := 22) rfl))) Via.refl e0 (pin_0 hP) (g := (mkF m 1 #[.val (.ref (w 5))] [(.ref (w 5))])) rfl (hb hby d1_1)
  refine Go.on (T' := T80) (g' := (mkF m 4 #[.val (.ref (w 5))] [(.ref (w 0)), (.ref (w 5))])) st80 ?_
  refine Go.on (T' := T80) (g' := (mkF m 7 #[.val (.ref (w 5))] [])) (fun t k => Jvm.RoadKit.acmp (g := (mkF m 4 #[.val (.ref (w 5))] [(.ref (w 0)), (.ref (w 5))])) X80 hx rfl rfl rfl (pc0 := 4) (pc' := 7) (same := false) rfl (hb hby d1_4) rfl (decide_eq_false fun q => (own_ne (pin_16 hP) (pin_12 hP) (by decide)) (Value.ref.inj q)) (by decide) (by decide) k) ?_
  refine Go.on (T' := T80) (g' := (mkF m 8 #[.val (.ref (w 5))] [(.ref (w 5))])) (fun t k => XS.aloadN X80.here hx rfl (hb hby d1_7) rfl rfl k) ?_
  obtain ⟨T81, X81, e81, st81⟩ := getS2 X80 hx hZ hown (host := "") (Or.inl (hw _ (List.mem_of_getElem? (i := 37) rfl))) Via.refl e80 (pin_1 hP) (g := (mkF m 8 #[.val (.ref (w 5))] [(.ref (w 5))])) rfl (hb hby d1_8)
  refine Go.on (T' := T81) (g' := (mkF m 11 #[.val (.ref (w 5))] [(.ref (w 1)), (.ref (w 5))])) st81 ?_
  refine Go.on (T' := T81) (g' := (mkF m 14 #[.val (.ref (w 5))] [])) (fun t k => Jvm.RoadKit.acmp (g := (mkF m 11 #[.val (.ref (w 5))] [(.ref (w 1)), (.ref (w 5))])) X81 hx rfl rfl rfl (pc0 := 11) (pc' := 14) (same := false) rfl (hb hby d1_11) rfl (decide_eq_false fun q => (own_ne (pin_16 hP) (pin_14 hP) (by decide)) (Value.ref.inj q)) (by decide) (by decide) k) ?_
  refine Go.on (T' := T81) (g' := (mkF m 15 #[.val (.ref (w 5))] [(.int (1 : Int32))])) (fun t k => XS.iconst X81.here hx rfl (hb hby d1_14) k) ?_
  refine Go.on (T' := T81) (g' := (mkF m 19 #[.val (.ref (w 5))] [(.int (1 : Int32))])) (fun t k => XS.goto X81.here hx rfl (pc0 := 15) (pc' := 19) rfl (hb hby d1_15) (by decide) (by decide) k) ?_
  obtain ⟨fs, hr, hrun, hended, hW, hsame⟩ := X81.leave (v := some (.int (1 : Int32))) (fun h => by rw [Bd.returns] at h; cases h)
  exact ⟨_, _, retN X81 hx (t := .boolean) Bd.returns (by simp) (hb hby d1_19) hr, hrun, hended, _, _, rfl, ⟨rfl, N0, e81⟩, ⟨_, rfl⟩, hW, hsame.mono (by decide) (by decide)⟩
set_option maxRecDepth 65536 in
set_option maxHeartbeats 40000000 in
theorem rm3_5 (l : Launch) (Z : State) (a0 : Array Value) (hw : ∀ d ∈ tables_1, d.before a0 Z = true) (ws : List Jvm.Cond) (w : Nat → Addr) (h0 : Heap) (n0 : Nat) (Z0 : n0 ≤ h0.size) (hP : Pins Z h0 w) :
    MetFree l (⟨"java/lang/Enum", "ordinal", "()I"⟩ : MethodName) (head1 (Jvm.Cond.code (⟨"java/lang/Enum", "ordinal", "()I"⟩ : MethodName) jdk_37_method_2_code 1 (some .int) :: ws) ({ frames := 0, cells := 0, slots := 0, locals := 0 } : Room)) (fun a U => a = #[(.ref (w 5))] ∧ Z.Warmed39 U.vm ∧ U.heap = h0) (fun _ _ _ _ _ => True) (fun _ U o U' => ∃ v L, o = .returned v ∧ Qp (some (.int (5 : Int32))) h0 n0 v U'.heap L ∧ FrameEnd U o U' L ({ frames := 0, cells := 0, slots := 0, locals := 0 } : Room).cells ({ frames := 0, cells := 0, slots := 0, locals := 0 } : Room).slots) := by
  refine MetFree.of_bodySF (plainFor_of_name pn_1) hisR ?_
  intro p e s m args below meth c s₁ Bd hml0 hP0 hK
  obtain ⟨rfl, hZ, hh⟩ := hP0
  have hx := Bd.exec
  have hby := Bd.bytes
  have hml : c.maxLocals = 1 := hml0
  have hown : s.vm.findClass "java/lang/Enum" = some m.cls := findClass_of_methodNamed Bd.named
  have hnm := (name_of_methodNamed Bd.named Bd.method).1
  have X0 : Stand p l e ({ frames := 0, cells := 0, slots := 0, locals := 0 } : Room) s m #[(.ref (w 5))] below meth c s₁ [] 0 0 := Stand.of_body Bd
  have e0 : s₁.heap = h0 := by rw [← hh, Bd.state]; rfl
  have N0 := Fr.nil n0
  suffices hgo : Go p e below (fun o U' => ∃ v L, o = .returned v ∧ Qp (some (.int (5 : Int32))) h0 n0 v U'.heap L ∧ FrameEnd s o U' L ({ frames := 0, cells := 0, slots := 0, locals := 0 } : Room).cells ({ frames := 0, cells := 0, slots := 0, locals := 0 } : Room).slots) s₁ (mkF m 0 #[.val (.ref (w 5))] []) by
    obtain ⟨s2, o, g1, g2, g3, g4⟩ := hgo
    refine ⟨s2, o, castTop (?_ : entryFrame m #[(.ref (w 5))] 1 = _) g1, g2, g3, g4⟩
    first | (simp [entryFrame, mkF, argsToLocals, Value.category]; done) | rfl
  refine Go.on (T' := s₁) (g' := (mkF m 1 #[.val (.ref (w 5))] [(.ref (w 5))])) (fun t k => XS.aloadN X0.here hx rfl (hb hby d3_0) rfl rfl k) ?_
  obtain ⟨T85, X85, e85, st85⟩ := getF X0 hx hZ hown (host := "") (Or.inl (hw _ (List.mem_of_getElem? (i := 35) rfl))) Via.refl e0 (pin_16 hP) (g := (mkF m 1 #[.val (.ref (w 5))] [(.ref (w 5))])) rfl rfl (hb hby d3_1)
  refine Go.on (T' := T85) (g' := (mkF m 4 #[.val (.ref (w 5))] [(.int (5 : Int32))])) st85 ?_
  obtain ⟨fs, hr, hrun, hended, hW, hsame⟩ := X85.leave (v := some (.int (5 : Int32))) (fun h => by rw [Bd.returns] at h; cases h)
  exact ⟨_, _, retOut X85 hx Bd.returns rfl (Or.inl ⟨rfl, Or.inl rfl, _, rfl⟩) (hb hby d3_4) hr, hrun, hended, _, _, rfl, ⟨rfl, N0, e85⟩, ⟨_, rfl⟩, hW, hsame.mono (by decide) (by decide)⟩
theorem d2_110 : decode prog_41_method_5_code 110 = .ok (.iload_n 1, 1) := by decide +kernel
theorem d2_111 : decode prog_41_method_5_code 111 = .ok (.iload_n 2, 1) := by decide +kernel
theorem d2_112 : decode prog_41_method_5_code 112 = .ok (.if_icmp .lt 7, 3) := by decide +kernel
theorem d2_119 : decode prog_41_method_5_code 119 = .ok (.iconst 0, 1) := by decide +kernel
theorem d2_120 : decode prog_41_method_5_code 120 = .ok (.istore_n 3, 1) := by decide +kernel
set_option maxRecDepth 65536 in
set_option maxHeartbeats 40000000 in
theorem rm2_10 (l : Launch) (Z : State) (a0 : Array Value) (hw : ∀ d ∈ tables_1, d.before a0 Z = true) (ws : List Jvm.Cond) (w : Nat → Addr) (h0 : Heap) (n0 : Nat) (Z0 : n0 ≤ h0.size) (hP : Pins Z h0 w) :
    MetFree l (⟨"com/example/rederive/rederive/program/Comparison$Operator", "holds", "(II)Z"⟩ : MethodName) (head1 (Jvm.Cond.code (⟨"com/example/rederive/rederive/program/Comparison$Operator", "holds", "(II)Z"⟩ : MethodName) prog_41_method_5_code 4 (some .boolean) :: ws) ({ frames := 1, cells := 0, slots := 0, locals := 12 } : Room)) (fun a U => a = #[(.ref (w 5)), (.int (0 : Int32)), (.int (1 : Int32))] ∧ Z.Warmed39 U.vm ∧ U.heap = h0) (fun _ _ _ _ _ => True) (fun _ U o U' => ∃ v L, o = .returned v ∧ Qp (some (.int (0 : Int32))) h0 n0 v U'.heap L ∧ FrameEnd U o U' L ({ frames := 1, cells := 0, slots := 0, locals := 12 } : Room).cells ({ frames := 1, cells := 0, slots := 0, locals := 12 } : Room).slots) := by
  refine MetFree.of_bodySF (plainFor_of_name pn_0) hisR ?_
  intro p e s m args below meth c s₁ Bd hml0 hP0 hK
  obtain ⟨rfl, hZ, hh⟩ := hP0
  have hx := Bd.exec
  have hby := Bd.bytes
  have hml : c.maxLocals = 4 := hml0
  have hown : s.vm.findClass "com/example/rederive/rederive/program/Comparison$Operator" = some m.cls := findClass_of_methodNamed Bd.named
  have hnm := (name_of_methodNamed Bd.named Bd.method).1
  have X0 : Stand p l e ({ frames := 1, cells := 0, slots := 0, locals := 12 } : Room) s m #[(.ref (w 5)), (.int (0 : Int32)), (.int (1 : Int32))] below meth c s₁ [] 0 0 := Stand.of_body Bd
  have e0 : s₁.heap = h0 := by rw [← hh, Bd.state]; rfl
  have N0 := Fr.nil n0
  suffices hgo : Go p e below (fun o U' => ∃ v L, o = .returned v ∧ Qp (some (.int (0 : Int32))) h0 n0 v U'.heap L ∧ FrameEnd s o U' L ({ frames := 1, cells := 0, slots := 0, locals := 12 } : Room).cells ({ frames := 1, cells := 0, slots := 0, locals := 12 } : Room).slots) s₁ (mkF m 0 #[.val (.ref (w 5)), .val (.int (0 : Int32)), .val (.int (1 : Int32)), .unset] []) by
    obtain ⟨s2, o, g1, g2, g3, g4⟩ := hgo
    refine ⟨s2, o, castTop (?_ : entryFrame m #[(.ref (w 5)), (.int (0 : Int32)), (.int (1 : Int32))] 4 = _) g1, g2, g3, g4⟩
    first | (simp [entryFrame, mkF, argsToLocals, Value.category]; done) | rfl
  refine Go.on (T' := s₁) (g' := (mkF m 1 #[.val (.ref (w 5)), .val (.int (0 : Int32)), .val (.int (1 : Int32)), .unset] [(.ref (w 5))])) (fun t k => XS.aloadN X0.here hx rfl (hb hby d2_0) rfl rfl k) ?_
  obtain ⟨cq86, kq86, q86a, q86b, q86c⟩ := isOf hZ e0 (pin_11 hP)
  obtain ⟨_, _, ⟨T86, L86, k86, n86⟩, -, X86, ⟨Lc86, hQ86, l86, y86, z86⟩, st86⟩ := X0.virtualBackUp hx (x := (⟨"com/example/rederive/rederive/program/Comparison$Operator", "ordinal", "()I"⟩ : MethodName)) (y := (⟨"java/lang/Enum", "ordinal", "()I"⟩ : MethodName)) (owner := "java/lang/Enum") hown (mvT hZ (hw _ (List.mem_of_getElem? (i := 28) rfl))) (mvT hZ (hw _ (List.mem_of_getElem? (i := 29) rfl))) (mvT hZ (hw _ (List.mem_of_getElem? (i := 30) rfl))) (by decide) (mvT hZ (hw _ (List.mem_of_getElem? (i := 32) rfl))) (mvT hZ (hw _ (List.mem_of_getElem? (i := 31) rfl))) (backOf (W := 0) (rm3_5 l Z a0 hw [] w h0 n0 (Nat.le_trans Z0 (own_ext0 h0).1) hP) hZ (hw _ (List.mem_of_getElem? (i := 34) rfl)) (hw _ (List.mem_of_getElem? (i := 33) rfl)) (by decide) (by decide)) q86a q86c (g := (mkF m 1 #[.val (.ref (w 5)), .val (.int (0 : Int32)), .val (.int (1 : Int32)), .unset] [(.ref (w 5))])) rfl (by rw [hml]; rfl) (Steps.refl _) (argsL := []) (rest := []) (lenOf pd_1 rfl) rfl (by show 2 * 0 + _ ≤ _; exact Nat.le_of_eq rfl) (hb hby d2_1) (fun _ _ => ⟨rfl, e0, (by decide : 0 + 0 ≤ _), (by decide : 0 + 0 ≤ _)⟩)
  dsimp only [Pt.U, Pt.locs, Pt.cells, Pt.slots] at X86 l86 y86 z86 st86 hQ86
  subst l86 y86 z86
  obtain ⟨rfl, N86q, e86⟩ := hQ86
  have N86 := Fr.app N0 N86q
  refine Go.on (T' := T86) (g' := (mkF m 4 #[.val (.ref (w 5)), .val (.int (0 : Int32)), .val (.int (1 : Int32)), .unset] [(.int (5 : Int32))])) (fun t k => st86.trans k) ?_
  refine Go.on (T' := T86) (g' := (mkF m 110 #[.val (.ref (w 5)), .val (.int (0 : Int32)), .val (.int (1 : Int32)), .unset] [])) (fun t k => XS.tswOut X86.here hx rfl (pc0 := 4) (pc' := 110) rfl (hb hby d2_4) rfl (by decide) (by decide) (by decide) k) ?_
  refine Go.on (T' := T86) (g' := (mkF m 111 #[.val (.ref (w 5)), .val (.int (0 : Int32)), .val (.int (1 : Int32)), .unset] [(.int (0 : Int32))])) (fun t k => XS.iloadN X86.here hx rfl (hb hby d2_110) rfl k) ?_
  refine Go.on (T' := T86) (g' := (mkF m 112 #[.val (.ref (w 5)), .val (.int (0 : Int32)), .val (.int (1 : Int32)), .unset] [(.int (1 : Int32)), (.int (0 : Int32))])) (fun t k => XS.iloadN X86.here hx rfl (hb hby d2_111) rfl k) ?_
  refine Go.on (T' := T86) (g' := (mkF m 119 #[.val (.ref (w 5)), .val (.int (0 : Int32)), .val (.int (1 : Int32)), .unset] [])) (fun t k => XS.icmpYes X86.here hx rfl (pc0 := 112) (pc' := 119) rfl (hb hby d2_112) rfl (tlt (by decide : (0 : Int32) < (1 : Int32))).1 (by decide) (by decide) k) ?_
  refine Go.on (T' := T86) (g' := (mkF m 120 #[.val (.ref (w 5)), .val (.int (0 : Int32)), .val (.int (1 : Int32)), .unset] [(.int (0 : Int32))])) (fun t k => XS.iconst X86.here hx rfl (hb hby d2_119) k) ?_
  refine Go.on (T' := T86) (g' := (mkF m 121 #[.val (.ref (w 5)), .val (.int (0 : Int32)), .val (.int (1 : Int32)), .val (.int (0 : Int32))] [])) (fun t k => XS.istoreN X86.here hx rfl (hb hby d2_120) rfl (l' := #[.val (.ref (w 5)), .val (.int (0 : Int32)), .val (.int (1 : Int32)), .val (.int (0 : Int32))]) rfl k) ?_
  refine Go.on (T' := T86) (g' := (mkF m 122 #[.val (.ref (w 5)), .val (.int (0 : Int32)), .val (.int (1 : Int32)), .val (.int (0 : Int32))] [(.int (0 : Int32))])) (fun t k => XS.iloadN X86.here hx rfl (hb hby d2_121) rfl k) ?_
  obtain ⟨fs, hr, hrun, hended, hW, hsame⟩ := X86.leave (v := some (.int (0 : Int32))) (fun h => by rw [Bd.returns] at h; cases h)
  exact ⟨_, _, retN X86 hx (t := .boolean) Bd.returns (by simp) (hb hby d2_122) hr, hrun, hended, _, _, rfl, ⟨rfl, N86, e86⟩, ⟨_, rfl⟩, hW, hsame.mono (by decide) (by decide)⟩
theorem d2_115 : decode prog_41_method_5_code 115 = .ok (.iconst 1, 1) := by decide +kernel
theorem d2_116 : decode prog_41_method_5_code 116 = .ok (.goto 4, 3) := by decide +kernel
set_option maxRecDepth 65536 in
set_option maxHeartbeats 40000000 in
theorem rm2_11 (l : Launch) (Z : State) (a0 : Array Value) (hw : ∀ d ∈ tables_1, d.before a0 Z = true) (ws : List Jvm.Cond) (w : Nat → Addr) (h0 : Heap) (n0 : Nat) (Z0 : n0 ≤ h0.size) (hP : Pins Z h0 w) :
    MetFree l (⟨"com/example/rederive/rederive/program/Comparison$Operator", "holds", "(II)Z"⟩ : MethodName) (head1 (Jvm.Cond.code (⟨"com/example/rederive/rederive/program/Comparison$Operator", "holds", "(II)Z"⟩ : MethodName) prog_41_method_5_code 4 (some .boolean) :: ws) ({ frames := 1, cells := 0, slots := 0, locals := 12 } : Room)) (fun a U => a = #[(.ref (w 5)), (.int (1 : Int32)), (.int (0 : Int32))] ∧ Z.Warmed39 U.vm ∧ U.heap = h0) (fun _ _ _ _ _ => True) (fun _ U o U' => ∃ v L, o = .returned v ∧ Qp (some (.int (1 : Int32))) h0 n0 v U'.heap L ∧ FrameEnd U o U' L ({ frames := 1, cells := 0, slots := 0, locals := 12 } : Room).cells ({ frames := 1, cells := 0, slots := 0, locals := 12 } : Room).slots) := by
  refine MetFree.of_bodySF (plainFor_of_name pn_0) hisR ?_
  intro p e s m args below meth c s₁ Bd hml0 hP0 hK
  obtain ⟨rfl, hZ, hh⟩ := hP0
  have hx := Bd.exec
  have hby := Bd.bytes
  have hml : c.maxLocals = 4 := hml0
  have hown : s.vm.findClass "com/example/rederive/rederive/program/Comparison$Operator" = some m.cls := findClass_of_methodNamed Bd.named
  have hnm := (name_of_methodNamed Bd.named Bd.method).1
  have X0 : Stand p l e ({ frames := 1, cells := 0, slots := 0, locals := 12 } : Room) s m #[(.ref (w 5)), (.int (1 : Int32)), (.int (0 : Int32))] below meth c s₁ [] 0 0 := Stand.of_body Bd
  have e0 : s₁.heap = h0 := by rw [← hh, Bd.state]; rfl
  have N0 := Fr.nil n0
  suffices hgo : Go p e below (fun o U' => ∃ v L, o = .returned v ∧ Qp (some (.int (1 : Int32))) h0 n0 v U'.heap L ∧ FrameEnd s o U' L ({ frames := 1, cells := 0, slots := 0, locals := 12 } : Room).cells ({ frames := 1, cells := 0, slots := 0, locals := 12 } : Room).slots) s₁ (mkF m 0 #[.val (.ref (w 5)), .val (.int (1 : Int32)), .val (.int (0 : Int32)), .unset] []) by
    obtain ⟨s2, o, g1, g2, g3, g4⟩ := hgo
    refine ⟨s2, o, castTop (?_ : entryFrame m #[(.ref (w 5)), (.int (1 : Int32)), (.int (0 : Int32))] 4 = _) g1, g2, g3, g4⟩
    first | (simp [entryFrame, mkF, argsToLocals, Value.category]; done) | rfl
  refine Go.on (T' := s₁) (g' := (mkF m 1 #[.val (.ref (w 5)), .val (.int (1 : Int32)), .val (.int (0 : Int32)), .unset] [(.ref (w 5))])) (fun t k => XS.aloadN X0.here hx rfl (hb hby d2_0) rfl rfl k) ?_
  obtain ⟨cq89, kq89, q89a, q89b, q89c⟩ := isOf hZ e0 (pin_11 hP)
  obtain ⟨_, _, ⟨T89, L89, k89, n89⟩, -, X89, ⟨Lc89, hQ89, l89, y89, z89⟩, st89⟩ := X0.virtualBackUp hx (x := (⟨"com/example/rederive/rederive/program/Comparison$Operator", "ordinal", "()I"⟩ : MethodName)) (y := (⟨"java/lang/Enum", "ordinal", "()I"⟩ : MethodName)) (owner := "java/lang/Enum") hown (mvT hZ (hw _ (List.mem_of_getElem? (i := 28) rfl))) (mvT hZ (hw _ (List.mem_of_getElem? (i := 29) rfl))) (mvT hZ (hw _ (List.mem_of_getElem? (i := 30) rfl))) (by decide) (mvT hZ (hw _ (List.mem_of_getElem? (i := 32) rfl))) (mvT hZ (hw _ (List.mem_of_getElem? (i := 31) rfl))) (backOf (W := 0) (rm3_5 l Z a0 hw [] w h0 n0 (Nat.le_trans Z0 (own_ext0 h0).1) hP) hZ (hw _ (List.mem_of_getElem? (i := 34) rfl)) (hw _ (List.mem_of_getElem? (i := 33) rfl)) (by decide) (by decide)) q89a q89c (g := (mkF m 1 #[.val (.ref (w 5)), .val (.int (1 : Int32)), .val (.int (0 : Int32)), .unset] [(.ref (w 5))])) rfl (by rw [hml]; rfl) (Steps.refl _) (argsL := []) (rest := []) (lenOf pd_1 rfl) rfl (by show 2 * 0 + _ ≤ _; exact Nat.le_of_eq rfl) (hb hby d2_1) (fun _ _ => ⟨rfl, e0, (by decide : 0 + 0 ≤ _), (by decide : 0 + 0 ≤ _)⟩)
  dsimp only [Pt.U, Pt.locs, Pt.cells, Pt.slots] at X89 l89 y89 z89 st89 hQ89
  subst l89 y89 z89
  obtain ⟨rfl, N89q, e89⟩ := hQ89
  have N89 := Fr.app N0 N89q
  refine Go.on (T' := T89) (g' := (mkF m 4 #[.val (.ref (w 5)), .val (.int (1 : Int32)), .val (.int (0 : Int32)), .unset] [(.int (5 : Int32))])) (fun t k => st89.trans k) ?_
  refine Go.on (T' := T89) (g' := (mkF m 110 #[.val (.ref (w 5)), .val (.int (1 : Int32)), .val (.int (0 : Int32)), .unset] [])) (fun t k => XS.tswOut X89.here hx rfl (pc0 := 4) (pc' := 110) rfl (hb hby d2_4) rfl (by decide) (by decide) (by decide) k) ?_
  refine Go.on (T' := T89) (g' := (mkF m 111 #[.val (.ref (w 5)), .val (.int (1 : Int32)), .val (.int (0 : Int32)), .unset] [(.int (1 : Int32))])) (fun t k => XS.iloadN X89.here hx rfl (hb hby d2_110) rfl k) ?_
  refine Go.on (T' := T89) (g' := (mkF m 112 #[.val (.ref (w 5)), .val (.int (1 : Int32)), .val (.int (0 : Int32)), .unset] [(.int (0 : Int32)), (.int (1 : Int32))])) (fun t k => XS.iloadN X89.here hx rfl (hb hby d2_111) rfl k) ?_
  refine Go.on (T' := T89) (g' := (mkF m 115 #[.val (.ref (w 5)), .val (.int (1 : Int32)), .val (.int (0 : Int32)), .unset] [])) (fun t k => XS.icmpNo X89.here hx rfl (hb hby d2_112) rfl (flt (by decide : ¬ ((1 : Int32) < (0 : Int32)))).1 k) ?_
  refine Go.on (T' := T89) (g' := (mkF m 116 #[.val (.ref (w 5)), .val (.int (1 : Int32)), .val (.int (0 : Int32)), .unset] [(.int (1 : Int32))])) (fun t k => XS.iconst X89.here hx rfl (hb hby d2_115) k) ?_
  refine Go.on (T' := T89) (g' := (mkF m 120 #[.val (.ref (w 5)), .val (.int (1 : Int32)), .val (.int (0 : Int32)), .unset] [(.int (1 : Int32))])) (fun t k => XS.goto X89.here hx rfl (pc0 := 116) (pc' := 120) rfl (hb hby d2_116) (by decide) (by decide) k) ?_
  refine Go.on (T' := T89) (g' := (mkF m 121 #[.val (.ref (w 5)), .val (.int (1 : Int32)), .val (.int (0 : Int32)), .val (.int (1 : Int32))] [])) (fun t k => XS.istoreN X89.here hx rfl (hb hby d2_120) rfl (l' := #[.val (.ref (w 5)), .val (.int (1 : Int32)), .val (.int (0 : Int32)), .val (.int (1 : Int32))]) rfl k) ?_
  refine Go.on (T' := T89) (g' := (mkF m 122 #[.val (.ref (w 5)), .val (.int (1 : Int32)), .val (.int (0 : Int32)), .val (.int (1 : Int32))] [(.int (1 : Int32))])) (fun t k => XS.iloadN X89.here hx rfl (hb hby d2_121) rfl k) ?_
  obtain ⟨fs, hr, hrun, hended, hW, hsame⟩ := X89.leave (v := some (.int (1 : Int32))) (fun h => by rw [Bd.returns] at h; cases h)
  exact ⟨_, _, retN X89 hx (t := .boolean) Bd.returns (by simp) (hb hby d2_122) hr, hrun, hended, _, _, rfl, ⟨rfl, N89, e89⟩, ⟨_, rfl⟩, hW, hsame.mono (by decide) (by decide)⟩
theorem pn_2 : plainName "com/example/rederive/rederive/program/OperatorOrdersNumbersPinLaw" = true := by first | (simp [plainName, overriddenIn]; done) | decide +kernel
set_option maxRecDepth 65536 in
set_option maxHeartbeats 40000000 in
theorem rm0 (l : Launch) (Z : State) (a0 : Array Value) (hw : ∀ d ∈ tables_1, d.before a0 Z = true) (ws : List Jvm.Cond) (w : Nat → Addr) (h0 : Heap) (n0 : Nat) (Z0 : n0 ≤ h0.size) (hP : Pins Z h0 w) (i0 : Int32) :
    MetFree l x (head1 (Jvm.Cond.code x code maxLocals ret :: ws) room_1) (fun a U => a = #[(.int i0)] ∧ Z.Warmed39 U.vm ∧ U.heap = h0) (fun _ _ _ _ _ => True) (fun _ U o U' => ∃ v L, o = .returned v ∧ Ql (some (.int (1 : Int32))) n0 v L ∧ FrameEnd U o U' L 16 128) := by
  refine MetFree.of_bodySF (plainFor_of_name pn_2) hisR ?_
  intro p e s m args below meth c s₁ Bd hml0 hP0 hK
  obtain ⟨rfl, hZ, hh⟩ := hP0
  have hx := Bd.exec
  have hby := Bd.bytes
  have hml : c.maxLocals = 7 := hml0
  have hown : s.vm.findClass "com/example/rederive/rederive/program/OperatorOrdersNumbersPinLaw" = some m.cls := findClass_of_methodNamed Bd.named
  have hnm := (name_of_methodNamed Bd.named Bd.method).1
  have X0 : Stand p l e room_1 s m #[(.int i0)] below meth c s₁ [] 0 0 := Stand.of_body Bd
  have e0 : s₁.heap = h0 := by rw [← hh, Bd.state]; rfl
  have N0 := Fr.nil n0
  suffices hgo : Go p e below (fun o U' => ∃ v L, o = .returned v ∧ Ql (some (.int (1 : Int32))) n0 v L ∧ FrameEnd s o U' L 16 128) s₁ (mkF m 0 #[.val (.int i0), .unset, .unset, .unset, .unset, .unset, .unset] []) by
    obtain ⟨s2, o, g1, g2, g3, g4⟩ := hgo
    refine ⟨s2, o, castTop (?_ : entryFrame m #[(.int i0)] maxLocals = _) g1, g2, g3, g4⟩
    first | (simp [entryFrame, mkF, argsToLocals, Value.category, maxLocals]; done) | rfl
  refine Go.on (T' := s₁) (g' := (mkF m 2 #[.val (.int i0), .unset, .unset, .unset, .unset, .unset, .unset] [(.int (6 : Int32))])) (fun t k => XS.bipush X0.here hx rfl (hb hby at_0) k) ?_
  obtain ⟨T1, h1, k1, X1, e1, E1, A1, O1, st1⟩ := newR X0 hx hZ hown (hw _ (List.mem_of_getElem? (i := 0) rfl)) (hw _ (List.mem_of_getElem? (i := 1) rfl)) e0 (g := (mkF m 2 #[.val (.int i0), .unset, .unset, .unset, .unset, .unset, .unset] [(.int (6 : Int32))])) rfl (hb hby at_2) rfl (by decide) (cap := 6) (by decide) (by decide) (by decide) (by decide)
  have sz1 : h0.size ≤ (h0.size) := (own_ext0 h0).1
  have XT1 := own_ext2 (own_ext0 h0) E1
  have Ar1_0 : Arr Z h1 (h0.size) ({ cls := k1, slots := #[.null, .null, .null, .null, .null, .null] } : Cell) (.object "com/example/rederive/rederive/program/Comparison$Operator") := A1
  refine Go.on (T' := T1) (g' := (mkF m 5 #[.val (.int i0), .unset, .unset, .unset, .unset, .unset, .unset] [(.ref (h0.size))])) st1 ?_
  refine Go.on (T' := T1) (g' := (mkF m 6 #[.val (.int i0), .unset, .unset, .unset, .unset, .unset, .unset] [(.ref (h0.size)), (.ref (h0.size))])) (fun t k => XS.dup X1.here hx rfl (hb hby at_5) rfl rfl k) ?_
  refine Go.on (T' := T1) (g' := (mkF m 7 #[.val (.int i0), .unset, .unset, .unset, .unset, .unset, .unset] [(.int (0 : Int32)), (.ref (h0.size)), (.ref (h0.size))])) (fun t k => XS.iconst X1.here hx rfl (hb hby at_6) k) ?_
  obtain ⟨T2, X2, e2, st2⟩ := getS2 X1 hx hZ hown (host := "") (Or.inl (hw _ (List.mem_of_getElem? (i := 2) rfl))) Via.refl e1 (pin_0 (pins_ext XT1 hP)) (g := (mkF m 7 #[.val (.int i0), .unset, .unset, .unset, .unset, .unset, .unset] [(.int (0 : Int32)), (.ref (h0.size)), (.ref (h0.size))])) rfl (hb hby at_7)
  refine Go.on (T' := T2) (g' := (mkF m 10 #[.val (.int i0), .unset, .unset, .unset, .unset, .unset, .unset] [(.ref (w 0)), (.int (0 : Int32)), (.ref (h0.size)), (.ref (h0.size))])) st2 ?_
  obtain ⟨T3, h3, X3, e3, W3, st3⟩ := stR X2 hx hZ e2 Ar1_0 (j := (0 : Int32)) (by show ¬ (_ ∨ (6 : Nat) ≤ _); decide) rfl (Sto.of Ar1_0 O1 (Ins.self (pin_6 (pins_ext XT1 hP)))) (g := (mkF m 10 #[.val (.int i0), .unset, .unset, .unset, .unset, .unset, .unset] [(.ref (w 0)), (.int (0 : Int32)), (.ref (h0.size)), (.ref (h0.size))])) rfl rfl (hb hby at_10)
  have N3 := Fr.snoc X3 N0 (Nat.le_trans Z0 sz1)
  have XT3 : Ext h0 h3 := own_extw XT1 W3 sz1
  have Ar1_3 : Arr Z h3 (h0.size) ({ cls := k1, slots := #[(.ref (w 0)), .null, .null, .null, .null, .null] } : Cell) (.object "com/example/rederive/rederive/program/Comparison$Operator") := Ar1_0.same W3
  refine Go.on (T' := T3) (g' := (mkF m 11 #[.val (.int i0), .unset, .unset, .unset, .unset, .unset, .unset] [(.ref (h0.size))])) st3 ?_
  refine Go.on (T' := T3) (g' := (mkF m 12 #[.val (.int i0), .unset, .unset, .unset, .unset, .unset, .unset] [(.ref (h0.size)), (.ref (h0.size))])) (fun t k => XS.dup X3.here hx rfl (hb hby at_11) rfl rfl k) ?_
  refine Go.on (T' := T3) (g' := (mkF m 13 #[.val (.int i0), .unset, .unset, .unset, .unset, .unset, .unset] [(.int (1 : Int32)), (.ref (h0.size)), (.ref (h0.size))])) (fun t k => XS.iconst X3.here hx rfl (hb hby at_12) k) ?_
  obtain ⟨T4, X4, e4, st4⟩ := getS2 X3 hx hZ hown (host := "") (Or.inl (hw _ (List.mem_of_getElem? (i := 6) rfl))) Via.refl e3 (pin_1 (pins_ext XT3 hP)) (g := (mkF m 13 #[.val (.int i0), .unset, .unset, .unset, .unset, .unset, .unset] [(.int (1 : Int32)), (.ref (h0.size)), (.ref (h0.size))])) rfl (hb hby at_13)
  refine Go.on (T' := T4) (g' := (mkF m 16 #[.val (.int i0), .unset, .unset, .unset, .unset, .unset, .unset] [(.ref (w 1)), (.int (1 : Int32)), (.ref (h0.size)), (.ref (h0.size))])) st4 ?_
  obtain ⟨T5, h5, X5, e5, W5, st5⟩ := stR X4 hx hZ e4 Ar1_3 (j := (1 : Int32)) (by show ¬ (_ ∨ (6 : Nat) ≤ _); decide) rfl (Sto.of Ar1_3 O1 (Ins.self (pin_7 (pins_ext XT3 hP)))) (g := (mkF m 16 #[.val (.int i0), .unset, .unset, .unset, .unset, .unset, .unset] [(.ref (w 1)), (.int (1 : Int32)), (.ref (h0.size)), (.ref (h0.size))])) rfl rfl (hb hby at_16)
  have N5 := Fr.snoc X5 N3 (Nat.le_trans Z0 sz1)
  have XT5 : Ext h0 h5 := own_extw XT3 W5 sz1
  have Ar1_5 : Arr Z h5 (h0.size) ({ cls := k1, slots := #[(.ref (w 0)), (.ref (w 1)), .null, .null, .null, .null] } : Cell) (.object "com/example/rederive/rederive/program/Comparison$Operator") := Ar1_3.same W5
  refine Go.on (T' := T5) (g' := (mkF m 17 #[.val (.int i0), .unset, .unset, .unset, .unset, .unset, .unset] [(.ref (h0.size))])) st5 ?_
  refine Go.on (T' := T5) (g' := (mkF m 18 #[.val (.int i0), .unset, .unset, .unset, .unset, .unset, .unset] [(.ref (h0.size)), (.ref (h0.size))])) (fun t k => XS.dup X5.here hx rfl (hb hby at_17) rfl rfl k) ?_
  refine Go.on (T' := T5) (g' := (mkF m 19 #[.val (.int i0), .unset, .unset, .unset, .unset, .unset, .unset] [(.int (2 : Int32)), (.ref (h0.size)), (.ref (h0.size))])) (fun t k => XS.iconst X5.here hx rfl (hb hby at_18) k) ?_
  obtain ⟨T6, X6, e6, st6⟩ := getS2 X5 hx hZ hown (host := "") (Or.inl (hw _ (List.mem_of_getElem? (i := 8) rfl))) Via.refl e5 (pin_2 (pins_ext XT5 hP)) (g := (mkF m 19 #[.val (.int i0), .unset, .unset, .unset, .unset, .unset, .unset] [(.int (2 : Int32)), (.ref (h0.size)), (.ref (h0.size))])) rfl (hb hby at_19)
  refine Go.on (T' := T6) (g' := (mkF m 22 #[.val (.int i0), .unset, .unset, .unset, .unset, .unset, .unset] [(.ref (w 2)), (.int (2 : Int32)), (.ref (h0.size)), (.ref (h0.size))])) st6 ?_
  obtain ⟨T7, h7, X7, e7, W7, st7⟩ := stR X6 hx hZ e6 Ar1_5 (j := (2 : Int32)) (by show ¬ (_ ∨ (6 : Nat) ≤ _); decide) rfl (Sto.of Ar1_5 O1 (Ins.self (pin_8 (pins_ext XT5 hP)))) (g := (mkF m 22 #[.val (.int i0), .unset, .unset, .unset, .unset, .unset, .unset] [(.ref (w 2)), (.int (2 : Int32)), (.ref (h0.size)), (.ref (h0.size))])) rfl rfl (hb hby at_22)
  have N7 := Fr.snoc X7 N5 (Nat.le_trans Z0 sz1)
  have XT7 : Ext h0 h7 := own_extw XT5 W7 sz1
  have Ar1_7 : Arr Z h7 (h0.size) ({ cls := k1, slots := #[(.ref (w 0)), (.ref (w 1)), (.ref (w 2)), .null, .null, .null] } : Cell) (.object "com/example/rederive/rederive/program/Comparison$Operator") := Ar1_5.same W7
  refine Go.on (T' := T7) (g' := (mkF m 23 #[.val (.int i0), .unset, .unset, .unset, .unset, .unset, .unset] [(.ref (h0.size))])) st7 ?_
  refine Go.on (T' := T7) (g' := (mkF m 24 #[.val (.int i0), .unset, .unset, .unset, .unset, .unset, .unset] [(.ref (h0.size)), (.ref (h0.size))])) (fun t k => XS.dup X7.here hx rfl (hb hby at_23) rfl rfl k) ?_
  refine Go.on (T' := T7) (g' := (mkF m 25 #[.val (.int i0), .unset, .unset, .unset, .unset, .unset, .unset] [(.int (3 : Int32)), (.ref (h0.size)), (.ref (h0.size))])) (fun t k => XS.iconst X7.here hx rfl (hb hby at_24) k) ?_
  obtain ⟨T8, X8, e8, st8⟩ := getS2 X7 hx hZ hown (host := "") (Or.inl (hw _ (List.mem_of_getElem? (i := 10) rfl))) Via.refl e7 (pin_3 (pins_ext XT7 hP)) (g := (mkF m 25 #[.val (.int i0), .unset, .unset, .unset, .unset, .unset, .unset] [(.int (3 : Int32)), (.ref (h0.size)), (.ref (h0.size))])) rfl (hb hby at_25)
  refine Go.on (T' := T8) (g' := (mkF m 28 #[.val (.int i0), .unset, .unset, .unset, .unset, .unset, .unset] [(.ref (w 3)), (.int (3 : Int32)), (.ref (h0.size)), (.ref (h0.size))])) st8 ?_
  obtain ⟨T9, h9, X9, e9, W9, st9⟩ := stR X8 hx hZ e8 Ar1_7 (j := (3 : Int32)) (by show ¬ (_ ∨ (6 : Nat) ≤ _); decide) rfl (Sto.of Ar1_7 O1 (Ins.self (pin_9 (pins_ext XT7 hP)))) (g := (mkF m 28 #[.val (.int i0), .unset, .unset, .unset, .unset, .unset, .unset] [(.ref (w 3)), (.int (3 : Int32)), (.ref (h0.size)), (.ref (h0.size))])) rfl rfl (hb hby at_28)
  have N9 := Fr.snoc X9 N7 (Nat.le_trans Z0 sz1)
  have XT9 : Ext h0 h9 := own_extw XT7 W9 sz1
  have Ar1_9 : Arr Z h9 (h0.size) ({ cls := k1, slots := #[(.ref (w 0)), (.ref (w 1)), (.ref (w 2)), (.ref (w 3)), .null, .null] } : Cell) (.object "com/example/rederive/rederive/program/Comparison$Operator") := Ar1_7.same W9
  refine Go.on (T' := T9) (g' := (mkF m 29 #[.val (.int i0), .unset, .unset, .unset, .unset, .unset, .unset] [(.ref (h0.size))])) st9 ?_
  refine Go.on (T' := T9) (g' := (mkF m 30 #[.val (.int i0), .unset, .unset, .unset, .unset, .unset, .unset] [(.ref (h0.size)), (.ref (h0.size))])) (fun t k => XS.dup X9.here hx rfl (hb hby at_29) rfl rfl k) ?_
  refine Go.on (T' := T9) (g' := (mkF m 31 #[.val (.int i0), .unset, .unset, .unset, .unset, .unset, .unset] [(.int (4 : Int32)), (.ref (h0.size)), (.ref (h0.size))])) (fun t k => XS.iconst X9.here hx rfl (hb hby at_30) k) ?_
  obtain ⟨T10, X10, e10, st10⟩ := getS2 X9 hx hZ hown (host := "") (Or.inl (hw _ (List.mem_of_getElem? (i := 12) rfl))) Via.refl e9 (pin_4 (pins_ext XT9 hP)) (g := (mkF m 31 #[.val (.int i0), .unset, .unset, .unset, .unset, .unset, .unset] [(.int (4 : Int32)), (.ref (h0.size)), (.ref (h0.size))])) rfl (hb hby at_31)
  refine Go.on (T' := T10) (g' := (mkF m 34 #[.val (.int i0), .unset, .unset, .unset, .unset, .unset, .unset] [(.ref (w 4)), (.int (4 : Int32)), (.ref (h0.size)), (.ref (h0.size))])) st10 ?_
  obtain ⟨T11, h11, X11, e11, W11, st11⟩ := stR X10 hx hZ e10 Ar1_9 (j := (4 : Int32)) (by show ¬ (_ ∨ (6 : Nat) ≤ _); decide) rfl (Sto.of Ar1_9 O1 (Ins.self (pin_10 (pins_ext XT9 hP)))) (g := (mkF m 34 #[.val (.int i0), .unset, .unset, .unset, .unset, .unset, .unset] [(.ref (w 4)), (.int (4 : Int32)), (.ref (h0.size)), (.ref (h0.size))])) rfl rfl (hb hby at_34)
  have N11 := Fr.snoc X11 N9 (Nat.le_trans Z0 sz1)
  have XT11 : Ext h0 h11 := own_extw XT9 W11 sz1
  have Ar1_11 : Arr Z h11 (h0.size) ({ cls := k1, slots := #[(.ref (w 0)), (.ref (w 1)), (.ref (w 2)), (.ref (w 3)), (.ref (w 4)), .null] } : Cell) (.object "com/example/rederive/rederive/program/Comparison$Operator") := Ar1_9.same W11
  refine Go.on (T' := T11) (g' := (mkF m 35 #[.val (.int i0), .unset, .unset, .unset, .unset, .unset, .unset] [(.ref (h0.size))])) st11 ?_
  refine Go.on (T' := T11) (g' := (mkF m 36 #[.val (.int i0), .unset, .unset, .unset, .unset, .unset, .unset] [(.ref (h0.size)), (.ref (h0.size))])) (fun t k => XS.dup X11.here hx rfl (hb hby at_35) rfl rfl k) ?_
  refine Go.on (T' := T11) (g' := (mkF m 37 #[.val (.int i0), .unset, .unset, .unset, .unset, .unset, .unset] [(.int (5 : Int32)), (.ref (h0.size)), (.ref (h0.size))])) (fun t k => XS.iconst X11.here hx rfl (hb hby at_36) k) ?_
  obtain ⟨T12, X12, e12, st12⟩ := getS2 X11 hx hZ hown (host := "") (Or.inl (hw _ (List.mem_of_getElem? (i := 14) rfl))) Via.refl e11 (pin_5 (pins_ext XT11 hP)) (g := (mkF m 37 #[.val (.int i0), .unset, .unset, .unset, .unset, .unset, .unset] [(.int (5 : Int32)), (.ref (h0.size)), (.ref (h0.size))])) rfl (hb hby at_37)
  refine Go.on (T' := T12) (g' := (mkF m 40 #[.val (.int i0), .unset, .unset, .unset, .unset, .unset, .unset] [(.ref (w 5)), (.int (5 : Int32)), (.ref (h0.size)), (.ref (h0.size))])) st12 ?_
  obtain ⟨T13, h13, X13, e13, W13, st13⟩ := stR X12 hx hZ e12 Ar1_11 (j := (5 : Int32)) (by show ¬ (_ ∨ (6 : Nat) ≤ _); decide) rfl (Sto.of Ar1_11 O1 (Ins.self (pin_11 (pins_ext XT11 hP)))) (g := (mkF m 40 #[.val (.int i0), .unset, .unset, .unset, .unset, .unset, .unset] [(.ref (w 5)), (.int (5 : Int32)), (.ref (h0.size)), (.ref (h0.size))])) rfl rfl (hb hby at_40)
  have N13 := Fr.snoc X13 N11 (Nat.le_trans Z0 sz1)
  have XT13 : Ext h0 h13 := own_extw XT11 W13 sz1
  have Ar1_13 : Arr Z h13 (h0.size) ({ cls := k1, slots := #[(.ref (w 0)), (.ref (w 1)), (.ref (w 2)), (.ref (w 3)), (.ref (w 4)), (.ref (w 5))] } : Cell) (.object "com/example/rederive/rederive/program/Comparison$Operator") := Ar1_11.same W13
  refine Go.on (T' := T13) (g' := (mkF m 41 #[.val (.int i0), .unset, .unset, .unset, .unset, .unset, .unset] [(.ref (h0.size))])) st13 ?_
  refine Go.on (T' := T13) (g' := (mkF m 42 #[.val (.int i0), .val (.ref (h0.size)), .unset, .unset, .unset, .unset, .unset] [])) (fun t k => XS.astoreN X13.here hx rfl (hb hby at_41) rfl rfl (l' := #[.val (.int i0), .val (.ref (h0.size)), .unset, .unset, .unset, .unset, .unset]) rfl k) ?_
  refine Go.on (T' := T13) (g' := (mkF m 43 #[.val (.int i0), .val (.ref (h0.size)), .unset, .unset, .unset, .unset, .unset] [(.int i0)])) (fun t k => XS.iloadN X13.here hx rfl (hb hby at_42) rfl k) ?_
  refine Go.on (T' := T13) (g' := (mkF m 45 #[.val (.int i0), .val (.ref (h0.size)), .unset, .unset, .unset, .unset, .unset] [(.int (2147483647 : Int32)), (.int i0)])) (X13.ldcInt hx hown (mvT hZ (hw _ (List.mem_of_getElem? (i := 16) rfl))) (g := (mkF m 43 #[.val (.int i0), .val (.ref (h0.size)), .unset, .unset, .unset, .unset, .unset] [(.int i0)])) rfl (hb hby at_43)) ?_
  refine Go.on (T' := T13) (g' := (mkF m 46 #[.val (.int i0), .val (.ref (h0.size)), .unset, .unset, .unset, .unset, .unset] [(.int (i0 &&& (2147483647 : Int32)))])) (fun t k => XS.iand X13.here hx rfl (hb hby at_45) rfl k) ?_
  refine Go.on (T' := T13) (g' := (mkF m 48 #[.val (.int i0), .val (.ref (h0.size)), .unset, .unset, .unset, .unset, .unset] [(.int (6 : Int32)), (.int (i0 &&& (2147483647 : Int32)))])) (fun t k => XS.bipush X13.here hx rfl (hb hby at_46) k) ?_
  refine Go.on (T' := T13) (g' := (mkF m 49 #[.val (.int i0), .val (.ref (h0.size)), .unset, .unset, .unset, .unset, .unset] [(.int ((i0 &&& (2147483647 : Int32)) % (6 : Int32)))])) (fun t k => iremM X13 hx rfl (hb hby at_48) rfl (by decide) k) ?_
  rcases own_mod6 i0 with h14 | h14 | h14 | h14 | h14 | h14
  · skip
    rw [h14]
    refine Go.on (T' := T13) (g' := (mkF m 50 #[.val (.int i0), .val (.ref (h0.size)), .val (.int (0 : Int32)), .unset, .unset, .unset, .unset] [])) (fun t k => XS.istoreN X13.here hx rfl (hb hby at_49) rfl (l' := #[.val (.int i0), .val (.ref (h0.size)), .val (.int (0 : Int32)), .unset, .unset, .unset, .unset]) rfl k) ?_
    refine Go.on (T' := T13) (g' := (mkF m 51 #[.val (.int i0), .val (.ref (h0.size)), .val (.int (0 : Int32)), .unset, .unset, .unset, .unset] [(.ref (h0.size))])) (fun t k => XS.aloadN X13.here hx rfl (hb hby at_50) rfl rfl k) ?_
    refine Go.on (T' := T13) (g' := (mkF m 52 #[.val (.int i0), .val (.ref (h0.size)), .val (.int (0 : Int32)), .unset, .unset, .unset, .unset] [(.int (0 : Int32)), (.ref (h0.size))])) (fun t k => XS.iloadN X13.here hx rfl (hb hby at_51) rfl k) ?_
    refine Go.on (T' := T13) (g' := (mkF m 53 #[.val (.int i0), .val (.ref (h0.size)), .val (.int (0 : Int32)), .unset, .unset, .unset, .unset] [(.ref (w 0))])) (fun t k => X13.aaload hx (j := (0 : Int32)) (v := (.ref (w 0))) (by rw [e13]; exact Ar1_13.1) (State.isArrayOf_alike hZ.alike Ar1_13.2.1) rfl Ar1_13.2.2 (by show ¬ (_ ∨ (6 : Nat) ≤ _); decide) rfl (g := (mkF m 52 #[.val (.int i0), .val (.ref (h0.size)), .val (.int (0 : Int32)), .unset, .unset, .unset, .unset] [(.int (0 : Int32)), (.ref (h0.size))])) rfl rfl (hb hby at_52) t k) ?_
    refine Go.on (T' := T13) (g' := (mkF m 54 #[.val (.int i0), .val (.ref (h0.size)), .val (.int (0 : Int32)), .val (.ref (w 0)), .unset, .unset, .unset] [])) (fun t k => XS.astoreN X13.here hx rfl (hb hby at_53) rfl rfl (l' := #[.val (.int i0), .val (.ref (h0.size)), .val (.int (0 : Int32)), .val (.ref (w 0)), .unset, .unset, .unset]) rfl k) ?_
    refine Go.on (T' := T13) (g' := (mkF m 55 #[.val (.int i0), .val (.ref (h0.size)), .val (.int (0 : Int32)), .val (.ref (w 0)), .unset, .unset, .unset] [(.int (0 : Int32))])) (fun t k => XS.iloadN X13.here hx rfl (hb hby at_54) rfl k) ?_
    refine Go.on (T' := T13) (g' := (mkF m 56 #[.val (.int i0), .val (.ref (h0.size)), .val (.int (0 : Int32)), .val (.ref (w 0)), .unset, .unset, .unset] [(.int (2 : Int32)), (.int (0 : Int32))])) (fun t k => XS.iconst X13.here hx rfl (hb hby at_55) k) ?_
    refine Go.on (T' := T13) (g' := (mkF m 63 #[.val (.int i0), .val (.ref (h0.size)), .val (.int (0 : Int32)), .val (.ref (w 0)), .unset, .unset, .unset] [])) (fun t k => XS.icmpYes X13.here hx rfl (pc0 := 56) (pc' := 63) rfl (hb hby at_56) rfl (tlt (by decide : (0 : Int32) < (2 : Int32))).1 (by decide) (by decide) k) ?_
    refine Go.on (T' := T13) (g' := (mkF m 64 #[.val (.int i0), .val (.ref (h0.size)), .val (.int (0 : Int32)), .val (.ref (w 0)), .unset, .unset, .unset] [(.int (0 : Int32))])) (fun t k => XS.iconst X13.here hx rfl (hb hby at_63) k) ?_
    refine Go.on (T' := T13) (g' := (mkF m 66 #[.val (.int i0), .val (.ref (h0.size)), .val (.int (0 : Int32)), .val (.ref (w 0)), .val (.int (0 : Int32)), .unset, .unset] [])) (fun t k => XS.istore X13.here hx rfl (hb hby at_64) rfl (l' := #[.val (.int i0), .val (.ref (h0.size)), .val (.int (0 : Int32)), .val (.ref (w 0)), .val (.int (0 : Int32)), .unset, .unset]) rfl k) ?_
    refine Go.on (T' := T13) (g' := (mkF m 67 #[.val (.int i0), .val (.ref (h0.size)), .val (.int (0 : Int32)), .val (.ref (w 0)), .val (.int (0 : Int32)), .unset, .unset] [(.ref (w 0))])) (fun t k => XS.aloadN X13.here hx rfl (hb hby at_66) rfl rfl k) ?_
    obtain ⟨cq17, kq17, q17a, q17b, q17c⟩ := isOf hZ e13 (pin_6 (pins_ext XT13 hP))
    obtain ⟨_, _, ⟨T17, L17, k17, n17⟩, -, X17, ⟨Lc17, hQ17, l17, y17, z17⟩, st17⟩ := X13.virtualBack hx (y := (⟨"com/example/rederive/rederive/program/Comparison$Operator", "ordersNumbers", "()Z"⟩ : MethodName)) (z := (⟨"com/example/rederive/rederive/program/Comparison$Operator", "ordersNumbers", "()Z"⟩ : MethodName)) hown (mvT hZ (hw _ (List.mem_of_getElem? (i := 17) rfl))) (mvT hZ (hw _ (List.mem_of_getElem? (i := 18) rfl))) (notFace_of_selects (args := #[]) (mvT hZ (hw _ (List.mem_of_getElem? (i := 20) rfl)))) (mvT hZ (hw _ (List.mem_of_getElem? (i := 20) rfl))) (mvT hZ (hw _ (List.mem_of_getElem? (i := 19) rfl))) (by decide) (backOf (W := 0) (rm1_0 l Z a0 hw [] w h13 n0 (Nat.le_trans Z0 XT13.1) (pins_ext XT13 hP)) hZ (hw _ (List.mem_of_getElem? (i := 21) rfl)) (hw _ (List.mem_of_getElem? (i := 3) rfl)) (by decide) (by decide)) q17a q17c (g := (mkF m 67 #[.val (.int i0), .val (.ref (h0.size)), .val (.int (0 : Int32)), .val (.ref (w 0)), .val (.int (0 : Int32)), .unset, .unset] [(.ref (w 0))])) rfl (by rw [hml]; rfl) (Steps.refl _) (argsL := []) (rest := []) (lenOf pd_0 rfl) rfl (by show 2 * 0 + _ ≤ _; exact Nat.le_of_eq rfl) (hb hby at_67) (fun _ _ => ⟨rfl, e13, (by decide : 1 + 0 ≤ _), (by decide : 6 + 0 ≤ _)⟩)
    dsimp only [Pt.U, Pt.locs, Pt.cells, Pt.slots] at X17 l17 y17 z17 st17 hQ17
    subst l17 y17 z17
    obtain ⟨rfl, N17q, e17⟩ := hQ17
    have N17 := Fr.app N13 N17q
    refine Go.on (T' := T17) (g' := (mkF m 70 #[.val (.int i0), .val (.ref (h0.size)), .val (.int (0 : Int32)), .val (.ref (w 0)), .val (.int (0 : Int32)), .unset, .unset] [(.int (0 : Int32))])) (fun t k => st17.trans k) ?_
    refine Go.on (T' := T17) (g' := (mkF m 72 #[.val (.int i0), .val (.ref (h0.size)), .val (.int (0 : Int32)), .val (.ref (w 0)), .val (.int (0 : Int32)), .val (.int (0 : Int32)), .unset] [])) (fun t k => XS.istore X17.here hx rfl (hb hby at_70) rfl (l' := #[.val (.int i0), .val (.ref (h0.size)), .val (.int (0 : Int32)), .val (.ref (w 0)), .val (.int (0 : Int32)), .val (.int (0 : Int32)), .unset]) rfl k) ?_
    refine Go.on (T' := T17) (g' := (mkF m 73 #[.val (.int i0), .val (.ref (h0.size)), .val (.int (0 : Int32)), .val (.ref (w 0)), .val (.int (0 : Int32)), .val (.int (0 : Int32)), .unset] [(.ref (w 0))])) (fun t k => XS.aloadN X17.here hx rfl (hb hby at_72) rfl rfl k) ?_
    refine Go.on (T' := T17) (g' := (mkF m 74 #[.val (.int i0), .val (.ref (h0.size)), .val (.int (0 : Int32)), .val (.ref (w 0)), .val (.int (0 : Int32)), .val (.int (0 : Int32)), .unset] [(.int (0 : Int32)), (.ref (w 0))])) (fun t k => XS.iconst X17.here hx rfl (hb hby at_73) k) ?_
    refine Go.on (T' := T17) (g' := (mkF m 75 #[.val (.int i0), .val (.ref (h0.size)), .val (.int (0 : Int32)), .val (.ref (w 0)), .val (.int (0 : Int32)), .val (.int (0 : Int32)), .unset] [(.int (1 : Int32)), (.int (0 : Int32)), (.ref (w 0))])) (fun t k => XS.iconst X17.here hx rfl (hb hby at_74) k) ?_
    obtain ⟨cq22, kq22, q22a, q22b, q22c⟩ := isOf hZ e17 (pin_6 (pins_ext XT13 hP))
    obtain ⟨_, _, ⟨T22, L22, k22, n22⟩, -, X22, ⟨Lc22, hQ22, l22, y22, z22⟩, st22⟩ := X17.virtualBack hx (y := (⟨"com/example/rederive/rederive/program/Comparison$Operator", "holds", "(II)Z"⟩ : MethodName)) (z := (⟨"com/example/rederive/rederive/program/Comparison$Operator", "holds", "(II)Z"⟩ : MethodName)) hown (mvT hZ (hw _ (List.mem_of_getElem? (i := 23) rfl))) (mvT hZ (hw _ (List.mem_of_getElem? (i := 24) rfl))) (notFace_of_selects (args := #[]) (mvT hZ (hw _ (List.mem_of_getElem? (i := 26) rfl)))) (mvT hZ (hw _ (List.mem_of_getElem? (i := 26) rfl))) (mvT hZ (hw _ (List.mem_of_getElem? (i := 25) rfl))) (by decide) (backOf (W := 0) (rm2_0 l Z a0 hw [] w h13 n0 (Nat.le_trans Z0 XT13.1) (pins_ext XT13 hP)) hZ (hw _ (List.mem_of_getElem? (i := 27) rfl)) (hw _ (List.mem_of_getElem? (i := 3) rfl)) (by decide) (by decide)) q22a q22c (g := (mkF m 75 #[.val (.int i0), .val (.ref (h0.size)), .val (.int (0 : Int32)), .val (.ref (w 0)), .val (.int (0 : Int32)), .val (.int (0 : Int32)), .unset] [(.int (1 : Int32)), (.int (0 : Int32)), (.ref (w 0))])) rfl (by rw [hml]; rfl) (Steps.refl _) (argsL := [(.int (0 : Int32)), (.int (1 : Int32))]) (rest := []) (lenOf pd_2 rfl) rfl (by show 2 * 0 + _ ≤ _; exact Nat.le_of_eq rfl) (hb hby at_75) (fun _ _ => ⟨rfl, e17, (by decide : 1 + 0 ≤ _), (by decide : 6 + 0 ≤ _)⟩)
    dsimp only [Pt.U, Pt.locs, Pt.cells, Pt.slots] at X22 l22 y22 z22 st22 hQ22
    subst l22 y22 z22
    obtain ⟨rfl, N22q, e22⟩ := hQ22
    have N22 := Fr.app N17 N22q
    refine Go.on (T' := T22) (g' := (mkF m 78 #[.val (.int i0), .val (.ref (h0.size)), .val (.int (0 : Int32)), .val (.ref (w 0)), .val (.int (0 : Int32)), .val (.int (0 : Int32)), .unset] [(.int (0 : Int32))])) (fun t k => st22.trans k) ?_
    refine Go.on (T' := T22) (g' := (mkF m 79 #[.val (.int i0), .val (.ref (h0.size)), .val (.int (0 : Int32)), .val (.ref (w 0)), .val (.int (0 : Int32)), .val (.int (0 : Int32)), .unset] [(.ref (w 0)), (.int (0 : Int32))])) (fun t k => XS.aloadN X22.here hx rfl (hb hby at_78) rfl rfl k) ?_
    refine Go.on (T' := T22) (g' := (mkF m 80 #[.val (.int i0), .val (.ref (h0.size)), .val (.int (0 : Int32)), .val (.ref (w 0)), .val (.int (0 : Int32)), .val (.int (0 : Int32)), .unset] [(.int (1 : Int32)), (.ref (w 0)), (.int (0 : Int32))])) (fun t k => XS.iconst X22.here hx rfl (hb hby at_79) k) ?_
    refine Go.on (T' := T22) (g' := (mkF m 81 #[.val (.int i0), .val (.ref (h0.size)), .val (.int (0 : Int32)), .val (.ref (w 0)), .val (.int (0 : Int32)), .val (.int (0 : Int32)), .unset] [(.int (0 : Int32)), (.int (1 : Int32)), (.ref (w 0)), (.int (0 : Int32))])) (fun t k => XS.iconst X22.here hx rfl (hb hby at_80) k) ?_
    obtain ⟨cq25, kq25, q25a, q25b, q25c⟩ := isOf hZ e22 (pin_6 (pins_ext XT13 hP))
    obtain ⟨_, _, ⟨T25, L25, k25, n25⟩, -, X25, ⟨Lc25, hQ25, l25, y25, z25⟩, st25⟩ := X22.virtualBack hx (y := (⟨"com/example/rederive/rederive/program/Comparison$Operator", "holds", "(II)Z"⟩ : MethodName)) (z := (⟨"com/example/rederive/rederive/program/Comparison$Operator", "holds", "(II)Z"⟩ : MethodName)) hown (mvT hZ (hw _ (List.mem_of_getElem? (i := 23) rfl))) (mvT hZ (hw _ (List.mem_of_getElem? (i := 24) rfl))) (notFace_of_selects (args := #[]) (mvT hZ (hw _ (List.mem_of_getElem? (i := 26) rfl)))) (mvT hZ (hw _ (List.mem_of_getElem? (i := 26) rfl))) (mvT hZ (hw _ (List.mem_of_getElem? (i := 25) rfl))) (by decide) (backOf (W := 1) (rm2_1 l Z a0 hw [] w h13 n0 (Nat.le_trans Z0 XT13.1) (pins_ext XT13 hP)) hZ (hw _ (List.mem_of_getElem? (i := 27) rfl)) (hw _ (List.mem_of_getElem? (i := 3) rfl)) (by decide) (by decide)) q25a q25c (g := (mkF m 81 #[.val (.int i0), .val (.ref (h0.size)), .val (.int (0 : Int32)), .val (.ref (w 0)), .val (.int (0 : Int32)), .val (.int (0 : Int32)), .unset] [(.int (0 : Int32)), (.int (1 : Int32)), (.ref (w 0)), (.int (0 : Int32))])) rfl (by rw [hml]; rfl) (Steps.refl _) (argsL := [(.int (1 : Int32)), (.int (0 : Int32))]) (rest := [(.int (0 : Int32))]) (lenOf pd_2 rfl) rfl (by show 2 * 0 + _ ≤ _; exact Nat.le_of_eq rfl) (hb hby at_81) (fun _ _ => ⟨rfl, e22, (by decide : 1 + 0 ≤ _), (by decide : 6 + 0 ≤ _)⟩)
    dsimp only [Pt.U, Pt.locs, Pt.cells, Pt.slots] at X25 l25 y25 z25 st25 hQ25
    subst l25 y25 z25
    obtain ⟨rfl, N25q, e25⟩ := hQ25
    have N25 := Fr.app N22 N25q
    refine Go.on (T' := T25) (g' := (mkF m 84 #[.val (.int i0), .val (.ref (h0.size)), .val (.int (0 : Int32)), .val (.ref (w 0)), .val (.int (0 : Int32)), .val (.int (0 : Int32)), .unset] [(.int (0 : Int32)), (.int (0 : Int32))])) (fun t k => st25.trans k) ?_
    refine Go.on (T' := T25) (g' := (mkF m 91 #[.val (.int i0), .val (.ref (h0.size)), .val (.int (0 : Int32)), .val (.ref (w 0)), .val (.int (0 : Int32)), .val (.int (0 : Int32)), .unset] [])) (fun t k => XS.icmpYes X25.here hx rfl (pc0 := 84) (pc' := 91) rfl (hb hby at_84) rfl (teq (by decide : (0 : Int32) = (0 : Int32))).1 (by decide) (by decide) k) ?_
    refine Go.on (T' := T25) (g' := (mkF m 92 #[.val (.int i0), .val (.ref (h0.size)), .val (.int (0 : Int32)), .val (.ref (w 0)), .val (.int (0 : Int32)), .val (.int (0 : Int32)), .unset] [(.int (0 : Int32))])) (fun t k => XS.iconst X25.here hx rfl (hb hby at_91) k) ?_
    refine Go.on (T' := T25) (g' := (mkF m 94 #[.val (.int i0), .val (.ref (h0.size)), .val (.int (0 : Int32)), .val (.ref (w 0)), .val (.int (0 : Int32)), .val (.int (0 : Int32)), .val (.int (0 : Int32))] [])) (fun t k => XS.istore X25.here hx rfl (hb hby at_92) rfl (l' := #[.val (.int i0), .val (.ref (h0.size)), .val (.int (0 : Int32)), .val (.ref (w 0)), .val (.int (0 : Int32)), .val (.int (0 : Int32)), .val (.int (0 : Int32))]) rfl k) ?_
    refine Go.on (T' := T25) (g' := (mkF m 96 #[.val (.int i0), .val (.ref (h0.size)), .val (.int (0 : Int32)), .val (.ref (w 0)), .val (.int (0 : Int32)), .val (.int (0 : Int32)), .val (.int (0 : Int32))] [(.int (0 : Int32))])) (fun t k => XS.iload X25.here hx rfl (hb hby at_94) rfl k) ?_
    refine Go.on (T' := T25) (g' := (mkF m 98 #[.val (.int i0), .val (.ref (h0.size)), .val (.int (0 : Int32)), .val (.ref (w 0)), .val (.int (0 : Int32)), .val (.int (0 : Int32)), .val (.int (0 : Int32))] [(.int (0 : Int32)), (.int (0 : Int32))])) (fun t k => XS.iload X25.here hx rfl (hb hby at_96) rfl k) ?_
    refine Go.on (T' := T25) (g' := (mkF m 101 #[.val (.int i0), .val (.ref (h0.size)), .val (.int (0 : Int32)), .val (.ref (w 0)), .val (.int (0 : Int32)), .val (.int (0 : Int32)), .val (.int (0 : Int32))] [])) (fun t k => XS.icmpNo X25.here hx rfl (hb hby at_98) rfl (teq (by decide : (0 : Int32) = (0 : Int32))).2 k) ?_
    refine Go.on (T' := T25) (g' := (mkF m 103 #[.val (.int i0), .val (.ref (h0.size)), .val (.int (0 : Int32)), .val (.ref (w 0)), .val (.int (0 : Int32)), .val (.int (0 : Int32)), .val (.int (0 : Int32))] [(.int (0 : Int32))])) (fun t k => XS.iload X25.here hx rfl (hb hby at_101) rfl k) ?_
    refine Go.on (T' := T25) (g' := (mkF m 105 #[.val (.int i0), .val (.ref (h0.size)), .val (.int (0 : Int32)), .val (.ref (w 0)), .val (.int (0 : Int32)), .val (.int (0 : Int32)), .val (.int (0 : Int32))] [(.int (0 : Int32)), (.int (0 : Int32))])) (fun t k => XS.iload X25.here hx rfl (hb hby at_103) rfl k) ?_
    refine Go.on (T' := T25) (g' := (mkF m 108 #[.val (.int i0), .val (.ref (h0.size)), .val (.int (0 : Int32)), .val (.ref (w 0)), .val (.int (0 : Int32)), .val (.int (0 : Int32)), .val (.int (0 : Int32))] [])) (fun t k => XS.icmpNo X25.here hx rfl (hb hby at_105) rfl (teq (by decide : (0 : Int32) = (0 : Int32))).2 k) ?_
    refine Go.on (T' := T25) (g' := (mkF m 109 #[.val (.int i0), .val (.ref (h0.size)), .val (.int (0 : Int32)), .val (.ref (w 0)), .val (.int (0 : Int32)), .val (.int (0 : Int32)), .val (.int (0 : Int32))] [(.int (1 : Int32))])) (fun t k => XS.iconst X25.here hx rfl (hb hby at_108) k) ?_
    refine Go.on (T' := T25) (g' := (mkF m 113 #[.val (.int i0), .val (.ref (h0.size)), .val (.int (0 : Int32)), .val (.ref (w 0)), .val (.int (0 : Int32)), .val (.int (0 : Int32)), .val (.int (0 : Int32))] [(.int (1 : Int32))])) (fun t k => XS.goto X25.here hx rfl (pc0 := 109) (pc' := 113) rfl (hb hby at_109) (by decide) (by decide) k) ?_
    obtain ⟨fs, hr, hrun, hended, hW, hsame⟩ := X25.leave (v := some (.int (1 : Int32))) (fun h => by rw [Bd.returns] at h; cases h)
    exact ⟨_, _, retN X25 hx (t := .boolean) Bd.returns (by simp) (hb hby at_113) hr, hrun, hended, _, _, rfl, ⟨rfl, N25⟩, ⟨_, rfl⟩, hW, hsame.mono (by decide) (by decide)⟩
  · skip
    rw [h14]
    refine Go.on (T' := T13) (g' := (mkF m 50 #[.val (.int i0), .val (.ref (h0.size)), .val (.int (1 : Int32)), .unset, .unset, .unset, .unset] [])) (fun t k => XS.istoreN X13.here hx rfl (hb hby at_49) rfl (l' := #[.val (.int i0), .val (.ref (h0.size)), .val (.int (1 : Int32)), .unset, .unset, .unset, .unset]) rfl k) ?_
    refine Go.on (T' := T13) (g' := (mkF m 51 #[.val (.int i0), .val (.ref (h0.size)), .val (.int (1 : Int32)), .unset, .unset, .unset, .unset] [(.ref (h0.size))])) (fun t k => XS.aloadN X13.here hx rfl (hb hby at_50) rfl rfl k) ?_
    refine Go.on (T' := T13) (g' := (mkF m 52 #[.val (.int i0), .val (.ref (h0.size)), .val (.int (1 : Int32)), .unset, .unset, .unset, .unset] [(.int (1 : Int32)), (.ref (h0.size))])) (fun t k => XS.iloadN X13.here hx rfl (hb hby at_51) rfl k) ?_
    refine Go.on (T' := T13) (g' := (mkF m 53 #[.val (.int i0), .val (.ref (h0.size)), .val (.int (1 : Int32)), .unset, .unset, .unset, .unset] [(.ref (w 1))])) (fun t k => X13.aaload hx (j := (1 : Int32)) (v := (.ref (w 1))) (by rw [e13]; exact Ar1_13.1) (State.isArrayOf_alike hZ.alike Ar1_13.2.1) rfl Ar1_13.2.2 (by show ¬ (_ ∨ (6 : Nat) ≤ _); decide) rfl (g := (mkF m 52 #[.val (.int i0), .val (.ref (h0.size)), .val (.int (1 : Int32)), .unset, .unset, .unset, .unset] [(.int (1 : Int32)), (.ref (h0.size))])) rfl rfl (hb hby at_52) t k) ?_
    refine Go.on (T' := T13) (g' := (mkF m 54 #[.val (.int i0), .val (.ref (h0.size)), .val (.int (1 : Int32)), .val (.ref (w 1)), .unset, .unset, .unset] [])) (fun t k => XS.astoreN X13.here hx rfl (hb hby at_53) rfl rfl (l' := #[.val (.int i0), .val (.ref (h0.size)), .val (.int (1 : Int32)), .val (.ref (w 1)), .unset, .unset, .unset]) rfl k) ?_
    refine Go.on (T' := T13) (g' := (mkF m 55 #[.val (.int i0), .val (.ref (h0.size)), .val (.int (1 : Int32)), .val (.ref (w 1)), .unset, .unset, .unset] [(.int (1 : Int32))])) (fun t k => XS.iloadN X13.here hx rfl (hb hby at_54) rfl k) ?_
    refine Go.on (T' := T13) (g' := (mkF m 56 #[.val (.int i0), .val (.ref (h0.size)), .val (.int (1 : Int32)), .val (.ref (w 1)), .unset, .unset, .unset] [(.int (2 : Int32)), (.int (1 : Int32))])) (fun t k => XS.iconst X13.here hx rfl (hb hby at_55) k) ?_
    refine Go.on (T' := T13) (g' := (mkF m 63 #[.val (.int i0), .val (.ref (h0.size)), .val (.int (1 : Int32)), .val (.ref (w 1)), .unset, .unset, .unset] [])) (fun t k => XS.icmpYes X13.here hx rfl (pc0 := 56) (pc' := 63) rfl (hb hby at_56) rfl (tlt (by decide : (1 : Int32) < (2 : Int32))).1 (by decide) (by decide) k) ?_
    refine Go.on (T' := T13) (g' := (mkF m 64 #[.val (.int i0), .val (.ref (h0.size)), .val (.int (1 : Int32)), .val (.ref (w 1)), .unset, .unset, .unset] [(.int (0 : Int32))])) (fun t k => XS.iconst X13.here hx rfl (hb hby at_63) k) ?_
    refine Go.on (T' := T13) (g' := (mkF m 66 #[.val (.int i0), .val (.ref (h0.size)), .val (.int (1 : Int32)), .val (.ref (w 1)), .val (.int (0 : Int32)), .unset, .unset] [])) (fun t k => XS.istore X13.here hx rfl (hb hby at_64) rfl (l' := #[.val (.int i0), .val (.ref (h0.size)), .val (.int (1 : Int32)), .val (.ref (w 1)), .val (.int (0 : Int32)), .unset, .unset]) rfl k) ?_
    refine Go.on (T' := T13) (g' := (mkF m 67 #[.val (.int i0), .val (.ref (h0.size)), .val (.int (1 : Int32)), .val (.ref (w 1)), .val (.int (0 : Int32)), .unset, .unset] [(.ref (w 1))])) (fun t k => XS.aloadN X13.here hx rfl (hb hby at_66) rfl rfl k) ?_
    obtain ⟨cq30, kq30, q30a, q30b, q30c⟩ := isOf hZ e13 (pin_7 (pins_ext XT13 hP))
    obtain ⟨_, _, ⟨T30, L30, k30, n30⟩, -, X30, ⟨Lc30, hQ30, l30, y30, z30⟩, st30⟩ := X13.virtualBack hx (y := (⟨"com/example/rederive/rederive/program/Comparison$Operator", "ordersNumbers", "()Z"⟩ : MethodName)) (z := (⟨"com/example/rederive/rederive/program/Comparison$Operator", "ordersNumbers", "()Z"⟩ : MethodName)) hown (mvT hZ (hw _ (List.mem_of_getElem? (i := 17) rfl))) (mvT hZ (hw _ (List.mem_of_getElem? (i := 18) rfl))) (notFace_of_selects (args := #[]) (mvT hZ (hw _ (List.mem_of_getElem? (i := 20) rfl)))) (mvT hZ (hw _ (List.mem_of_getElem? (i := 20) rfl))) (mvT hZ (hw _ (List.mem_of_getElem? (i := 19) rfl))) (by decide) (backOf (W := 0) (rm1_1 l Z a0 hw [] w h13 n0 (Nat.le_trans Z0 XT13.1) (pins_ext XT13 hP)) hZ (hw _ (List.mem_of_getElem? (i := 21) rfl)) (hw _ (List.mem_of_getElem? (i := 3) rfl)) (by decide) (by decide)) q30a q30c (g := (mkF m 67 #[.val (.int i0), .val (.ref (h0.size)), .val (.int (1 : Int32)), .val (.ref (w 1)), .val (.int (0 : Int32)), .unset, .unset] [(.ref (w 1))])) rfl (by rw [hml]; rfl) (Steps.refl _) (argsL := []) (rest := []) (lenOf pd_0 rfl) rfl (by show 2 * 0 + _ ≤ _; exact Nat.le_of_eq rfl) (hb hby at_67) (fun _ _ => ⟨rfl, e13, (by decide : 1 + 0 ≤ _), (by decide : 6 + 0 ≤ _)⟩)
    dsimp only [Pt.U, Pt.locs, Pt.cells, Pt.slots] at X30 l30 y30 z30 st30 hQ30
    subst l30 y30 z30
    obtain ⟨rfl, N30q, e30⟩ := hQ30
    have N30 := Fr.app N13 N30q
    refine Go.on (T' := T30) (g' := (mkF m 70 #[.val (.int i0), .val (.ref (h0.size)), .val (.int (1 : Int32)), .val (.ref (w 1)), .val (.int (0 : Int32)), .unset, .unset] [(.int (0 : Int32))])) (fun t k => st30.trans k) ?_
    refine Go.on (T' := T30) (g' := (mkF m 72 #[.val (.int i0), .val (.ref (h0.size)), .val (.int (1 : Int32)), .val (.ref (w 1)), .val (.int (0 : Int32)), .val (.int (0 : Int32)), .unset] [])) (fun t k => XS.istore X30.here hx rfl (hb hby at_70) rfl (l' := #[.val (.int i0), .val (.ref (h0.size)), .val (.int (1 : Int32)), .val (.ref (w 1)), .val (.int (0 : Int32)), .val (.int (0 : Int32)), .unset]) rfl k) ?_
    refine Go.on (T' := T30) (g' := (mkF m 73 #[.val (.int i0), .val (.ref (h0.size)), .val (.int (1 : Int32)), .val (.ref (w 1)), .val (.int (0 : Int32)), .val (.int (0 : Int32)), .unset] [(.ref (w 1))])) (fun t k => XS.aloadN X30.here hx rfl (hb hby at_72) rfl rfl k) ?_
    refine Go.on (T' := T30) (g' := (mkF m 74 #[.val (.int i0), .val (.ref (h0.size)), .val (.int (1 : Int32)), .val (.ref (w 1)), .val (.int (0 : Int32)), .val (.int (0 : Int32)), .unset] [(.int (0 : Int32)), (.ref (w 1))])) (fun t k => XS.iconst X30.here hx rfl (hb hby at_73) k) ?_
    refine Go.on (T' := T30) (g' := (mkF m 75 #[.val (.int i0), .val (.ref (h0.size)), .val (.int (1 : Int32)), .val (.ref (w 1)), .val (.int (0 : Int32)), .val (.int (0 : Int32)), .unset] [(.int (1 : Int32)), (.int (0 : Int32)), (.ref (w 1))])) (fun t k => XS.iconst X30.here hx rfl (hb hby at_74) k) ?_
    obtain ⟨cq35, kq35, q35a, q35b, q35c⟩ := isOf hZ e30 (pin_7 (pins_ext XT13 hP))
    obtain ⟨_, _, ⟨T35, L35, k35, n35⟩, -, X35, ⟨Lc35, hQ35, l35, y35, z35⟩, st35⟩ := X30.virtualBack hx (y := (⟨"com/example/rederive/rederive/program/Comparison$Operator", "holds", "(II)Z"⟩ : MethodName)) (z := (⟨"com/example/rederive/rederive/program/Comparison$Operator", "holds", "(II)Z"⟩ : MethodName)) hown (mvT hZ (hw _ (List.mem_of_getElem? (i := 23) rfl))) (mvT hZ (hw _ (List.mem_of_getElem? (i := 24) rfl))) (notFace_of_selects (args := #[]) (mvT hZ (hw _ (List.mem_of_getElem? (i := 26) rfl)))) (mvT hZ (hw _ (List.mem_of_getElem? (i := 26) rfl))) (mvT hZ (hw _ (List.mem_of_getElem? (i := 25) rfl))) (by decide) (backOf (W := 0) (rm2_2 l Z a0 hw [] w h13 n0 (Nat.le_trans Z0 XT13.1) (pins_ext XT13 hP)) hZ (hw _ (List.mem_of_getElem? (i := 27) rfl)) (hw _ (List.mem_of_getElem? (i := 3) rfl)) (by decide) (by decide)) q35a q35c (g := (mkF m 75 #[.val (.int i0), .val (.ref (h0.size)), .val (.int (1 : Int32)), .val (.ref (w 1)), .val (.int (0 : Int32)), .val (.int (0 : Int32)), .unset] [(.int (1 : Int32)), (.int (0 : Int32)), (.ref (w 1))])) rfl (by rw [hml]; rfl) (Steps.refl _) (argsL := [(.int (0 : Int32)), (.int (1 : Int32))]) (rest := []) (lenOf pd_2 rfl) rfl (by show 2 * 0 + _ ≤ _; exact Nat.le_of_eq rfl) (hb hby at_75) (fun _ _ => ⟨rfl, e30, (by decide : 1 + 0 ≤ _), (by decide : 6 + 0 ≤ _)⟩)
    dsimp only [Pt.U, Pt.locs, Pt.cells, Pt.slots] at X35 l35 y35 z35 st35 hQ35
    subst l35 y35 z35
    obtain ⟨rfl, N35q, e35⟩ := hQ35
    have N35 := Fr.app N30 N35q
    refine Go.on (T' := T35) (g' := (mkF m 78 #[.val (.int i0), .val (.ref (h0.size)), .val (.int (1 : Int32)), .val (.ref (w 1)), .val (.int (0 : Int32)), .val (.int (0 : Int32)), .unset] [(.int (1 : Int32))])) (fun t k => st35.trans k) ?_
    refine Go.on (T' := T35) (g' := (mkF m 79 #[.val (.int i0), .val (.ref (h0.size)), .val (.int (1 : Int32)), .val (.ref (w 1)), .val (.int (0 : Int32)), .val (.int (0 : Int32)), .unset] [(.ref (w 1)), (.int (1 : Int32))])) (fun t k => XS.aloadN X35.here hx rfl (hb hby at_78) rfl rfl k) ?_
    refine Go.on (T' := T35) (g' := (mkF m 80 #[.val (.int i0), .val (.ref (h0.size)), .val (.int (1 : Int32)), .val (.ref (w 1)), .val (.int (0 : Int32)), .val (.int (0 : Int32)), .unset] [(.int (1 : Int32)), (.ref (w 1)), (.int (1 : Int32))])) (fun t k => XS.iconst X35.here hx rfl (hb hby at_79) k) ?_
    refine Go.on (T' := T35) (g' := (mkF m 81 #[.val (.int i0), .val (.ref (h0.size)), .val (.int (1 : Int32)), .val (.ref (w 1)), .val (.int (0 : Int32)), .val (.int (0 : Int32)), .unset] [(.int (0 : Int32)), (.int (1 : Int32)), (.ref (w 1)), (.int (1 : Int32))])) (fun t k => XS.iconst X35.here hx rfl (hb hby at_80) k) ?_
    obtain ⟨cq38, kq38, q38a, q38b, q38c⟩ := isOf hZ e35 (pin_7 (pins_ext XT13 hP))
    obtain ⟨_, _, ⟨T38, L38, k38, n38⟩, -, X38, ⟨Lc38, hQ38, l38, y38, z38⟩, st38⟩ := X35.virtualBack hx (y := (⟨"com/example/rederive/rederive/program/Comparison$Operator", "holds", "(II)Z"⟩ : MethodName)) (z := (⟨"com/example/rederive/rederive/program/Comparison$Operator", "holds", "(II)Z"⟩ : MethodName)) hown (mvT hZ (hw _ (List.mem_of_getElem? (i := 23) rfl))) (mvT hZ (hw _ (List.mem_of_getElem? (i := 24) rfl))) (notFace_of_selects (args := #[]) (mvT hZ (hw _ (List.mem_of_getElem? (i := 26) rfl)))) (mvT hZ (hw _ (List.mem_of_getElem? (i := 26) rfl))) (mvT hZ (hw _ (List.mem_of_getElem? (i := 25) rfl))) (by decide) (backOf (W := 1) (rm2_3 l Z a0 hw [] w h13 n0 (Nat.le_trans Z0 XT13.1) (pins_ext XT13 hP)) hZ (hw _ (List.mem_of_getElem? (i := 27) rfl)) (hw _ (List.mem_of_getElem? (i := 3) rfl)) (by decide) (by decide)) q38a q38c (g := (mkF m 81 #[.val (.int i0), .val (.ref (h0.size)), .val (.int (1 : Int32)), .val (.ref (w 1)), .val (.int (0 : Int32)), .val (.int (0 : Int32)), .unset] [(.int (0 : Int32)), (.int (1 : Int32)), (.ref (w 1)), (.int (1 : Int32))])) rfl (by rw [hml]; rfl) (Steps.refl _) (argsL := [(.int (1 : Int32)), (.int (0 : Int32))]) (rest := [(.int (1 : Int32))]) (lenOf pd_2 rfl) rfl (by show 2 * 0 + _ ≤ _; exact Nat.le_of_eq rfl) (hb hby at_81) (fun _ _ => ⟨rfl, e35, (by decide : 1 + 0 ≤ _), (by decide : 6 + 0 ≤ _)⟩)
    dsimp only [Pt.U, Pt.locs, Pt.cells, Pt.slots] at X38 l38 y38 z38 st38 hQ38
    subst l38 y38 z38
    obtain ⟨rfl, N38q, e38⟩ := hQ38
    have N38 := Fr.app N35 N38q
    refine Go.on (T' := T38) (g' := (mkF m 84 #[.val (.int i0), .val (.ref (h0.size)), .val (.int (1 : Int32)), .val (.ref (w 1)), .val (.int (0 : Int32)), .val (.int (0 : Int32)), .unset] [(.int (1 : Int32)), (.int (1 : Int32))])) (fun t k => st38.trans k) ?_
    refine Go.on (T' := T38) (g' := (mkF m 91 #[.val (.int i0), .val (.ref (h0.size)), .val (.int (1 : Int32)), .val (.ref (w 1)), .val (.int (0 : Int32)), .val (.int (0 : Int32)), .unset] [])) (fun t k => XS.icmpYes X38.here hx rfl (pc0 := 84) (pc' := 91) rfl (hb hby at_84) rfl (teq (by decide : (1 : Int32) = (1 : Int32))).1 (by decide) (by decide) k) ?_
    refine Go.on (T' := T38) (g' := (mkF m 92 #[.val (.int i0), .val (.ref (h0.size)), .val (.int (1 : Int32)), .val (.ref (w 1)), .val (.int (0 : Int32)), .val (.int (0 : Int32)), .unset] [(.int (0 : Int32))])) (fun t k => XS.iconst X38.here hx rfl (hb hby at_91) k) ?_
    refine Go.on (T' := T38) (g' := (mkF m 94 #[.val (.int i0), .val (.ref (h0.size)), .val (.int (1 : Int32)), .val (.ref (w 1)), .val (.int (0 : Int32)), .val (.int (0 : Int32)), .val (.int (0 : Int32))] [])) (fun t k => XS.istore X38.here hx rfl (hb hby at_92) rfl (l' := #[.val (.int i0), .val (.ref (h0.size)), .val (.int (1 : Int32)), .val (.ref (w 1)), .val (.int (0 : Int32)), .val (.int (0 : Int32)), .val (.int (0 : Int32))]) rfl k) ?_
    refine Go.on (T' := T38) (g' := (mkF m 96 #[.val (.int i0), .val (.ref (h0.size)), .val (.int (1 : Int32)), .val (.ref (w 1)), .val (.int (0 : Int32)), .val (.int (0 : Int32)), .val (.int (0 : Int32))] [(.int (0 : Int32))])) (fun t k => XS.iload X38.here hx rfl (hb hby at_94) rfl k) ?_
    refine Go.on (T' := T38) (g' := (mkF m 98 #[.val (.int i0), .val (.ref (h0.size)), .val (.int (1 : Int32)), .val (.ref (w 1)), .val (.int (0 : Int32)), .val (.int (0 : Int32)), .val (.int (0 : Int32))] [(.int (0 : Int32)), (.int (0 : Int32))])) (fun t k => XS.iload X38.here hx rfl (hb hby at_96) rfl k) ?_
    refine Go.on (T' := T38) (g' := (mkF m 101 #[.val (.int i0), .val (.ref (h0.size)), .val (.int (1 : Int32)), .val (.ref (w 1)), .val (.int (0 : Int32)), .val (.int (0 : Int32)), .val (.int (0 : Int32))] [])) (fun t k => XS.icmpNo X38.here hx rfl (hb hby at_98) rfl (teq (by decide : (0 : Int32) = (0 : Int32))).2 k) ?_
    refine Go.on (T' := T38) (g' := (mkF m 103 #[.val (.int i0), .val (.ref (h0.size)), .val (.int (1 : Int32)), .val (.ref (w 1)), .val (.int (0 : Int32)), .val (.int (0 : Int32)), .val (.int (0 : Int32))] [(.int (0 : Int32))])) (fun t k => XS.iload X38.here hx rfl (hb hby at_101) rfl k) ?_
    refine Go.on (T' := T38) (g' := (mkF m 105 #[.val (.int i0), .val (.ref (h0.size)), .val (.int (1 : Int32)), .val (.ref (w 1)), .val (.int (0 : Int32)), .val (.int (0 : Int32)), .val (.int (0 : Int32))] [(.int (0 : Int32)), (.int (0 : Int32))])) (fun t k => XS.iload X38.here hx rfl (hb hby at_103) rfl k) ?_
    refine Go.on (T' := T38) (g' := (mkF m 108 #[.val (.int i0), .val (.ref (h0.size)), .val (.int (1 : Int32)), .val (.ref (w 1)), .val (.int (0 : Int32)), .val (.int (0 : Int32)), .val (.int (0 : Int32))] [])) (fun t k => XS.icmpNo X38.here hx rfl (hb hby at_105) rfl (teq (by decide : (0 : Int32) = (0 : Int32))).2 k) ?_
    refine Go.on (T' := T38) (g' := (mkF m 109 #[.val (.int i0), .val (.ref (h0.size)), .val (.int (1 : Int32)), .val (.ref (w 1)), .val (.int (0 : Int32)), .val (.int (0 : Int32)), .val (.int (0 : Int32))] [(.int (1 : Int32))])) (fun t k => XS.iconst X38.here hx rfl (hb hby at_108) k) ?_
    refine Go.on (T' := T38) (g' := (mkF m 113 #[.val (.int i0), .val (.ref (h0.size)), .val (.int (1 : Int32)), .val (.ref (w 1)), .val (.int (0 : Int32)), .val (.int (0 : Int32)), .val (.int (0 : Int32))] [(.int (1 : Int32))])) (fun t k => XS.goto X38.here hx rfl (pc0 := 109) (pc' := 113) rfl (hb hby at_109) (by decide) (by decide) k) ?_
    obtain ⟨fs, hr, hrun, hended, hW, hsame⟩ := X38.leave (v := some (.int (1 : Int32))) (fun h => by rw [Bd.returns] at h; cases h)
    exact ⟨_, _, retN X38 hx (t := .boolean) Bd.returns (by simp) (hb hby at_113) hr, hrun, hended, _, _, rfl, ⟨rfl, N38⟩, ⟨_, rfl⟩, hW, hsame.mono (by decide) (by decide)⟩
  · skip
    rw [h14]
    refine Go.on (T' := T13) (g' := (mkF m 50 #[.val (.int i0), .val (.ref (h0.size)), .val (.int (2 : Int32)), .unset, .unset, .unset, .unset] [])) (fun t k => XS.istoreN X13.here hx rfl (hb hby at_49) rfl (l' := #[.val (.int i0), .val (.ref (h0.size)), .val (.int (2 : Int32)), .unset, .unset, .unset, .unset]) rfl k) ?_
    refine Go.on (T' := T13) (g' := (mkF m 51 #[.val (.int i0), .val (.ref (h0.size)), .val (.int (2 : Int32)), .unset, .unset, .unset, .unset] [(.ref (h0.size))])) (fun t k => XS.aloadN X13.here hx rfl (hb hby at_50) rfl rfl k) ?_
    refine Go.on (T' := T13) (g' := (mkF m 52 #[.val (.int i0), .val (.ref (h0.size)), .val (.int (2 : Int32)), .unset, .unset, .unset, .unset] [(.int (2 : Int32)), (.ref (h0.size))])) (fun t k => XS.iloadN X13.here hx rfl (hb hby at_51) rfl k) ?_
    refine Go.on (T' := T13) (g' := (mkF m 53 #[.val (.int i0), .val (.ref (h0.size)), .val (.int (2 : Int32)), .unset, .unset, .unset, .unset] [(.ref (w 2))])) (fun t k => X13.aaload hx (j := (2 : Int32)) (v := (.ref (w 2))) (by rw [e13]; exact Ar1_13.1) (State.isArrayOf_alike hZ.alike Ar1_13.2.1) rfl Ar1_13.2.2 (by show ¬ (_ ∨ (6 : Nat) ≤ _); decide) rfl (g := (mkF m 52 #[.val (.int i0), .val (.ref (h0.size)), .val (.int (2 : Int32)), .unset, .unset, .unset, .unset] [(.int (2 : Int32)), (.ref (h0.size))])) rfl rfl (hb hby at_52) t k) ?_
    refine Go.on (T' := T13) (g' := (mkF m 54 #[.val (.int i0), .val (.ref (h0.size)), .val (.int (2 : Int32)), .val (.ref (w 2)), .unset, .unset, .unset] [])) (fun t k => XS.astoreN X13.here hx rfl (hb hby at_53) rfl rfl (l' := #[.val (.int i0), .val (.ref (h0.size)), .val (.int (2 : Int32)), .val (.ref (w 2)), .unset, .unset, .unset]) rfl k) ?_
    refine Go.on (T' := T13) (g' := (mkF m 55 #[.val (.int i0), .val (.ref (h0.size)), .val (.int (2 : Int32)), .val (.ref (w 2)), .unset, .unset, .unset] [(.int (2 : Int32))])) (fun t k => XS.iloadN X13.here hx rfl (hb hby at_54) rfl k) ?_
    refine Go.on (T' := T13) (g' := (mkF m 56 #[.val (.int i0), .val (.ref (h0.size)), .val (.int (2 : Int32)), .val (.ref (w 2)), .unset, .unset, .unset] [(.int (2 : Int32)), (.int (2 : Int32))])) (fun t k => XS.iconst X13.here hx rfl (hb hby at_55) k) ?_
    refine Go.on (T' := T13) (g' := (mkF m 59 #[.val (.int i0), .val (.ref (h0.size)), .val (.int (2 : Int32)), .val (.ref (w 2)), .unset, .unset, .unset] [])) (fun t k => XS.icmpNo X13.here hx rfl (hb hby at_56) rfl (flt (by decide : ¬ ((2 : Int32) < (2 : Int32)))).1 k) ?_
    refine Go.on (T' := T13) (g' := (mkF m 60 #[.val (.int i0), .val (.ref (h0.size)), .val (.int (2 : Int32)), .val (.ref (w 2)), .unset, .unset, .unset] [(.int (1 : Int32))])) (fun t k => XS.iconst X13.here hx rfl (hb hby at_59) k) ?_
    refine Go.on (T' := T13) (g' := (mkF m 64 #[.val (.int i0), .val (.ref (h0.size)), .val (.int (2 : Int32)), .val (.ref (w 2)), .unset, .unset, .unset] [(.int (1 : Int32))])) (fun t k => XS.goto X13.here hx rfl (pc0 := 60) (pc' := 64) rfl (hb hby at_60) (by decide) (by decide) k) ?_
    refine Go.on (T' := T13) (g' := (mkF m 66 #[.val (.int i0), .val (.ref (h0.size)), .val (.int (2 : Int32)), .val (.ref (w 2)), .val (.int (1 : Int32)), .unset, .unset] [])) (fun t k => XS.istore X13.here hx rfl (hb hby at_64) rfl (l' := #[.val (.int i0), .val (.ref (h0.size)), .val (.int (2 : Int32)), .val (.ref (w 2)), .val (.int (1 : Int32)), .unset, .unset]) rfl k) ?_
    refine Go.on (T' := T13) (g' := (mkF m 67 #[.val (.int i0), .val (.ref (h0.size)), .val (.int (2 : Int32)), .val (.ref (w 2)), .val (.int (1 : Int32)), .unset, .unset] [(.ref (w 2))])) (fun t k => XS.aloadN X13.here hx rfl (hb hby at_66) rfl rfl k) ?_
    obtain ⟨cq43, kq43, q43a, q43b, q43c⟩ := isOf hZ e13 (pin_8 (pins_ext XT13 hP))
    obtain ⟨_, _, ⟨T43, L43, k43, n43⟩, -, X43, ⟨Lc43, hQ43, l43, y43, z43⟩, st43⟩ := X13.virtualBack hx (y := (⟨"com/example/rederive/rederive/program/Comparison$Operator", "ordersNumbers", "()Z"⟩ : MethodName)) (z := (⟨"com/example/rederive/rederive/program/Comparison$Operator", "ordersNumbers", "()Z"⟩ : MethodName)) hown (mvT hZ (hw _ (List.mem_of_getElem? (i := 17) rfl))) (mvT hZ (hw _ (List.mem_of_getElem? (i := 18) rfl))) (notFace_of_selects (args := #[]) (mvT hZ (hw _ (List.mem_of_getElem? (i := 20) rfl)))) (mvT hZ (hw _ (List.mem_of_getElem? (i := 20) rfl))) (mvT hZ (hw _ (List.mem_of_getElem? (i := 19) rfl))) (by decide) (backOf (W := 0) (rm1_2 l Z a0 hw [] w h13 n0 (Nat.le_trans Z0 XT13.1) (pins_ext XT13 hP)) hZ (hw _ (List.mem_of_getElem? (i := 21) rfl)) (hw _ (List.mem_of_getElem? (i := 3) rfl)) (by decide) (by decide)) q43a q43c (g := (mkF m 67 #[.val (.int i0), .val (.ref (h0.size)), .val (.int (2 : Int32)), .val (.ref (w 2)), .val (.int (1 : Int32)), .unset, .unset] [(.ref (w 2))])) rfl (by rw [hml]; rfl) (Steps.refl _) (argsL := []) (rest := []) (lenOf pd_0 rfl) rfl (by show 2 * 0 + _ ≤ _; exact Nat.le_of_eq rfl) (hb hby at_67) (fun _ _ => ⟨rfl, e13, (by decide : 1 + 0 ≤ _), (by decide : 6 + 0 ≤ _)⟩)
    dsimp only [Pt.U, Pt.locs, Pt.cells, Pt.slots] at X43 l43 y43 z43 st43 hQ43
    subst l43 y43 z43
    obtain ⟨rfl, N43q, e43⟩ := hQ43
    have N43 := Fr.app N13 N43q
    refine Go.on (T' := T43) (g' := (mkF m 70 #[.val (.int i0), .val (.ref (h0.size)), .val (.int (2 : Int32)), .val (.ref (w 2)), .val (.int (1 : Int32)), .unset, .unset] [(.int (1 : Int32))])) (fun t k => st43.trans k) ?_
    refine Go.on (T' := T43) (g' := (mkF m 72 #[.val (.int i0), .val (.ref (h0.size)), .val (.int (2 : Int32)), .val (.ref (w 2)), .val (.int (1 : Int32)), .val (.int (1 : Int32)), .unset] [])) (fun t k => XS.istore X43.here hx rfl (hb hby at_70) rfl (l' := #[.val (.int i0), .val (.ref (h0.size)), .val (.int (2 : Int32)), .val (.ref (w 2)), .val (.int (1 : Int32)), .val (.int (1 : Int32)), .unset]) rfl k) ?_
    refine Go.on (T' := T43) (g' := (mkF m 73 #[.val (.int i0), .val (.ref (h0.size)), .val (.int (2 : Int32)), .val (.ref (w 2)), .val (.int (1 : Int32)), .val (.int (1 : Int32)), .unset] [(.ref (w 2))])) (fun t k => XS.aloadN X43.here hx rfl (hb hby at_72) rfl rfl k) ?_
    refine Go.on (T' := T43) (g' := (mkF m 74 #[.val (.int i0), .val (.ref (h0.size)), .val (.int (2 : Int32)), .val (.ref (w 2)), .val (.int (1 : Int32)), .val (.int (1 : Int32)), .unset] [(.int (0 : Int32)), (.ref (w 2))])) (fun t k => XS.iconst X43.here hx rfl (hb hby at_73) k) ?_
    refine Go.on (T' := T43) (g' := (mkF m 75 #[.val (.int i0), .val (.ref (h0.size)), .val (.int (2 : Int32)), .val (.ref (w 2)), .val (.int (1 : Int32)), .val (.int (1 : Int32)), .unset] [(.int (1 : Int32)), (.int (0 : Int32)), (.ref (w 2))])) (fun t k => XS.iconst X43.here hx rfl (hb hby at_74) k) ?_
    obtain ⟨cq48, kq48, q48a, q48b, q48c⟩ := isOf hZ e43 (pin_8 (pins_ext XT13 hP))
    obtain ⟨_, _, ⟨T48, L48, k48, n48⟩, -, X48, ⟨Lc48, hQ48, l48, y48, z48⟩, st48⟩ := X43.virtualBack hx (y := (⟨"com/example/rederive/rederive/program/Comparison$Operator", "holds", "(II)Z"⟩ : MethodName)) (z := (⟨"com/example/rederive/rederive/program/Comparison$Operator", "holds", "(II)Z"⟩ : MethodName)) hown (mvT hZ (hw _ (List.mem_of_getElem? (i := 23) rfl))) (mvT hZ (hw _ (List.mem_of_getElem? (i := 24) rfl))) (notFace_of_selects (args := #[]) (mvT hZ (hw _ (List.mem_of_getElem? (i := 26) rfl)))) (mvT hZ (hw _ (List.mem_of_getElem? (i := 26) rfl))) (mvT hZ (hw _ (List.mem_of_getElem? (i := 25) rfl))) (by decide) (backOf (W := 0) (rm2_4 l Z a0 hw [] w h13 n0 (Nat.le_trans Z0 XT13.1) (pins_ext XT13 hP)) hZ (hw _ (List.mem_of_getElem? (i := 27) rfl)) (hw _ (List.mem_of_getElem? (i := 3) rfl)) (by decide) (by decide)) q48a q48c (g := (mkF m 75 #[.val (.int i0), .val (.ref (h0.size)), .val (.int (2 : Int32)), .val (.ref (w 2)), .val (.int (1 : Int32)), .val (.int (1 : Int32)), .unset] [(.int (1 : Int32)), (.int (0 : Int32)), (.ref (w 2))])) rfl (by rw [hml]; rfl) (Steps.refl _) (argsL := [(.int (0 : Int32)), (.int (1 : Int32))]) (rest := []) (lenOf pd_2 rfl) rfl (by show 2 * 0 + _ ≤ _; exact Nat.le_of_eq rfl) (hb hby at_75) (fun _ _ => ⟨rfl, e43, (by decide : 1 + 0 ≤ _), (by decide : 6 + 0 ≤ _)⟩)
    dsimp only [Pt.U, Pt.locs, Pt.cells, Pt.slots] at X48 l48 y48 z48 st48 hQ48
    subst l48 y48 z48
    obtain ⟨rfl, N48q, e48⟩ := hQ48
    have N48 := Fr.app N43 N48q
    refine Go.on (T' := T48) (g' := (mkF m 78 #[.val (.int i0), .val (.ref (h0.size)), .val (.int (2 : Int32)), .val (.ref (w 2)), .val (.int (1 : Int32)), .val (.int (1 : Int32)), .unset] [(.int (1 : Int32))])) (fun t k => st48.trans k) ?_
    refine Go.on (T' := T48) (g' := (mkF m 79 #[.val (.int i0), .val (.ref (h0.size)), .val (.int (2 : Int32)), .val (.ref (w 2)), .val (.int (1 : Int32)), .val (.int (1 : Int32)), .unset] [(.ref (w 2)), (.int (1 : Int32))])) (fun t k => XS.aloadN X48.here hx rfl (hb hby at_78) rfl rfl k) ?_
    refine Go.on (T' := T48) (g' := (mkF m 80 #[.val (.int i0), .val (.ref (h0.size)), .val (.int (2 : Int32)), .val (.ref (w 2)), .val (.int (1 : Int32)), .val (.int (1 : Int32)), .unset] [(.int (1 : Int32)), (.ref (w 2)), (.int (1 : Int32))])) (fun t k => XS.iconst X48.here hx rfl (hb hby at_79) k) ?_
    refine Go.on (T' := T48) (g' := (mkF m 81 #[.val (.int i0), .val (.ref (h0.size)), .val (.int (2 : Int32)), .val (.ref (w 2)), .val (.int (1 : Int32)), .val (.int (1 : Int32)), .unset] [(.int (0 : Int32)), (.int (1 : Int32)), (.ref (w 2)), (.int (1 : Int32))])) (fun t k => XS.iconst X48.here hx rfl (hb hby at_80) k) ?_
    obtain ⟨cq51, kq51, q51a, q51b, q51c⟩ := isOf hZ e48 (pin_8 (pins_ext XT13 hP))
    obtain ⟨_, _, ⟨T51, L51, k51, n51⟩, -, X51, ⟨Lc51, hQ51, l51, y51, z51⟩, st51⟩ := X48.virtualBack hx (y := (⟨"com/example/rederive/rederive/program/Comparison$Operator", "holds", "(II)Z"⟩ : MethodName)) (z := (⟨"com/example/rederive/rederive/program/Comparison$Operator", "holds", "(II)Z"⟩ : MethodName)) hown (mvT hZ (hw _ (List.mem_of_getElem? (i := 23) rfl))) (mvT hZ (hw _ (List.mem_of_getElem? (i := 24) rfl))) (notFace_of_selects (args := #[]) (mvT hZ (hw _ (List.mem_of_getElem? (i := 26) rfl)))) (mvT hZ (hw _ (List.mem_of_getElem? (i := 26) rfl))) (mvT hZ (hw _ (List.mem_of_getElem? (i := 25) rfl))) (by decide) (backOf (W := 1) (rm2_5 l Z a0 hw [] w h13 n0 (Nat.le_trans Z0 XT13.1) (pins_ext XT13 hP)) hZ (hw _ (List.mem_of_getElem? (i := 27) rfl)) (hw _ (List.mem_of_getElem? (i := 3) rfl)) (by decide) (by decide)) q51a q51c (g := (mkF m 81 #[.val (.int i0), .val (.ref (h0.size)), .val (.int (2 : Int32)), .val (.ref (w 2)), .val (.int (1 : Int32)), .val (.int (1 : Int32)), .unset] [(.int (0 : Int32)), (.int (1 : Int32)), (.ref (w 2)), (.int (1 : Int32))])) rfl (by rw [hml]; rfl) (Steps.refl _) (argsL := [(.int (1 : Int32)), (.int (0 : Int32))]) (rest := [(.int (1 : Int32))]) (lenOf pd_2 rfl) rfl (by show 2 * 0 + _ ≤ _; exact Nat.le_of_eq rfl) (hb hby at_81) (fun _ _ => ⟨rfl, e48, (by decide : 1 + 0 ≤ _), (by decide : 6 + 0 ≤ _)⟩)
    dsimp only [Pt.U, Pt.locs, Pt.cells, Pt.slots] at X51 l51 y51 z51 st51 hQ51
    subst l51 y51 z51
    obtain ⟨rfl, N51q, e51⟩ := hQ51
    have N51 := Fr.app N48 N51q
    refine Go.on (T' := T51) (g' := (mkF m 84 #[.val (.int i0), .val (.ref (h0.size)), .val (.int (2 : Int32)), .val (.ref (w 2)), .val (.int (1 : Int32)), .val (.int (1 : Int32)), .unset] [(.int (0 : Int32)), (.int (1 : Int32))])) (fun t k => st51.trans k) ?_
    refine Go.on (T' := T51) (g' := (mkF m 87 #[.val (.int i0), .val (.ref (h0.size)), .val (.int (2 : Int32)), .val (.ref (w 2)), .val (.int (1 : Int32)), .val (.int (1 : Int32)), .unset] [])) (fun t k => XS.icmpNo X51.here hx rfl (hb hby at_84) rfl (feq (by decide : ¬ ((1 : Int32) = (0 : Int32)))).1 k) ?_
    refine Go.on (T' := T51) (g' := (mkF m 88 #[.val (.int i0), .val (.ref (h0.size)), .val (.int (2 : Int32)), .val (.ref (w 2)), .val (.int (1 : Int32)), .val (.int (1 : Int32)), .unset] [(.int (1 : Int32))])) (fun t k => XS.iconst X51.here hx rfl (hb hby at_87) k) ?_
    refine Go.on (T' := T51) (g' := (mkF m 92 #[.val (.int i0), .val (.ref (h0.size)), .val (.int (2 : Int32)), .val (.ref (w 2)), .val (.int (1 : Int32)), .val (.int (1 : Int32)), .unset] [(.int (1 : Int32))])) (fun t k => XS.goto X51.here hx rfl (pc0 := 88) (pc' := 92) rfl (hb hby at_88) (by decide) (by decide) k) ?_
    refine Go.on (T' := T51) (g' := (mkF m 94 #[.val (.int i0), .val (.ref (h0.size)), .val (.int (2 : Int32)), .val (.ref (w 2)), .val (.int (1 : Int32)), .val (.int (1 : Int32)), .val (.int (1 : Int32))] [])) (fun t k => XS.istore X51.here hx rfl (hb hby at_92) rfl (l' := #[.val (.int i0), .val (.ref (h0.size)), .val (.int (2 : Int32)), .val (.ref (w 2)), .val (.int (1 : Int32)), .val (.int (1 : Int32)), .val (.int (1 : Int32))]) rfl k) ?_
    refine Go.on (T' := T51) (g' := (mkF m 96 #[.val (.int i0), .val (.ref (h0.size)), .val (.int (2 : Int32)), .val (.ref (w 2)), .val (.int (1 : Int32)), .val (.int (1 : Int32)), .val (.int (1 : Int32))] [(.int (1 : Int32))])) (fun t k => XS.iload X51.here hx rfl (hb hby at_94) rfl k) ?_
    refine Go.on (T' := T51) (g' := (mkF m 98 #[.val (.int i0), .val (.ref (h0.size)), .val (.int (2 : Int32)), .val (.ref (w 2)), .val (.int (1 : Int32)), .val (.int (1 : Int32)), .val (.int (1 : Int32))] [(.int (1 : Int32)), (.int (1 : Int32))])) (fun t k => XS.iload X51.here hx rfl (hb hby at_96) rfl k) ?_
    refine Go.on (T' := T51) (g' := (mkF m 101 #[.val (.int i0), .val (.ref (h0.size)), .val (.int (2 : Int32)), .val (.ref (w 2)), .val (.int (1 : Int32)), .val (.int (1 : Int32)), .val (.int (1 : Int32))] [])) (fun t k => XS.icmpNo X51.here hx rfl (hb hby at_98) rfl (teq (by decide : (1 : Int32) = (1 : Int32))).2 k) ?_
    refine Go.on (T' := T51) (g' := (mkF m 103 #[.val (.int i0), .val (.ref (h0.size)), .val (.int (2 : Int32)), .val (.ref (w 2)), .val (.int (1 : Int32)), .val (.int (1 : Int32)), .val (.int (1 : Int32))] [(.int (1 : Int32))])) (fun t k => XS.iload X51.here hx rfl (hb hby at_101) rfl k) ?_
    refine Go.on (T' := T51) (g' := (mkF m 105 #[.val (.int i0), .val (.ref (h0.size)), .val (.int (2 : Int32)), .val (.ref (w 2)), .val (.int (1 : Int32)), .val (.int (1 : Int32)), .val (.int (1 : Int32))] [(.int (1 : Int32)), (.int (1 : Int32))])) (fun t k => XS.iload X51.here hx rfl (hb hby at_103) rfl k) ?_
    refine Go.on (T' := T51) (g' := (mkF m 108 #[.val (.int i0), .val (.ref (h0.size)), .val (.int (2 : Int32)), .val (.ref (w 2)), .val (.int (1 : Int32)), .val (.int (1 : Int32)), .val (.int (1 : Int32))] [])) (fun t k => XS.icmpNo X51.here hx rfl (hb hby at_105) rfl (teq (by decide : (1 : Int32) = (1 : Int32))).2 k) ?_
    refine Go.on (T' := T51) (g' := (mkF m 109 #[.val (.int i0), .val (.ref (h0.size)), .val (.int (2 : Int32)), .val (.ref (w 2)), .val (.int (1 : Int32)), .val (.int (1 : Int32)), .val (.int (1 : Int32))] [(.int (1 : Int32))])) (fun t k => XS.iconst X51.here hx rfl (hb hby at_108) k) ?_
    refine Go.on (T' := T51) (g' := (mkF m 113 #[.val (.int i0), .val (.ref (h0.size)), .val (.int (2 : Int32)), .val (.ref (w 2)), .val (.int (1 : Int32)), .val (.int (1 : Int32)), .val (.int (1 : Int32))] [(.int (1 : Int32))])) (fun t k => XS.goto X51.here hx rfl (pc0 := 109) (pc' := 113) rfl (hb hby at_109) (by decide) (by decide) k) ?_
    obtain ⟨fs, hr, hrun, hended, hW, hsame⟩ := X51.leave (v := some (.int (1 : Int32))) (fun h => by rw [Bd.returns] at h; cases h)
    exact ⟨_, _, retN X51 hx (t := .boolean) Bd.returns (by simp) (hb hby at_113) hr, hrun, hended, _, _, rfl, ⟨rfl, N51⟩, ⟨_, rfl⟩, hW, hsame.mono (by decide) (by decide)⟩
  · skip
    rw [h14]
    refine Go.on (T' := T13) (g' := (mkF m 50 #[.val (.int i0), .val (.ref (h0.size)), .val (.int (3 : Int32)), .unset, .unset, .unset, .unset] [])) (fun t k => XS.istoreN X13.here hx rfl (hb hby at_49) rfl (l' := #[.val (.int i0), .val (.ref (h0.size)), .val (.int (3 : Int32)), .unset, .unset, .unset, .unset]) rfl k) ?_
    refine Go.on (T' := T13) (g' := (mkF m 51 #[.val (.int i0), .val (.ref (h0.size)), .val (.int (3 : Int32)), .unset, .unset, .unset, .unset] [(.ref (h0.size))])) (fun t k => XS.aloadN X13.here hx rfl (hb hby at_50) rfl rfl k) ?_
    refine Go.on (T' := T13) (g' := (mkF m 52 #[.val (.int i0), .val (.ref (h0.size)), .val (.int (3 : Int32)), .unset, .unset, .unset, .unset] [(.int (3 : Int32)), (.ref (h0.size))])) (fun t k => XS.iloadN X13.here hx rfl (hb hby at_51) rfl k) ?_
    refine Go.on (T' := T13) (g' := (mkF m 53 #[.val (.int i0), .val (.ref (h0.size)), .val (.int (3 : Int32)), .unset, .unset, .unset, .unset] [(.ref (w 3))])) (fun t k => X13.aaload hx (j := (3 : Int32)) (v := (.ref (w 3))) (by rw [e13]; exact Ar1_13.1) (State.isArrayOf_alike hZ.alike Ar1_13.2.1) rfl Ar1_13.2.2 (by show ¬ (_ ∨ (6 : Nat) ≤ _); decide) rfl (g := (mkF m 52 #[.val (.int i0), .val (.ref (h0.size)), .val (.int (3 : Int32)), .unset, .unset, .unset, .unset] [(.int (3 : Int32)), (.ref (h0.size))])) rfl rfl (hb hby at_52) t k) ?_
    refine Go.on (T' := T13) (g' := (mkF m 54 #[.val (.int i0), .val (.ref (h0.size)), .val (.int (3 : Int32)), .val (.ref (w 3)), .unset, .unset, .unset] [])) (fun t k => XS.astoreN X13.here hx rfl (hb hby at_53) rfl rfl (l' := #[.val (.int i0), .val (.ref (h0.size)), .val (.int (3 : Int32)), .val (.ref (w 3)), .unset, .unset, .unset]) rfl k) ?_
    refine Go.on (T' := T13) (g' := (mkF m 55 #[.val (.int i0), .val (.ref (h0.size)), .val (.int (3 : Int32)), .val (.ref (w 3)), .unset, .unset, .unset] [(.int (3 : Int32))])) (fun t k => XS.iloadN X13.here hx rfl (hb hby at_54) rfl k) ?_
    refine Go.on (T' := T13) (g' := (mkF m 56 #[.val (.int i0), .val (.ref (h0.size)), .val (.int (3 : Int32)), .val (.ref (w 3)), .unset, .unset, .unset] [(.int (2 : Int32)), (.int (3 : Int32))])) (fun t k => XS.iconst X13.here hx rfl (hb hby at_55) k) ?_
    refine Go.on (T' := T13) (g' := (mkF m 59 #[.val (.int i0), .val (.ref (h0.size)), .val (.int (3 : Int32)), .val (.ref (w 3)), .unset, .unset, .unset] [])) (fun t k => XS.icmpNo X13.here hx rfl (hb hby at_56) rfl (flt (by decide : ¬ ((3 : Int32) < (2 : Int32)))).1 k) ?_
    refine Go.on (T' := T13) (g' := (mkF m 60 #[.val (.int i0), .val (.ref (h0.size)), .val (.int (3 : Int32)), .val (.ref (w 3)), .unset, .unset, .unset] [(.int (1 : Int32))])) (fun t k => XS.iconst X13.here hx rfl (hb hby at_59) k) ?_
    refine Go.on (T' := T13) (g' := (mkF m 64 #[.val (.int i0), .val (.ref (h0.size)), .val (.int (3 : Int32)), .val (.ref (w 3)), .unset, .unset, .unset] [(.int (1 : Int32))])) (fun t k => XS.goto X13.here hx rfl (pc0 := 60) (pc' := 64) rfl (hb hby at_60) (by decide) (by decide) k) ?_
    refine Go.on (T' := T13) (g' := (mkF m 66 #[.val (.int i0), .val (.ref (h0.size)), .val (.int (3 : Int32)), .val (.ref (w 3)), .val (.int (1 : Int32)), .unset, .unset] [])) (fun t k => XS.istore X13.here hx rfl (hb hby at_64) rfl (l' := #[.val (.int i0), .val (.ref (h0.size)), .val (.int (3 : Int32)), .val (.ref (w 3)), .val (.int (1 : Int32)), .unset, .unset]) rfl k) ?_
    refine Go.on (T' := T13) (g' := (mkF m 67 #[.val (.int i0), .val (.ref (h0.size)), .val (.int (3 : Int32)), .val (.ref (w 3)), .val (.int (1 : Int32)), .unset, .unset] [(.ref (w 3))])) (fun t k => XS.aloadN X13.here hx rfl (hb hby at_66) rfl rfl k) ?_
    obtain ⟨cq56, kq56, q56a, q56b, q56c⟩ := isOf hZ e13 (pin_9 (pins_ext XT13 hP))
    obtain ⟨_, _, ⟨T56, L56, k56, n56⟩, -, X56, ⟨Lc56, hQ56, l56, y56, z56⟩, st56⟩ := X13.virtualBack hx (y := (⟨"com/example/rederive/rederive/program/Comparison$Operator", "ordersNumbers", "()Z"⟩ : MethodName)) (z := (⟨"com/example/rederive/rederive/program/Comparison$Operator", "ordersNumbers", "()Z"⟩ : MethodName)) hown (mvT hZ (hw _ (List.mem_of_getElem? (i := 17) rfl))) (mvT hZ (hw _ (List.mem_of_getElem? (i := 18) rfl))) (notFace_of_selects (args := #[]) (mvT hZ (hw _ (List.mem_of_getElem? (i := 20) rfl)))) (mvT hZ (hw _ (List.mem_of_getElem? (i := 20) rfl))) (mvT hZ (hw _ (List.mem_of_getElem? (i := 19) rfl))) (by decide) (backOf (W := 0) (rm1_3 l Z a0 hw [] w h13 n0 (Nat.le_trans Z0 XT13.1) (pins_ext XT13 hP)) hZ (hw _ (List.mem_of_getElem? (i := 21) rfl)) (hw _ (List.mem_of_getElem? (i := 3) rfl)) (by decide) (by decide)) q56a q56c (g := (mkF m 67 #[.val (.int i0), .val (.ref (h0.size)), .val (.int (3 : Int32)), .val (.ref (w 3)), .val (.int (1 : Int32)), .unset, .unset] [(.ref (w 3))])) rfl (by rw [hml]; rfl) (Steps.refl _) (argsL := []) (rest := []) (lenOf pd_0 rfl) rfl (by show 2 * 0 + _ ≤ _; exact Nat.le_of_eq rfl) (hb hby at_67) (fun _ _ => ⟨rfl, e13, (by decide : 1 + 0 ≤ _), (by decide : 6 + 0 ≤ _)⟩)
    dsimp only [Pt.U, Pt.locs, Pt.cells, Pt.slots] at X56 l56 y56 z56 st56 hQ56
    subst l56 y56 z56
    obtain ⟨rfl, N56q, e56⟩ := hQ56
    have N56 := Fr.app N13 N56q
    refine Go.on (T' := T56) (g' := (mkF m 70 #[.val (.int i0), .val (.ref (h0.size)), .val (.int (3 : Int32)), .val (.ref (w 3)), .val (.int (1 : Int32)), .unset, .unset] [(.int (1 : Int32))])) (fun t k => st56.trans k) ?_
    refine Go.on (T' := T56) (g' := (mkF m 72 #[.val (.int i0), .val (.ref (h0.size)), .val (.int (3 : Int32)), .val (.ref (w 3)), .val (.int (1 : Int32)), .val (.int (1 : Int32)), .unset] [])) (fun t k => XS.istore X56.here hx rfl (hb hby at_70) rfl (l' := #[.val (.int i0), .val (.ref (h0.size)), .val (.int (3 : Int32)), .val (.ref (w 3)), .val (.int (1 : Int32)), .val (.int (1 : Int32)), .unset]) rfl k) ?_
    refine Go.on (T' := T56) (g' := (mkF m 73 #[.val (.int i0), .val (.ref (h0.size)), .val (.int (3 : Int32)), .val (.ref (w 3)), .val (.int (1 : Int32)), .val (.int (1 : Int32)), .unset] [(.ref (w 3))])) (fun t k => XS.aloadN X56.here hx rfl (hb hby at_72) rfl rfl k) ?_
    refine Go.on (T' := T56) (g' := (mkF m 74 #[.val (.int i0), .val (.ref (h0.size)), .val (.int (3 : Int32)), .val (.ref (w 3)), .val (.int (1 : Int32)), .val (.int (1 : Int32)), .unset] [(.int (0 : Int32)), (.ref (w 3))])) (fun t k => XS.iconst X56.here hx rfl (hb hby at_73) k) ?_
    refine Go.on (T' := T56) (g' := (mkF m 75 #[.val (.int i0), .val (.ref (h0.size)), .val (.int (3 : Int32)), .val (.ref (w 3)), .val (.int (1 : Int32)), .val (.int (1 : Int32)), .unset] [(.int (1 : Int32)), (.int (0 : Int32)), (.ref (w 3))])) (fun t k => XS.iconst X56.here hx rfl (hb hby at_74) k) ?_
    obtain ⟨cq61, kq61, q61a, q61b, q61c⟩ := isOf hZ e56 (pin_9 (pins_ext XT13 hP))
    obtain ⟨_, _, ⟨T61, L61, k61, n61⟩, -, X61, ⟨Lc61, hQ61, l61, y61, z61⟩, st61⟩ := X56.virtualBack hx (y := (⟨"com/example/rederive/rederive/program/Comparison$Operator", "holds", "(II)Z"⟩ : MethodName)) (z := (⟨"com/example/rederive/rederive/program/Comparison$Operator", "holds", "(II)Z"⟩ : MethodName)) hown (mvT hZ (hw _ (List.mem_of_getElem? (i := 23) rfl))) (mvT hZ (hw _ (List.mem_of_getElem? (i := 24) rfl))) (notFace_of_selects (args := #[]) (mvT hZ (hw _ (List.mem_of_getElem? (i := 26) rfl)))) (mvT hZ (hw _ (List.mem_of_getElem? (i := 26) rfl))) (mvT hZ (hw _ (List.mem_of_getElem? (i := 25) rfl))) (by decide) (backOf (W := 0) (rm2_6 l Z a0 hw [] w h13 n0 (Nat.le_trans Z0 XT13.1) (pins_ext XT13 hP)) hZ (hw _ (List.mem_of_getElem? (i := 27) rfl)) (hw _ (List.mem_of_getElem? (i := 3) rfl)) (by decide) (by decide)) q61a q61c (g := (mkF m 75 #[.val (.int i0), .val (.ref (h0.size)), .val (.int (3 : Int32)), .val (.ref (w 3)), .val (.int (1 : Int32)), .val (.int (1 : Int32)), .unset] [(.int (1 : Int32)), (.int (0 : Int32)), (.ref (w 3))])) rfl (by rw [hml]; rfl) (Steps.refl _) (argsL := [(.int (0 : Int32)), (.int (1 : Int32))]) (rest := []) (lenOf pd_2 rfl) rfl (by show 2 * 0 + _ ≤ _; exact Nat.le_of_eq rfl) (hb hby at_75) (fun _ _ => ⟨rfl, e56, (by decide : 1 + 0 ≤ _), (by decide : 6 + 0 ≤ _)⟩)
    dsimp only [Pt.U, Pt.locs, Pt.cells, Pt.slots] at X61 l61 y61 z61 st61 hQ61
    subst l61 y61 z61
    obtain ⟨rfl, N61q, e61⟩ := hQ61
    have N61 := Fr.app N56 N61q
    refine Go.on (T' := T61) (g' := (mkF m 78 #[.val (.int i0), .val (.ref (h0.size)), .val (.int (3 : Int32)), .val (.ref (w 3)), .val (.int (1 : Int32)), .val (.int (1 : Int32)), .unset] [(.int (1 : Int32))])) (fun t k => st61.trans k) ?_
    refine Go.on (T' := T61) (g' := (mkF m 79 #[.val (.int i0), .val (.ref (h0.size)), .val (.int (3 : Int32)), .val (.ref (w 3)), .val (.int (1 : Int32)), .val (.int (1 : Int32)), .unset] [(.ref (w 3)), (.int (1 : Int32))])) (fun t k => XS.aloadN X61.here hx rfl (hb hby at_78) rfl rfl k) ?_
    refine Go.on (T' := T61) (g' := (mkF m 80 #[.val (.int i0), .val (.ref (h0.size)), .val (.int (3 : Int32)), .val (.ref (w 3)), .val (.int (1 : Int32)), .val (.int (1 : Int32)), .unset] [(.int (1 : Int32)), (.ref (w 3)), (.int (1 : Int32))])) (fun t k => XS.iconst X61.here hx rfl (hb hby at_79) k) ?_
    refine Go.on (T' := T61) (g' := (mkF m 81 #[.val (.int i0), .val (.ref (h0.size)), .val (.int (3 : Int32)), .val (.ref (w 3)), .val (.int (1 : Int32)), .val (.int (1 : Int32)), .unset] [(.int (0 : Int32)), (.int (1 : Int32)), (.ref (w 3)), (.int (1 : Int32))])) (fun t k => XS.iconst X61.here hx rfl (hb hby at_80) k) ?_
    obtain ⟨cq64, kq64, q64a, q64b, q64c⟩ := isOf hZ e61 (pin_9 (pins_ext XT13 hP))
    obtain ⟨_, _, ⟨T64, L64, k64, n64⟩, -, X64, ⟨Lc64, hQ64, l64, y64, z64⟩, st64⟩ := X61.virtualBack hx (y := (⟨"com/example/rederive/rederive/program/Comparison$Operator", "holds", "(II)Z"⟩ : MethodName)) (z := (⟨"com/example/rederive/rederive/program/Comparison$Operator", "holds", "(II)Z"⟩ : MethodName)) hown (mvT hZ (hw _ (List.mem_of_getElem? (i := 23) rfl))) (mvT hZ (hw _ (List.mem_of_getElem? (i := 24) rfl))) (notFace_of_selects (args := #[]) (mvT hZ (hw _ (List.mem_of_getElem? (i := 26) rfl)))) (mvT hZ (hw _ (List.mem_of_getElem? (i := 26) rfl))) (mvT hZ (hw _ (List.mem_of_getElem? (i := 25) rfl))) (by decide) (backOf (W := 1) (rm2_7 l Z a0 hw [] w h13 n0 (Nat.le_trans Z0 XT13.1) (pins_ext XT13 hP)) hZ (hw _ (List.mem_of_getElem? (i := 27) rfl)) (hw _ (List.mem_of_getElem? (i := 3) rfl)) (by decide) (by decide)) q64a q64c (g := (mkF m 81 #[.val (.int i0), .val (.ref (h0.size)), .val (.int (3 : Int32)), .val (.ref (w 3)), .val (.int (1 : Int32)), .val (.int (1 : Int32)), .unset] [(.int (0 : Int32)), (.int (1 : Int32)), (.ref (w 3)), (.int (1 : Int32))])) rfl (by rw [hml]; rfl) (Steps.refl _) (argsL := [(.int (1 : Int32)), (.int (0 : Int32))]) (rest := [(.int (1 : Int32))]) (lenOf pd_2 rfl) rfl (by show 2 * 0 + _ ≤ _; exact Nat.le_of_eq rfl) (hb hby at_81) (fun _ _ => ⟨rfl, e61, (by decide : 1 + 0 ≤ _), (by decide : 6 + 0 ≤ _)⟩)
    dsimp only [Pt.U, Pt.locs, Pt.cells, Pt.slots] at X64 l64 y64 z64 st64 hQ64
    subst l64 y64 z64
    obtain ⟨rfl, N64q, e64⟩ := hQ64
    have N64 := Fr.app N61 N64q
    refine Go.on (T' := T64) (g' := (mkF m 84 #[.val (.int i0), .val (.ref (h0.size)), .val (.int (3 : Int32)), .val (.ref (w 3)), .val (.int (1 : Int32)), .val (.int (1 : Int32)), .unset] [(.int (0 : Int32)), (.int (1 : Int32))])) (fun t k => st64.trans k) ?_
    refine Go.on (T' := T64) (g' := (mkF m 87 #[.val (.int i0), .val (.ref (h0.size)), .val (.int (3 : Int32)), .val (.ref (w 3)), .val (.int (1 : Int32)), .val (.int (1 : Int32)), .unset] [])) (fun t k => XS.icmpNo X64.here hx rfl (hb hby at_84) rfl (feq (by decide : ¬ ((1 : Int32) = (0 : Int32)))).1 k) ?_
    refine Go.on (T' := T64) (g' := (mkF m 88 #[.val (.int i0), .val (.ref (h0.size)), .val (.int (3 : Int32)), .val (.ref (w 3)), .val (.int (1 : Int32)), .val (.int (1 : Int32)), .unset] [(.int (1 : Int32))])) (fun t k => XS.iconst X64.here hx rfl (hb hby at_87) k) ?_
    refine Go.on (T' := T64) (g' := (mkF m 92 #[.val (.int i0), .val (.ref (h0.size)), .val (.int (3 : Int32)), .val (.ref (w 3)), .val (.int (1 : Int32)), .val (.int (1 : Int32)), .unset] [(.int (1 : Int32))])) (fun t k => XS.goto X64.here hx rfl (pc0 := 88) (pc' := 92) rfl (hb hby at_88) (by decide) (by decide) k) ?_
    refine Go.on (T' := T64) (g' := (mkF m 94 #[.val (.int i0), .val (.ref (h0.size)), .val (.int (3 : Int32)), .val (.ref (w 3)), .val (.int (1 : Int32)), .val (.int (1 : Int32)), .val (.int (1 : Int32))] [])) (fun t k => XS.istore X64.here hx rfl (hb hby at_92) rfl (l' := #[.val (.int i0), .val (.ref (h0.size)), .val (.int (3 : Int32)), .val (.ref (w 3)), .val (.int (1 : Int32)), .val (.int (1 : Int32)), .val (.int (1 : Int32))]) rfl k) ?_
    refine Go.on (T' := T64) (g' := (mkF m 96 #[.val (.int i0), .val (.ref (h0.size)), .val (.int (3 : Int32)), .val (.ref (w 3)), .val (.int (1 : Int32)), .val (.int (1 : Int32)), .val (.int (1 : Int32))] [(.int (1 : Int32))])) (fun t k => XS.iload X64.here hx rfl (hb hby at_94) rfl k) ?_
    refine Go.on (T' := T64) (g' := (mkF m 98 #[.val (.int i0), .val (.ref (h0.size)), .val (.int (3 : Int32)), .val (.ref (w 3)), .val (.int (1 : Int32)), .val (.int (1 : Int32)), .val (.int (1 : Int32))] [(.int (1 : Int32)), (.int (1 : Int32))])) (fun t k => XS.iload X64.here hx rfl (hb hby at_96) rfl k) ?_
    refine Go.on (T' := T64) (g' := (mkF m 101 #[.val (.int i0), .val (.ref (h0.size)), .val (.int (3 : Int32)), .val (.ref (w 3)), .val (.int (1 : Int32)), .val (.int (1 : Int32)), .val (.int (1 : Int32))] [])) (fun t k => XS.icmpNo X64.here hx rfl (hb hby at_98) rfl (teq (by decide : (1 : Int32) = (1 : Int32))).2 k) ?_
    refine Go.on (T' := T64) (g' := (mkF m 103 #[.val (.int i0), .val (.ref (h0.size)), .val (.int (3 : Int32)), .val (.ref (w 3)), .val (.int (1 : Int32)), .val (.int (1 : Int32)), .val (.int (1 : Int32))] [(.int (1 : Int32))])) (fun t k => XS.iload X64.here hx rfl (hb hby at_101) rfl k) ?_
    refine Go.on (T' := T64) (g' := (mkF m 105 #[.val (.int i0), .val (.ref (h0.size)), .val (.int (3 : Int32)), .val (.ref (w 3)), .val (.int (1 : Int32)), .val (.int (1 : Int32)), .val (.int (1 : Int32))] [(.int (1 : Int32)), (.int (1 : Int32))])) (fun t k => XS.iload X64.here hx rfl (hb hby at_103) rfl k) ?_
    refine Go.on (T' := T64) (g' := (mkF m 108 #[.val (.int i0), .val (.ref (h0.size)), .val (.int (3 : Int32)), .val (.ref (w 3)), .val (.int (1 : Int32)), .val (.int (1 : Int32)), .val (.int (1 : Int32))] [])) (fun t k => XS.icmpNo X64.here hx rfl (hb hby at_105) rfl (teq (by decide : (1 : Int32) = (1 : Int32))).2 k) ?_
    refine Go.on (T' := T64) (g' := (mkF m 109 #[.val (.int i0), .val (.ref (h0.size)), .val (.int (3 : Int32)), .val (.ref (w 3)), .val (.int (1 : Int32)), .val (.int (1 : Int32)), .val (.int (1 : Int32))] [(.int (1 : Int32))])) (fun t k => XS.iconst X64.here hx rfl (hb hby at_108) k) ?_
    refine Go.on (T' := T64) (g' := (mkF m 113 #[.val (.int i0), .val (.ref (h0.size)), .val (.int (3 : Int32)), .val (.ref (w 3)), .val (.int (1 : Int32)), .val (.int (1 : Int32)), .val (.int (1 : Int32))] [(.int (1 : Int32))])) (fun t k => XS.goto X64.here hx rfl (pc0 := 109) (pc' := 113) rfl (hb hby at_109) (by decide) (by decide) k) ?_
    obtain ⟨fs, hr, hrun, hended, hW, hsame⟩ := X64.leave (v := some (.int (1 : Int32))) (fun h => by rw [Bd.returns] at h; cases h)
    exact ⟨_, _, retN X64 hx (t := .boolean) Bd.returns (by simp) (hb hby at_113) hr, hrun, hended, _, _, rfl, ⟨rfl, N64⟩, ⟨_, rfl⟩, hW, hsame.mono (by decide) (by decide)⟩
  · skip
    rw [h14]
    refine Go.on (T' := T13) (g' := (mkF m 50 #[.val (.int i0), .val (.ref (h0.size)), .val (.int (4 : Int32)), .unset, .unset, .unset, .unset] [])) (fun t k => XS.istoreN X13.here hx rfl (hb hby at_49) rfl (l' := #[.val (.int i0), .val (.ref (h0.size)), .val (.int (4 : Int32)), .unset, .unset, .unset, .unset]) rfl k) ?_
    refine Go.on (T' := T13) (g' := (mkF m 51 #[.val (.int i0), .val (.ref (h0.size)), .val (.int (4 : Int32)), .unset, .unset, .unset, .unset] [(.ref (h0.size))])) (fun t k => XS.aloadN X13.here hx rfl (hb hby at_50) rfl rfl k) ?_
    refine Go.on (T' := T13) (g' := (mkF m 52 #[.val (.int i0), .val (.ref (h0.size)), .val (.int (4 : Int32)), .unset, .unset, .unset, .unset] [(.int (4 : Int32)), (.ref (h0.size))])) (fun t k => XS.iloadN X13.here hx rfl (hb hby at_51) rfl k) ?_
    refine Go.on (T' := T13) (g' := (mkF m 53 #[.val (.int i0), .val (.ref (h0.size)), .val (.int (4 : Int32)), .unset, .unset, .unset, .unset] [(.ref (w 4))])) (fun t k => X13.aaload hx (j := (4 : Int32)) (v := (.ref (w 4))) (by rw [e13]; exact Ar1_13.1) (State.isArrayOf_alike hZ.alike Ar1_13.2.1) rfl Ar1_13.2.2 (by show ¬ (_ ∨ (6 : Nat) ≤ _); decide) rfl (g := (mkF m 52 #[.val (.int i0), .val (.ref (h0.size)), .val (.int (4 : Int32)), .unset, .unset, .unset, .unset] [(.int (4 : Int32)), (.ref (h0.size))])) rfl rfl (hb hby at_52) t k) ?_
    refine Go.on (T' := T13) (g' := (mkF m 54 #[.val (.int i0), .val (.ref (h0.size)), .val (.int (4 : Int32)), .val (.ref (w 4)), .unset, .unset, .unset] [])) (fun t k => XS.astoreN X13.here hx rfl (hb hby at_53) rfl rfl (l' := #[.val (.int i0), .val (.ref (h0.size)), .val (.int (4 : Int32)), .val (.ref (w 4)), .unset, .unset, .unset]) rfl k) ?_
    refine Go.on (T' := T13) (g' := (mkF m 55 #[.val (.int i0), .val (.ref (h0.size)), .val (.int (4 : Int32)), .val (.ref (w 4)), .unset, .unset, .unset] [(.int (4 : Int32))])) (fun t k => XS.iloadN X13.here hx rfl (hb hby at_54) rfl k) ?_
    refine Go.on (T' := T13) (g' := (mkF m 56 #[.val (.int i0), .val (.ref (h0.size)), .val (.int (4 : Int32)), .val (.ref (w 4)), .unset, .unset, .unset] [(.int (2 : Int32)), (.int (4 : Int32))])) (fun t k => XS.iconst X13.here hx rfl (hb hby at_55) k) ?_
    refine Go.on (T' := T13) (g' := (mkF m 59 #[.val (.int i0), .val (.ref (h0.size)), .val (.int (4 : Int32)), .val (.ref (w 4)), .unset, .unset, .unset] [])) (fun t k => XS.icmpNo X13.here hx rfl (hb hby at_56) rfl (flt (by decide : ¬ ((4 : Int32) < (2 : Int32)))).1 k) ?_
    refine Go.on (T' := T13) (g' := (mkF m 60 #[.val (.int i0), .val (.ref (h0.size)), .val (.int (4 : Int32)), .val (.ref (w 4)), .unset, .unset, .unset] [(.int (1 : Int32))])) (fun t k => XS.iconst X13.here hx rfl (hb hby at_59) k) ?_
    refine Go.on (T' := T13) (g' := (mkF m 64 #[.val (.int i0), .val (.ref (h0.size)), .val (.int (4 : Int32)), .val (.ref (w 4)), .unset, .unset, .unset] [(.int (1 : Int32))])) (fun t k => XS.goto X13.here hx rfl (pc0 := 60) (pc' := 64) rfl (hb hby at_60) (by decide) (by decide) k) ?_
    refine Go.on (T' := T13) (g' := (mkF m 66 #[.val (.int i0), .val (.ref (h0.size)), .val (.int (4 : Int32)), .val (.ref (w 4)), .val (.int (1 : Int32)), .unset, .unset] [])) (fun t k => XS.istore X13.here hx rfl (hb hby at_64) rfl (l' := #[.val (.int i0), .val (.ref (h0.size)), .val (.int (4 : Int32)), .val (.ref (w 4)), .val (.int (1 : Int32)), .unset, .unset]) rfl k) ?_
    refine Go.on (T' := T13) (g' := (mkF m 67 #[.val (.int i0), .val (.ref (h0.size)), .val (.int (4 : Int32)), .val (.ref (w 4)), .val (.int (1 : Int32)), .unset, .unset] [(.ref (w 4))])) (fun t k => XS.aloadN X13.here hx rfl (hb hby at_66) rfl rfl k) ?_
    obtain ⟨cq69, kq69, q69a, q69b, q69c⟩ := isOf hZ e13 (pin_10 (pins_ext XT13 hP))
    obtain ⟨_, _, ⟨T69, L69, k69, n69⟩, -, X69, ⟨Lc69, hQ69, l69, y69, z69⟩, st69⟩ := X13.virtualBack hx (y := (⟨"com/example/rederive/rederive/program/Comparison$Operator", "ordersNumbers", "()Z"⟩ : MethodName)) (z := (⟨"com/example/rederive/rederive/program/Comparison$Operator", "ordersNumbers", "()Z"⟩ : MethodName)) hown (mvT hZ (hw _ (List.mem_of_getElem? (i := 17) rfl))) (mvT hZ (hw _ (List.mem_of_getElem? (i := 18) rfl))) (notFace_of_selects (args := #[]) (mvT hZ (hw _ (List.mem_of_getElem? (i := 20) rfl)))) (mvT hZ (hw _ (List.mem_of_getElem? (i := 20) rfl))) (mvT hZ (hw _ (List.mem_of_getElem? (i := 19) rfl))) (by decide) (backOf (W := 0) (rm1_4 l Z a0 hw [] w h13 n0 (Nat.le_trans Z0 XT13.1) (pins_ext XT13 hP)) hZ (hw _ (List.mem_of_getElem? (i := 21) rfl)) (hw _ (List.mem_of_getElem? (i := 3) rfl)) (by decide) (by decide)) q69a q69c (g := (mkF m 67 #[.val (.int i0), .val (.ref (h0.size)), .val (.int (4 : Int32)), .val (.ref (w 4)), .val (.int (1 : Int32)), .unset, .unset] [(.ref (w 4))])) rfl (by rw [hml]; rfl) (Steps.refl _) (argsL := []) (rest := []) (lenOf pd_0 rfl) rfl (by show 2 * 0 + _ ≤ _; exact Nat.le_of_eq rfl) (hb hby at_67) (fun _ _ => ⟨rfl, e13, (by decide : 1 + 0 ≤ _), (by decide : 6 + 0 ≤ _)⟩)
    dsimp only [Pt.U, Pt.locs, Pt.cells, Pt.slots] at X69 l69 y69 z69 st69 hQ69
    subst l69 y69 z69
    obtain ⟨rfl, N69q, e69⟩ := hQ69
    have N69 := Fr.app N13 N69q
    refine Go.on (T' := T69) (g' := (mkF m 70 #[.val (.int i0), .val (.ref (h0.size)), .val (.int (4 : Int32)), .val (.ref (w 4)), .val (.int (1 : Int32)), .unset, .unset] [(.int (1 : Int32))])) (fun t k => st69.trans k) ?_
    refine Go.on (T' := T69) (g' := (mkF m 72 #[.val (.int i0), .val (.ref (h0.size)), .val (.int (4 : Int32)), .val (.ref (w 4)), .val (.int (1 : Int32)), .val (.int (1 : Int32)), .unset] [])) (fun t k => XS.istore X69.here hx rfl (hb hby at_70) rfl (l' := #[.val (.int i0), .val (.ref (h0.size)), .val (.int (4 : Int32)), .val (.ref (w 4)), .val (.int (1 : Int32)), .val (.int (1 : Int32)), .unset]) rfl k) ?_
    refine Go.on (T' := T69) (g' := (mkF m 73 #[.val (.int i0), .val (.ref (h0.size)), .val (.int (4 : Int32)), .val (.ref (w 4)), .val (.int (1 : Int32)), .val (.int (1 : Int32)), .unset] [(.ref (w 4))])) (fun t k => XS.aloadN X69.here hx rfl (hb hby at_72) rfl rfl k) ?_
    refine Go.on (T' := T69) (g' := (mkF m 74 #[.val (.int i0), .val (.ref (h0.size)), .val (.int (4 : Int32)), .val (.ref (w 4)), .val (.int (1 : Int32)), .val (.int (1 : Int32)), .unset] [(.int (0 : Int32)), (.ref (w 4))])) (fun t k => XS.iconst X69.here hx rfl (hb hby at_73) k) ?_
    refine Go.on (T' := T69) (g' := (mkF m 75 #[.val (.int i0), .val (.ref (h0.size)), .val (.int (4 : Int32)), .val (.ref (w 4)), .val (.int (1 : Int32)), .val (.int (1 : Int32)), .unset] [(.int (1 : Int32)), (.int (0 : Int32)), (.ref (w 4))])) (fun t k => XS.iconst X69.here hx rfl (hb hby at_74) k) ?_
    obtain ⟨cq74, kq74, q74a, q74b, q74c⟩ := isOf hZ e69 (pin_10 (pins_ext XT13 hP))
    obtain ⟨_, _, ⟨T74, L74, k74, n74⟩, -, X74, ⟨Lc74, hQ74, l74, y74, z74⟩, st74⟩ := X69.virtualBack hx (y := (⟨"com/example/rederive/rederive/program/Comparison$Operator", "holds", "(II)Z"⟩ : MethodName)) (z := (⟨"com/example/rederive/rederive/program/Comparison$Operator", "holds", "(II)Z"⟩ : MethodName)) hown (mvT hZ (hw _ (List.mem_of_getElem? (i := 23) rfl))) (mvT hZ (hw _ (List.mem_of_getElem? (i := 24) rfl))) (notFace_of_selects (args := #[]) (mvT hZ (hw _ (List.mem_of_getElem? (i := 26) rfl)))) (mvT hZ (hw _ (List.mem_of_getElem? (i := 26) rfl))) (mvT hZ (hw _ (List.mem_of_getElem? (i := 25) rfl))) (by decide) (backOf (W := 0) (rm2_8 l Z a0 hw [] w h13 n0 (Nat.le_trans Z0 XT13.1) (pins_ext XT13 hP)) hZ (hw _ (List.mem_of_getElem? (i := 27) rfl)) (hw _ (List.mem_of_getElem? (i := 3) rfl)) (by decide) (by decide)) q74a q74c (g := (mkF m 75 #[.val (.int i0), .val (.ref (h0.size)), .val (.int (4 : Int32)), .val (.ref (w 4)), .val (.int (1 : Int32)), .val (.int (1 : Int32)), .unset] [(.int (1 : Int32)), (.int (0 : Int32)), (.ref (w 4))])) rfl (by rw [hml]; rfl) (Steps.refl _) (argsL := [(.int (0 : Int32)), (.int (1 : Int32))]) (rest := []) (lenOf pd_2 rfl) rfl (by show 2 * 0 + _ ≤ _; exact Nat.le_of_eq rfl) (hb hby at_75) (fun _ _ => ⟨rfl, e69, (by decide : 1 + 0 ≤ _), (by decide : 6 + 0 ≤ _)⟩)
    dsimp only [Pt.U, Pt.locs, Pt.cells, Pt.slots] at X74 l74 y74 z74 st74 hQ74
    subst l74 y74 z74
    obtain ⟨rfl, N74q, e74⟩ := hQ74
    have N74 := Fr.app N69 N74q
    refine Go.on (T' := T74) (g' := (mkF m 78 #[.val (.int i0), .val (.ref (h0.size)), .val (.int (4 : Int32)), .val (.ref (w 4)), .val (.int (1 : Int32)), .val (.int (1 : Int32)), .unset] [(.int (0 : Int32))])) (fun t k => st74.trans k) ?_
    refine Go.on (T' := T74) (g' := (mkF m 79 #[.val (.int i0), .val (.ref (h0.size)), .val (.int (4 : Int32)), .val (.ref (w 4)), .val (.int (1 : Int32)), .val (.int (1 : Int32)), .unset] [(.ref (w 4)), (.int (0 : Int32))])) (fun t k => XS.aloadN X74.here hx rfl (hb hby at_78) rfl rfl k) ?_
    refine Go.on (T' := T74) (g' := (mkF m 80 #[.val (.int i0), .val (.ref (h0.size)), .val (.int (4 : Int32)), .val (.ref (w 4)), .val (.int (1 : Int32)), .val (.int (1 : Int32)), .unset] [(.int (1 : Int32)), (.ref (w 4)), (.int (0 : Int32))])) (fun t k => XS.iconst X74.here hx rfl (hb hby at_79) k) ?_
    refine Go.on (T' := T74) (g' := (mkF m 81 #[.val (.int i0), .val (.ref (h0.size)), .val (.int (4 : Int32)), .val (.ref (w 4)), .val (.int (1 : Int32)), .val (.int (1 : Int32)), .unset] [(.int (0 : Int32)), (.int (1 : Int32)), (.ref (w 4)), (.int (0 : Int32))])) (fun t k => XS.iconst X74.here hx rfl (hb hby at_80) k) ?_
    obtain ⟨cq77, kq77, q77a, q77b, q77c⟩ := isOf hZ e74 (pin_10 (pins_ext XT13 hP))
    obtain ⟨_, _, ⟨T77, L77, k77, n77⟩, -, X77, ⟨Lc77, hQ77, l77, y77, z77⟩, st77⟩ := X74.virtualBack hx (y := (⟨"com/example/rederive/rederive/program/Comparison$Operator", "holds", "(II)Z"⟩ : MethodName)) (z := (⟨"com/example/rederive/rederive/program/Comparison$Operator", "holds", "(II)Z"⟩ : MethodName)) hown (mvT hZ (hw _ (List.mem_of_getElem? (i := 23) rfl))) (mvT hZ (hw _ (List.mem_of_getElem? (i := 24) rfl))) (notFace_of_selects (args := #[]) (mvT hZ (hw _ (List.mem_of_getElem? (i := 26) rfl)))) (mvT hZ (hw _ (List.mem_of_getElem? (i := 26) rfl))) (mvT hZ (hw _ (List.mem_of_getElem? (i := 25) rfl))) (by decide) (backOf (W := 1) (rm2_9 l Z a0 hw [] w h13 n0 (Nat.le_trans Z0 XT13.1) (pins_ext XT13 hP)) hZ (hw _ (List.mem_of_getElem? (i := 27) rfl)) (hw _ (List.mem_of_getElem? (i := 3) rfl)) (by decide) (by decide)) q77a q77c (g := (mkF m 81 #[.val (.int i0), .val (.ref (h0.size)), .val (.int (4 : Int32)), .val (.ref (w 4)), .val (.int (1 : Int32)), .val (.int (1 : Int32)), .unset] [(.int (0 : Int32)), (.int (1 : Int32)), (.ref (w 4)), (.int (0 : Int32))])) rfl (by rw [hml]; rfl) (Steps.refl _) (argsL := [(.int (1 : Int32)), (.int (0 : Int32))]) (rest := [(.int (0 : Int32))]) (lenOf pd_2 rfl) rfl (by show 2 * 0 + _ ≤ _; exact Nat.le_of_eq rfl) (hb hby at_81) (fun _ _ => ⟨rfl, e74, (by decide : 1 + 0 ≤ _), (by decide : 6 + 0 ≤ _)⟩)
    dsimp only [Pt.U, Pt.locs, Pt.cells, Pt.slots] at X77 l77 y77 z77 st77 hQ77
    subst l77 y77 z77
    obtain ⟨rfl, N77q, e77⟩ := hQ77
    have N77 := Fr.app N74 N77q
    refine Go.on (T' := T77) (g' := (mkF m 84 #[.val (.int i0), .val (.ref (h0.size)), .val (.int (4 : Int32)), .val (.ref (w 4)), .val (.int (1 : Int32)), .val (.int (1 : Int32)), .unset] [(.int (1 : Int32)), (.int (0 : Int32))])) (fun t k => st77.trans k) ?_
    refine Go.on (T' := T77) (g' := (mkF m 87 #[.val (.int i0), .val (.ref (h0.size)), .val (.int (4 : Int32)), .val (.ref (w 4)), .val (.int (1 : Int32)), .val (.int (1 : Int32)), .unset] [])) (fun t k => XS.icmpNo X77.here hx rfl (hb hby at_84) rfl (feq (by decide : ¬ ((0 : Int32) = (1 : Int32)))).1 k) ?_
    refine Go.on (T' := T77) (g' := (mkF m 88 #[.val (.int i0), .val (.ref (h0.size)), .val (.int (4 : Int32)), .val (.ref (w 4)), .val (.int (1 : Int32)), .val (.int (1 : Int32)), .unset] [(.int (1 : Int32))])) (fun t k => XS.iconst X77.here hx rfl (hb hby at_87) k) ?_
    refine Go.on (T' := T77) (g' := (mkF m 92 #[.val (.int i0), .val (.ref (h0.size)), .val (.int (4 : Int32)), .val (.ref (w 4)), .val (.int (1 : Int32)), .val (.int (1 : Int32)), .unset] [(.int (1 : Int32))])) (fun t k => XS.goto X77.here hx rfl (pc0 := 88) (pc' := 92) rfl (hb hby at_88) (by decide) (by decide) k) ?_
    refine Go.on (T' := T77) (g' := (mkF m 94 #[.val (.int i0), .val (.ref (h0.size)), .val (.int (4 : Int32)), .val (.ref (w 4)), .val (.int (1 : Int32)), .val (.int (1 : Int32)), .val (.int (1 : Int32))] [])) (fun t k => XS.istore X77.here hx rfl (hb hby at_92) rfl (l' := #[.val (.int i0), .val (.ref (h0.size)), .val (.int (4 : Int32)), .val (.ref (w 4)), .val (.int (1 : Int32)), .val (.int (1 : Int32)), .val (.int (1 : Int32))]) rfl k) ?_
    refine Go.on (T' := T77) (g' := (mkF m 96 #[.val (.int i0), .val (.ref (h0.size)), .val (.int (4 : Int32)), .val (.ref (w 4)), .val (.int (1 : Int32)), .val (.int (1 : Int32)), .val (.int (1 : Int32))] [(.int (1 : Int32))])) (fun t k => XS.iload X77.here hx rfl (hb hby at_94) rfl k) ?_
    refine Go.on (T' := T77) (g' := (mkF m 98 #[.val (.int i0), .val (.ref (h0.size)), .val (.int (4 : Int32)), .val (.ref (w 4)), .val (.int (1 : Int32)), .val (.int (1 : Int32)), .val (.int (1 : Int32))] [(.int (1 : Int32)), (.int (1 : Int32))])) (fun t k => XS.iload X77.here hx rfl (hb hby at_96) rfl k) ?_
    refine Go.on (T' := T77) (g' := (mkF m 101 #[.val (.int i0), .val (.ref (h0.size)), .val (.int (4 : Int32)), .val (.ref (w 4)), .val (.int (1 : Int32)), .val (.int (1 : Int32)), .val (.int (1 : Int32))] [])) (fun t k => XS.icmpNo X77.here hx rfl (hb hby at_98) rfl (teq (by decide : (1 : Int32) = (1 : Int32))).2 k) ?_
    refine Go.on (T' := T77) (g' := (mkF m 103 #[.val (.int i0), .val (.ref (h0.size)), .val (.int (4 : Int32)), .val (.ref (w 4)), .val (.int (1 : Int32)), .val (.int (1 : Int32)), .val (.int (1 : Int32))] [(.int (1 : Int32))])) (fun t k => XS.iload X77.here hx rfl (hb hby at_101) rfl k) ?_
    refine Go.on (T' := T77) (g' := (mkF m 105 #[.val (.int i0), .val (.ref (h0.size)), .val (.int (4 : Int32)), .val (.ref (w 4)), .val (.int (1 : Int32)), .val (.int (1 : Int32)), .val (.int (1 : Int32))] [(.int (1 : Int32)), (.int (1 : Int32))])) (fun t k => XS.iload X77.here hx rfl (hb hby at_103) rfl k) ?_
    refine Go.on (T' := T77) (g' := (mkF m 108 #[.val (.int i0), .val (.ref (h0.size)), .val (.int (4 : Int32)), .val (.ref (w 4)), .val (.int (1 : Int32)), .val (.int (1 : Int32)), .val (.int (1 : Int32))] [])) (fun t k => XS.icmpNo X77.here hx rfl (hb hby at_105) rfl (teq (by decide : (1 : Int32) = (1 : Int32))).2 k) ?_
    refine Go.on (T' := T77) (g' := (mkF m 109 #[.val (.int i0), .val (.ref (h0.size)), .val (.int (4 : Int32)), .val (.ref (w 4)), .val (.int (1 : Int32)), .val (.int (1 : Int32)), .val (.int (1 : Int32))] [(.int (1 : Int32))])) (fun t k => XS.iconst X77.here hx rfl (hb hby at_108) k) ?_
    refine Go.on (T' := T77) (g' := (mkF m 113 #[.val (.int i0), .val (.ref (h0.size)), .val (.int (4 : Int32)), .val (.ref (w 4)), .val (.int (1 : Int32)), .val (.int (1 : Int32)), .val (.int (1 : Int32))] [(.int (1 : Int32))])) (fun t k => XS.goto X77.here hx rfl (pc0 := 109) (pc' := 113) rfl (hb hby at_109) (by decide) (by decide) k) ?_
    obtain ⟨fs, hr, hrun, hended, hW, hsame⟩ := X77.leave (v := some (.int (1 : Int32))) (fun h => by rw [Bd.returns] at h; cases h)
    exact ⟨_, _, retN X77 hx (t := .boolean) Bd.returns (by simp) (hb hby at_113) hr, hrun, hended, _, _, rfl, ⟨rfl, N77⟩, ⟨_, rfl⟩, hW, hsame.mono (by decide) (by decide)⟩
  · skip
    rw [h14]
    refine Go.on (T' := T13) (g' := (mkF m 50 #[.val (.int i0), .val (.ref (h0.size)), .val (.int (5 : Int32)), .unset, .unset, .unset, .unset] [])) (fun t k => XS.istoreN X13.here hx rfl (hb hby at_49) rfl (l' := #[.val (.int i0), .val (.ref (h0.size)), .val (.int (5 : Int32)), .unset, .unset, .unset, .unset]) rfl k) ?_
    refine Go.on (T' := T13) (g' := (mkF m 51 #[.val (.int i0), .val (.ref (h0.size)), .val (.int (5 : Int32)), .unset, .unset, .unset, .unset] [(.ref (h0.size))])) (fun t k => XS.aloadN X13.here hx rfl (hb hby at_50) rfl rfl k) ?_
    refine Go.on (T' := T13) (g' := (mkF m 52 #[.val (.int i0), .val (.ref (h0.size)), .val (.int (5 : Int32)), .unset, .unset, .unset, .unset] [(.int (5 : Int32)), (.ref (h0.size))])) (fun t k => XS.iloadN X13.here hx rfl (hb hby at_51) rfl k) ?_
    refine Go.on (T' := T13) (g' := (mkF m 53 #[.val (.int i0), .val (.ref (h0.size)), .val (.int (5 : Int32)), .unset, .unset, .unset, .unset] [(.ref (w 5))])) (fun t k => X13.aaload hx (j := (5 : Int32)) (v := (.ref (w 5))) (by rw [e13]; exact Ar1_13.1) (State.isArrayOf_alike hZ.alike Ar1_13.2.1) rfl Ar1_13.2.2 (by show ¬ (_ ∨ (6 : Nat) ≤ _); decide) rfl (g := (mkF m 52 #[.val (.int i0), .val (.ref (h0.size)), .val (.int (5 : Int32)), .unset, .unset, .unset, .unset] [(.int (5 : Int32)), (.ref (h0.size))])) rfl rfl (hb hby at_52) t k) ?_
    refine Go.on (T' := T13) (g' := (mkF m 54 #[.val (.int i0), .val (.ref (h0.size)), .val (.int (5 : Int32)), .val (.ref (w 5)), .unset, .unset, .unset] [])) (fun t k => XS.astoreN X13.here hx rfl (hb hby at_53) rfl rfl (l' := #[.val (.int i0), .val (.ref (h0.size)), .val (.int (5 : Int32)), .val (.ref (w 5)), .unset, .unset, .unset]) rfl k) ?_
    refine Go.on (T' := T13) (g' := (mkF m 55 #[.val (.int i0), .val (.ref (h0.size)), .val (.int (5 : Int32)), .val (.ref (w 5)), .unset, .unset, .unset] [(.int (5 : Int32))])) (fun t k => XS.iloadN X13.here hx rfl (hb hby at_54) rfl k) ?_
    refine Go.on (T' := T13) (g' := (mkF m 56 #[.val (.int i0), .val (.ref (h0.size)), .val (.int (5 : Int32)), .val (.ref (w 5)), .unset, .unset, .unset] [(.int (2 : Int32)), (.int (5 : Int32))])) (fun t k => XS.iconst X13.here hx rfl (hb hby at_55) k) ?_
    refine Go.on (T' := T13) (g' := (mkF m 59 #[.val (.int i0), .val (.ref (h0.size)), .val (.int (5 : Int32)), .val (.ref (w 5)), .unset, .unset, .unset] [])) (fun t k => XS.icmpNo X13.here hx rfl (hb hby at_56) rfl (flt (by decide : ¬ ((5 : Int32) < (2 : Int32)))).1 k) ?_
    refine Go.on (T' := T13) (g' := (mkF m 60 #[.val (.int i0), .val (.ref (h0.size)), .val (.int (5 : Int32)), .val (.ref (w 5)), .unset, .unset, .unset] [(.int (1 : Int32))])) (fun t k => XS.iconst X13.here hx rfl (hb hby at_59) k) ?_
    refine Go.on (T' := T13) (g' := (mkF m 64 #[.val (.int i0), .val (.ref (h0.size)), .val (.int (5 : Int32)), .val (.ref (w 5)), .unset, .unset, .unset] [(.int (1 : Int32))])) (fun t k => XS.goto X13.here hx rfl (pc0 := 60) (pc' := 64) rfl (hb hby at_60) (by decide) (by decide) k) ?_
    refine Go.on (T' := T13) (g' := (mkF m 66 #[.val (.int i0), .val (.ref (h0.size)), .val (.int (5 : Int32)), .val (.ref (w 5)), .val (.int (1 : Int32)), .unset, .unset] [])) (fun t k => XS.istore X13.here hx rfl (hb hby at_64) rfl (l' := #[.val (.int i0), .val (.ref (h0.size)), .val (.int (5 : Int32)), .val (.ref (w 5)), .val (.int (1 : Int32)), .unset, .unset]) rfl k) ?_
    refine Go.on (T' := T13) (g' := (mkF m 67 #[.val (.int i0), .val (.ref (h0.size)), .val (.int (5 : Int32)), .val (.ref (w 5)), .val (.int (1 : Int32)), .unset, .unset] [(.ref (w 5))])) (fun t k => XS.aloadN X13.here hx rfl (hb hby at_66) rfl rfl k) ?_
    obtain ⟨cq82, kq82, q82a, q82b, q82c⟩ := isOf hZ e13 (pin_11 (pins_ext XT13 hP))
    obtain ⟨_, _, ⟨T82, L82, k82, n82⟩, -, X82, ⟨Lc82, hQ82, l82, y82, z82⟩, st82⟩ := X13.virtualBack hx (y := (⟨"com/example/rederive/rederive/program/Comparison$Operator", "ordersNumbers", "()Z"⟩ : MethodName)) (z := (⟨"com/example/rederive/rederive/program/Comparison$Operator", "ordersNumbers", "()Z"⟩ : MethodName)) hown (mvT hZ (hw _ (List.mem_of_getElem? (i := 17) rfl))) (mvT hZ (hw _ (List.mem_of_getElem? (i := 18) rfl))) (notFace_of_selects (args := #[]) (mvT hZ (hw _ (List.mem_of_getElem? (i := 20) rfl)))) (mvT hZ (hw _ (List.mem_of_getElem? (i := 20) rfl))) (mvT hZ (hw _ (List.mem_of_getElem? (i := 19) rfl))) (by decide) (backOf (W := 0) (rm1_5 l Z a0 hw [] w h13 n0 (Nat.le_trans Z0 XT13.1) (pins_ext XT13 hP)) hZ (hw _ (List.mem_of_getElem? (i := 21) rfl)) (hw _ (List.mem_of_getElem? (i := 3) rfl)) (by decide) (by decide)) q82a q82c (g := (mkF m 67 #[.val (.int i0), .val (.ref (h0.size)), .val (.int (5 : Int32)), .val (.ref (w 5)), .val (.int (1 : Int32)), .unset, .unset] [(.ref (w 5))])) rfl (by rw [hml]; rfl) (Steps.refl _) (argsL := []) (rest := []) (lenOf pd_0 rfl) rfl (by show 2 * 0 + _ ≤ _; exact Nat.le_of_eq rfl) (hb hby at_67) (fun _ _ => ⟨rfl, e13, (by decide : 1 + 0 ≤ _), (by decide : 6 + 0 ≤ _)⟩)
    dsimp only [Pt.U, Pt.locs, Pt.cells, Pt.slots] at X82 l82 y82 z82 st82 hQ82
    subst l82 y82 z82
    obtain ⟨rfl, N82q, e82⟩ := hQ82
    have N82 := Fr.app N13 N82q
    refine Go.on (T' := T82) (g' := (mkF m 70 #[.val (.int i0), .val (.ref (h0.size)), .val (.int (5 : Int32)), .val (.ref (w 5)), .val (.int (1 : Int32)), .unset, .unset] [(.int (1 : Int32))])) (fun t k => st82.trans k) ?_
    refine Go.on (T' := T82) (g' := (mkF m 72 #[.val (.int i0), .val (.ref (h0.size)), .val (.int (5 : Int32)), .val (.ref (w 5)), .val (.int (1 : Int32)), .val (.int (1 : Int32)), .unset] [])) (fun t k => XS.istore X82.here hx rfl (hb hby at_70) rfl (l' := #[.val (.int i0), .val (.ref (h0.size)), .val (.int (5 : Int32)), .val (.ref (w 5)), .val (.int (1 : Int32)), .val (.int (1 : Int32)), .unset]) rfl k) ?_
    refine Go.on (T' := T82) (g' := (mkF m 73 #[.val (.int i0), .val (.ref (h0.size)), .val (.int (5 : Int32)), .val (.ref (w 5)), .val (.int (1 : Int32)), .val (.int (1 : Int32)), .unset] [(.ref (w 5))])) (fun t k => XS.aloadN X82.here hx rfl (hb hby at_72) rfl rfl k) ?_
    refine Go.on (T' := T82) (g' := (mkF m 74 #[.val (.int i0), .val (.ref (h0.size)), .val (.int (5 : Int32)), .val (.ref (w 5)), .val (.int (1 : Int32)), .val (.int (1 : Int32)), .unset] [(.int (0 : Int32)), (.ref (w 5))])) (fun t k => XS.iconst X82.here hx rfl (hb hby at_73) k) ?_
    refine Go.on (T' := T82) (g' := (mkF m 75 #[.val (.int i0), .val (.ref (h0.size)), .val (.int (5 : Int32)), .val (.ref (w 5)), .val (.int (1 : Int32)), .val (.int (1 : Int32)), .unset] [(.int (1 : Int32)), (.int (0 : Int32)), (.ref (w 5))])) (fun t k => XS.iconst X82.here hx rfl (hb hby at_74) k) ?_
    obtain ⟨cq87, kq87, q87a, q87b, q87c⟩ := isOf hZ e82 (pin_11 (pins_ext XT13 hP))
    obtain ⟨_, _, ⟨T87, L87, k87, n87⟩, -, X87, ⟨Lc87, hQ87, l87, y87, z87⟩, st87⟩ := X82.virtualBack hx (y := (⟨"com/example/rederive/rederive/program/Comparison$Operator", "holds", "(II)Z"⟩ : MethodName)) (z := (⟨"com/example/rederive/rederive/program/Comparison$Operator", "holds", "(II)Z"⟩ : MethodName)) hown (mvT hZ (hw _ (List.mem_of_getElem? (i := 23) rfl))) (mvT hZ (hw _ (List.mem_of_getElem? (i := 24) rfl))) (notFace_of_selects (args := #[]) (mvT hZ (hw _ (List.mem_of_getElem? (i := 26) rfl)))) (mvT hZ (hw _ (List.mem_of_getElem? (i := 26) rfl))) (mvT hZ (hw _ (List.mem_of_getElem? (i := 25) rfl))) (by decide) (backOf (W := 0) (rm2_10 l Z a0 hw [] w h13 n0 (Nat.le_trans Z0 XT13.1) (pins_ext XT13 hP)) hZ (hw _ (List.mem_of_getElem? (i := 27) rfl)) (hw _ (List.mem_of_getElem? (i := 3) rfl)) (by decide) (by decide)) q87a q87c (g := (mkF m 75 #[.val (.int i0), .val (.ref (h0.size)), .val (.int (5 : Int32)), .val (.ref (w 5)), .val (.int (1 : Int32)), .val (.int (1 : Int32)), .unset] [(.int (1 : Int32)), (.int (0 : Int32)), (.ref (w 5))])) rfl (by rw [hml]; rfl) (Steps.refl _) (argsL := [(.int (0 : Int32)), (.int (1 : Int32))]) (rest := []) (lenOf pd_2 rfl) rfl (by show 2 * 0 + _ ≤ _; exact Nat.le_of_eq rfl) (hb hby at_75) (fun _ _ => ⟨rfl, e82, (by decide : 1 + 0 ≤ _), (by decide : 6 + 0 ≤ _)⟩)
    dsimp only [Pt.U, Pt.locs, Pt.cells, Pt.slots] at X87 l87 y87 z87 st87 hQ87
    subst l87 y87 z87
    obtain ⟨rfl, N87q, e87⟩ := hQ87
    have N87 := Fr.app N82 N87q
    refine Go.on (T' := T87) (g' := (mkF m 78 #[.val (.int i0), .val (.ref (h0.size)), .val (.int (5 : Int32)), .val (.ref (w 5)), .val (.int (1 : Int32)), .val (.int (1 : Int32)), .unset] [(.int (0 : Int32))])) (fun t k => st87.trans k) ?_
    refine Go.on (T' := T87) (g' := (mkF m 79 #[.val (.int i0), .val (.ref (h0.size)), .val (.int (5 : Int32)), .val (.ref (w 5)), .val (.int (1 : Int32)), .val (.int (1 : Int32)), .unset] [(.ref (w 5)), (.int (0 : Int32))])) (fun t k => XS.aloadN X87.here hx rfl (hb hby at_78) rfl rfl k) ?_
    refine Go.on (T' := T87) (g' := (mkF m 80 #[.val (.int i0), .val (.ref (h0.size)), .val (.int (5 : Int32)), .val (.ref (w 5)), .val (.int (1 : Int32)), .val (.int (1 : Int32)), .unset] [(.int (1 : Int32)), (.ref (w 5)), (.int (0 : Int32))])) (fun t k => XS.iconst X87.here hx rfl (hb hby at_79) k) ?_
    refine Go.on (T' := T87) (g' := (mkF m 81 #[.val (.int i0), .val (.ref (h0.size)), .val (.int (5 : Int32)), .val (.ref (w 5)), .val (.int (1 : Int32)), .val (.int (1 : Int32)), .unset] [(.int (0 : Int32)), (.int (1 : Int32)), (.ref (w 5)), (.int (0 : Int32))])) (fun t k => XS.iconst X87.here hx rfl (hb hby at_80) k) ?_
    obtain ⟨cq90, kq90, q90a, q90b, q90c⟩ := isOf hZ e87 (pin_11 (pins_ext XT13 hP))
    obtain ⟨_, _, ⟨T90, L90, k90, n90⟩, -, X90, ⟨Lc90, hQ90, l90, y90, z90⟩, st90⟩ := X87.virtualBack hx (y := (⟨"com/example/rederive/rederive/program/Comparison$Operator", "holds", "(II)Z"⟩ : MethodName)) (z := (⟨"com/example/rederive/rederive/program/Comparison$Operator", "holds", "(II)Z"⟩ : MethodName)) hown (mvT hZ (hw _ (List.mem_of_getElem? (i := 23) rfl))) (mvT hZ (hw _ (List.mem_of_getElem? (i := 24) rfl))) (notFace_of_selects (args := #[]) (mvT hZ (hw _ (List.mem_of_getElem? (i := 26) rfl)))) (mvT hZ (hw _ (List.mem_of_getElem? (i := 26) rfl))) (mvT hZ (hw _ (List.mem_of_getElem? (i := 25) rfl))) (by decide) (backOf (W := 1) (rm2_11 l Z a0 hw [] w h13 n0 (Nat.le_trans Z0 XT13.1) (pins_ext XT13 hP)) hZ (hw _ (List.mem_of_getElem? (i := 27) rfl)) (hw _ (List.mem_of_getElem? (i := 3) rfl)) (by decide) (by decide)) q90a q90c (g := (mkF m 81 #[.val (.int i0), .val (.ref (h0.size)), .val (.int (5 : Int32)), .val (.ref (w 5)), .val (.int (1 : Int32)), .val (.int (1 : Int32)), .unset] [(.int (0 : Int32)), (.int (1 : Int32)), (.ref (w 5)), (.int (0 : Int32))])) rfl (by rw [hml]; rfl) (Steps.refl _) (argsL := [(.int (1 : Int32)), (.int (0 : Int32))]) (rest := [(.int (0 : Int32))]) (lenOf pd_2 rfl) rfl (by show 2 * 0 + _ ≤ _; exact Nat.le_of_eq rfl) (hb hby at_81) (fun _ _ => ⟨rfl, e87, (by decide : 1 + 0 ≤ _), (by decide : 6 + 0 ≤ _)⟩)
    dsimp only [Pt.U, Pt.locs, Pt.cells, Pt.slots] at X90 l90 y90 z90 st90 hQ90
    subst l90 y90 z90
    obtain ⟨rfl, N90q, e90⟩ := hQ90
    have N90 := Fr.app N87 N90q
    refine Go.on (T' := T90) (g' := (mkF m 84 #[.val (.int i0), .val (.ref (h0.size)), .val (.int (5 : Int32)), .val (.ref (w 5)), .val (.int (1 : Int32)), .val (.int (1 : Int32)), .unset] [(.int (1 : Int32)), (.int (0 : Int32))])) (fun t k => st90.trans k) ?_
    refine Go.on (T' := T90) (g' := (mkF m 87 #[.val (.int i0), .val (.ref (h0.size)), .val (.int (5 : Int32)), .val (.ref (w 5)), .val (.int (1 : Int32)), .val (.int (1 : Int32)), .unset] [])) (fun t k => XS.icmpNo X90.here hx rfl (hb hby at_84) rfl (feq (by decide : ¬ ((0 : Int32) = (1 : Int32)))).1 k) ?_
    refine Go.on (T' := T90) (g' := (mkF m 88 #[.val (.int i0), .val (.ref (h0.size)), .val (.int (5 : Int32)), .val (.ref (w 5)), .val (.int (1 : Int32)), .val (.int (1 : Int32)), .unset] [(.int (1 : Int32))])) (fun t k => XS.iconst X90.here hx rfl (hb hby at_87) k) ?_
    refine Go.on (T' := T90) (g' := (mkF m 92 #[.val (.int i0), .val (.ref (h0.size)), .val (.int (5 : Int32)), .val (.ref (w 5)), .val (.int (1 : Int32)), .val (.int (1 : Int32)), .unset] [(.int (1 : Int32))])) (fun t k => XS.goto X90.here hx rfl (pc0 := 88) (pc' := 92) rfl (hb hby at_88) (by decide) (by decide) k) ?_
    refine Go.on (T' := T90) (g' := (mkF m 94 #[.val (.int i0), .val (.ref (h0.size)), .val (.int (5 : Int32)), .val (.ref (w 5)), .val (.int (1 : Int32)), .val (.int (1 : Int32)), .val (.int (1 : Int32))] [])) (fun t k => XS.istore X90.here hx rfl (hb hby at_92) rfl (l' := #[.val (.int i0), .val (.ref (h0.size)), .val (.int (5 : Int32)), .val (.ref (w 5)), .val (.int (1 : Int32)), .val (.int (1 : Int32)), .val (.int (1 : Int32))]) rfl k) ?_
    refine Go.on (T' := T90) (g' := (mkF m 96 #[.val (.int i0), .val (.ref (h0.size)), .val (.int (5 : Int32)), .val (.ref (w 5)), .val (.int (1 : Int32)), .val (.int (1 : Int32)), .val (.int (1 : Int32))] [(.int (1 : Int32))])) (fun t k => XS.iload X90.here hx rfl (hb hby at_94) rfl k) ?_
    refine Go.on (T' := T90) (g' := (mkF m 98 #[.val (.int i0), .val (.ref (h0.size)), .val (.int (5 : Int32)), .val (.ref (w 5)), .val (.int (1 : Int32)), .val (.int (1 : Int32)), .val (.int (1 : Int32))] [(.int (1 : Int32)), (.int (1 : Int32))])) (fun t k => XS.iload X90.here hx rfl (hb hby at_96) rfl k) ?_
    refine Go.on (T' := T90) (g' := (mkF m 101 #[.val (.int i0), .val (.ref (h0.size)), .val (.int (5 : Int32)), .val (.ref (w 5)), .val (.int (1 : Int32)), .val (.int (1 : Int32)), .val (.int (1 : Int32))] [])) (fun t k => XS.icmpNo X90.here hx rfl (hb hby at_98) rfl (teq (by decide : (1 : Int32) = (1 : Int32))).2 k) ?_
    refine Go.on (T' := T90) (g' := (mkF m 103 #[.val (.int i0), .val (.ref (h0.size)), .val (.int (5 : Int32)), .val (.ref (w 5)), .val (.int (1 : Int32)), .val (.int (1 : Int32)), .val (.int (1 : Int32))] [(.int (1 : Int32))])) (fun t k => XS.iload X90.here hx rfl (hb hby at_101) rfl k) ?_
    refine Go.on (T' := T90) (g' := (mkF m 105 #[.val (.int i0), .val (.ref (h0.size)), .val (.int (5 : Int32)), .val (.ref (w 5)), .val (.int (1 : Int32)), .val (.int (1 : Int32)), .val (.int (1 : Int32))] [(.int (1 : Int32)), (.int (1 : Int32))])) (fun t k => XS.iload X90.here hx rfl (hb hby at_103) rfl k) ?_
    refine Go.on (T' := T90) (g' := (mkF m 108 #[.val (.int i0), .val (.ref (h0.size)), .val (.int (5 : Int32)), .val (.ref (w 5)), .val (.int (1 : Int32)), .val (.int (1 : Int32)), .val (.int (1 : Int32))] [])) (fun t k => XS.icmpNo X90.here hx rfl (hb hby at_105) rfl (teq (by decide : (1 : Int32) = (1 : Int32))).2 k) ?_
    refine Go.on (T' := T90) (g' := (mkF m 109 #[.val (.int i0), .val (.ref (h0.size)), .val (.int (5 : Int32)), .val (.ref (w 5)), .val (.int (1 : Int32)), .val (.int (1 : Int32)), .val (.int (1 : Int32))] [(.int (1 : Int32))])) (fun t k => XS.iconst X90.here hx rfl (hb hby at_108) k) ?_
    refine Go.on (T' := T90) (g' := (mkF m 113 #[.val (.int i0), .val (.ref (h0.size)), .val (.int (5 : Int32)), .val (.ref (w 5)), .val (.int (1 : Int32)), .val (.int (1 : Int32)), .val (.int (1 : Int32))] [(.int (1 : Int32))])) (fun t k => XS.goto X90.here hx rfl (pc0 := 109) (pc' := 113) rfl (hb hby at_109) (by decide) (by decide) k) ?_
    obtain ⟨fs, hr, hrun, hended, hW, hsame⟩ := X90.leave (v := some (.int (1 : Int32))) (fun h => by rw [Bd.returns] at h; cases h)
    exact ⟨_, _, retN X90 hx (t := .boolean) Bd.returns (by simp) (hb hby at_113) hr, hrun, hended, _, _, rfl, ⟨rfl, N90⟩, ⟨_, rfl⟩, hW, hsame.mono (by decide) (by decide)⟩
set_option maxRecDepth 65536 in
set_option maxHeartbeats 40000000 in
theorem comes_1 {Post : Tables → Env → Array Value → State → Outcome → State → Prop} (hpost : ∀ tb e args s v u, (limb_1_1.after args s (.returned v) u = true ∧ limb_1_2.after args s (.returned v) u = true ∧ True) → FrameEnd s (.returned v) u (Jvm.fieldLocs frame_1_writes args s ++ Jvm.arrayLocs frame_1_arrays args s ++ Jvm.staticLocs frame_1_statics s) 16 128 → Post tb e args s (.returned v) u) :
    ArmFor flags0 classFile x code maxLocals ret World_1 tables_1 room_1 Calls_1 rest_1 Pre_1 Post := by
  intro l hfl _ _ p e ha hc hk s m args below hf hA hF happ hP
  obtain ⟨hcalls, hrest, hpre⟩ := hP
  obtain ⟨-, -, -, hnamed, -, -, -, hat⟩ := (Spec.applies_iff hf).mp happ
  obtain ⟨hg, hn⟩ := and_e (Cond.before_iff.mp (show (Jvm.Cond.and given_1 narrow_1).before args s = true from hpre))
  obtain ⟨u1, v1⟩ := and_e hg
  obtain ⟨w0, rfl⟩ : ∃ w0 : Value, args = #[w0] := by
    have hs : args.size = 1 := by simpa [Cond.value, given_1] using u1
    obtain ⟨L⟩ := args
    match L, hs with
    | [w0], _ => exact ⟨w0, rfl⟩
  have hw := fun d (hd : d ∈ tables_1) => atoms_spec (ws := Jvm.Cond.code x code maxLocals ret :: tables_1) hat d (List.mem_cons_of_mem _ hd)
  have hfit : Fit s := fun {y c} hc i hi => by
    obtain ⟨ha, rfl⟩ := Array.getElem?_eq_some_iff.mp hc
    have q := List.all_eq_true.mp ((Array.all_eq_true_iff_forall_mem.mp hF) _ (Array.getElem_mem ha)) i (List.mem_range.mpr hi)
    simpa [Array.getElem?_eq_getElem hi] using q
  obtain ⟨i0, ei0⟩ := is_v v1
  obtain rfl : w0 = (.int i0) := Option.some.inj ei0
  obtain ⟨u2, v2⟩ := and_e hn
  obtain ⟨u3, v3⟩ := and_e v2
  obtain ⟨u4, v4⟩ := and_e v3
  obtain ⟨u5, v5⟩ := and_e v4
  obtain ⟨u6, v6⟩ := and_e v5
  obtain ⟨u7, v7⟩ := and_e v6
  obtain ⟨u8, v8⟩ := and_e v7
  obtain ⟨u9, v9⟩ := and_e v8
  obtain ⟨u10, v10⟩ := and_e v9
  obtain ⟨u11, v11⟩ := and_e v10
  obtain ⟨u12, v12⟩ := and_e v11
  obtain ⟨x0, ev0⟩ := exa_v u2
  obtain ⟨x1, ev1⟩ := exa_v u3
  obtain ⟨x2, ev2⟩ := exa_v u4
  obtain ⟨x3, ev3⟩ := exa_v u5
  obtain ⟨x4, ev4⟩ := exa_v u6
  obtain ⟨x5, ev5⟩ := exa_v u7
  obtain ⟨w, hw_⟩ : ∃ w : Nat → Addr, w 0 = x0 ∧ w 1 = x1 ∧ w 2 = x2 ∧ w 3 = x3 ∧ w 4 = x4 ∧ w 5 = x5 ∧ True := ⟨fun k => [x0, x1, x2, x3, x4, x5].getD k 0, rfl, rfl, rfl, rfl, rfl, rfl, trivial⟩
  obtain ⟨rfl, rfl, rfl, rfl, rfl, rfl, -⟩ := hw_
  have hPin : Pins s s.heap w := ⟨Sta.start ev0 (Or.inr ⟨(hw _ (List.mem_of_getElem? (i := 3) rfl)), (hw _ (List.mem_of_getElem? (i := 4) rfl))⟩),
    Sta.start ev1 (Or.inr ⟨(hw _ (List.mem_of_getElem? (i := 3) rfl)), (hw _ (List.mem_of_getElem? (i := 7) rfl))⟩),
    Sta.start ev2 (Or.inr ⟨(hw _ (List.mem_of_getElem? (i := 3) rfl)), (hw _ (List.mem_of_getElem? (i := 9) rfl))⟩),
    Sta.start ev3 (Or.inr ⟨(hw _ (List.mem_of_getElem? (i := 3) rfl)), (hw _ (List.mem_of_getElem? (i := 11) rfl))⟩),
    Sta.start ev4 (Or.inr ⟨(hw _ (List.mem_of_getElem? (i := 3) rfl)), (hw _ (List.mem_of_getElem? (i := 13) rfl))⟩),
    Sta.start ev5 (Or.inr ⟨(hw _ (List.mem_of_getElem? (i := 3) rfl)), (hw _ (List.mem_of_getElem? (i := 15) rfl))⟩),
    Exa.start ev0 u2,
    Exa.start ev1 u3,
    Exa.start ev2 u4,
    Exa.start ev3 u5,
    Exa.start ev4 u6,
    Exa.start ev5 u7,
    Fld.start ((fld_at ev0).symm.trans (own_eqI u8)),
    Fld.start ((fld_at ev3).symm.trans (own_eqI u9)),
    Fld.start ((fld_at ev1).symm.trans (own_eqI u10)),
    Fld.start ((fld_at ev2).symm.trans (own_eqI u11)),
    Fld.start ((fld_at ev5).symm.trans (own_eqI u12)),
    Fld.start ((fld_at ev4).symm.trans (own_eqI v12)),
    trivial⟩
  obtain ⟨n, o, h1, h2, h3, _, L, rfl, ⟨rfl, N⟩, hq⟩ := rm0 l s _ hw tables_1 w s.heap s.heap.size (Nat.le_refl _) hPin i0 p e ha hc hk s m _ below hf ((Spec.applies_iff_loose hf).mp happ).1 ⟨rfl, State.Warmed39.refl s, rfl⟩ trivial
  refine ⟨n, _, h1, h2, h3, hpost _ _ _ _ _ _ ⟨Cond.after_iff.mpr rfl, Cond.after_iff.mpr (eq_i res_at (Term.int_eval (1)) rfl), trivial⟩ ⟨hq.1, hq.2.1, (hq.2.2.sift fun y hy => Or.inr (N y hy)).mono (by decide) (by decide)⟩⟩
theorem main_1_1 : Claimed_1_1 := comes_1 fun _ _ _ _ _ _ h hF => ⟨h.1, hF⟩
theorem main_1_2 : Claimed_1_2 := comes_1 fun _ _ _ _ _ _ h hF => ⟨h.2.1, hF⟩
end Jvm.Pilot.@@N@@
namespace Jvm.Pilot.@@N@@
open Jvm Jvm.ClassFile Sem Op Lib Jvm.Free Jvm.Stand Jvm.Pilot.@@N@@.Jvm.D
/-! MADE BY PROGRAM (witnessworld.py) out of the Statement's table words and the real class files: 13 classes; the members and pool entries that the words name. The judged class is class 1, her method 1. -/
namespace start1
open Jvm.ClassFile
def u (s : String) : CpInfo := .utf8 (stringToUtf16 s)
/-- a pool by its gaps: so many unusable entries, then the entry; so many at the end -/
def gap : Nat → List CpInfo → List CpInfo
  | 0, r => r
  | n + 1, r => .unusable :: gap n r
def poolList (es : List (Nat × CpInfo)) (last : Nat) : List CpInfo := es.foldr (fun e r => gap e.1 (e.2 :: r)) (gap last [])
def pool (es : List (Nat × CpInfo)) (last : Nat) : Array CpInfo := ⟨poolList es last⟩
def fileOf (pool : Array CpInfo) (this : Nat) (attrs : Array Attribute := #[]) (ms : Array MethodInfo := #[]) (fl : Nat := 33) (sup : Nat := 0) (ifs : Array Nat := #[]) (fds : Array FieldInfo := #[]) : ClassFile where
  minorVersion := 0
  majorVersion := 65
  constantPool := pool
  accessFlags := fl
  thisClass := this
  superClass := sup
  interfaces := ifs
  fields := fds
  methods := ms
  attributes := attrs
def plain (name : String) (sup : Option ClassId) : Class where
  name := name
  kind := .ordinary
  loader := none
  accessFlags := 33
  super := sup
  interfaces := #[]
  cf := none
  fields := #[]
  methods := #[]
  instanceTypes := #[]
  staticTypes := #[]
  resolved := #[]
  callSites := []
  init := .initialized
  statics := none
  mirror := none

def pool0 : Array CpInfo := pool [(5, u "<init>"), (0, u "()V"), (1, .class_ 10), (1, u "java/lang/Object")] 113

def k0m0 : Method := { name := "<init>", desc := "()V", sig := { parameters := [], returnType := none }, accessFlags := 1, code := none }
/-- java/lang/Object -/
def k0 : Class := { plain "java/lang/Object" none with
  accessFlags := 33
  interfaces := #[]
  cf := some (fileOf pool0 8 #[] #[{ accessFlags := 1, nameIndex := 5, descriptorIndex := 6, attributes := #[] }] 33 0 #[] #[])
  fields := #[]
  methods := #[k0m0]
  instanceTypes := #[]
  staticTypes := #[]
  resolved := Array.replicate 124 none
  statics := none }

def pool1 : Array CpInfo := pool [(2, .class_ 4), (1, u "java/lang/Object"), (0, u "<init>"), (0, u "()V"), (0, .class_ 8), (0, u "com/example/rederive/rederive/program/Comparison$Operator"), (0, .fieldref 7 10), (0, .nameAndType 11 12), (0, u "EQUAL"), (0, u "Lcom/example/rederive/rederive/program/Comparison$Operator;"), (0, .fieldref 7 14), (0, .nameAndType 15 12), (0, u "NOT_EQUAL"), (0, .fieldref 7 17), (0, .nameAndType 18 12), (0, u "LESS"), (0, .fieldref 7 20), (0, .nameAndType 21 12), (0, u "LESS_EQUAL"), (0, .fieldref 7 23), (0, .nameAndType 24 12), (0, u "GREATER"), (0, .fieldref 7 26), (0, .nameAndType 27 12), (0, u "GREATER_EQUAL"), (0, .integer 2147483647), (0, .methodref 7 30), (0, .nameAndType 31 32), (0, u "ordersNumbers"), (0, u "()Z"), (0, .methodref 7 34), (0, .nameAndType 35 36), (0, u "holds"), (0, u "(II)Z"), (0, .class_ 38), (0, u "com/example/rederive/rederive/program/OperatorOrdersNumbersPinLaw"), (2, u "law"), (0, u "(I)Z")] 9

def k1m0 : Method := { name := "<init>", desc := "()V", sig := { parameters := [], returnType := none }, accessFlags := 2, code := none }
def k1c1 : Code := { maxStack := 4, maxLocals := 7, code := code, exceptionTable := #[], attributes := #[] }
def k1m1 : Method := { name := "law", desc := "(I)Z", sig := { parameters := [.int], returnType := some .boolean }, accessFlags := 9, code := some k1c1 }
/-- com/example/rederive/rederive/program/OperatorOrdersNumbersPinLaw -/
def k1 : Class := { plain "com/example/rederive/rederive/program/OperatorOrdersNumbersPinLaw" (some 0) with
  accessFlags := 49
  interfaces := #[]
  cf := some (fileOf pool1 37 #[] #[{ accessFlags := 2, nameIndex := 5, descriptorIndex := 6, attributes := #[] }, { accessFlags := 9, nameIndex := 41, descriptorIndex := 42, attributes := #[] }] 49 2 #[] #[])
  fields := #[]
  methods := #[k1m0, k1m1]
  instanceTypes := #[]
  staticTypes := #[]
  resolved := Array.replicate 52 none
  statics := none }

def pool2 : Array CpInfo := pool [(1, .class_ 2), (0, u "java/lang/constant/Constable"), (0, .class_ 4), (0, u "java/lang/Object")] 6

/-- java/lang/constant/Constable -/
def k2 : Class := { plain "java/lang/constant/Constable" (some 0) with
  accessFlags := 1537
  interfaces := #[]
  cf := some (fileOf pool2 1 #[] #[] 1537 3 #[] #[])
  fields := #[]
  methods := #[]
  instanceTypes := #[]
  staticTypes := #[]
  resolved := Array.replicate 11 none
  statics := none }

def pool3 : Array CpInfo := pool [(1, .class_ 2), (0, u "java/lang/Comparable"), (0, .class_ 4), (0, u "java/lang/Object")] 7

/-- java/lang/Comparable -/
def k3 : Class := { plain "java/lang/Comparable" (some 0) with
  accessFlags := 1537
  interfaces := #[]
  cf := some (fileOf pool3 1 #[] #[] 1537 3 #[] #[])
  fields := #[]
  methods := #[]
  instanceTypes := #[]
  staticTypes := #[]
  resolved := Array.replicate 12 none
  statics := none }

def pool4 : Array CpInfo := pool [(1, .class_ 2), (0, u "java/io/Serializable"), (0, .class_ 4), (0, u "java/lang/Object")] 2

/-- java/io/Serializable -/
def k4 : Class := { plain "java/io/Serializable" (some 0) with
  accessFlags := 1537
  interfaces := #[]
  cf := some (fileOf pool4 1 #[] #[] 1537 3 #[] #[])
  fields := #[]
  methods := #[]
  instanceTypes := #[]
  staticTypes := #[]
  resolved := Array.replicate 7 none
  statics := none }

def pool5 : Array CpInfo := pool [(2, .class_ 4), (1, u "java/lang/Enum"), (0, u "name"), (0, u "Ljava/lang/String;"), (0, .fieldref 2 8), (0, .nameAndType 9 10), (0, u "ordinal"), (0, u "I"), (1, .class_ 14), (1, u "java/lang/Object"), (4, u "hash"), (86, .class_ 108), (1, u "java/lang/Enum$EnumDesc"), (2, .class_ 112), (0, u "java/lang/constant/Constable"), (0, .class_ 114), (0, u "java/lang/Comparable"), (0, .class_ 116), (0, u "java/io/Serializable"), (9, u "()I")] 77

def k5c0 : Code := { maxStack := 1, maxLocals := 1, code := jdk_37_method_2_code, exceptionTable := #[], attributes := #[] }
def k5m0 : Method := { name := "ordinal", desc := "()I", sig := { parameters := [], returnType := some .int }, accessFlags := 17, code := some k5c0 }
/-- java/lang/Enum -/
def k5 : Class := { plain "java/lang/Enum" (some 0) with
  accessFlags := 1057
  interfaces := #[2, 3, 4]
  cf := some (fileOf pool5 2 #[.nestMembers #[106]] #[{ accessFlags := 17, nameIndex := 9, descriptorIndex := 126, attributes := #[] }] 1057 12 #[111, 113, 115] #[{ accessFlags := 18, nameIndex := 5, descriptorIndex := 6, attributes := #[] }, { accessFlags := 18, nameIndex := 9, descriptorIndex := 10, attributes := #[] }, { accessFlags := 2, nameIndex := 19, descriptorIndex := 10, attributes := #[] }])
  fields := #[{ name := "name", type := (.object "java/lang/String"), accessFlags := 18, slot := 0, constantValue := 0 }, { name := "ordinal", type := .int, accessFlags := 18, slot := 1, constantValue := 0 }, { name := "hash", type := .int, accessFlags := 2, slot := 2, constantValue := 0 }]
  methods := #[k5m0]
  instanceTypes := #[(.object "java/lang/String"), .int, .int]
  staticTypes := #[]
  resolved := Array.replicate 204 none
  statics := none }

def pool6 : Array CpInfo := pool [(1, .class_ 2), (0, u "com/example/rederive/rederive/program/Comparison$Operator"), (0, .fieldref 1 4), (0, .nameAndType 5 6), (0, u "EQUAL"), (0, u "Lcom/example/rederive/rederive/program/Comparison$Operator;"), (0, .fieldref 1 8), (0, .nameAndType 9 6), (0, u "NOT_EQUAL"), (2, u "LESS"), (2, u "LESS_EQUAL"), (2, u "GREATER"), (2, u "GREATER_EQUAL"), (2, u "$VALUES"), (0, u "[Lcom/example/rederive/rederive/program/Comparison$Operator;"), (6, .class_ 34), (1, u "java/lang/Enum"), (8, u "symbol"), (0, u "Ljava/lang/String;"), (0, .methodref 1 46), (0, .nameAndType 47 48), (0, u "ordinal"), (0, u "()I"), (32, u "ordersNumbers"), (0, u "()Z"), (1, u "holds"), (0, u "(II)Z"), (8, .class_ 95), (0, u "com/example/rederive/rederive/program/Comparison")] 2

def k6c0 : Code := { maxStack := 2, maxLocals := 1, code := prog_41_method_4_code, exceptionTable := #[], attributes := #[] }
def k6m0 : Method := { name := "ordersNumbers", desc := "()Z", sig := { parameters := [], returnType := some .boolean }, accessFlags := 1, code := some k6c0 }
def k6c1 : Code := { maxStack := 2, maxLocals := 4, code := prog_41_method_5_code, exceptionTable := #[], attributes := #[] }
def k6m1 : Method := { name := "holds", desc := "(II)Z", sig := { parameters := [.int, .int], returnType := some .boolean }, accessFlags := 1, code := some k6c1 }
/-- com/example/rederive/rederive/program/Comparison$Operator -/
def k6 : Class := { plain "com/example/rederive/rederive/program/Comparison$Operator" (some 5) with
  accessFlags := 16433
  interfaces := #[]
  cf := some (fileOf pool6 1 #[.nestHost 94] #[{ accessFlags := 1, nameIndex := 81, descriptorIndex := 82, attributes := #[] }, { accessFlags := 1, nameIndex := 84, descriptorIndex := 85, attributes := #[] }] 16433 32 #[] #[{ accessFlags := 16409, nameIndex := 5, descriptorIndex := 6, attributes := #[] }, { accessFlags := 16409, nameIndex := 9, descriptorIndex := 6, attributes := #[] }, { accessFlags := 16409, nameIndex := 12, descriptorIndex := 6, attributes := #[] }, { accessFlags := 16409, nameIndex := 15, descriptorIndex := 6, attributes := #[] }, { accessFlags := 16409, nameIndex := 18, descriptorIndex := 6, attributes := #[] }, { accessFlags := 16409, nameIndex := 21, descriptorIndex := 6, attributes := #[] }, { accessFlags := 18, nameIndex := 43, descriptorIndex := 44, attributes := #[] }, { accessFlags := 4122, nameIndex := 24, descriptorIndex := 25, attributes := #[] }])
  fields := #[{ name := "EQUAL", type := (.object "com/example/rederive/rederive/program/Comparison$Operator"), accessFlags := 16409, slot := 0, constantValue := 0 }, { name := "NOT_EQUAL", type := (.object "com/example/rederive/rederive/program/Comparison$Operator"), accessFlags := 16409, slot := 1, constantValue := 0 }, { name := "LESS", type := (.object "com/example/rederive/rederive/program/Comparison$Operator"), accessFlags := 16409, slot := 2, constantValue := 0 }, { name := "LESS_EQUAL", type := (.object "com/example/rederive/rederive/program/Comparison$Operator"), accessFlags := 16409, slot := 3, constantValue := 0 }, { name := "GREATER", type := (.object "com/example/rederive/rederive/program/Comparison$Operator"), accessFlags := 16409, slot := 4, constantValue := 0 }, { name := "GREATER_EQUAL", type := (.object "com/example/rederive/rederive/program/Comparison$Operator"), accessFlags := 16409, slot := 5, constantValue := 0 }, { name := "symbol", type := (.object "java/lang/String"), accessFlags := 18, slot := 3, constantValue := 0 }, { name := "$VALUES", type := (.array (.object "com/example/rederive/rederive/program/Comparison$Operator")), accessFlags := 4122, slot := 6, constantValue := 0 }]
  methods := #[k6m0, k6m1]
  instanceTypes := #[(.object "java/lang/String"), .int, .int, (.object "java/lang/String")]
  staticTypes := #[(.object "com/example/rederive/rederive/program/Comparison$Operator"), (.object "com/example/rederive/rederive/program/Comparison$Operator"), (.object "com/example/rederive/rederive/program/Comparison$Operator"), (.object "com/example/rederive/rederive/program/Comparison$Operator"), (.object "com/example/rederive/rederive/program/Comparison$Operator"), (.object "com/example/rederive/rederive/program/Comparison$Operator"), (.array (.object "com/example/rederive/rederive/program/Comparison$Operator"))]
  resolved := Array.replicate 98 none
  statics := some 0 }

def pool7 : Array CpInfo := pool [(1, u "java/lang/Cloneable"), (0, .class_ 1), (0, u "java/lang/Object"), (0, .class_ 3)] 3

/-- java/lang/Cloneable -/
def k7 : Class := { plain "java/lang/Cloneable" (some 0) with
  accessFlags := 1537
  interfaces := #[]
  cf := some (fileOf pool7 2 #[] #[] 1537 4 #[] #[])
  fields := #[]
  methods := #[]
  instanceTypes := #[]
  staticTypes := #[]
  resolved := Array.replicate 8 none
  statics := none }

/-- the primitive byte -/
def k8 : Class := { plain "byte" none with kind := .primitive 'B', accessFlags := 0x411 }
/-- [B -/
def k9 : Class := { plain "[B" (some 0) with kind := .array 8 .byte, interfaces := #[7, 4], accessFlags := 1041 }

/-- the primitive int -/
def k10 : Class := { plain "int" none with kind := .primitive 'I', accessFlags := 0x411 }
/-- [I -/
def k11 : Class := { plain "[I" (some 0) with kind := .array 10 .int, interfaces := #[7, 4], accessFlags := 1041 }

/-- [Lcom/example/rederive/rederive/program/Comparison$Operator; -/
def k12 : Class := { plain "[Lcom/example/rederive/rederive/program/Comparison$Operator;" (some 0) with kind := .array 6 (.object "com/example/rederive/rederive/program/Comparison$Operator"), interfaces := #[7, 4], accessFlags := 1041 }

def heap : Heap := #[{ cls := 6, slots := #[.ref 1, .ref 2, .ref 3, .ref 4, .ref 5, .ref 6, .null], vm := .statics 6 },
  { cls := 6, slots := #[.null, .int 0, .int 0, .null], vm := .none },
  { cls := 6, slots := #[.null, .int 1, .int 0, .null], vm := .none },
  { cls := 6, slots := #[.null, .int 2, .int 0, .null], vm := .none },
  { cls := 6, slots := #[.null, .int 3, .int 0, .null], vm := .none },
  { cls := 6, slots := #[.null, .int 4, .int 0, .null], vm := .none },
  { cls := 6, slots := #[.null, .int 5, .int 0, .null], vm := .none }]
def classes : Array Class := #[k0, k1, k2, k3, k4, k5, k6, k7, k8, k9, k10, k11, k12]
def interned : List (Array UInt16 × Addr) := []
def slotsUsed : Nat := 31
def theMethod : MethodId := ⟨1, 1⟩
def args0 : Array Value := #[.int 5]
def aboutOver (below : List Frame) : State where
  vm := { classes := classes, interned := interned.toArray }
  heap := heap
  slotsUsed := slotsUsed
  threads := #[{ frames := .invoking theMethod args0 :: below }]
def below0 : List Frame := [.native { method := ⟨0, 0⟩, args := #[] }]
def about1 : State := aboutOver below0
def p0 : Program := .bare "" "" ""
def e0 : Env := launch0.env 0 0 0
theorem w_frames : about1.frames = Frame.invoking theMethod args0 :: below0 := rfl
set_option maxRecDepth 65536 in
theorem w_args : argsFit about1.vm theMethod args0 = true := by decide +kernel
set_option maxRecDepth 65536 in
theorem w_heap : heapFits about1 = true := by decide +kernel
set_option maxRecDepth 65536 in
theorem w_runnable : about1.curStatus? = some .runnable := by decide +kernel
set_option maxRecDepth 65536 in
theorem w_alone : about1.alone = true := by decide +kernel
set_option maxRecDepth 65536 in
theorem w_named : about1.methodNamed? x = some theMethod := by decide +kernel
set_option maxRecDepth 65536 in
theorem w_hears : about1.hears theMethod below0 = true := by decide +kernel
set_option maxRecDepth 65536 in
theorem w_ripe : about1.ripe theMethod args0 below0 = true := by decide +kernel
theorem w_running : about1.status = .running := rfl
set_option maxRecDepth 65536 in
theorem w_room : about1.hasRoom e0.platform room_1 = true :=
  launch0.hasRoom_least _ room_1 (by decide +kernel) (by decide +kernel) (by decide +kernel) (by decide +kernel) (by decide +kernel) (by decide +kernel)
theorem allAtoms_all (ts : List Jvm.Cond) (a : Array Jvm.Value) (st : Jvm.State) : (allAtoms ts).before a st = ts.all (fun c => c.before a st) := by
  induction ts with
  | nil => rfl
  | cons c t ih =>
    show (Jvm.Cond.and c (allAtoms t)).before a st = _
    rw [Jvm.Cond.before_and, ih, List.all_cons]
def words1 : List Jvm.Cond := Jvm.Cond.code x code maxLocals ret :: tables_1
/-- a 'code' word, met by the world's own term for the bytes: nothing is compared byte by byte -/
theorem code_word {y : MethodName} {bytes : ByteArray} {mx : Nat} {rt : Option FieldType} {a : Array Value} {s : State} {m : MethodId} {meth : Method} {c : Code} (h1 : s.methodNamed? y = some m) (h2 : s.vm.method? m = some meth) (h3 : meth.code = some c) (h4 : c.code = bytes)
    (h5 : (c.maxLocals == mx && c.exceptionTable.isEmpty && decide (c.maxStack ≤ mostOperands) && decide (meth.sig.returnType = rt) && !meth.locks && decide (parseMethodDescriptor y.desc = some meth.sig)) = true) : (Jvm.Cond.code y bytes mx rt).before a s = true := by
  simp only [Bool.and_eq_true, beq_iff_eq, Bool.not_eq_true', decide_eq_true_eq] at h5
  obtain ⟨⟨⟨⟨⟨g1, g2⟩, g3⟩, g4⟩, g5⟩, g6⟩ := h5
  simp [Cond.before, Cond.holds, Cond.value, h1, h2, h3, h4, g1, g2, g3, g4, g5, g6]
def isCode : Jvm.Cond → Bool
  | .code _ _ _ _ => true
  | _ => false
theorem all_split {L : List Jvm.Cond} {P : Jvm.Cond → Bool} (h1 : L.all (fun c => isCode c || P c) = true) (h2 : ∀ c ∈ L.filter isCode, P c = true) : L.all P = true := by
  refine List.all_eq_true.mpr fun c hc => ?_
  have h := List.all_eq_true.mp h1 c hc
  rcases Bool.eq_false_or_eq_true (isCode c) with hi | hi
  · exact h2 c (List.mem_filter.mpr ⟨hc, hi⟩)
  · simpa [hi] using h
set_option maxRecDepth 65536 in
theorem w_c0 : (Jvm.Cond.code x code maxLocals ret).before args0 about1 = true := code_word (m := ⟨1, 1⟩) (meth := k1m1) (c := k1c1) (by decide +kernel) rfl rfl rfl (by decide +kernel)
set_option maxRecDepth 65536 in
theorem w_c1 : (Jvm.Cond.code ({ cls := "com/example/rederive/rederive/program/Comparison$Operator", name := "ordersNumbers", desc := "()Z" } : Jvm.MethodName) prog_41_method_4_code (1 : Nat) (Option.some Jvm.ClassFile.FieldType.boolean)).before args0 about1 = true := code_word (m := ⟨6, 0⟩) (meth := k6m0) (c := k6c0) (by decide +kernel) rfl rfl rfl (by decide +kernel)
set_option maxRecDepth 65536 in
theorem w_c2 : (Jvm.Cond.code ({ cls := "com/example/rederive/rederive/program/Comparison$Operator", name := "holds", desc := "(II)Z" } : Jvm.MethodName) prog_41_method_5_code (4 : Nat) (Option.some Jvm.ClassFile.FieldType.boolean)).before args0 about1 = true := code_word (m := ⟨6, 1⟩) (meth := k6m1) (c := k6c1) (by decide +kernel) rfl rfl rfl (by decide +kernel)
set_option maxRecDepth 65536 in
theorem w_c3 : (Jvm.Cond.code ({ cls := "java/lang/Enum", name := "ordinal", desc := "()I" } : Jvm.MethodName) jdk_37_method_2_code (1 : Nat) (Option.some Jvm.ClassFile.FieldType.int)).before args0 about1 = true := code_word (m := ⟨5, 0⟩) (meth := k5m0) (c := k5c0) (by decide +kernel) rfl rfl rfl (by decide +kernel)
def codes1 : List Jvm.Cond := [Jvm.Cond.code x code maxLocals ret, Jvm.Cond.code ({ cls := "com/example/rederive/rederive/program/Comparison$Operator", name := "ordersNumbers", desc := "()Z" } : Jvm.MethodName) prog_41_method_4_code (1 : Nat) (Option.some Jvm.ClassFile.FieldType.boolean), Jvm.Cond.code ({ cls := "com/example/rederive/rederive/program/Comparison$Operator", name := "holds", desc := "(II)Z" } : Jvm.MethodName) prog_41_method_5_code (4 : Nat) (Option.some Jvm.ClassFile.FieldType.boolean), Jvm.Cond.code ({ cls := "java/lang/Enum", name := "ordinal", desc := "()I" } : Jvm.MethodName) jdk_37_method_2_code (1 : Nat) (Option.some Jvm.ClassFile.FieldType.int)]
set_option maxRecDepth 65536 in
theorem codes_eq : words1.filter isCode = codes1 := rfl
theorem w_codes : ∀ c ∈ words1.filter isCode, c.before args0 about1 = true := by
  rw [codes_eq]
  intro c hc
  simp only [codes1, List.mem_cons, List.not_mem_nil, or_false] at hc
  rcases hc with rfl | rfl | rfl | rfl
  · exact w_c0
  · exact w_c1
  · exact w_c2
  · exact w_c3
set_option maxRecDepth 65536 in
theorem w_t1 : (words1.take 24).all (fun c => isCode c || c.before args0 about1) = true := by decide +kernel
set_option maxRecDepth 65536 in
theorem w_t2 : (words1.drop 24).all (fun c => isCode c || c.before args0 about1) = true := by decide +kernel
theorem w_tables : (allAtoms (Jvm.Cond.code x code maxLocals ret :: tables_1)).before args0 about1 = true := by
  rw [allAtoms_all]
  show words1.all (fun c => c.before args0 about1) = true
  refine all_split ?_ w_codes
  rw [← List.take_append_drop 24 words1, List.all_append, w_t1, w_t2]
  rfl
set_option maxRecDepth 65536 in
theorem w_case : (Jvm.Cond.and given_1 narrow_1).before args0 about1 = true := by decide +kernel
theorem w_applies : (headSpec (Jvm.Cond.code x code maxLocals ret :: tables_1) room_1).applies x e0.platform about1 = true :=
  (Spec.applies_iff w_frames).mpr ⟨w_running, w_runnable, w_alone, w_named, w_hears, w_ripe, w_room, w_tables⟩
theorem atStart : AtStart classFile x code maxLocals ret World_1 tables_1 room_1 Calls_1 rest_1 Pre_1 launch0 p0 e0 about1 theMethod args0 below0 :=
  ⟨lists_1, trivial, launch0.admits_env _ _ _, launch0.least_env, fairChoices_fair.cas, fairChoices_fair.clock, w_frames, w_args, w_heap, w_applies, trivial, trivial, w_case⟩
end start1
theorem witness_1 : WitnessClaimed_1 := ⟨start1.p0, start1.e0, start1.about1, start1.theMethod, start1.args0, start1.below0, start1.atStart⟩
end Jvm.Pilot.@@N@@
