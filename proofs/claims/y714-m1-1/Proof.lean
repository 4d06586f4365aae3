import JvmDerived
import JvmDerived.Pilot.@@N@@Statement
import JvmDerived.Pilot.@@N@@Code
set_option linter.unusedVariables false
set_option linter.unusedSimpArgs false
@@BLOCK:NumsL.lean.txt@@
namespace Jvm.Pilot.@@N@@
open Jvm Jvm.ClassFile Sem Op Lib Jvm.Free Jvm.Stand Jvm.LawKit Jvm.RoadKit Bundle Jvm.Pilot.@@N@@.Jvm.D
/-- from here the run comes to its end, and G holds there -/
def Go (p : Program) (e : Env) (below : List Frame) (G : Outcome → State → Prop) (T : State) (g : JFrame) : Prop := ∃ s₂ o, Steps p.tables e below (T.setTop g) s₂ ∧ s₂.status = .running ∧ Ended s₂ below o ∧ G o s₂
theorem Go.on {p : Program} {e : Env} {below : List Frame} {G : Outcome → State → Prop} {T T' : State} {g g' : JFrame} (h : ∀ t, Steps p.tables e below (T'.setTop g') t → Steps p.tables e below (T.setTop g) t) (k : Go p e below G T' g') : Go p e below G T g := by
  obtain ⟨s2, o, k1, k2⟩ := k
  exact ⟨s2, o, h _ k1, k2⟩
/-- a body that writes nothing: what it returns; the heap as it was -/
def Qp (r : Option Value) (h0 : Heap) (n0 : Nat) (v : Option Value) (h : Heap) (L : List Loc) : Prop := v = r ∧ Fr n0 L ∧ h = h0
def Ql (r : Option Value) (n0 : Nat) (v : Option Value) (L : List Loc) : Prop := v = r ∧ Fr n0 L
/-- a body that only makes new cells -/
def Qx (r : Option Value) (F : Heap → Prop) (h0 : Heap) (n0 : Nat) (v : Option Value) (h : Heap) (L : List Loc) : Prop := v = r ∧ Fr n0 L ∧ Ext h0 h ∧ F h
theorem own_ext0 (h : Heap) : Ext h h := ⟨Nat.le_refl _, fun _ _ q => q⟩
theorem own_ext2 {a b c : Heap} (E : Ext a b) (F : Ext b c) : Ext a c := ⟨Nat.le_trans E.1 F.1, fun x y q => F.2 x y (E.2 x y q)⟩
theorem own_extw {h0 h h' : Heap} {a : Addr} {sl : Nat} {v : Value} (E : Ext h0 h) (W : Wr h h' a sl v) (q : h0.size ≤ a) : Ext h0 h' := by
  refine ⟨by rw [W.size]; exact E.1, fun x c hx => ?_⟩
  obtain ⟨c', g1, -, -, -, g5, -⟩ := wr_at W (E.2 x c hx)
  have hne : x ≠ a := Nat.ne_of_lt (Nat.lt_of_lt_of_le (Array.getElem?_eq_some_iff.mp hx).1 q)
  rw [g1, g5 hne]
theorem own_extE {h a b : Heap} (e : a = b) (X : Ext h b) : Ext h a := e ▸ X
theorem own_arrE {Z : State} {a b : Heap} {x : Addr} {c : Cell} {ty : FieldType} (e : a = b) (A : Arr Z b x c ty) : Arr Z a x c ty := e ▸ A
theorem own_ne {Z : State} {h : Heap} {a b : Addr} {C n d : String} {v v' : Value} (F : Fld Z h a C n d v) (G : Fld Z h b C n d v') (hv : v ≠ v') : ¬ (a = b) := by
  rintro rfl
  obtain ⟨cell, cf, k, i, f, h1, h2, -, -, -, -, h7⟩ := F
  obtain ⟨cell', cf', k', i', f', g1, g2, -, -, -, -, g7⟩ := G
  cases h1.symm.trans g1
  cases h2.symm.trans g2
  exact hv (Option.some.inj (h7.symm.trans g7))
theorem own_irrI (x : Int32) : ¬ (x < x) := by simp
theorem own_irrJ (x : Int64) : ¬ (x < x) := by simp
theorem own_eqI {args : Array Value} {s : State} {t : Term} {n : Int32} (h : (Jvm.Cond.eq t (.int n)).value args s none s [] = some true) : t.eval args s none [] s = some (.int n) := by
  exact eqv_i (Term.int_eval n) h
theorem own_len {args : Array Value} {s : State} {t : Term} {n : Int32} {a : Addr} {cl : Cell} {ty : FieldType} {k : Nat} (h : (Term.length t).eval args s none [] s = some (.int n)) (ht : t.eval args s none [] s = some (.ref a)) (A : Arr s s.heap a cl ty) (hk : n.toInt = k) : cl.slots.size = k := by
  have ha := A.fin (U := s) (Vm.Alike.refl _)
  by_cases hl : cl.slots.size < 2 ^ 31
  · have e := (len_f ht ha hl).symm.trans h
    have e2 : cl.slots.size.toInt32 = n := by simpa using e
    have e3 := len_toInt hl
    rw [e2, hk] at e3
    omega
  · simp [Term.eval, ht, ha, hl] at h
theorem own_slots {cl : Cell} {vs : List Value} (h1 : cl.slots.size = vs.length) (h2 : ∀ (i : Nat) (v : Value), vs[i]? = some v → cl.slots[i]? = some v) : cl.slots = vs.toArray := by
  apply Array.ext
  · simp [h1]
  · intro i hi hj
    have hj' : i < vs.length := by simpa using hj
    have q := h2 i vs[i] (by simp [hj'])
    rw [Array.getElem?_eq_getElem hi] at q
    simpa using q
theorem own_eqR {args : Array Value} {s : State} {t u : Term} {a : Addr} (h : (Jvm.Cond.eq t u).value args s none s [] = some true) (hu : u.eval args s none [] s = some (.ref a)) : t.eval args s none [] s = some (.ref a) := by
  obtain ⟨x, y, h1, h2, k1, k2⟩ := cmp_v (Or.inl h)
  cases h2.symm.trans hu
  have q := gotT (eq_R h1 h2 k2.2 rfl) h
  rw [h1, q]
def Pins (Z : State) (h : Heap) (w : Nat → Addr) : Prop :=
  Sta Z h "com/example/ostium/ostium/core/compact/ParameterType" "STRING" "Lcom/example/ostium/ostium/core/compact/ParameterType;" (.ref (w 0)) ∧
  Sta Z h "com/example/ostium/ostium/core/compact/ParameterType" "NOW" "Lcom/example/ostium/ostium/core/compact/ParameterType;" (.ref (w 1)) ∧
  Sta Z h "com/example/ostium/ostium/core/compact/ParameterType" "NUMBER" "Lcom/example/ostium/ostium/core/compact/ParameterType;" (.ref (w 2)) ∧
  Sta Z h "com/example/ostium/ostium/core/compact/ParameterType" "INTEGER" "Lcom/example/ostium/ostium/core/compact/ParameterType;" (.ref (w 3)) ∧
  Sta Z h "com/example/ostium/ostium/core/compact/ParameterType" "UNSIGNED" "Lcom/example/ostium/ostium/core/compact/ParameterType;" (.ref (w 4)) ∧
  Sta Z h "com/example/ostium/ostium/core/compact/ParameterType" "DATE" "Lcom/example/ostium/ostium/core/compact/ParameterType;" (.ref (w 5)) ∧
  Exa Z h (w 0) "com/example/ostium/ostium/core/compact/ParameterType" ∧
  Exa Z h (w 1) "com/example/ostium/ostium/core/compact/ParameterType" ∧
  Exa Z h (w 2) "com/example/ostium/ostium/core/compact/ParameterType" ∧
  Exa Z h (w 3) "com/example/ostium/ostium/core/compact/ParameterType" ∧
  Exa Z h (w 4) "com/example/ostium/ostium/core/compact/ParameterType" ∧
  Exa Z h (w 5) "com/example/ostium/ostium/core/compact/ParameterType" ∧
  Fld Z h (w 0) "java/lang/Enum" "ordinal" "I" (.int (0 : Int32)) ∧
  Fld Z h (w 1) "java/lang/Enum" "ordinal" "I" (.int (5 : Int32)) ∧
  Fld Z h (w 2) "java/lang/Enum" "ordinal" "I" (.int (3 : Int32)) ∧
  Fld Z h (w 3) "java/lang/Enum" "ordinal" "I" (.int (2 : Int32)) ∧
  Fld Z h (w 4) "java/lang/Enum" "ordinal" "I" (.int (1 : Int32)) ∧
  Fld Z h (w 5) "java/lang/Enum" "ordinal" "I" (.int (4 : Int32)) ∧
  True
theorem pin_0 {Z : State} {h : Heap} {w : Nat → Addr} (P : Pins Z h w) : Sta Z h "com/example/ostium/ostium/core/compact/ParameterType" "STRING" "Lcom/example/ostium/ostium/core/compact/ParameterType;" (.ref (w 0)) := P.1
theorem pin_1 {Z : State} {h : Heap} {w : Nat → Addr} (P : Pins Z h w) : Sta Z h "com/example/ostium/ostium/core/compact/ParameterType" "NOW" "Lcom/example/ostium/ostium/core/compact/ParameterType;" (.ref (w 1)) := P.2.1
theorem pin_2 {Z : State} {h : Heap} {w : Nat → Addr} (P : Pins Z h w) : Sta Z h "com/example/ostium/ostium/core/compact/ParameterType" "NUMBER" "Lcom/example/ostium/ostium/core/compact/ParameterType;" (.ref (w 2)) := P.2.2.1
theorem pin_3 {Z : State} {h : Heap} {w : Nat → Addr} (P : Pins Z h w) : Sta Z h "com/example/ostium/ostium/core/compact/ParameterType" "INTEGER" "Lcom/example/ostium/ostium/core/compact/ParameterType;" (.ref (w 3)) := P.2.2.2.1
theorem pin_4 {Z : State} {h : Heap} {w : Nat → Addr} (P : Pins Z h w) : Sta Z h "com/example/ostium/ostium/core/compact/ParameterType" "UNSIGNED" "Lcom/example/ostium/ostium/core/compact/ParameterType;" (.ref (w 4)) := P.2.2.2.2.1
theorem pin_5 {Z : State} {h : Heap} {w : Nat → Addr} (P : Pins Z h w) : Sta Z h "com/example/ostium/ostium/core/compact/ParameterType" "DATE" "Lcom/example/ostium/ostium/core/compact/ParameterType;" (.ref (w 5)) := P.2.2.2.2.2.1
theorem pin_6 {Z : State} {h : Heap} {w : Nat → Addr} (P : Pins Z h w) : Exa Z h (w 0) "com/example/ostium/ostium/core/compact/ParameterType" := P.2.2.2.2.2.2.1
theorem pin_7 {Z : State} {h : Heap} {w : Nat → Addr} (P : Pins Z h w) : Exa Z h (w 1) "com/example/ostium/ostium/core/compact/ParameterType" := P.2.2.2.2.2.2.2.1
theorem pin_8 {Z : State} {h : Heap} {w : Nat → Addr} (P : Pins Z h w) : Exa Z h (w 2) "com/example/ostium/ostium/core/compact/ParameterType" := P.2.2.2.2.2.2.2.2.1
theorem pin_9 {Z : State} {h : Heap} {w : Nat → Addr} (P : Pins Z h w) : Exa Z h (w 3) "com/example/ostium/ostium/core/compact/ParameterType" := P.2.2.2.2.2.2.2.2.2.1
theorem pin_10 {Z : State} {h : Heap} {w : Nat → Addr} (P : Pins Z h w) : Exa Z h (w 4) "com/example/ostium/ostium/core/compact/ParameterType" := P.2.2.2.2.2.2.2.2.2.2.1
theorem pin_11 {Z : State} {h : Heap} {w : Nat → Addr} (P : Pins Z h w) : Exa Z h (w 5) "com/example/ostium/ostium/core/compact/ParameterType" := P.2.2.2.2.2.2.2.2.2.2.2.1
theorem pin_12 {Z : State} {h : Heap} {w : Nat → Addr} (P : Pins Z h w) : Fld Z h (w 0) "java/lang/Enum" "ordinal" "I" (.int (0 : Int32)) := P.2.2.2.2.2.2.2.2.2.2.2.2.1
theorem pin_13 {Z : State} {h : Heap} {w : Nat → Addr} (P : Pins Z h w) : Fld Z h (w 1) "java/lang/Enum" "ordinal" "I" (.int (5 : Int32)) := P.2.2.2.2.2.2.2.2.2.2.2.2.2.1
theorem pin_14 {Z : State} {h : Heap} {w : Nat → Addr} (P : Pins Z h w) : Fld Z h (w 2) "java/lang/Enum" "ordinal" "I" (.int (3 : Int32)) := P.2.2.2.2.2.2.2.2.2.2.2.2.2.2.1
theorem pin_15 {Z : State} {h : Heap} {w : Nat → Addr} (P : Pins Z h w) : Fld Z h (w 3) "java/lang/Enum" "ordinal" "I" (.int (2 : Int32)) := P.2.2.2.2.2.2.2.2.2.2.2.2.2.2.2.1
theorem pin_16 {Z : State} {h : Heap} {w : Nat → Addr} (P : Pins Z h w) : Fld Z h (w 4) "java/lang/Enum" "ordinal" "I" (.int (1 : Int32)) := P.2.2.2.2.2.2.2.2.2.2.2.2.2.2.2.2.1
theorem pin_17 {Z : State} {h : Heap} {w : Nat → Addr} (P : Pins Z h w) : Fld Z h (w 5) "java/lang/Enum" "ordinal" "I" (.int (4 : Int32)) := P.2.2.2.2.2.2.2.2.2.2.2.2.2.2.2.2.2.1
theorem pins_ext {Z : State} {h h' : Heap} {w : Nat → Addr} (E : Ext h h') (P : Pins Z h w) : Pins Z h' w :=
  ⟨(pin_0 P).ext E, (pin_1 P).ext E, (pin_2 P).ext E, (pin_3 P).ext E, (pin_4 P).ext E, (pin_5 P).ext E, (pin_6 P).ext E, (pin_7 P).ext E, (pin_8 P).ext E, (pin_9 P).ext E, (pin_10 P).ext E, (pin_11 P).ext E, (pin_12 P).ext E, (pin_13 P).ext E, (pin_14 P).ext E, (pin_15 P).ext E, (pin_16 P).ext E, (pin_17 P).ext E, trivial⟩
theorem own_mod6 (x : Int32) : ((x &&& (2147483647 : Int32)) % (6 : Int32)) = (0 : Int32) ∨ ((x &&& (2147483647 : Int32)) % (6 : Int32)) = (1 : Int32) ∨ ((x &&& (2147483647 : Int32)) % (6 : Int32)) = (2 : Int32) ∨ ((x &&& (2147483647 : Int32)) % (6 : Int32)) = (3 : Int32) ∨ ((x &&& (2147483647 : Int32)) % (6 : Int32)) = (4 : Int32) ∨ ((x &&& (2147483647 : Int32)) % (6 : Int32)) = (5 : Int32) := by
  have e := Jvm.Kit.i32_mask x 2147483647 (k := 31) (by decide) (by decide)
  have e2 : ((x &&& 2147483647) % (6 : Int32)).toInt = (x &&& 2147483647).toInt % (6 : Int32).toInt := Jvm.Kit.i32_rem_nonneg (by rw [e]; omega)
  have e3 : (6 : Int32).toInt = 6 := by decide
  rw [e3] at e2
  generalize ((x &&& 2147483647) % (6 : Int32)) = y at *
  simp only [← Int32.toInt_inj]
  show y.toInt = 0 ∨ y.toInt = 1 ∨ y.toInt = 2 ∨ y.toInt = 3 ∨ y.toInt = 4 ∨ y.toInt = 5
  omega
theorem d1_0 : decode method_2_code 0 = .ok (.iload_n 0, 1) := by decide +kernel
theorem d1_1 : decode method_2_code 1 = .ok (.ifCond .ne 7, 3) := by decide +kernel
theorem d1_4 : decode method_2_code 4 = .ok (.getstatic 7, 3) := by decide +kernel
theorem d1_7 : decode method_2_code 7 = .ok (.areturn, 1) := by decide +kernel
theorem pn_0 : plainName "com/example/ostium/ostium/core/compact/ParameterTypeTakesValuePinLaw" = true := by first | (simp [plainName, overriddenIn]; done) | decide +kernel
set_option maxRecDepth 65536 in
set_option maxHeartbeats 40000000 in
theorem rm1_0 (l : Launch) (Z : State) (a0 : Array Value) (hw : ∀ d ∈ tables_1, d.before a0 Z = true) (ws : List Jvm.Cond) (w : Nat → Addr) (h0 : Heap) (n0 : Nat) (Z0 : n0 ≤ h0.size) (hP : Pins Z h0 w) :
    MetFree l (⟨"com/example/ostium/ostium/core/compact/ParameterTypeTakesValuePinLaw", "pick", "(I)Lcom/example/ostium/ostium/core/compact/ParameterType;"⟩ : MethodName) (head1 (Jvm.Cond.code (⟨"com/example/ostium/ostium/core/compact/ParameterTypeTakesValuePinLaw", "pick", "(I)Lcom/example/ostium/ostium/core/compact/ParameterType;"⟩ : MethodName) method_2_code 1 (some (.object "com/example/ostium/ostium/core/compact/ParameterType")) :: ws) ({ frames := 0, cells := 0, slots := 0, locals := 0 } : Room)) (fun a U => a = #[(.int (0 : Int32))] ∧ Z.Warmed39 U.vm ∧ U.heap = h0) (fun _ _ _ _ _ => True) (fun _ U o U' => ∃ v L, o = .returned v ∧ Qp (some (.ref (w 0))) h0 n0 v U'.heap L ∧ FrameEnd U o U' L ({ frames := 0, cells := 0, slots := 0, locals := 0 } : Room).cells ({ frames := 0, cells := 0, slots := 0, locals := 0 } : Room).slots) := by
  refine MetFree.of_bodySF (plainFor_of_name pn_0) hisR ?_
  intro p e s m args below meth c s₁ Bd hml0 hP0 hK
  obtain ⟨rfl, hZ, hh⟩ := hP0
  have hx := Bd.exec
  have hby := Bd.bytes
  have hml : c.maxLocals = 1 := hml0
  have hown : s.vm.findClass "com/example/ostium/ostium/core/compact/ParameterTypeTakesValuePinLaw" = some m.cls := findClass_of_methodNamed Bd.named
  have hnm := (name_of_methodNamed Bd.named Bd.method).1
  have X0 : Stand p l e ({ frames := 0, cells := 0, slots := 0, locals := 0 } : Room) s m #[(.int (0 : Int32))] below meth c s₁ [] 0 0 := Stand.of_body Bd
  have e0 : s₁.heap = h0 := by rw [← hh, Bd.state]; rfl
  have N0 := Fr.nil n0
  suffices hgo : Go p e below (fun o U' => ∃ v L, o = .returned v ∧ Qp (some (.ref (w 0))) h0 n0 v U'.heap L ∧ FrameEnd s o U' L ({ frames := 0, cells := 0, slots := 0, locals := 0 } : Room).cells ({ frames := 0, cells := 0, slots := 0, locals := 0 } : Room).slots) s₁ (mkF m 0 #[.val (.int (0 : Int32))] []) by
    obtain ⟨s2, o, g1, g2, g3, g4⟩ := hgo
    refine ⟨s2, o, castTop (?_ : entryFrame m #[(.int (0 : Int32))] 1 = _) g1, g2, g3, g4⟩
    first | (simp [entryFrame, mkF, argsToLocals, Value.category]; done) | rfl
  refine Go.on (T' := s₁) (g' := (mkF m 1 #[.val (.int (0 : Int32))] [(.int (0 : Int32))])) (fun t k => XS.iloadN X0.here hx rfl (hb hby d1_0) rfl k) ?_
  refine Go.on (T' := s₁) (g' := (mkF m 4 #[.val (.int (0 : Int32))] [])) (fun t k => XS.ifNo X0.here hx rfl (hb hby d1_1) rfl ((if0 _ _).trans (teq (by decide : (0 : Int32) = (0 : Int32))).2) k) ?_
  obtain ⟨T3, X3, e3, st3⟩ := getS2 X0 hx hZ hown (host := "") (Or.inl (hw _ (List.mem_of_getElem? (i := 5) rfl))) Via.refl e0 (pin_0 hP) (g := (mkF m 4 #[.val (.int (0 : Int32))] [])) rfl (hb hby d1_4)
  refine Go.on (T' := T3) (g' := (mkF m 7 #[.val (.int (0 : Int32))] [(.ref (w 0))])) st3 ?_
  obtain ⟨fs, hr, hrun, hended, hW, hsame⟩ := X3.leave (v := some (.ref (w 0))) (fun h => by rw [Bd.returns] at h; cases h)
  exact ⟨_, _, retOut X3 hx Bd.returns rfl (Or.inr (Or.inr (Or.inr (Or.inr ⟨rfl, rfl, rfl⟩)))) (hb hby d1_7) hr, hrun, hended, _, _, rfl, ⟨rfl, N0, e3⟩, ⟨_, rfl⟩, hW, hsame.mono (by decide) (by decide)⟩
theorem pd_0 : parseMethodDescriptor "(I)Lcom/example/ostium/ostium/core/compact/ParameterType;" = some ⟨[.int], some (.object "com/example/ostium/ostium/core/compact/ParameterType")⟩ := by decide +kernel
theorem d2_0 : decode prog_45_method_4_code 0 = .ok (.aload_n 0, 1) := by decide +kernel
theorem d2_1 : decode prog_45_method_4_code 1 = .ok (.getstatic 19, 3) := by decide +kernel
theorem d2_4 : decode prog_45_method_4_code 4 = .ok (.if_acmp .eq 7, 3) := by decide +kernel
theorem d2_7 : decode prog_45_method_4_code 7 = .ok (.iconst 1, 1) := by decide +kernel
theorem d2_8 : decode prog_45_method_4_code 8 = .ok (.goto 4, 3) := by decide +kernel
theorem d2_12 : decode prog_45_method_4_code 12 = .ok (.ireturn, 1) := by decide +kernel
theorem pn_1 : plainName "com/example/ostium/ostium/core/compact/ParameterType" = true := by first | (simp [plainName, overriddenIn]; done) | decide +kernel
set_option maxRecDepth 65536 in
set_option maxHeartbeats 40000000 in
theorem rm2_0 (l : Launch) (Z : State) (a0 : Array Value) (hw : ∀ d ∈ tables_1, d.before a0 Z = true) (ws : List Jvm.Cond) (w : Nat → Addr) (h0 : Heap) (n0 : Nat) (Z0 : n0 ≤ h0.size) (hP : Pins Z h0 w) :
    MetFree l (⟨"com/example/ostium/ostium/core/compact/ParameterType", "takesValue", "()Z"⟩ : MethodName) (head1 (Jvm.Cond.code (⟨"com/example/ostium/ostium/core/compact/ParameterType", "takesValue", "()Z"⟩ : MethodName) prog_45_method_4_code 1 (some .boolean) :: ws) ({ frames := 0, cells := 0, slots := 0, locals := 0 } : Room)) (fun a U => a = #[(.ref (w 0))] ∧ Z.Warmed39 U.vm ∧ U.heap = h0) (fun _ _ _ _ _ => True) (fun _ U o U' => ∃ v L, o = .returned v ∧ Qp (some (.int (1 : Int32))) h0 n0 v U'.heap L ∧ FrameEnd U o U' L ({ frames := 0, cells := 0, slots := 0, locals := 0 } : Room).cells ({ frames := 0, cells := 0, slots := 0, locals := 0 } : Room).slots) := by
  refine MetFree.of_bodySF (plainFor_of_name pn_1) hisR ?_
  intro p e s m args below meth c s₁ Bd hml0 hP0 hK
  obtain ⟨rfl, hZ, hh⟩ := hP0
  have hx := Bd.exec
  have hby := Bd.bytes
  have hml : c.maxLocals = 1 := hml0
  have hown : s.vm.findClass "com/example/ostium/ostium/core/compact/ParameterType" = some m.cls := findClass_of_methodNamed Bd.named
  have hnm := (name_of_methodNamed Bd.named Bd.method).1
  have X0 : Stand p l e ({ frames := 0, cells := 0, slots := 0, locals := 0 } : Room) s m #[(.ref (w 0))] below meth c s₁ [] 0 0 := Stand.of_body Bd
  have e0 : s₁.heap = h0 := by rw [← hh, Bd.state]; rfl
  have N0 := Fr.nil n0
  suffices hgo : Go p e below (fun o U' => ∃ v L, o = .returned v ∧ Qp (some (.int (1 : Int32))) h0 n0 v U'.heap L ∧ FrameEnd s o U' L ({ frames := 0, cells := 0, slots := 0, locals := 0 } : Room).cells ({ frames := 0, cells := 0, slots := 0, locals := 0 } : Room).slots) s₁ (mkF m 0 #[.val (.ref (w 0))] []) by
    obtain ⟨s2, o, g1, g2, g3, g4⟩ := hgo
    refine ⟨s2, o, castTop (?_ : entryFrame m #[(.ref (w 0))] 1 = _) g1, g2, g3, g4⟩
    first | (simp [entryFrame, mkF, argsToLocals, Value.category]; done) | rfl
  refine Go.on (T' := s₁) (g' := (mkF m 1 #[.val (.ref (w 0))] [(.ref (w 0))])) (fun t k => XS.aloadN X0.here hx rfl (hb hby d2_0) rfl rfl k) ?_
  obtain ⟨T6, X6, e6, st6⟩ := getS2 X0 hx hZ hown (host := "") (Or.inl (hw _ (List.mem_of_getElem? (i := 13) rfl))) Via.refl e0 (pin_1 hP) (g := (mkF m 1 #[.val (.ref (w 0))] [(.ref (w 0))])) rfl (hb hby d2_1)
  refine Go.on (T' := T6) (g' := (mkF m 4 #[.val (.ref (w 0))] [(.ref (w 1)), (.ref (w 0))])) st6 ?_
  refine Go.on (T' := T6) (g' := (mkF m 7 #[.val (.ref (w 0))] [])) (fun t k => Jvm.RoadKit.acmp (g := (mkF m 4 #[.val (.ref (w 0))] [(.ref (w 1)), (.ref (w 0))])) X6 hx rfl rfl rfl (pc0 := 4) (pc' := 7) (same := false) rfl (hb hby d2_4) rfl (decide_eq_false fun q => (own_ne (pin_12 hP) (pin_13 hP) (by decide)) (Value.ref.inj q)) (by decide) (by decide) k) ?_
  refine Go.on (T' := T6) (g' := (mkF m 8 #[.val (.ref (w 0))] [(.int (1 : Int32))])) (fun t k => XS.iconst X6.here hx rfl (hb hby d2_7) k) ?_
  refine Go.on (T' := T6) (g' := (mkF m 12 #[.val (.ref (w 0))] [(.int (1 : Int32))])) (fun t k => XS.goto X6.here hx rfl (pc0 := 8) (pc' := 12) rfl (hb hby d2_8) (by decide) (by decide) k) ?_
  obtain ⟨fs, hr, hrun, hended, hW, hsame⟩ := X6.leave (v := some (.int (1 : Int32))) (fun h => by rw [Bd.returns] at h; cases h)
  exact ⟨_, _, retN X6 hx (t := .boolean) Bd.returns (by simp) (hb hby d2_12) hr, hrun, hended, _, _, rfl, ⟨rfl, N0, e6⟩, ⟨_, rfl⟩, hW, hsame.mono (by decide) (by decide)⟩
theorem pd_1 : parseMethodDescriptor "()Z" = some ⟨[], some .boolean⟩ := by decide +kernel
theorem d3_0 : decode method_3_code 0 = .ok (.iload_n 0, 1) := by decide +kernel
theorem d3_1 : decode method_3_code 1 = .ok (.iconst 5, 1) := by decide +kernel
theorem d3_2 : decode method_3_code 2 = .ok (.if_icmp .ne 5, 3) := by decide +kernel
theorem d3_7 : decode method_3_code 7 = .ok (.iconst 1, 1) := by decide +kernel
theorem d3_8 : decode method_3_code 8 = .ok (.ireturn, 1) := by decide +kernel
set_option maxRecDepth 65536 in
set_option maxHeartbeats 40000000 in
theorem rm3_0 (l : Launch) (Z : State) (a0 : Array Value) (hw : ∀ d ∈ tables_1, d.before a0 Z = true) (ws : List Jvm.Cond) (w : Nat → Addr) (h0 : Heap) (n0 : Nat) (Z0 : n0 ≤ h0.size) (hP : Pins Z h0 w) :
    MetFree l (⟨"com/example/ostium/ostium/core/compact/ParameterTypeTakesValuePinLaw", "expected", "(I)Z"⟩ : MethodName) (head1 (Jvm.Cond.code (⟨"com/example/ostium/ostium/core/compact/ParameterTypeTakesValuePinLaw", "expected", "(I)Z"⟩ : MethodName) method_3_code 1 (some .boolean) :: ws) ({ frames := 0, cells := 0, slots := 0, locals := 0 } : Room)) (fun a U => a = #[(.int (0 : Int32))] ∧ Z.Warmed39 U.vm ∧ U.heap = h0) (fun _ _ _ _ _ => True) (fun _ U o U' => ∃ v L, o = .returned v ∧ Qp (some (.int (1 : Int32))) h0 n0 v U'.heap L ∧ FrameEnd U o U' L ({ frames := 0, cells := 0, slots := 0, locals := 0 } : Room).cells ({ frames := 0, cells := 0, slots := 0, locals := 0 } : Room).slots) := by
  refine MetFree.of_bodySF (plainFor_of_name pn_0) hisR ?_
  intro p e s m args below meth c s₁ Bd hml0 hP0 hK
  obtain ⟨rfl, hZ, hh⟩ := hP0
  have hx := Bd.exec
  have hby := Bd.bytes
  have hml : c.maxLocals = 1 := hml0
  have hown : s.vm.findClass "com/example/ostium/ostium/core/compact/ParameterTypeTakesValuePinLaw" = some m.cls := findClass_of_methodNamed Bd.named
  have hnm := (name_of_methodNamed Bd.named Bd.method).1
  have X0 : Stand p l e ({ frames := 0, cells := 0, slots := 0, locals := 0 } : Room) s m #[(.int (0 : Int32))] below meth c s₁ [] 0 0 := Stand.of_body Bd
  have e0 : s₁.heap = h0 := by rw [← hh, Bd.state]; rfl
  have N0 := Fr.nil n0
  suffices hgo : Go p e below (fun o U' => ∃ v L, o = .returned v ∧ Qp (some (.int (1 : Int32))) h0 n0 v U'.heap L ∧ FrameEnd s o U' L ({ frames := 0, cells := 0, slots := 0, locals := 0 } : Room).cells ({ frames := 0, cells := 0, slots := 0, locals := 0 } : Room).slots) s₁ (mkF m 0 #[.val (.int (0 : Int32))] []) by
    obtain ⟨s2, o, g1, g2, g3, g4⟩ := hgo
    refine ⟨s2, o, castTop (?_ : entryFrame m #[(.int (0 : Int32))] 1 = _) g1, g2, g3, g4⟩
    first | (simp [entryFrame, mkF, argsToLocals, Value.category]; done) | rfl
  refine Go.on (T' := s₁) (g' := (mkF m 1 #[.val (.int (0 : Int32))] [(.int (0 : Int32))])) (fun t k => XS.iloadN X0.here hx rfl (hb hby d3_0) rfl k) ?_
  refine Go.on (T' := s₁) (g' := (mkF m 2 #[.val (.int (0 : Int32))] [(.int (5 : Int32)), (.int (0 : Int32))])) (fun t k => XS.iconst X0.here hx rfl (hb hby d3_1) k) ?_
  refine Go.on (T' := s₁) (g' := (mkF m 7 #[.val (.int (0 : Int32))] [])) (fun t k => XS.icmpYes X0.here hx rfl (pc0 := 2) (pc' := 7) rfl (hb hby d3_2) rfl (feq (by decide : ¬ ((0 : Int32) = (5 : Int32)))).2 (by decide) (by decide) k) ?_
  refine Go.on (T' := s₁) (g' := (mkF m 8 #[.val (.int (0 : Int32))] [(.int (1 : Int32))])) (fun t k => XS.iconst X0.here hx rfl (hb hby d3_7) k) ?_
  obtain ⟨fs, hr, hrun, hended, hW, hsame⟩ := X0.leave (v := some (.int (1 : Int32))) (fun h => by rw [Bd.returns] at h; cases h)
  exact ⟨_, _, retN X0 hx (t := .boolean) Bd.returns (by simp) (hb hby d3_8) hr, hrun, hended, _, _, rfl, ⟨rfl, N0, e0⟩, ⟨_, rfl⟩, hW, hsame.mono (by decide) (by decide)⟩
theorem pd_2 : parseMethodDescriptor "(I)Z" = some ⟨[.int], some .boolean⟩ := by decide +kernel
theorem d1_8 : decode method_2_code 8 = .ok (.iload_n 0, 1) := by decide +kernel
theorem d1_9 : decode method_2_code 9 = .ok (.iconst 1, 1) := by decide +kernel
theorem d1_10 : decode method_2_code 10 = .ok (.if_icmp .ne 7, 3) := by decide +kernel
theorem d1_13 : decode method_2_code 13 = .ok (.getstatic 13, 3) := by decide +kernel
theorem d1_16 : decode method_2_code 16 = .ok (.areturn, 1) := by decide +kernel
set_option maxRecDepth 65536 in
set_option maxHeartbeats 40000000 in
theorem rm1_1 (l : Launch) (Z : State) (a0 : Array Value) (hw : ∀ d ∈ tables_1, d.before a0 Z = true) (ws : List Jvm.Cond) (w : Nat → Addr) (h0 : Heap) (n0 : Nat) (Z0 : n0 ≤ h0.size) (hP : Pins Z h0 w) :
    MetFree l (⟨"com/example/ostium/ostium/core/compact/ParameterTypeTakesValuePinLaw", "pick", "(I)Lcom/example/ostium/ostium/core/compact/ParameterType;"⟩ : MethodName) (head1 (Jvm.Cond.code (⟨"com/example/ostium/ostium/core/compact/ParameterTypeTakesValuePinLaw", "pick", "(I)Lcom/example/ostium/ostium/core/compact/ParameterType;"⟩ : MethodName) method_2_code 1 (some (.object "com/example/ostium/ostium/core/compact/ParameterType")) :: ws) ({ frames := 0, cells := 0, slots := 0, locals := 0 } : Room)) (fun a U => a = #[(.int (1 : Int32))] ∧ Z.Warmed39 U.vm ∧ U.heap = h0) (fun _ _ _ _ _ => True) (fun _ U o U' => ∃ v L, o = .returned v ∧ Qp (some (.ref (w 4))) h0 n0 v U'.heap L ∧ FrameEnd U o U' L ({ frames := 0, cells := 0, slots := 0, locals := 0 } : Room).cells ({ frames := 0, cells := 0, slots := 0, locals := 0 } : Room).slots) := by
  refine MetFree.of_bodySF (plainFor_of_name pn_0) hisR ?_
  intro p e s m args below meth c s₁ Bd hml0 hP0 hK
  obtain ⟨rfl, hZ, hh⟩ := hP0
  have hx := Bd.exec
  have hby := Bd.bytes
  have hml : c.maxLocals = 1 := hml0
  have hown : s.vm.findClass "com/example/ostium/ostium/core/compact/ParameterTypeTakesValuePinLaw" = some m.cls := findClass_of_methodNamed Bd.named
  have hnm := (name_of_methodNamed Bd.named Bd.method).1
  have X0 : Stand p l e ({ frames := 0, cells := 0, slots := 0, locals := 0 } : Room) s m #[(.int (1 : Int32))] below meth c s₁ [] 0 0 := Stand.of_body Bd
  have e0 : s₁.heap = h0 := by rw [← hh, Bd.state]; rfl
  have N0 := Fr.nil n0
  suffices hgo : Go p e below (fun o U' => ∃ v L, o = .returned v ∧ Qp (some (.ref (w 4))) h0 n0 v U'.heap L ∧ FrameEnd s o U' L ({ frames := 0, cells := 0, slots := 0, locals := 0 } : Room).cells ({ frames := 0, cells := 0, slots := 0, locals := 0 } : Room).slots) s₁ (mkF m 0 #[.val (.int (1 : Int32))] []) by
    obtain ⟨s2, o, g1, g2, g3, g4⟩ := hgo
    refine ⟨s2, o, castTop (?_ : entryFrame m #[(.int (1 : Int32))] 1 = _) g1, g2, g3, g4⟩
    first | (simp [entryFrame, mkF, argsToLocals, Value.category]; done) | rfl
  refine Go.on (T' := s₁) (g' := (mkF m 1 #[.val (.int (1 : Int32))] [(.int (1 : Int32))])) (fun t k => XS.iloadN X0.here hx rfl (hb hby d1_0) rfl k) ?_
  refine Go.on (T' := s₁) (g' := (mkF m 8 #[.val (.int (1 : Int32))] [])) (fun t k => XS.ifYes X0.here hx rfl (pc0 := 1) (pc' := 8) rfl (hb hby d1_1) rfl ((if0 _ _).trans (feq (by decide : ¬ ((1 : Int32) = (0 : Int32)))).2) (by decide) (by decide) k) ?_
  refine Go.on (T' := s₁) (g' := (mkF m 9 #[.val (.int (1 : Int32))] [(.int (1 : Int32))])) (fun t k => XS.iloadN X0.here hx rfl (hb hby d1_8) rfl k) ?_
  refine Go.on (T' := s₁) (g' := (mkF m 10 #[.val (.int (1 : Int32))] [(.int (1 : Int32)), (.int (1 : Int32))])) (fun t k => XS.iconst X0.here hx rfl (hb hby d1_9) k) ?_
  refine Go.on (T' := s₁) (g' := (mkF m 13 #[.val (.int (1 : Int32))] [])) (fun t k => XS.icmpNo X0.here hx rfl (hb hby d1_10) rfl (teq (by decide : (1 : Int32) = (1 : Int32))).2 k) ?_
  obtain ⟨T10, X10, e10, st10⟩ := getS2 X0 hx hZ hown (host := "") (Or.inl (hw _ (List.mem_of_getElem? (i := 22) rfl))) Via.refl e0 (pin_4 hP) (g := (mkF m 13 #[.val (.int (1 : Int32))] [])) rfl (hb hby d1_13)
  refine Go.on (T' := T10) (g' := (mkF m 16 #[.val (.int (1 : Int32))] [(.ref (w 4))])) st10 ?_
  obtain ⟨fs, hr, hrun, hended, hW, hsame⟩ := X10.leave (v := some (.ref (w 4))) (fun h => by rw [Bd.returns] at h; cases h)
  exact ⟨_, _, retOut X10 hx Bd.returns rfl (Or.inr (Or.inr (Or.inr (Or.inr ⟨rfl, rfl, rfl⟩)))) (hb hby d1_16) hr, hrun, hended, _, _, rfl, ⟨rfl, N0, e10⟩, ⟨_, rfl⟩, hW, hsame.mono (by decide) (by decide)⟩
set_option maxRecDepth 65536 in
set_option maxHeartbeats 40000000 in
theorem rm2_1 (l : Launch) (Z : State) (a0 : Array Value) (hw : ∀ d ∈ tables_1, d.before a0 Z = true) (ws : List Jvm.Cond) (w : Nat → Addr) (h0 : Heap) (n0 : Nat) (Z0 : n0 ≤ h0.size) (hP : Pins Z h0 w) :
    MetFree l (⟨"com/example/ostium/ostium/core/compact/ParameterType", "takesValue", "()Z"⟩ : MethodName) (head1 (Jvm.Cond.code (⟨"com/example/ostium/ostium/core/compact/ParameterType", "takesValue", "()Z"⟩ : MethodName) prog_45_method_4_code 1 (some .boolean) :: ws) ({ frames := 0, cells := 0, slots := 0, locals := 0 } : Room)) (fun a U => a = #[(.ref (w 4))] ∧ Z.Warmed39 U.vm ∧ U.heap = h0) (fun _ _ _ _ _ => True) (fun _ U o U' => ∃ v L, o = .returned v ∧ Qp (some (.int (1 : Int32))) h0 n0 v U'.heap L ∧ FrameEnd U o U' L ({ frames := 0, cells := 0, slots := 0, locals := 0 } : Room).cells ({ frames := 0, cells := 0, slots := 0, locals := 0 } : Room).slots) := by
  refine MetFree.of_bodySF (plainFor_of_name pn_1) hisR ?_
  intro p e s m args below meth c s₁ Bd hml0 hP0 hK
  obtain ⟨rfl, hZ, hh⟩ := hP0
  have hx := Bd.exec
  have hby := Bd.bytes
  have hml : c.maxLocals = 1 := hml0
  have hown : s.vm.findClass "com/example/ostium/ostium/core/compact/ParameterType" = some m.cls := findClass_of_methodNamed Bd.named
  have hnm := (name_of_methodNamed Bd.named Bd.method).1
  have X0 : Stand p l e ({ frames := 0, cells := 0, slots := 0, locals := 0 } : Room) s m #[(.ref (w 4))] below meth c s₁ [] 0 0 := Stand.of_body Bd
  have e0 : s₁.heap = h0 := by rw [← hh, Bd.state]; rfl
  have N0 := Fr.nil n0
  suffices hgo : Go p e below (fun o U' => ∃ v L, o = .returned v ∧ Qp (some (.int (1 : Int32))) h0 n0 v U'.heap L ∧ FrameEnd s o U' L ({ frames := 0, cells := 0, slots := 0, locals := 0 } : Room).cells ({ frames := 0, cells := 0, slots := 0, locals := 0 } : Room).slots) s₁ (mkF m 0 #[.val (.ref (w 4))] []) by
    obtain ⟨s2, o, g1, g2, g3, g4⟩ := hgo
    refine ⟨s2, o, castTop (?_ : entryFrame m #[(.ref (w 4))] 1 = _) g1, g2, g3, g4⟩
    first | (simp [entryFrame, mkF, argsToLocals, Value.category]; done) | rfl
  refine Go.on (T' := s₁) (g' := (mkF m 1 #[.val (.ref (w 4))] [(.ref (w 4))])) (fun t k => XS.aloadN X0.here hx rfl (hb hby d2_0) rfl rfl k) ?_
  obtain ⟨T13, X13, e13, st13⟩ := getS2 X0 hx hZ hown (host := "") (Or.inl (hw _ (List.mem_of_getElem? (i := 13) rfl))) Via.refl e0 (pin_1 hP) (g := (mkF m 1 #[.val (.ref (w 4))] [(.ref (w 4))])) rfl (hb hby d2_1)
  refine Go.on (T' := T13) (g' := (mkF m 4 #[.val (.ref (w 4))] [(.ref (w 1)), (.ref (w 4))])) st13 ?_
  refine Go.on (T' := T13) (g' := (mkF m 7 #[.val (.ref (w 4))] [])) (fun t k => Jvm.RoadKit.acmp (g := (mkF m 4 #[.val (.ref (w 4))] [(.ref (w 1)), (.ref (w 4))])) X13 hx rfl rfl rfl (pc0 := 4) (pc' := 7) (same := false) rfl (hb hby d2_4) rfl (decide_eq_false fun q => (own_ne (pin_16 hP) (pin_13 hP) (by decide)) (Value.ref.inj q)) (by decide) (by decide) k) ?_
  refine Go.on (T' := T13) (g' := (mkF m 8 #[.val (.ref (w 4))] [(.int (1 : Int32))])) (fun t k => XS.iconst X13.here hx rfl (hb hby d2_7) k) ?_
  refine Go.on (T' := T13) (g' := (mkF m 12 #[.val (.ref (w 4))] [(.int (1 : Int32))])) (fun t k => XS.goto X13.here hx rfl (pc0 := 8) (pc' := 12) rfl (hb hby d2_8) (by decide) (by decide) k) ?_
  obtain ⟨fs, hr, hrun, hended, hW, hsame⟩ := X13.leave (v := some (.int (1 : Int32))) (fun h => by rw [Bd.returns] at h; cases h)
  exact ⟨_, _, retN X13 hx (t := .boolean) Bd.returns (by simp) (hb hby d2_12) hr, hrun, hended, _, _, rfl, ⟨rfl, N0, e13⟩, ⟨_, rfl⟩, hW, hsame.mono (by decide) (by decide)⟩
set_option maxRecDepth 65536 in
set_option maxHeartbeats 40000000 in
theorem rm3_1 (l : Launch) (Z : State) (a0 : Array Value) (hw : ∀ d ∈ tables_1, d.before a0 Z = true) (ws : List Jvm.Cond) (w : Nat → Addr) (h0 : Heap) (n0 : Nat) (Z0 : n0 ≤ h0.size) (hP : Pins Z h0 w) :
    MetFree l (⟨"com/example/ostium/ostium/core/compact/ParameterTypeTakesValuePinLaw", "expected", "(I)Z"⟩ : MethodName) (head1 (Jvm.Cond.code (⟨"com/example/ostium/ostium/core/compact/ParameterTypeTakesValuePinLaw", "expected", "(I)Z"⟩ : MethodName) method_3_code 1 (some .boolean) :: ws) ({ frames := 0, cells := 0, slots := 0, locals := 0 } : Room)) (fun a U => a = #[(.int (1 : Int32))] ∧ Z.Warmed39 U.vm ∧ U.heap = h0) (fun _ _ _ _ _ => True) (fun _ U o U' => ∃ v L, o = .returned v ∧ Qp (some (.int (1 : Int32))) h0 n0 v U'.heap L ∧ FrameEnd U o U' L ({ frames := 0, cells := 0, slots := 0, locals := 0 } : Room).cells ({ frames := 0, cells := 0, slots := 0, locals := 0 } : Room).slots) := by
  refine MetFree.of_bodySF (plainFor_of_name pn_0) hisR ?_
  intro p e s m args below meth c s₁ Bd hml0 hP0 hK
  obtain ⟨rfl, hZ, hh⟩ := hP0
  have hx := Bd.exec
  have hby := Bd.bytes
  have hml : c.maxLocals = 1 := hml0
  have hown : s.vm.findClass "com/example/ostium/ostium/core/compact/ParameterTypeTakesValuePinLaw" = some m.cls := findClass_of_methodNamed Bd.named
  have hnm := (name_of_methodNamed Bd.named Bd.method).1
  have X0 : Stand p l e ({ frames := 0, cells := 0, slots := 0, locals := 0 } : Room) s m #[(.int (1 : Int32))] below meth c s₁ [] 0 0 := Stand.of_body Bd
  have e0 : s₁.heap = h0 := by rw [← hh, Bd.state]; rfl
  have N0 := Fr.nil n0
  suffices hgo : Go p e below (fun o U' => ∃ v L, o = .returned v ∧ Qp (some (.int (1 : Int32))) h0 n0 v U'.heap L ∧ FrameEnd s o U' L ({ frames := 0, cells := 0, slots := 0, locals := 0 } : Room).cells ({ frames := 0, cells := 0, slots := 0, locals := 0 } : Room).slots) s₁ (mkF m 0 #[.val (.int (1 : Int32))] []) by
    obtain ⟨s2, o, g1, g2, g3, g4⟩ := hgo
    refine ⟨s2, o, castTop (?_ : entryFrame m #[(.int (1 : Int32))] 1 = _) g1, g2, g3, g4⟩
    first | (simp [entryFrame, mkF, argsToLocals, Value.category]; done) | rfl
  refine Go.on (T' := s₁) (g' := (mkF m 1 #[.val (.int (1 : Int32))] [(.int (1 : Int32))])) (fun t k => XS.iloadN X0.here hx rfl (hb hby d3_0) rfl k) ?_
  refine Go.on (T' := s₁) (g' := (mkF m 2 #[.val (.int (1 : Int32))] [(.int (5 : Int32)), (.int (1 : Int32))])) (fun t k => XS.iconst X0.here hx rfl (hb hby d3_1) k) ?_
  refine Go.on (T' := s₁) (g' := (mkF m 7 #[.val (.int (1 : Int32))] [])) (fun t k => XS.icmpYes X0.here hx rfl (pc0 := 2) (pc' := 7) rfl (hb hby d3_2) rfl (feq (by decide : ¬ ((1 : Int32) = (5 : Int32)))).2 (by decide) (by decide) k) ?_
  refine Go.on (T' := s₁) (g' := (mkF m 8 #[.val (.int (1 : Int32))] [(.int (1 : Int32))])) (fun t k => XS.iconst X0.here hx rfl (hb hby d3_7) k) ?_
  obtain ⟨fs, hr, hrun, hended, hW, hsame⟩ := X0.leave (v := some (.int (1 : Int32))) (fun h => by rw [Bd.returns] at h; cases h)
  exact ⟨_, _, retN X0 hx (t := .boolean) Bd.returns (by simp) (hb hby d3_8) hr, hrun, hended, _, _, rfl, ⟨rfl, N0, e0⟩, ⟨_, rfl⟩, hW, hsame.mono (by decide) (by decide)⟩
theorem d1_17 : decode method_2_code 17 = .ok (.iload_n 0, 1) := by decide +kernel
theorem d1_18 : decode method_2_code 18 = .ok (.iconst 2, 1) := by decide +kernel
theorem d1_19 : decode method_2_code 19 = .ok (.if_icmp .ne 7, 3) := by decide +kernel
theorem d1_22 : decode method_2_code 22 = .ok (.getstatic 16, 3) := by decide +kernel
theorem d1_25 : decode method_2_code 25 = .ok (.areturn, 1) := by decide +kernel
set_option maxRecDepth 65536 in
set_option maxHeartbeats 40000000 in
theorem rm1_2 (l : Launch) (Z : State) (a0 : Array Value) (hw : ∀ d ∈ tables_1, d.before a0 Z = true) (ws : List Jvm.Cond) (w : Nat → Addr) (h0 : Heap) (n0 : Nat) (Z0 : n0 ≤ h0.size) (hP : Pins Z h0 w) :
    MetFree l (⟨"com/example/ostium/ostium/core/compact/ParameterTypeTakesValuePinLaw", "pick", "(I)Lcom/example/ostium/ostium/core/compact/ParameterType;"⟩ : MethodName) (head1 (Jvm.Cond.code (⟨"com/example/ostium/ostium/core/compact/ParameterTypeTakesValuePinLaw", "pick", "(I)Lcom/example/ostium/ostium/core/compact/ParameterType;"⟩ : MethodName) method_2_code 1 (some (.object "com/example/ostium/ostium/core/compact/ParameterType")) :: ws) ({ frames := 0, cells := 0, slots := 0, locals := 0 } : Room)) (fun a U => a = #[(.int (2 : Int32))] ∧ Z.Warmed39 U.vm ∧ U.heap = h0) (fun _ _ _ _ _ => True) (fun _ U o U' => ∃ v L, o = .returned v ∧ Qp (some (.ref (w 3))) h0 n0 v U'.heap L ∧ FrameEnd U o U' L ({ frames := 0, cells := 0, slots := 0, locals := 0 } : Room).cells ({ frames := 0, cells := 0, slots := 0, locals := 0 } : Room).slots) := by
  refine MetFree.of_bodySF (plainFor_of_name pn_0) hisR ?_
  intro p e s m args below meth c s₁ Bd hml0 hP0 hK
  obtain ⟨rfl, hZ, hh⟩ := hP0
  have hx := Bd.exec
  have hby := Bd.bytes
  have hml : c.maxLocals = 1 := hml0
  have hown : s.vm.findClass "com/example/ostium/ostium/core/compact/ParameterTypeTakesValuePinLaw" = some m.cls := findClass_of_methodNamed Bd.named
  have hnm := (name_of_methodNamed Bd.named Bd.method).1
  have X0 : Stand p l e ({ frames := 0, cells := 0, slots := 0, locals := 0 } : Room) s m #[(.int (2 : Int32))] below meth c s₁ [] 0 0 := Stand.of_body Bd
  have e0 : s₁.heap = h0 := by rw [← hh, Bd.state]; rfl
  have N0 := Fr.nil n0
  suffices hgo : Go p e below (fun o U' => ∃ v L, o = .returned v ∧ Qp (some (.ref (w 3))) h0 n0 v U'.heap L ∧ FrameEnd s o U' L ({ frames := 0, cells := 0, slots := 0, locals := 0 } : Room).cells ({ frames := 0, cells := 0, slots := 0, locals := 0 } : Room).slots) s₁ (mkF m 0 #[.val (.int (2 : Int32))] []) by
    obtain ⟨s2, o, g1, g2, g3, g4⟩ := hgo
    refine ⟨s2, o, castTop (?_ : entryFrame m #[(.int (2 : Int32))] 1 = _) g1, g2, g3, g4⟩
    first | (simp [entryFrame, mkF, argsToLocals, Value.category]; done) | rfl
  refine Go.on (T' := s₁) (g' := (mkF m 1 #[.val (.int (2 : Int32))] [(.int (2 : Int32))])) (fun t k => XS.iloadN X0.here hx rfl (hb hby d1_0) rfl k) ?_
  refine Go.on (T' := s₁) (g' := (mkF m 8 #[.val (.int (2 : Int32))] [])) (fun t k => XS.ifYes X0.here hx rfl (pc0 := 1) (pc' := 8) rfl (hb hby d1_1) rfl ((if0 _ _).trans (feq (by decide : ¬ ((2 : Int32) = (0 : Int32)))).2) (by decide) (by decide) k) ?_
  refine Go.on (T' := s₁) (g' := (mkF m 9 #[.val (.int (2 : Int32))] [(.int (2 : Int32))])) (fun t k => XS.iloadN X0.here hx rfl (hb hby d1_8) rfl k) ?_
  refine Go.on (T' := s₁) (g' := (mkF m 10 #[.val (.int (2 : Int32))] [(.int (1 : Int32)), (.int (2 : Int32))])) (fun t k => XS.iconst X0.here hx rfl (hb hby d1_9) k) ?_
  refine Go.on (T' := s₁) (g' := (mkF m 17 #[.val (.int (2 : Int32))] [])) (fun t k => XS.icmpYes X0.here hx rfl (pc0 := 10) (pc' := 17) rfl (hb hby d1_10) rfl (feq (by decide : ¬ ((2 : Int32) = (1 : Int32)))).2 (by decide) (by decide) k) ?_
  refine Go.on (T' := s₁) (g' := (mkF m 18 #[.val (.int (2 : Int32))] [(.int (2 : Int32))])) (fun t k => XS.iloadN X0.here hx rfl (hb hby d1_17) rfl k) ?_
  refine Go.on (T' := s₁) (g' := (mkF m 19 #[.val (.int (2 : Int32))] [(.int (2 : Int32)), (.int (2 : Int32))])) (fun t k => XS.iconst X0.here hx rfl (hb hby d1_18) k) ?_
  refine Go.on (T' := s₁) (g' := (mkF m 22 #[.val (.int (2 : Int32))] [])) (fun t k => XS.icmpNo X0.here hx rfl (hb hby d1_19) rfl (teq (by decide : (2 : Int32) = (2 : Int32))).2 k) ?_
  obtain ⟨T17, X17, e17, st17⟩ := getS2 X0 hx hZ hown (host := "") (Or.inl (hw _ (List.mem_of_getElem? (i := 20) rfl))) Via.refl e0 (pin_3 hP) (g := (mkF m 22 #[.val (.int (2 : Int32))] [])) rfl (hb hby d1_22)
  refine Go.on (T' := T17) (g' := (mkF m 25 #[.val (.int (2 : Int32))] [(.ref (w 3))])) st17 ?_
  obtain ⟨fs, hr, hrun, hended, hW, hsame⟩ := X17.leave (v := some (.ref (w 3))) (fun h => by rw [Bd.returns] at h; cases h)
  exact ⟨_, _, retOut X17 hx Bd.returns rfl (Or.inr (Or.inr (Or.inr (Or.inr ⟨rfl, rfl, rfl⟩)))) (hb hby d1_25) hr, hrun, hended, _, _, rfl, ⟨rfl, N0, e17⟩, ⟨_, rfl⟩, hW, hsame.mono (by decide) (by decide)⟩
set_option maxRecDepth 65536 in
set_option maxHeartbeats 40000000 in
theorem rm2_2 (l : Launch) (Z : State) (a0 : Array Value) (hw : ∀ d ∈ tables_1, d.before a0 Z = true) (ws : List Jvm.Cond) (w : Nat → Addr) (h0 : Heap) (n0 : Nat) (Z0 : n0 ≤ h0.size) (hP : Pins Z h0 w) :
    MetFree l (⟨"com/example/ostium/ostium/core/compact/ParameterType", "takesValue", "()Z"⟩ : MethodName) (head1 (Jvm.Cond.code (⟨"com/example/ostium/ostium/core/compact/ParameterType", "takesValue", "()Z"⟩ : MethodName) prog_45_method_4_code 1 (some .boolean) :: ws) ({ frames := 0, cells := 0, slots := 0, locals := 0 } : Room)) (fun a U => a = #[(.ref (w 3))] ∧ Z.Warmed39 U.vm ∧ U.heap = h0) (fun _ _ _ _ _ => True) (fun _ U o U' => ∃ v L, o = .returned v ∧ Qp (some (.int (1 : Int32))) h0 n0 v U'.heap L ∧ FrameEnd U o U' L ({ frames := 0, cells := 0, slots := 0, locals := 0 } : Room).cells ({ frames := 0, cells := 0, slots := 0, locals := 0 } : Room).slots) := by
  refine MetFree.of_bodySF (plainFor_of_name pn_1) hisR ?_
  intro p e s m args below meth c s₁ Bd hml0 hP0 hK
  obtain ⟨rfl, hZ, hh⟩ := hP0
  have hx := Bd.exec
  have hby := Bd.bytes
  have hml : c.maxLocals = 1 := hml0
  have hown : s.vm.findClass "com/example/ostium/ostium/core/compact/ParameterType" = some m.cls := findClass_of_methodNamed Bd.named
  have hnm := (name_of_methodNamed Bd.named Bd.method).1
  have X0 : Stand p l e ({ frames := 0, cells := 0, slots := 0, locals := 0 } : Room) s m #[(.ref (w 3))] below meth c s₁ [] 0 0 := Stand.of_body Bd
  have e0 : s₁.heap = h0 := by rw [← hh, Bd.state]; rfl
  have N0 := Fr.nil n0
  suffices hgo : Go p e below (fun o U' => ∃ v L, o = .returned v ∧ Qp (some (.int (1 : Int32))) h0 n0 v U'.heap L ∧ FrameEnd s o U' L ({ frames := 0, cells := 0, slots := 0, locals := 0 } : Room).cells ({ frames := 0, cells := 0, slots := 0, locals := 0 } : Room).slots) s₁ (mkF m 0 #[.val (.ref (w 3))] []) by
    obtain ⟨s2, o, g1, g2, g3, g4⟩ := hgo
    refine ⟨s2, o, castTop (?_ : entryFrame m #[(.ref (w 3))] 1 = _) g1, g2, g3, g4⟩
    first | (simp [entryFrame, mkF, argsToLocals, Value.category]; done) | rfl
  refine Go.on (T' := s₁) (g' := (mkF m 1 #[.val (.ref (w 3))] [(.ref (w 3))])) (fun t k => XS.aloadN X0.here hx rfl (hb hby d2_0) rfl rfl k) ?_
  obtain ⟨T20, X20, e20, st20⟩ := getS2 X0 hx hZ hown (host := "") (Or.inl (hw _ (List.mem_of_getElem? (i := 13) rfl))) Via.refl e0 (pin_1 hP) (g := (mkF m 1 #[.val (.ref (w 3))] [(.ref (w 3))])) rfl (hb hby d2_1)
  refine Go.on (T' := T20) (g' := (mkF m 4 #[.val (.ref (w 3))] [(.ref (w 1)), (.ref (w 3))])) st20 ?_
  refine Go.on (T' := T20) (g' := (mkF m 7 #[.val (.ref (w 3))] [])) (fun t k => Jvm.RoadKit.acmp (g := (mkF m 4 #[.val (.ref (w 3))] [(.ref (w 1)), (.ref (w 3))])) X20 hx rfl rfl rfl (pc0 := 4) (pc' := 7) (same := false) rfl (hb hby d2_4) rfl (decide_eq_false fun q => (own_ne (pin_15 hP) (pin_13 hP) (by decide)) (Value.ref.inj q)) (by decide) (by decide) k) ?_
  refine Go.on (T' := T20) (g' := (mkF m 8 #[.val (.ref (w 3))] [(.int (1 : Int32))])) (fun t k => XS.iconst X20.here hx rfl (hb hby d2_7) k) ?_
  refine Go.on (T' := T20) (g' := (mkF m 12 #[.val (.ref (w 3))] [(.int (1 : Int32))])) (fun t k => XS.goto X20.here hx rfl (pc0 := 8) (pc' := 12) rfl (hb hby d2_8) (by decide) (by decide) k) ?_
  obtain ⟨fs, hr, hrun, hended, hW, hsame⟩ := X20.leave (v := some (.int (1 : Int32))) (fun h => by rw [Bd.returns] at h; cases h)
  exact ⟨_, _, retN X20 hx (t := .boolean) Bd.returns (by simp) (hb hby d2_12) hr, hrun, hended, _, _, rfl, ⟨rfl, N0, e20⟩, ⟨_, rfl⟩, hW, hsame.mono (by decide) (by decide)⟩
set_option maxRecDepth 65536 in
set_option maxHeartbeats 40000000 in
theorem rm3_2 (l : Launch) (Z : State) (a0 : Array Value) (hw : ∀ d ∈ tables_1, d.before a0 Z = true) (ws : List Jvm.Cond) (w : Nat → Addr) (h0 : Heap) (n0 : Nat) (Z0 : n0 ≤ h0.size) (hP : Pins Z h0 w) :
    MetFree l (⟨"com/example/ostium/ostium/core/compact/ParameterTypeTakesValuePinLaw", "expected", "(I)Z"⟩ : MethodName) (head1 (Jvm.Cond.code (⟨"com/example/ostium/ostium/core/compact/ParameterTypeTakesValuePinLaw", "expected", "(I)Z"⟩ : MethodName) method_3_code 1 (some .boolean) :: ws) ({ frames := 0, cells := 0, slots := 0, locals := 0 } : Room)) (fun a U => a = #[(.int (2 : Int32))] ∧ Z.Warmed39 U.vm ∧ U.heap = h0) (fun _ _ _ _ _ => True) (fun _ U o U' => ∃ v L, o = .returned v ∧ Qp (some (.int (1 : Int32))) h0 n0 v U'.heap L ∧ FrameEnd U o U' L ({ frames := 0, cells := 0, slots := 0, locals := 0 } : Room).cells ({ frames := 0, cells := 0, slots := 0, locals := 0 } : Room).slots) := by
  refine MetFree.of_bodySF (plainFor_of_name pn_0) hisR ?_
  intro p e s m args below meth c s₁ Bd hml0 hP0 hK
  obtain ⟨rfl, hZ, hh⟩ := hP0
  have hx := Bd.exec
  have hby := Bd.bytes
  have hml : c.maxLocals = 1 := hml0
  have hown : s.vm.findClass "com/example/ostium/ostium/core/compact/ParameterTypeTakesValuePinLaw" = some m.cls := findClass_of_methodNamed Bd.named
  have hnm := (name_of_methodNamed Bd.named Bd.method).1
  have X0 : Stand p l e ({ frames := 0, cells := 0, slots := 0, locals := 0 } : Room) s m #[(.int (2 : Int32))] below meth c s₁ [] 0 0 := Stand.of_body Bd
  have e0 : s₁.heap = h0 := by rw [← hh, Bd.state]; rfl
  have N0 := Fr.nil n0
  suffices hgo : Go p e below (fun o U' => ∃ v L, o = .returned v ∧ Qp (some (.int (1 : Int32))) h0 n0 v U'.heap L ∧ FrameEnd s o U' L ({ frames := 0, cells := 0, slots := 0, locals := 0 } : Room).cells ({ frames := 0, cells := 0, slots := 0, locals := 0 } : Room).slots) s₁ (mkF m 0 #[.val (.int (2 : Int32))] []) by
    obtain ⟨s2, o, g1, g2, g3, g4⟩ := hgo
    refine ⟨s2, o, castTop (?_ : entryFrame m #[(.int (2 : Int32))] 1 = _) g1, g2, g3, g4⟩
    first | (simp [entryFrame, mkF, argsToLocals, Value.category]; done) | rfl
  refine Go.on (T' := s₁) (g' := (mkF m 1 #[.val (.int (2 : Int32))] [(.int (2 : Int32))])) (fun t k => XS.iloadN X0.here hx rfl (hb hby d3_0) rfl k) ?_
  refine Go.on (T' := s₁) (g' := (mkF m 2 #[.val (.int (2 : Int32))] [(.int (5 : Int32)), (.int (2 : Int32))])) (fun t k => XS.iconst X0.here hx rfl (hb hby d3_1) k) ?_
  refine Go.on (T' := s₁) (g' := (mkF m 7 #[.val (.int (2 : Int32))] [])) (fun t k => XS.icmpYes X0.here hx rfl (pc0 := 2) (pc' := 7) rfl (hb hby d3_2) rfl (feq (by decide : ¬ ((2 : Int32) = (5 : Int32)))).2 (by decide) (by decide) k) ?_
  refine Go.on (T' := s₁) (g' := (mkF m 8 #[.val (.int (2 : Int32))] [(.int (1 : Int32))])) (fun t k => XS.iconst X0.here hx rfl (hb hby d3_7) k) ?_
  obtain ⟨fs, hr, hrun, hended, hW, hsame⟩ := X0.leave (v := some (.int (1 : Int32))) (fun h => by rw [Bd.returns] at h; cases h)
  exact ⟨_, _, retN X0 hx (t := .boolean) Bd.returns (by simp) (hb hby d3_8) hr, hrun, hended, _, _, rfl, ⟨rfl, N0, e0⟩, ⟨_, rfl⟩, hW, hsame.mono (by decide) (by decide)⟩
theorem d1_26 : decode method_2_code 26 = .ok (.iload_n 0, 1) := by decide +kernel
theorem d1_27 : decode method_2_code 27 = .ok (.iconst 3, 1) := by decide +kernel
theorem d1_28 : decode method_2_code 28 = .ok (.if_icmp .ne 7, 3) := by decide +kernel
theorem d1_31 : decode method_2_code 31 = .ok (.getstatic 19, 3) := by decide +kernel
theorem d1_34 : decode method_2_code 34 = .ok (.areturn, 1) := by decide +kernel
set_option maxRecDepth 65536 in
set_option maxHeartbeats 40000000 in
theorem rm1_3 (l : Launch) (Z : State) (a0 : Array Value) (hw : ∀ d ∈ tables_1, d.before a0 Z = true) (ws : List Jvm.Cond) (w : Nat → Addr) (h0 : Heap) (n0 : Nat) (Z0 : n0 ≤ h0.size) (hP : Pins Z h0 w) :
    MetFree l (⟨"com/example/ostium/ostium/core/compact/ParameterTypeTakesValuePinLaw", "pick", "(I)Lcom/example/ostium/ostium/core/compact/ParameterType;"⟩ : MethodName) (head1 (Jvm.Cond.code (⟨"com/example/ostium/ostium/core/compact/ParameterTypeTakesValuePinLaw", "pick", "(I)Lcom/example/ostium/ostium/core/compact/ParameterType;"⟩ : MethodName) method_2_code 1 (some (.object "com/example/ostium/ostium/core/compact/ParameterType")) :: ws) ({ frames := 0, cells := 0, slots := 0, locals := 0 } : Room)) (fun a U => a = #[(.int (3 : Int32))] ∧ Z.Warmed39 U.vm ∧ U.heap = h0) (fun _ _ _ _ _ => True) (fun _ U o U' => ∃ v L, o = .returned v ∧ Qp (some (.ref (w 2))) h0 n0 v U'.heap L ∧ FrameEnd U o U' L ({ frames := 0, cells := 0, slots := 0, locals := 0 } : Room).cells ({ frames := 0, cells := 0, slots := 0, locals := 0 } : Room).slots) := by
  refine MetFree.of_bodySF (plainFor_of_name pn_0) hisR ?_
  intro p e s m args below meth c s₁ Bd hml0 hP0 hK
  obtain ⟨rfl, hZ, hh⟩ := hP0
  have hx := Bd.exec
  have hby := Bd.bytes
  have hml : c.maxLocals = 1 := hml0
  have hown : s.vm.findClass "com/example/ostium/ostium/core/compact/ParameterTypeTakesValuePinLaw" = some m.cls := findClass_of_methodNamed Bd.named
  have hnm := (name_of_methodNamed Bd.named Bd.method).1
  have X0 : Stand p l e ({ frames := 0, cells := 0, slots := 0, locals := 0 } : Room) s m #[(.int (3 : Int32))] below meth c s₁ [] 0 0 := Stand.of_body Bd
  have e0 : s₁.heap = h0 := by rw [← hh, Bd.state]; rfl
  have N0 := Fr.nil n0
  suffices hgo : Go p e below (fun o U' => ∃ v L, o = .returned v ∧ Qp (some (.ref (w 2))) h0 n0 v U'.heap L ∧ FrameEnd s o U' L ({ frames := 0, cells := 0, slots := 0, locals := 0 } : Room).cells ({ frames := 0, cells := 0, slots := 0, locals := 0 } : Room).slots) s₁ (mkF m 0 #[.val (.int (3 : Int32))] []) by
    obtain ⟨s2, o, g1, g2, g3, g4⟩ := hgo
    refine ⟨s2, o, castTop (?_ : entryFrame m #[(.int (3 : Int32))] 1 = _) g1, g2, g3, g4⟩
    first | (simp [entryFrame, mkF, argsToLocals, Value.category]; done) | rfl
  refine Go.on (T' := s₁) (g' := (mkF m 1 #[.val (.int (3 : Int32))] [(.int (3 : Int32))])) (fun t k => XS.iloadN X0.here hx rfl (hb hby d1_0) rfl k) ?_
  refine Go.on (T' := s₁) (g' := (mkF m 8 #[.val (.int (3 : Int32))] [])) (fun t k => XS.ifYes X0.here hx rfl (pc0 := 1) (pc' := 8) rfl (hb hby d1_1) rfl ((if0 _ _).trans (feq (by decide : ¬ ((3 : Int32) = (0 : Int32)))).2) (by decide) (by decide) k) ?_
  refine Go.on (T' := s₁) (g' := (mkF m 9 #[.val (.int (3 : Int32))] [(.int (3 : Int32))])) (fun t k => XS.iloadN X0.here hx rfl (hb hby d1_8) rfl k) ?_
  refine Go.on (T' := s₁) (g' := (mkF m 10 #[.val (.int (3 : Int32))] [(.int (1 : Int32)), (.int (3 : Int32))])) (fun t k => XS.iconst X0.here hx rfl (hb hby d1_9) k) ?_
  refine Go.on (T' := s₁) (g' := (mkF m 17 #[.val (.int (3 : Int32))] [])) (fun t k => XS.icmpYes X0.here hx rfl (pc0 := 10) (pc' := 17) rfl (hb hby d1_10) rfl (feq (by decide : ¬ ((3 : Int32) = (1 : Int32)))).2 (by decide) (by decide) k) ?_
  refine Go.on (T' := s₁) (g' := (mkF m 18 #[.val (.int (3 : Int32))] [(.int (3 : Int32))])) (fun t k => XS.iloadN X0.here hx rfl (hb hby d1_17) rfl k) ?_
  refine Go.on (T' := s₁) (g' := (mkF m 19 #[.val (.int (3 : Int32))] [(.int (2 : Int32)), (.int (3 : Int32))])) (fun t k => XS.iconst X0.here hx rfl (hb hby d1_18) k) ?_
  refine Go.on (T' := s₁) (g' := (mkF m 26 #[.val (.int (3 : Int32))] [])) (fun t k => XS.icmpYes X0.here hx rfl (pc0 := 19) (pc' := 26) rfl (hb hby d1_19) rfl (feq (by decide : ¬ ((3 : Int32) = (2 : Int32)))).2 (by decide) (by decide) k) ?_
  refine Go.on (T' := s₁) (g' := (mkF m 27 #[.val (.int (3 : Int32))] [(.int (3 : Int32))])) (fun t k => XS.iloadN X0.here hx rfl (hb hby d1_26) rfl k) ?_
  refine Go.on (T' := s₁) (g' := (mkF m 28 #[.val (.int (3 : Int32))] [(.int (3 : Int32)), (.int (3 : Int32))])) (fun t k => XS.iconst X0.here hx rfl (hb hby d1_27) k) ?_
  refine Go.on (T' := s₁) (g' := (mkF m 31 #[.val (.int (3 : Int32))] [])) (fun t k => XS.icmpNo X0.here hx rfl (hb hby d1_28) rfl (teq (by decide : (3 : Int32) = (3 : Int32))).2 k) ?_
  obtain ⟨T24, X24, e24, st24⟩ := getS2 X0 hx hZ hown (host := "") (Or.inl (hw _ (List.mem_of_getElem? (i := 18) rfl))) Via.refl e0 (pin_2 hP) (g := (mkF m 31 #[.val (.int (3 : Int32))] [])) rfl (hb hby d1_31)
  refine Go.on (T' := T24) (g' := (mkF m 34 #[.val (.int (3 : Int32))] [(.ref (w 2))])) st24 ?_
  obtain ⟨fs, hr, hrun, hended, hW, hsame⟩ := X24.leave (v := some (.ref (w 2))) (fun h => by rw [Bd.returns] at h; cases h)
  exact ⟨_, _, retOut X24 hx Bd.returns rfl (Or.inr (Or.inr (Or.inr (Or.inr ⟨rfl, rfl, rfl⟩)))) (hb hby d1_34) hr, hrun, hended, _, _, rfl, ⟨rfl, N0, e24⟩, ⟨_, rfl⟩, hW, hsame.mono (by decide) (by decide)⟩
set_option maxRecDepth 65536 in
set_option maxHeartbeats 40000000 in
theorem rm2_3 (l : Launch) (Z : State) (a0 : Array Value) (hw : ∀ d ∈ tables_1, d.before a0 Z = true) (ws : List Jvm.Cond) (w : Nat → Addr) (h0 : Heap) (n0 : Nat) (Z0 : n0 ≤ h0.size) (hP : Pins Z h0 w) :
    MetFree l (⟨"com/example/ostium/ostium/core/compact/ParameterType", "takesValue", "()Z"⟩ : MethodName) (head1 (Jvm.Cond.code (⟨"com/example/ostium/ostium/core/compact/ParameterType", "takesValue", "()Z"⟩ : MethodName) prog_45_method_4_code 1 (some .boolean) :: ws) ({ frames := 0, cells := 0, slots := 0, locals := 0 } : Room)) (fun a U => a = #[(.ref (w 2))] ∧ Z.Warmed39 U.vm ∧ U.heap = h0) (fun _ _ _ _ _ => True) (fun _ U o U' => ∃ v L, o = .returned v ∧ Qp (some (.int (1 : Int32))) h0 n0 v U'.heap L ∧ FrameEnd U o U' L ({ frames := 0, cells := 0, slots := 0, locals := 0 } : Room).cells ({ frames := 0, cells := 0, slots := 0, locals := 0 } : Room).slots) := by
  refine MetFree.of_bodySF (plainFor_of_name pn_1) hisR ?_
  intro p e s m args below meth c s₁ Bd hml0 hP0 hK
  obtain ⟨rfl, hZ, hh⟩ := hP0
  have hx := Bd.exec
  have hby := Bd.bytes
  have hml : c.maxLocals = 1 := hml0
  have hown : s.vm.findClass "com/example/ostium/ostium/core/compact/ParameterType" = some m.cls := findClass_of_methodNamed Bd.named
  have hnm := (name_of_methodNamed Bd.named Bd.method).1
  have X0 : Stand p l e ({ frames := 0, cells := 0, slots := 0, locals := 0 } : Room) s m #[(.ref (w 2))] below meth c s₁ [] 0 0 := Stand.of_body Bd
  have e0 : s₁.heap = h0 := by rw [← hh, Bd.state]; rfl
  have N0 := Fr.nil n0
  suffices hgo : Go p e below (fun o U' => ∃ v L, o = .returned v ∧ Qp (some (.int (1 : Int32))) h0 n0 v U'.heap L ∧ FrameEnd s o U' L ({ frames := 0, cells := 0, slots := 0, locals := 0 } : Room).cells ({ frames := 0, cells := 0, slots := 0, locals := 0 } : Room).slots) s₁ (mkF m 0 #[.val (.ref (w 2))] []) by
    obtain ⟨s2, o, g1, g2, g3, g4⟩ := hgo
    refine ⟨s2, o, castTop (?_ : entryFrame m #[(.ref (w 2))] 1 = _) g1, g2, g3, g4⟩
    first | (simp [entryFrame, mkF, argsToLocals, Value.category]; done) | rfl
  refine Go.on (T' := s₁) (g' := (mkF m 1 #[.val (.ref (w 2))] [(.ref (w 2))])) (fun t k => XS.aloadN X0.here hx rfl (hb hby d2_0) rfl rfl k) ?_
  obtain ⟨T27, X27, e27, st27⟩ := getS2 X0 hx hZ hown (host := "") (Or.inl (hw _ (List.mem_of_getElem? (i := 13) rfl))) Via.refl e0 (pin_1 hP) (g := (mkF m 1 #[.val (.ref (w 2))] [(.ref (w 2))])) rfl (hb hby d2_1)
  refine Go.on (T' := T27) (g' := (mkF m 4 #[.val (.ref (w 2))] [(.ref (w 1)), (.ref (w 2))])) st27 ?_
  refine Go.on (T' := T27) (g' := (mkF m 7 #[.val (.ref (w 2))] [])) (fun t k => Jvm.RoadKit.acmp (g := (mkF m 4 #[.val (.ref (w 2))] [(.ref (w 1)), (.ref (w 2))])) X27 hx rfl rfl rfl (pc0 := 4) (pc' := 7) (same := false) rfl (hb hby d2_4) rfl (decide_eq_false fun q => (own_ne (pin_14 hP) (pin_13 hP) (by decide)) (Value.ref.inj q)) (by decide) (by decide) k) ?_
  refine Go.on (T' := T27) (g' := (mkF m 8 #[.val (.ref (w 2))] [(.int (1 : Int32))])) (fun t k => XS.iconst X27.here hx rfl (hb hby d2_7) k) ?_
  refine Go.on (T' := T27) (g' := (mkF m 12 #[.val (.ref (w 2))] [(.int (1 : Int32))])) (fun t k => XS.goto X27.here hx rfl (pc0 := 8) (pc' := 12) rfl (hb hby d2_8) (by decide) (by decide) k) ?_
  obtain ⟨fs, hr, hrun, hended, hW, hsame⟩ := X27.leave (v := some (.int (1 : Int32))) (fun h => by rw [Bd.returns] at h; cases h)
  exact ⟨_, _, retN X27 hx (t := .boolean) Bd.returns (by simp) (hb hby d2_12) hr, hrun, hended, _, _, rfl, ⟨rfl, N0, e27⟩, ⟨_, rfl⟩, hW, hsame.mono (by decide) (by decide)⟩
set_option maxRecDepth 65536 in
set_option maxHeartbeats 40000000 in
theorem rm3_3 (l : Launch) (Z : State) (a0 : Array Value) (hw : ∀ d ∈ tables_1, d.before a0 Z = true) (ws : List Jvm.Cond) (w : Nat → Addr) (h0 : Heap) (n0 : Nat) (Z0 : n0 ≤ h0.size) (hP : Pins Z h0 w) :
    MetFree l (⟨"com/example/ostium/ostium/core/compact/ParameterTypeTakesValuePinLaw", "expected", "(I)Z"⟩ : MethodName) (head1 (Jvm.Cond.code (⟨"com/example/ostium/ostium/core/compact/ParameterTypeTakesValuePinLaw", "expected", "(I)Z"⟩ : MethodName) method_3_code 1 (some .boolean) :: ws) ({ frames := 0, cells := 0, slots := 0, locals := 0 } : Room)) (fun a U => a = #[(.int (3 : Int32))] ∧ Z.Warmed39 U.vm ∧ U.heap = h0) (fun _ _ _ _ _ => True) (fun _ U o U' => ∃ v L, o = .returned v ∧ Qp (some (.int (1 : Int32))) h0 n0 v U'.heap L ∧ FrameEnd U o U' L ({ frames := 0, cells := 0, slots := 0, locals := 0 } : Room).cells ({ frames := 0, cells := 0, slots := 0, locals := 0 } : Room).slots) := by
  refine MetFree.of_bodySF (plainFor_of_name pn_0) hisR ?_
  intro p e s m args below meth c s₁ Bd hml0 hP0 hK
  obtain ⟨rfl, hZ, hh⟩ := hP0
  have hx := Bd.exec
  have hby := Bd.bytes
  have hml : c.maxLocals = 1 := hml0
  have hown : s.vm.findClass "com/example/ostium/ostium/core/compact/ParameterTypeTakesValuePinLaw" = some m.cls := findClass_of_methodNamed Bd.named
  have hnm := (name_of_methodNamed Bd.named Bd.method).1
  have X0 : Stand p l e ({ frames := 0, cells := 0, slots := 0, locals := 0 } : Room) s m #[(.int (3 : Int32))] below meth c s₁ [] 0 0 := Stand.of_body Bd
  have e0 : s₁.heap = h0 := by rw [← hh, Bd.state]; rfl
  have N0 := Fr.nil n0
  suffices hgo : Go p e below (fun o U' => ∃ v L, o = .returned v ∧ Qp (some (.int (1 : Int32))) h0 n0 v U'.heap L ∧ FrameEnd s o U' L ({ frames := 0, cells := 0, slots := 0, locals := 0 } : Room).cells ({ frames := 0, cells := 0, slots := 0, locals := 0 } : Room).slots) s₁ (mkF m 0 #[.val (.int (3 : Int32))] []) by
    obtain ⟨s2, o, g1, g2, g3, g4⟩ := hgo
    refine ⟨s2, o, castTop (?_ : entryFrame m #[(.int (3 : Int32))] 1 = _) g1, g2, g3, g4⟩
    first | (simp [entryFrame, mkF, argsToLocals, Value.category]; done) | rfl
  refine Go.on (T' := s₁) (g' := (mkF m 1 #[.val (.int (3 : Int32))] [(.int (3 : Int32))])) (fun t k => XS.iloadN X0.here hx rfl (hb hby d3_0) rfl k) ?_
  refine Go.on (T' := s₁) (g' := (mkF m 2 #[.val (.int (3 : Int32))] [(.int (5 : Int32)), (.int (3 : Int32))])) (fun t k => XS.iconst X0.here hx rfl (hb hby d3_1) k) ?_
  refine Go.on (T' := s₁) (g' := (mkF m 7 #[.val (.int (3 : Int32))] [])) (fun t k => XS.icmpYes X0.here hx rfl (pc0 := 2) (pc' := 7) rfl (hb hby d3_2) rfl (feq (by decide : ¬ ((3 : Int32) = (5 : Int32)))).2 (by decide) (by decide) k) ?_
  refine Go.on (T' := s₁) (g' := (mkF m 8 #[.val (.int (3 : Int32))] [(.int (1 : Int32))])) (fun t k => XS.iconst X0.here hx rfl (hb hby d3_7) k) ?_
  obtain ⟨fs, hr, hrun, hended, hW, hsame⟩ := X0.leave (v := some (.int (1 : Int32))) (fun h => by rw [Bd.returns] at h; cases h)
  exact ⟨_, _, retN X0 hx (t := .boolean) Bd.returns (by simp) (hb hby d3_8) hr, hrun, hended, _, _, rfl, ⟨rfl, N0, e0⟩, ⟨_, rfl⟩, hW, hsame.mono (by decide) (by decide)⟩
theorem d1_35 : decode method_2_code 35 = .ok (.iload_n 0, 1) := by decide +kernel
theorem d1_36 : decode method_2_code 36 = .ok (.iconst 4, 1) := by decide +kernel
theorem d1_37 : decode method_2_code 37 = .ok (.if_icmp .ne 7, 3) := by decide +kernel
theorem d1_40 : decode method_2_code 40 = .ok (.getstatic 22, 3) := by decide +kernel
theorem d1_43 : decode method_2_code 43 = .ok (.areturn, 1) := by decide +kernel
set_option maxRecDepth 65536 in
set_option maxHeartbeats 40000000 in
theorem rm1_4 (l : Launch) (Z : State) (a0 : Array Value) (hw : ∀ d ∈ tables_1, d.before a0 Z = true) (ws : List Jvm.Cond) (w : Nat → Addr) (h0 : Heap) (n0 : Nat) (Z0 : n0 ≤ h0.size) (hP : Pins Z h0 w) :
    MetFree l (⟨"com/example/ostium/ostium/core/compact/ParameterTypeTakesValuePinLaw", "pick", "(I)Lcom/example/ostium/ostium/core/compact/ParameterType;"⟩ : MethodName) (head1 (Jvm.Cond.code (⟨"com/example/ostium/ostium/core/compact/ParameterTypeTakesValuePinLaw", "pick", "(I)Lcom/example/ostium/ostium/core/compact/ParameterType;"⟩ : MethodName) method_2_code 1 (some (.object "com/example/ostium/ostium/core/compact/ParameterType")) :: ws) ({ frames := 0, cells := 0, slots := 0, locals := 0 } : Room)) (fun a U => a = #[(.int (4 : Int32))] ∧ Z.Warmed39 U.vm ∧ U.heap = h0) (fun _ _ _ _ _ => True) (fun _ U o U' => ∃ v L, o = .returned v ∧ Qp (some (.ref (w 5))) h0 n0 v U'.heap L ∧ FrameEnd U o U' L ({ frames := 0, cells := 0, slots := 0, locals := 0 } : Room).cells ({ frames := 0, cells := 0, slots := 0, locals := 0 } : Room).slots) := by
  refine MetFree.of_bodySF (plainFor_of_name pn_0) hisR ?_
  intro p e s m args below meth c s₁ Bd hml0 hP0 hK
  obtain ⟨rfl, hZ, hh⟩ := hP0
  have hx := Bd.exec
  have hby := Bd.bytes
  have hml : c.maxLocals = 1 := hml0
  have hown : s.vm.findClass "com/example/ostium/ostium/core/compact/ParameterTypeTakesValuePinLaw" = some m.cls := findClass_of_methodNamed Bd.named
  have hnm := (name_of_methodNamed Bd.named Bd.method).1
  have X0 : Stand p l e ({ frames := 0, cells := 0, slots := 0, locals := 0 } : Room) s m #[(.int (4 : Int32))] below meth c s₁ [] 0 0 := Stand.of_body Bd
  have e0 : s₁.heap = h0 := by rw [← hh, Bd.state]; rfl
  have N0 := Fr.nil n0
  suffices hgo : Go p e below (fun o U' => ∃ v L, o = .returned v ∧ Qp (some (.ref (w 5))) h0 n0 v U'.heap L ∧ FrameEnd s o U' L ({ frames := 0, cells := 0, slots := 0, locals := 0 } : Room).cells ({ frames := 0, cells := 0, slots := 0, locals := 0 } : Room).slots) s₁ (mkF m 0 #[.val (.int (4 : Int32))] []) by
    obtain ⟨s2, o, g1, g2, g3, g4⟩ := hgo
    refine ⟨s2, o, castTop (?_ : entryFrame m #[(.int (4 : Int32))] 1 = _) g1, g2, g3, g4⟩
    first | (simp [entryFrame, mkF, argsToLocals, Value.category]; done) | rfl
  refine Go.on (T' := s₁) (g' := (mkF m 1 #[.val (.int (4 : Int32))] [(.int (4 : Int32))])) (fun t k => XS.iloadN X0.here hx rfl (hb hby d1_0) rfl k) ?_
  refine Go.on (T' := s₁) (g' := (mkF m 8 #[.val (.int (4 : Int32))] [])) (fun t k => XS.ifYes X0.here hx rfl (pc0 := 1) (pc' := 8) rfl (hb hby d1_1) rfl ((if0 _ _).trans (feq (by decide : ¬ ((4 : Int32) = (0 : Int32)))).2) (by decide) (by decide) k) ?_
  refine Go.on (T' := s₁) (g' := (mkF m 9 #[.val (.int (4 : Int32))] [(.int (4 : Int32))])) (fun t k => XS.iloadN X0.here hx rfl (hb hby d1_8) rfl k) ?_
  refine Go.on (T' := s₁) (g' := (mkF m 10 #[.val (.int (4 : Int32))] [(.int (1 : Int32)), (.int (4 : Int32))])) (fun t k => XS.iconst X0.here hx rfl (hb hby d1_9) k) ?_
  refine Go.on (T' := s₁) (g' := (mkF m 17 #[.val (.int (4 : Int32))] [])) (fun t k => XS.icmpYes X0.here hx rfl (pc0 := 10) (pc' := 17) rfl (hb hby d1_10) rfl (feq (by decide : ¬ ((4 : Int32) = (1 : Int32)))).2 (by decide) (by decide) k) ?_
  refine Go.on (T' := s₁) (g' := (mkF m 18 #[.val (.int (4 : Int32))] [(.int (4 : Int32))])) (fun t k => XS.iloadN X0.here hx rfl (hb hby d1_17) rfl k) ?_
  refine Go.on (T' := s₁) (g' := (mkF m 19 #[.val (.int (4 : Int32))] [(.int (2 : Int32)), (.int (4 : Int32))])) (fun t k => XS.iconst X0.here hx rfl (hb hby d1_18) k) ?_
  refine Go.on (T' := s₁) (g' := (mkF m 26 #[.val (.int (4 : Int32))] [])) (fun t k => XS.icmpYes X0.here hx rfl (pc0 := 19) (pc' := 26) rfl (hb hby d1_19) rfl (feq (by decide : ¬ ((4 : Int32) = (2 : Int32)))).2 (by decide) (by decide) k) ?_
  refine Go.on (T' := s₁) (g' := (mkF m 27 #[.val (.int (4 : Int32))] [(.int (4 : Int32))])) (fun t k => XS.iloadN X0.here hx rfl (hb hby d1_26) rfl k) ?_
  refine Go.on (T' := s₁) (g' := (mkF m 28 #[.val (.int (4 : Int32))] [(.int (3 : Int32)), (.int (4 : Int32))])) (fun t k => XS.iconst X0.here hx rfl (hb hby d1_27) k) ?_
  refine Go.on (T' := s₁) (g' := (mkF m 35 #[.val (.int (4 : Int32))] [])) (fun t k => XS.icmpYes X0.here hx rfl (pc0 := 28) (pc' := 35) rfl (hb hby d1_28) rfl (feq (by decide : ¬ ((4 : Int32) = (3 : Int32)))).2 (by decide) (by decide) k) ?_
  refine Go.on (T' := s₁) (g' := (mkF m 36 #[.val (.int (4 : Int32))] [(.int (4 : Int32))])) (fun t k => XS.iloadN X0.here hx rfl (hb hby d1_35) rfl k) ?_
  refine Go.on (T' := s₁) (g' := (mkF m 37 #[.val (.int (4 : Int32))] [(.int (4 : Int32)), (.int (4 : Int32))])) (fun t k => XS.iconst X0.here hx rfl (hb hby d1_36) k) ?_
  refine Go.on (T' := s₁) (g' := (mkF m 40 #[.val (.int (4 : Int32))] [])) (fun t k => XS.icmpNo X0.here hx rfl (hb hby d1_37) rfl (teq (by decide : (4 : Int32) = (4 : Int32))).2 k) ?_
  obtain ⟨T31, X31, e31, st31⟩ := getS2 X0 hx hZ hown (host := "") (Or.inl (hw _ (List.mem_of_getElem? (i := 25) rfl))) Via.refl e0 (pin_5 hP) (g := (mkF m 40 #[.val (.int (4 : Int32))] [])) rfl (hb hby d1_40)
  refine Go.on (T' := T31) (g' := (mkF m 43 #[.val (.int (4 : Int32))] [(.ref (w 5))])) st31 ?_
  obtain ⟨fs, hr, hrun, hended, hW, hsame⟩ := X31.leave (v := some (.ref (w 5))) (fun h => by rw [Bd.returns] at h; cases h)
  exact ⟨_, _, retOut X31 hx Bd.returns rfl (Or.inr (Or.inr (Or.inr (Or.inr ⟨rfl, rfl, rfl⟩)))) (hb hby d1_43) hr, hrun, hended, _, _, rfl, ⟨rfl, N0, e31⟩, ⟨_, rfl⟩, hW, hsame.mono (by decide) (by decide)⟩
set_option maxRecDepth 65536 in
set_option maxHeartbeats 40000000 in
theorem rm2_4 (l : Launch) (Z : State) (a0 : Array Value) (hw : ∀ d ∈ tables_1, d.before a0 Z = true) (ws : List Jvm.Cond) (w : Nat → Addr) (h0 : Heap) (n0 : Nat) (Z0 : n0 ≤ h0.size) (hP : Pins Z h0 w) :
    MetFree l (⟨"com/example/ostium/ostium/core/compact/ParameterType", "takesValue", "()Z"⟩ : MethodName) (head1 (Jvm.Cond.code (⟨"com/example/ostium/ostium/core/compact/ParameterType", "takesValue", "()Z"⟩ : MethodName) prog_45_method_4_code 1 (some .boolean) :: ws) ({ frames := 0, cells := 0, slots := 0, locals := 0 } : Room)) (fun a U => a = #[(.ref (w 5))] ∧ Z.Warmed39 U.vm ∧ U.heap = h0) (fun _ _ _ _ _ => True) (fun _ U o U' => ∃ v L, o = .returned v ∧ Qp (some (.int (1 : Int32))) h0 n0 v U'.heap L ∧ FrameEnd U o U' L ({ frames := 0, cells := 0, slots := 0, locals := 0 } : Room).cells ({ frames := 0, cells := 0, slots := 0, locals := 0 } : Room).slots) := by
  refine MetFree.of_bodySF (plainFor_of_name pn_1) hisR ?_
  intro p e s m args below meth c s₁ Bd hml0 hP0 hK
  obtain ⟨rfl, hZ, hh⟩ := hP0
  have hx := Bd.exec
  have hby := Bd.bytes
  have hml : c.maxLocals = 1 := hml0
  have hown : s.vm.findClass "com/example/ostium/ostium/core/compact/ParameterType" = some m.cls := findClass_of_methodNamed Bd.named
  have hnm := (name_of_methodNamed Bd.named Bd.method).1
  have X0 : Stand p l e ({ frames := 0, cells := 0, slots := 0, locals := 0 } : Room) s m #[(.ref (w 5))] below meth c s₁ [] 0 0 := Stand.of_body Bd
  have e0 : s₁.heap = h0 := by rw [← hh, Bd.state]; rfl
  have N0 := Fr.nil n0
  suffices hgo : Go p e below (fun o U' => ∃ v L, o = .returned v ∧ Qp (some (.int (1 : Int32))) h0 n0 v U'.heap L ∧ FrameEnd s o U' L ({ frames := 0, cells := 0, slots := 0, locals := 0 } : Room).cells ({ frames := 0, cells := 0, slots := 0, locals := 0 } : Room).slots) s₁ (mkF m 0 #[.val (.ref (w 5))] []) by
    obtain ⟨s2, o, g1, g2, g3, g4⟩ := hgo
    refine ⟨s2, o, castTop (?_ : entryFrame m #[(.ref (w 5))] 1 = _) g1, g2, g3, g4⟩
    first | (simp [entryFrame, mkF, argsToLocals, Value.category]; done) | rfl
  refine Go.on (T' := s₁) (g' := (mkF m 1 #[.val (.ref (w 5))] [(.ref (w 5))])) (fun t k => XS.aloadN X0.here hx rfl (hb hby d2_0) rfl rfl k) ?_
  obtain ⟨T34, X34, e34, st34⟩ := getS2 X0 hx hZ hown (host := "") (Or.inl (hw _ (List.mem_of_getElem? (i := 13) rfl))) Via.refl e0 (pin_1 hP) (g := (mkF m 1 #[.val (.ref (w 5))] [(.ref (w 5))])) rfl (hb hby d2_1)
  refine Go.on (T' := T34) (g' := (mkF m 4 #[.val (.ref (w 5))] [(.ref (w 1)), (.ref (w 5))])) st34 ?_
  refine Go.on (T' := T34) (g' := (mkF m 7 #[.val (.ref (w 5))] [])) (fun t k => Jvm.RoadKit.acmp (g := (mkF m 4 #[.val (.ref (w 5))] [(.ref (w 1)), (.ref (w 5))])) X34 hx rfl rfl rfl (pc0 := 4) (pc' := 7) (same := false) rfl (hb hby d2_4) rfl (decide_eq_false fun q => (own_ne (pin_17 hP) (pin_13 hP) (by decide)) (Value.ref.inj q)) (by decide) (by decide) k) ?_
  refine Go.on (T' := T34) (g' := (mkF m 8 #[.val (.ref (w 5))] [(.int (1 : Int32))])) (fun t k => XS.iconst X34.here hx rfl (hb hby d2_7) k) ?_
  refine Go.on (T' := T34) (g' := (mkF m 12 #[.val (.ref (w 5))] [(.int (1 : Int32))])) (fun t k => XS.goto X34.here hx rfl (pc0 := 8) (pc' := 12) rfl (hb hby d2_8) (by decide) (by decide) k) ?_
  obtain ⟨fs, hr, hrun, hended, hW, hsame⟩ := X34.leave (v := some (.int (1 : Int32))) (fun h => by rw [Bd.returns] at h; cases h)
  exact ⟨_, _, retN X34 hx (t := .boolean) Bd.returns (by simp) (hb hby d2_12) hr, hrun, hended, _, _, rfl, ⟨rfl, N0, e34⟩, ⟨_, rfl⟩, hW, hsame.mono (by decide) (by decide)⟩
set_option maxRecDepth 65536 in
set_option maxHeartbeats 40000000 in
theorem rm3_4 (l : Launch) (Z : State) (a0 : Array Value) (hw : ∀ d ∈ tables_1, d.before a0 Z = true) (ws : List Jvm.Cond) (w : Nat → Addr) (h0 : Heap) (n0 : Nat) (Z0 : n0 ≤ h0.size) (hP : Pins Z h0 w) :
    MetFree l (⟨"com/example/ostium/ostium/core/compact/ParameterTypeTakesValuePinLaw", "expected", "(I)Z"⟩ : MethodName) (head1 (Jvm.Cond.code (⟨"com/example/ostium/ostium/core/compact/ParameterTypeTakesValuePinLaw", "expected", "(I)Z"⟩ : MethodName) method_3_code 1 (some .boolean) :: ws) ({ frames := 0, cells := 0, slots := 0, locals := 0 } : Room)) (fun a U => a = #[(.int (4 : Int32))] ∧ Z.Warmed39 U.vm ∧ U.heap = h0) (fun _ _ _ _ _ => True) (fun _ U o U' => ∃ v L, o = .returned v ∧ Qp (some (.int (1 : Int32))) h0 n0 v U'.heap L ∧ FrameEnd U o U' L ({ frames := 0, cells := 0, slots := 0, locals := 0 } : Room).cells ({ frames := 0, cells := 0, slots := 0, locals := 0 } : Room).slots) := by
  refine MetFree.of_bodySF (plainFor_of_name pn_0) hisR ?_
  intro p e s m args below meth c s₁ Bd hml0 hP0 hK
  obtain ⟨rfl, hZ, hh⟩ := hP0
  have hx := Bd.exec
  have hby := Bd.bytes
  have hml : c.maxLocals = 1 := hml0
  have hown : s.vm.findClass "com/example/ostium/ostium/core/compact/ParameterTypeTakesValuePinLaw" = some m.cls := findClass_of_methodNamed Bd.named
  have hnm := (name_of_methodNamed Bd.named Bd.method).1
  have X0 : Stand p l e ({ frames := 0, cells := 0, slots := 0, locals := 0 } : Room) s m #[(.int (4 : Int32))] below meth c s₁ [] 0 0 := Stand.of_body Bd
  have e0 : s₁.heap = h0 := by rw [← hh, Bd.state]; rfl
  have N0 := Fr.nil n0
  suffices hgo : Go p e below (fun o U' => ∃ v L, o = .returned v ∧ Qp (some (.int (1 : Int32))) h0 n0 v U'.heap L ∧ FrameEnd s o U' L ({ frames := 0, cells := 0, slots := 0, locals := 0 } : Room).cells ({ frames := 0, cells := 0, slots := 0, locals := 0 } : Room).slots) s₁ (mkF m 0 #[.val (.int (4 : Int32))] []) by
    obtain ⟨s2, o, g1, g2, g3, g4⟩ := hgo
    refine ⟨s2, o, castTop (?_ : entryFrame m #[(.int (4 : Int32))] 1 = _) g1, g2, g3, g4⟩
    first | (simp [entryFrame, mkF, argsToLocals, Value.category]; done) | rfl
  refine Go.on (T' := s₁) (g' := (mkF m 1 #[.val (.int (4 : Int32))] [(.int (4 : Int32))])) (fun t k => XS.iloadN X0.here hx rfl (hb hby d3_0) rfl k) ?_
  refine Go.on (T' := s₁) (g' := (mkF m 2 #[.val (.int (4 : Int32))] [(.int (5 : Int32)), (.int (4 : Int32))])) (fun t k => XS.iconst X0.here hx rfl (hb hby d3_1) k) ?_
  refine Go.on (T' := s₁) (g' := (mkF m 7 #[.val (.int (4 : Int32))] [])) (fun t k => XS.icmpYes X0.here hx rfl (pc0 := 2) (pc' := 7) rfl (hb hby d3_2) rfl (feq (by decide : ¬ ((4 : Int32) = (5 : Int32)))).2 (by decide) (by decide) k) ?_
  refine Go.on (T' := s₁) (g' := (mkF m 8 #[.val (.int (4 : Int32))] [(.int (1 : Int32))])) (fun t k => XS.iconst X0.here hx rfl (hb hby d3_7) k) ?_
  obtain ⟨fs, hr, hrun, hended, hW, hsame⟩ := X0.leave (v := some (.int (1 : Int32))) (fun h => by rw [Bd.returns] at h; cases h)
  exact ⟨_, _, retN X0 hx (t := .boolean) Bd.returns (by simp) (hb hby d3_8) hr, hrun, hended, _, _, rfl, ⟨rfl, N0, e0⟩, ⟨_, rfl⟩, hW, hsame.mono (by decide) (by decide)⟩
theorem d1_44 : decode method_2_code 44 = .ok (.getstatic 25, 3) := by decide +kernel
theorem d1_47 : decode method_2_code 47 = .ok (.areturn, 1) := by decide +kernel
set_option maxRecDepth 65536 in
set_option maxHeartbeats 40000000 in
theorem rm1_5 (l : Launch) (Z : State) (a0 : Array Value) (hw : ∀ d ∈ tables_1, d.before a0 Z = true) (ws : List Jvm.Cond) (w : Nat → Addr) (h0 : Heap) (n0 : Nat) (Z0 : n0 ≤ h0.size) (hP : Pins Z h0 w) :
    MetFree l (⟨"com/example/ostium/ostium/core/compact/ParameterTypeTakesValuePinLaw", "pick", "(I)Lcom/example/ostium/ostium/core/compact/ParameterType;"⟩ : MethodName) (head1 (Jvm.Cond.code (⟨"com/example/ostium/ostium/core/compact/ParameterTypeTakesValuePinLaw", "pick", "(I)Lcom/example/ostium/ostium/core/compact/ParameterType;"⟩ : MethodName) method_2_code 1 (some (.object "com/example/ostium/ostium/core/compact/ParameterType")) :: ws) ({ frames := 0, cells := 0, slots := 0, locals := 0 } : Room)) (fun a U => a = #[(.int (5 : Int32))] ∧ Z.Warmed39 U.vm ∧ U.heap = h0) (fun _ _ _ _ _ => True) (fun _ U o U' => ∃ v L, o = .returned v ∧ Qp (some (.ref (w 1))) h0 n0 v U'.heap L ∧ FrameEnd U o U' L ({ frames := 0, cells := 0, slots := 0, locals := 0 } : Room).cells ({ frames := 0, cells := 0, slots := 0, locals := 0 } : Room).slots) := by
  refine MetFree.of_bodySF (plainFor_of_name pn_0) hisR ?_
  intro p e s m args below meth c s₁ Bd hml0 hP0 hK
  obtain ⟨rfl, hZ, hh⟩ := hP0
  have hx := Bd.exec
  have hby := Bd.bytes
  have hml : c.maxLocals = 1 := hml0
  have hown : s.vm.findClass "com/example/ostium/ostium/core/compact/ParameterTypeTakesValuePinLaw" = some m.cls := findClass_of_methodNamed Bd.named
  have hnm := (name_of_methodNamed Bd.named Bd.method).1
  have X0 : Stand p l e ({ frames := 0, cells := 0, slots := 0, locals := 0 } : Room) s m #[(.int (5 : Int32))] below meth c s₁ [] 0 0 := Stand.of_body Bd
  have e0 : s₁.heap = h0 := by rw [← hh, Bd.state]; rfl
  have N0 := Fr.nil n0
  suffices hgo : Go p e below (fun o U' => ∃ v L, o = .returned v ∧ Qp (some (.ref (w 1))) h0 n0 v U'.heap L ∧ FrameEnd s o U' L ({ frames := 0, cells := 0, slots := 0, locals := 0 } : Room).cells ({ frames := 0, cells := 0, slots := 0, locals := 0 } : Room).slots) s₁ (mkF m 0 #[.val (.int (5 : Int32))] []) by
    obtain ⟨s2, o, g1, g2, g3, g4⟩ := hgo
    refine ⟨s2, o, castTop (?_ : entryFrame m #[(.int (5 : Int32))] 1 = _) g1, g2, g3, g4⟩
    first | (simp [entryFrame, mkF, argsToLocals, Value.category]; done) | rfl
  refine Go.on (T' := s₁) (g' := (mkF m 1 #[.val (.int (5 : Int32))] [(.int (5 : Int32))])) (fun t k => XS.iloadN X0.here hx rfl (hb hby d1_0) rfl k) ?_
  refine Go.on (T' := s₁) (g' := (mkF m 8 #[.val (.int (5 : Int32))] [])) (fun t k => XS.ifYes X0.here hx rfl (pc0 := 1) (pc' := 8) rfl (hb hby d1_1) rfl ((if0 _ _).trans (feq (by decide : ¬ ((5 : Int32) = (0 : Int32)))).2) (by decide) (by decide) k) ?_
  refine Go.on (T' := s₁) (g' := (mkF m 9 #[.val (.int (5 : Int32))] [(.int (5 : Int32))])) (fun t k => XS.iloadN X0.here hx rfl (hb hby d1_8) rfl k) ?_
  refine Go.on (T' := s₁) (g' := (mkF m 10 #[.val (.int (5 : Int32))] [(.int (1 : Int32)), (.int (5 : Int32))])) (fun t k => XS.iconst X0.here hx rfl (hb hby d1_9) k) ?_
  refine Go.on (T' := s₁) (g' := (mkF m 17 #[.val (.int (5 : Int32))] [])) (fun t k => XS.icmpYes X0.here hx rfl (pc0 := 10) (pc' := 17) rfl (hb hby d1_10) rfl (feq (by decide : ¬ ((5 : Int32) = (1 : Int32)))).2 (by decide) (by decide) k) ?_
  refine Go.on (T' := s₁) (g' := (mkF m 18 #[.val (.int (5 : Int32))] [(.int (5 : Int32))])) (fun t k => XS.iloadN X0.here hx rfl (hb hby d1_17) rfl k) ?_
  refine Go.on (T' := s₁) (g' := (mkF m 19 #[.val (.int (5 : Int32))] [(.int (2 : Int32)), (.int (5 : Int32))])) (fun t k => XS.iconst X0.here hx rfl (hb hby d1_18) k) ?_
  refine Go.on (T' := s₁) (g' := (mkF m 26 #[.val (.int (5 : Int32))] [])) (fun t k => XS.icmpYes X0.here hx rfl (pc0 := 19) (pc' := 26) rfl (hb hby d1_19) rfl (feq (by decide : ¬ ((5 : Int32) = (2 : Int32)))).2 (by decide) (by decide) k) ?_
  refine Go.on (T' := s₁) (g' := (mkF m 27 #[.val (.int (5 : Int32))] [(.int (5 : Int32))])) (fun t k => XS.iloadN X0.here hx rfl (hb hby d1_26) rfl k) ?_
  refine Go.on (T' := s₁) (g' := (mkF m 28 #[.val (.int (5 : Int32))] [(.int (3 : Int32)), (.int (5 : Int32))])) (fun t k => XS.iconst X0.here hx rfl (hb hby d1_27) k) ?_
  refine Go.on (T' := s₁) (g' := (mkF m 35 #[.val (.int (5 : Int32))] [])) (fun t k => XS.icmpYes X0.here hx rfl (pc0 := 28) (pc' := 35) rfl (hb hby d1_28) rfl (feq (by decide : ¬ ((5 : Int32) = (3 : Int32)))).2 (by decide) (by decide) k) ?_
  refine Go.on (T' := s₁) (g' := (mkF m 36 #[.val (.int (5 : Int32))] [(.int (5 : Int32))])) (fun t k => XS.iloadN X0.here hx rfl (hb hby d1_35) rfl k) ?_
  refine Go.on (T' := s₁) (g' := (mkF m 37 #[.val (.int (5 : Int32))] [(.int (4 : Int32)), (.int (5 : Int32))])) (fun t k => XS.iconst X0.here hx rfl (hb hby d1_36) k) ?_
  refine Go.on (T' := s₁) (g' := (mkF m 44 #[.val (.int (5 : Int32))] [])) (fun t k => XS.icmpYes X0.here hx rfl (pc0 := 37) (pc' := 44) rfl (hb hby d1_37) rfl (feq (by decide : ¬ ((5 : Int32) = (4 : Int32)))).2 (by decide) (by decide) k) ?_
  obtain ⟨T38, X38, e38, st38⟩ := getS2 X0 hx hZ hown (host := "") (Or.inl (hw _ (List.mem_of_getElem? (i := 24) rfl))) Via.refl e0 (pin_1 hP) (g := (mkF m 44 #[.val (.int (5 : Int32))] [])) rfl (hb hby d1_44)
  refine Go.on (T' := T38) (g' := (mkF m 47 #[.val (.int (5 : Int32))] [(.ref (w 1))])) st38 ?_
  obtain ⟨fs, hr, hrun, hended, hW, hsame⟩ := X38.leave (v := some (.ref (w 1))) (fun h => by rw [Bd.returns] at h; cases h)
  exact ⟨_, _, retOut X38 hx Bd.returns rfl (Or.inr (Or.inr (Or.inr (Or.inr ⟨rfl, rfl, rfl⟩)))) (hb hby d1_47) hr, hrun, hended, _, _, rfl, ⟨rfl, N0, e38⟩, ⟨_, rfl⟩, hW, hsame.mono (by decide) (by decide)⟩
theorem d2_11 : decode prog_45_method_4_code 11 = .ok (.iconst 0, 1) := by decide +kernel
set_option maxRecDepth 65536 in
set_option maxHeartbeats 40000000 in
theorem rm2_5 (l : Launch) (Z : State) (a0 : Array Value) (hw : ∀ d ∈ tables_1, d.before a0 Z = true) (ws : List Jvm.Cond) (w : Nat → Addr) (h0 : Heap) (n0 : Nat) (Z0 : n0 ≤ h0.size) (hP : Pins Z h0 w) :
    MetFree l (⟨"com/example/ostium/ostium/core/compact/ParameterType", "takesValue", "()Z"⟩ : MethodName) (head1 (Jvm.Cond.code (⟨"com/example/ostium/ostium/core/compact/ParameterType", "takesValue", "()Z"⟩ : MethodName) prog_45_method_4_code 1 (some .boolean) :: ws) ({ frames := 0, cells := 0, slots := 0, locals := 0 } : Room)) (fun a U => a = #[(.ref (w 1))] ∧ Z.Warmed39 U.vm ∧ U.heap = h0) (fun _ _ _ _ _ => True) (fun _ U o U' => ∃ v L, o = .returned v ∧ Qp (some (.int (0 : Int32))) h0 n0 v U'.heap L ∧ FrameEnd U o U' L ({ frames := 0, cells := 0, slots := 0, locals := 0 } : Room).cells ({ frames := 0, cells := 0, slots := 0, locals := 0 } : Room).slots) := by
  refine MetFree.of_bodySF (plainFor_of_name pn_1) hisR ?_
  intro p e s m args below meth c s₁ Bd hml0 hP0 hK
  obtain ⟨rfl, hZ, hh⟩ := hP0
  have hx := Bd.exec
  have hby := Bd.bytes
  have hml : c.maxLocals = 1 := hml0
  have hown : s.vm.findClass "com/example/ostium/ostium/core/compact/ParameterType" = some m.cls := findClass_of_methodNamed Bd.named
  have hnm := (name_of_methodNamed Bd.named Bd.method).1
  have X0 : Stand p l e ({ frames := 0, cells := 0, slots := 0, locals := 0 } : Room) s m #[(.ref (w 1))] below meth c s₁ [] 0 0 := Stand.of_body Bd
  have e0 : s₁.heap = h0 := by rw [← hh, Bd.state]; rfl
  have N0 := Fr.nil n0
  suffices hgo : Go p e below (fun o U' => ∃ v L, o = .returned v ∧ Qp (some (.int (0 : Int32))) h0 n0 v U'.heap L ∧ FrameEnd s o U' L ({ frames := 0, cells := 0, slots := 0, locals := 0 } : Room).cells ({ frames := 0, cells := 0, slots := 0, locals := 0 } : Room).slots) s₁ (mkF m 0 #[.val (.ref (w 1))] []) by
    obtain ⟨s2, o, g1, g2, g3, g4⟩ := hgo
    refine ⟨s2, o, castTop (?_ : entryFrame m #[(.ref (w 1))] 1 = _) g1, g2, g3, g4⟩
    first | (simp [entryFrame, mkF, argsToLocals, Value.category]; done) | rfl
  refine Go.on (T' := s₁) (g' := (mkF m 1 #[.val (.ref (w 1))] [(.ref (w 1))])) (fun t k => XS.aloadN X0.here hx rfl (hb hby d2_0) rfl rfl k) ?_
  obtain ⟨T41, X41, e41, st41⟩ := getS2 X0 hx hZ hown (host := "") (Or.inl (hw _ (List.mem_of_getElem? (i := 13) rfl))) Via.refl e0 (pin_1 hP) (g := (mkF m 1 #[.val (.ref (w 1))] [(.ref (w 1))])) rfl (hb hby d2_1)
  refine Go.on (T' := T41) (g' := (mkF m 4 #[.val (.ref (w 1))] [(.ref (w 1)), (.ref (w 1))])) st41 ?_
  refine Go.on (T' := T41) (g' := (mkF m 11 #[.val (.ref (w 1))] [])) (fun t k => Jvm.RoadKit.acmp (g := (mkF m 4 #[.val (.ref (w 1))] [(.ref (w 1)), (.ref (w 1))])) X41 hx rfl rfl rfl (pc0 := 4) (pc' := 11) (same := true) rfl (hb hby d2_4) rfl (decide_eq_true rfl) (by decide) (by decide) k) ?_
  refine Go.on (T' := T41) (g' := (mkF m 12 #[.val (.ref (w 1))] [(.int (0 : Int32))])) (fun t k => XS.iconst X41.here hx rfl (hb hby d2_11) k) ?_
  obtain ⟨fs, hr, hrun, hended, hW, hsame⟩ := X41.leave (v := some (.int (0 : Int32))) (fun h => by rw [Bd.returns] at h; cases h)
  exact ⟨_, _, retN X41 hx (t := .boolean) Bd.returns (by simp) (hb hby d2_12) hr, hrun, hended, _, _, rfl, ⟨rfl, N0, e41⟩, ⟨_, rfl⟩, hW, hsame.mono (by decide) (by decide)⟩
theorem d3_5 : decode method_3_code 5 = .ok (.iconst 0, 1) := by decide +kernel
theorem d3_6 : decode method_3_code 6 = .ok (.ireturn, 1) := by decide +kernel
set_option maxRecDepth 65536 in
set_option maxHeartbeats 40000000 in
theorem rm3_5 (l : Launch) (Z : State) (a0 : Array Value) (hw : ∀ d ∈ tables_1, d.before a0 Z = true) (ws : List Jvm.Cond) (w : Nat → Addr) (h0 : Heap) (n0 : Nat) (Z0 : n0 ≤ h0.size) (hP : Pins Z h0 w) :
    MetFree l (⟨"com/example/ostium/ostium/core/compact/ParameterTypeTakesValuePinLaw", "expected", "(I)Z"⟩ : MethodName) (head1 (Jvm.Cond.code (⟨"com/example/ostium/ostium/core/compact/ParameterTypeTakesValuePinLaw", "expected", "(I)Z"⟩ : MethodName) method_3_code 1 (some .boolean) :: ws) ({ frames := 0, cells := 0, slots := 0, locals := 0 } : Room)) (fun a U => a = #[(.int (5 : Int32))] ∧ Z.Warmed39 U.vm ∧ U.heap = h0) (fun _ _ _ _ _ => True) (fun _ U o U' => ∃ v L, o = .returned v ∧ Qp (some (.int (0 : Int32))) h0 n0 v U'.heap L ∧ FrameEnd U o U' L ({ frames := 0, cells := 0, slots := 0, locals := 0 } : Room).cells ({ frames := 0, cells := 0, slots := 0, locals := 0 } : Room).slots) := by
  refine MetFree.of_bodySF (plainFor_of_name pn_0) hisR ?_
  intro p e s m args below meth c s₁ Bd hml0 hP0 hK
  obtain ⟨rfl, hZ, hh⟩ := hP0
  have hx := Bd.exec
  have hby := Bd.bytes
  have hml : c.maxLocals = 1 := hml0
  have hown : s.vm.findClass "com/example/ostium/ostium/core/compact/ParameterTypeTakesValuePinLaw" = some m.cls := findClass_of_methodNamed Bd.named
  have hnm := (name_of_methodNamed Bd.named Bd.method).1
  have X0 : Stand p l e ({ frames := 0, cells := 0, slots := 0, locals := 0 } : Room) s m #[(.int (5 : Int32))] below meth c s₁ [] 0 0 := Stand.of_body Bd
  have e0 : s₁.heap = h0 := by rw [← hh, Bd.state]; rfl
  have N0 := Fr.nil n0
  suffices hgo : Go p e below (fun o U' => ∃ v L, o = .returned v ∧ Qp (some (.int (0 : Int32))) h0 n0 v U'.heap L ∧ FrameEnd s o U' L ({ frames := 0, cells := 0, slots := 0, locals := 0 } : Room).cells ({ frames := 0, cells := 0, slots := 0, locals := 0 } : Room).slots) s₁ (mkF m 0 #[.val (.int (5 : Int32))] []) by
    obtain ⟨s2, o, g1, g2, g3, g4⟩ := hgo
    refine ⟨s2, o, castTop (?_ : entryFrame m #[(.int (5 : Int32))] 1 = _) g1, g2, g3, g4⟩
    first | (simp [entryFrame, mkF, argsToLocals, Value.category]; done) | rfl
  refine Go.on (T' := s₁) (g' := (mkF m 1 #[.val (.int (5 : Int32))] [(.int (5 : Int32))])) (fun t k => XS.iloadN X0.here hx rfl (hb hby d3_0) rfl k) ?_
  refine Go.on (T' := s₁) (g' := (mkF m 2 #[.val (.int (5 : Int32))] [(.int (5 : Int32)), (.int (5 : Int32))])) (fun t k => XS.iconst X0.here hx rfl (hb hby d3_1) k) ?_
  refine Go.on (T' := s₁) (g' := (mkF m 5 #[.val (.int (5 : Int32))] [])) (fun t k => XS.icmpNo X0.here hx rfl (hb hby d3_2) rfl (teq (by decide : (5 : Int32) = (5 : Int32))).2 k) ?_
  refine Go.on (T' := s₁) (g' := (mkF m 6 #[.val (.int (5 : Int32))] [(.int (0 : Int32))])) (fun t k => XS.iconst X0.here hx rfl (hb hby d3_5) k) ?_
  obtain ⟨fs, hr, hrun, hended, hW, hsame⟩ := X0.leave (v := some (.int (0 : Int32))) (fun h => by rw [Bd.returns] at h; cases h)
  exact ⟨_, _, retN X0 hx (t := .boolean) Bd.returns (by simp) (hb hby d3_6) hr, hrun, hended, _, _, rfl, ⟨rfl, N0, e0⟩, ⟨_, rfl⟩, hW, hsame.mono (by decide) (by decide)⟩
set_option maxRecDepth 65536 in
set_option maxHeartbeats 40000000 in
theorem rm0 (l : Launch) (Z : State) (a0 : Array Value) (hw : ∀ d ∈ tables_1, d.before a0 Z = true) (ws : List Jvm.Cond) (w : Nat → Addr) (h0 : Heap) (n0 : Nat) (Z0 : n0 ≤ h0.size) (hP : Pins Z h0 w) (i0 : Int32) :
    MetFree l x (head1 (Jvm.Cond.code x code maxLocals ret :: ws) room_1) (fun a U => a = #[(.int i0)] ∧ Z.Warmed39 U.vm ∧ U.heap = h0) (fun _ _ _ _ _ => True) (fun _ U o U' => ∃ v L, o = .returned v ∧ Ql (some (.int (1 : Int32))) n0 v L ∧ FrameEnd U o U' L 0 0) := by
  refine MetFree.of_bodySF (plainFor_of_name pn_0) hisR ?_
  intro p e s m args below meth c s₁ Bd hml0 hP0 hK
  obtain ⟨rfl, hZ, hh⟩ := hP0
  have hx := Bd.exec
  have hby := Bd.bytes
  have hml : c.maxLocals = 3 := hml0
  have hown : s.vm.findClass "com/example/ostium/ostium/core/compact/ParameterTypeTakesValuePinLaw" = some m.cls := findClass_of_methodNamed Bd.named
  have hnm := (name_of_methodNamed Bd.named Bd.method).1
  have X0 : Stand p l e room_1 s m #[(.int i0)] below meth c s₁ [] 0 0 := Stand.of_body Bd
  have e0 : s₁.heap = h0 := by rw [← hh, Bd.state]; rfl
  have N0 := Fr.nil n0
  suffices hgo : Go p e below (fun o U' => ∃ v L, o = .returned v ∧ Ql (some (.int (1 : Int32))) n0 v L ∧ FrameEnd s o U' L 0 0) s₁ (mkF m 0 #[.val (.int i0), .unset, .unset] []) by
    obtain ⟨s2, o, g1, g2, g3, g4⟩ := hgo
    refine ⟨s2, o, castTop (?_ : entryFrame m #[(.int i0)] maxLocals = _) g1, g2, g3, g4⟩
    first | (simp [entryFrame, mkF, argsToLocals, Value.category, maxLocals]; done) | rfl
  refine Go.on (T' := s₁) (g' := (mkF m 1 #[.val (.int i0), .unset, .unset] [(.int i0)])) (fun t k => XS.iloadN X0.here hx rfl (hb hby at_0) rfl k) ?_
  refine Go.on (T' := s₁) (g' := (mkF m 3 #[.val (.int i0), .unset, .unset] [(.int (2147483647 : Int32)), (.int i0)])) (X0.ldcInt hx hown (mvT hZ (hw _ (List.mem_of_getElem? (i := 0) rfl))) (g := (mkF m 1 #[.val (.int i0), .unset, .unset] [(.int i0)])) rfl (hb hby at_1)) ?_
  refine Go.on (T' := s₁) (g' := (mkF m 4 #[.val (.int i0), .unset, .unset] [(.int (i0 &&& (2147483647 : Int32)))])) (fun t k => XS.iand X0.here hx rfl (hb hby at_3) rfl k) ?_
  refine Go.on (T' := s₁) (g' := (mkF m 6 #[.val (.int i0), .unset, .unset] [(.int (6 : Int32)), (.int (i0 &&& (2147483647 : Int32)))])) (fun t k => XS.bipush X0.here hx rfl (hb hby at_4) k) ?_
  refine Go.on (T' := s₁) (g' := (mkF m 7 #[.val (.int i0), .unset, .unset] [(.int ((i0 &&& (2147483647 : Int32)) % (6 : Int32)))])) (fun t k => iremM X0 hx rfl (hb hby at_6) rfl (by decide) k) ?_
  rcases own_mod6 i0 with h1 | h1 | h1 | h1 | h1 | h1
  · skip
    rw [h1]
    refine Go.on (T' := s₁) (g' := (mkF m 8 #[.val (.int i0), .val (.int (0 : Int32)), .unset] [])) (fun t k => XS.istoreN X0.here hx rfl (hb hby at_7) rfl (l' := #[.val (.int i0), .val (.int (0 : Int32)), .unset]) rfl k) ?_
    refine Go.on (T' := s₁) (g' := (mkF m 9 #[.val (.int i0), .val (.int (0 : Int32)), .unset] [(.int (0 : Int32))])) (fun t k => XS.iloadN X0.here hx rfl (hb hby at_8) rfl k) ?_
    obtain ⟨_, _, ⟨T4, L4, k4, n4⟩, -, X4, ⟨Lc4, hQ4, l4, y4, z4⟩, st4⟩ := Jvm.LawKit.callS X0 hx (y := (⟨"com/example/ostium/ostium/core/compact/ParameterTypeTakesValuePinLaw", "pick", "(I)Lcom/example/ostium/ostium/core/compact/ParameterType;"⟩ : MethodName)) hown (mvT hZ (hw _ (List.mem_of_getElem? (i := 1) rfl))) (mvT hZ (hw _ (List.mem_of_getElem? (i := 2) rfl))) (mvT hZ (hw _ (List.mem_of_getElem? (i := 3) rfl))) (mvT hZ (hw _ (List.mem_of_getElem? (i := 4) rfl))) (by decide) (backOf (W := 0) (rm1_0 l Z a0 hw [] w h0 n0 (Nat.le_trans Z0 (own_ext0 h0).1) hP) hZ (hw _ (List.mem_of_getElem? (i := 4) rfl)) (hw _ (List.mem_of_getElem? (i := 3) rfl)) (by decide) (by decide)) (g := (mkF m 9 #[.val (.int i0), .val (.int (0 : Int32)), .unset] [(.int (0 : Int32))])) rfl (by rw [hml]; rfl) (argsL := [(.int (0 : Int32))]) (rest := []) (lenOf pd_0 rfl) rfl (by show 2 * 0 + _ ≤ _; exact Nat.le_of_eq rfl) (hb hby at_9) (fun _ _ => ⟨rfl, e0, (by decide : 0 + 0 ≤ _), (by decide : 0 + 0 ≤ _)⟩)
    dsimp only [Pt.U, Pt.locs, Pt.cells, Pt.slots] at X4 l4 y4 z4 st4 hQ4
    subst l4 y4 z4
    obtain ⟨rfl, N4q, e4⟩ := hQ4
    have N4 := Fr.app N0 N4q
    refine Go.on (T' := T4) (g' := (mkF m 12 #[.val (.int i0), .val (.int (0 : Int32)), .unset] [(.ref (w 0))])) st4 ?_
    refine Go.on (T' := T4) (g' := (mkF m 13 #[.val (.int i0), .val (.int (0 : Int32)), .val (.ref (w 0))] [])) (fun t k => XS.astoreN X4.here hx rfl (hb hby at_12) rfl rfl (l' := #[.val (.int i0), .val (.int (0 : Int32)), .val (.ref (w 0))]) rfl k) ?_
    refine Go.on (T' := T4) (g' := (mkF m 14 #[.val (.int i0), .val (.int (0 : Int32)), .val (.ref (w 0))] [(.ref (w 0))])) (fun t k => XS.aloadN X4.here hx rfl (hb hby at_13) rfl rfl k) ?_
    obtain ⟨cq7, kq7, q7a, q7b, q7c⟩ := isOf hZ e4 (pin_6 hP)
    obtain ⟨_, _, ⟨T7, L7, k7, n7⟩, -, X7, ⟨Lc7, hQ7, l7, y7, z7⟩, st7⟩ := X4.virtualBack hx (y := (⟨"com/example/ostium/ostium/core/compact/ParameterType", "takesValue", "()Z"⟩ : MethodName)) (z := (⟨"com/example/ostium/ostium/core/compact/ParameterType", "takesValue", "()Z"⟩ : MethodName)) hown (mvT hZ (hw _ (List.mem_of_getElem? (i := 8) rfl))) (mvT hZ (hw _ (List.mem_of_getElem? (i := 9) rfl))) (notFace_of_selects (args := #[]) (mvT hZ (hw _ (List.mem_of_getElem? (i := 11) rfl)))) (mvT hZ (hw _ (List.mem_of_getElem? (i := 11) rfl))) (mvT hZ (hw _ (List.mem_of_getElem? (i := 10) rfl))) (by decide) (backOf (W := 0) (rm2_0 l Z a0 hw [] w h0 n0 (Nat.le_trans Z0 (own_ext0 h0).1) hP) hZ (hw _ (List.mem_of_getElem? (i := 12) rfl)) (hw _ (List.mem_of_getElem? (i := 6) rfl)) (by decide) (by decide)) q7a q7c (g := (mkF m 14 #[.val (.int i0), .val (.int (0 : Int32)), .val (.ref (w 0))] [(.ref (w 0))])) rfl (by rw [hml]; rfl) (Steps.refl _) (argsL := []) (rest := []) (lenOf pd_1 rfl) rfl (by show 2 * 0 + _ ≤ _; exact Nat.le_of_eq rfl) (hb hby at_14) (fun _ _ => ⟨rfl, e4, (by decide : 0 + 0 ≤ _), (by decide : 0 + 0 ≤ _)⟩)
    dsimp only [Pt.U, Pt.locs, Pt.cells, Pt.slots] at X7 l7 y7 z7 st7 hQ7
    subst l7 y7 z7
    obtain ⟨rfl, N7q, e7⟩ := hQ7
    have N7 := Fr.app N4 N7q
    refine Go.on (T' := T7) (g' := (mkF m 17 #[.val (.int i0), .val (.int (0 : Int32)), .val (.ref (w 0))] [(.int (1 : Int32))])) (fun t k => st7.trans k) ?_
    refine Go.on (T' := T7) (g' := (mkF m 18 #[.val (.int i0), .val (.int (0 : Int32)), .val (.ref (w 0))] [(.int (0 : Int32)), (.int (1 : Int32))])) (fun t k => XS.iloadN X7.here hx rfl (hb hby at_17) rfl k) ?_
    obtain ⟨_, _, ⟨T8, L8, k8, n8⟩, -, X8, ⟨Lc8, hQ8, l8, y8, z8⟩, st8⟩ := Jvm.LawKit.callS X7 hx (y := (⟨"com/example/ostium/ostium/core/compact/ParameterTypeTakesValuePinLaw", "expected", "(I)Z"⟩ : MethodName)) hown (mvT hZ (hw _ (List.mem_of_getElem? (i := 15) rfl))) (mvT hZ (hw _ (List.mem_of_getElem? (i := 16) rfl))) (mvT hZ (hw _ (List.mem_of_getElem? (i := 3) rfl))) (mvT hZ (hw _ (List.mem_of_getElem? (i := 17) rfl))) (by decide) (backOf (W := 1) (rm3_0 l Z a0 hw [] w h0 n0 (Nat.le_trans Z0 (own_ext0 h0).1) hP) hZ (hw _ (List.mem_of_getElem? (i := 17) rfl)) (hw _ (List.mem_of_getElem? (i := 3) rfl)) (by decide) (by decide)) (g := (mkF m 18 #[.val (.int i0), .val (.int (0 : Int32)), .val (.ref (w 0))] [(.int (0 : Int32)), (.int (1 : Int32))])) rfl (by rw [hml]; rfl) (argsL := [(.int (0 : Int32))]) (rest := [(.int (1 : Int32))]) (lenOf pd_2 rfl) rfl (by show 2 * 0 + _ ≤ _; exact Nat.le_of_eq rfl) (hb hby at_18) (fun _ _ => ⟨rfl, e7, (by decide : 0 + 0 ≤ _), (by decide : 0 + 0 ≤ _)⟩)
    dsimp only [Pt.U, Pt.locs, Pt.cells, Pt.slots] at X8 l8 y8 z8 st8 hQ8
    subst l8 y8 z8
    obtain ⟨rfl, N8q, e8⟩ := hQ8
    have N8 := Fr.app N7 N8q
    refine Go.on (T' := T8) (g' := (mkF m 21 #[.val (.int i0), .val (.int (0 : Int32)), .val (.ref (w 0))] [(.int (1 : Int32)), (.int (1 : Int32))])) st8 ?_
    refine Go.on (T' := T8) (g' := (mkF m 24 #[.val (.int i0), .val (.int (0 : Int32)), .val (.ref (w 0))] [])) (fun t k => XS.icmpNo X8.here hx rfl (hb hby at_21) rfl (teq (by decide : (1 : Int32) = (1 : Int32))).2 k) ?_
    refine Go.on (T' := T8) (g' := (mkF m 25 #[.val (.int i0), .val (.int (0 : Int32)), .val (.ref (w 0))] [(.int (1 : Int32))])) (fun t k => XS.iconst X8.here hx rfl (hb hby at_24) k) ?_
    refine Go.on (T' := T8) (g' := (mkF m 29 #[.val (.int i0), .val (.int (0 : Int32)), .val (.ref (w 0))] [(.int (1 : Int32))])) (fun t k => XS.goto X8.here hx rfl (pc0 := 25) (pc' := 29) rfl (hb hby at_25) (by decide) (by decide) k) ?_
    obtain ⟨fs, hr, hrun, hended, hW, hsame⟩ := X8.leave (v := some (.int (1 : Int32))) (fun h => by rw [Bd.returns] at h; cases h)
    exact ⟨_, _, retN X8 hx (t := .boolean) Bd.returns (by simp) (hb hby at_29) hr, hrun, hended, _, _, rfl, ⟨rfl, N8⟩, ⟨_, rfl⟩, hW, hsame.mono (by decide) (by decide)⟩
  · skip
    rw [h1]
    refine Go.on (T' := s₁) (g' := (mkF m 8 #[.val (.int i0), .val (.int (1 : Int32)), .unset] [])) (fun t k => XS.istoreN X0.here hx rfl (hb hby at_7) rfl (l' := #[.val (.int i0), .val (.int (1 : Int32)), .unset]) rfl k) ?_
    refine Go.on (T' := s₁) (g' := (mkF m 9 #[.val (.int i0), .val (.int (1 : Int32)), .unset] [(.int (1 : Int32))])) (fun t k => XS.iloadN X0.here hx rfl (hb hby at_8) rfl k) ?_
    obtain ⟨_, _, ⟨T11, L11, k11, n11⟩, -, X11, ⟨Lc11, hQ11, l11, y11, z11⟩, st11⟩ := Jvm.LawKit.callS X0 hx (y := (⟨"com/example/ostium/ostium/core/compact/ParameterTypeTakesValuePinLaw", "pick", "(I)Lcom/example/ostium/ostium/core/compact/ParameterType;"⟩ : MethodName)) hown (mvT hZ (hw _ (List.mem_of_getElem? (i := 1) rfl))) (mvT hZ (hw _ (List.mem_of_getElem? (i := 2) rfl))) (mvT hZ (hw _ (List.mem_of_getElem? (i := 3) rfl))) (mvT hZ (hw _ (List.mem_of_getElem? (i := 4) rfl))) (by decide) (backOf (W := 0) (rm1_1 l Z a0 hw [] w h0 n0 (Nat.le_trans Z0 (own_ext0 h0).1) hP) hZ (hw _ (List.mem_of_getElem? (i := 4) rfl)) (hw _ (List.mem_of_getElem? (i := 3) rfl)) (by decide) (by decide)) (g := (mkF m 9 #[.val (.int i0), .val (.int (1 : Int32)), .unset] [(.int (1 : Int32))])) rfl (by rw [hml]; rfl) (argsL := [(.int (1 : Int32))]) (rest := []) (lenOf pd_0 rfl) rfl (by show 2 * 0 + _ ≤ _; exact Nat.le_of_eq rfl) (hb hby at_9) (fun _ _ => ⟨rfl, e0, (by decide : 0 + 0 ≤ _), (by decide : 0 + 0 ≤ _)⟩)
    dsimp only [Pt.U, Pt.locs, Pt.cells, Pt.slots] at X11 l11 y11 z11 st11 hQ11
    subst l11 y11 z11
    obtain ⟨rfl, N11q, e11⟩ := hQ11
    have N11 := Fr.app N0 N11q
    refine Go.on (T' := T11) (g' := (mkF m 12 #[.val (.int i0), .val (.int (1 : Int32)), .unset] [(.ref (w 4))])) st11 ?_
    refine Go.on (T' := T11) (g' := (mkF m 13 #[.val (.int i0), .val (.int (1 : Int32)), .val (.ref (w 4))] [])) (fun t k => XS.astoreN X11.here hx rfl (hb hby at_12) rfl rfl (l' := #[.val (.int i0), .val (.int (1 : Int32)), .val (.ref (w 4))]) rfl k) ?_
    refine Go.on (T' := T11) (g' := (mkF m 14 #[.val (.int i0), .val (.int (1 : Int32)), .val (.ref (w 4))] [(.ref (w 4))])) (fun t k => XS.aloadN X11.here hx rfl (hb hby at_13) rfl rfl k) ?_
    obtain ⟨cq14, kq14, q14a, q14b, q14c⟩ := isOf hZ e11 (pin_10 hP)
    obtain ⟨_, _, ⟨T14, L14, k14, n14⟩, -, X14, ⟨Lc14, hQ14, l14, y14, z14⟩, st14⟩ := X11.virtualBack hx (y := (⟨"com/example/ostium/ostium/core/compact/ParameterType", "takesValue", "()Z"⟩ : MethodName)) (z := (⟨"com/example/ostium/ostium/core/compact/ParameterType", "takesValue", "()Z"⟩ : MethodName)) hown (mvT hZ (hw _ (List.mem_of_getElem? (i := 8) rfl))) (mvT hZ (hw _ (List.mem_of_getElem? (i := 9) rfl))) (notFace_of_selects (args := #[]) (mvT hZ (hw _ (List.mem_of_getElem? (i := 11) rfl)))) (mvT hZ (hw _ (List.mem_of_getElem? (i := 11) rfl))) (mvT hZ (hw _ (List.mem_of_getElem? (i := 10) rfl))) (by decide) (backOf (W := 0) (rm2_1 l Z a0 hw [] w h0 n0 (Nat.le_trans Z0 (own_ext0 h0).1) hP) hZ (hw _ (List.mem_of_getElem? (i := 12) rfl)) (hw _ (List.mem_of_getElem? (i := 6) rfl)) (by decide) (by decide)) q14a q14c (g := (mkF m 14 #[.val (.int i0), .val (.int (1 : Int32)), .val (.ref (w 4))] [(.ref (w 4))])) rfl (by rw [hml]; rfl) (Steps.refl _) (argsL := []) (rest := []) (lenOf pd_1 rfl) rfl (by show 2 * 0 + _ ≤ _; exact Nat.le_of_eq rfl) (hb hby at_14) (fun _ _ => ⟨rfl, e11, (by decide : 0 + 0 ≤ _), (by decide : 0 + 0 ≤ _)⟩)
    dsimp only [Pt.U, Pt.locs, Pt.cells, Pt.slots] at X14 l14 y14 z14 st14 hQ14
    subst l14 y14 z14
    obtain ⟨rfl, N14q, e14⟩ := hQ14
    have N14 := Fr.app N11 N14q
    refine Go.on (T' := T14) (g' := (mkF m 17 #[.val (.int i0), .val (.int (1 : Int32)), .val (.ref (w 4))] [(.int (1 : Int32))])) (fun t k => st14.trans k) ?_
    refine Go.on (T' := T14) (g' := (mkF m 18 #[.val (.int i0), .val (.int (1 : Int32)), .val (.ref (w 4))] [(.int (1 : Int32)), (.int (1 : Int32))])) (fun t k => XS.iloadN X14.here hx rfl (hb hby at_17) rfl k) ?_
    obtain ⟨_, _, ⟨T15, L15, k15, n15⟩, -, X15, ⟨Lc15, hQ15, l15, y15, z15⟩, st15⟩ := Jvm.LawKit.callS X14 hx (y := (⟨"com/example/ostium/ostium/core/compact/ParameterTypeTakesValuePinLaw", "expected", "(I)Z"⟩ : MethodName)) hown (mvT hZ (hw _ (List.mem_of_getElem? (i := 15) rfl))) (mvT hZ (hw _ (List.mem_of_getElem? (i := 16) rfl))) (mvT hZ (hw _ (List.mem_of_getElem? (i := 3) rfl))) (mvT hZ (hw _ (List.mem_of_getElem? (i := 17) rfl))) (by decide) (backOf (W := 1) (rm3_1 l Z a0 hw [] w h0 n0 (Nat.le_trans Z0 (own_ext0 h0).1) hP) hZ (hw _ (List.mem_of_getElem? (i := 17) rfl)) (hw _ (List.mem_of_getElem? (i := 3) rfl)) (by decide) (by decide)) (g := (mkF m 18 #[.val (.int i0), .val (.int (1 : Int32)), .val (.ref (w 4))] [(.int (1 : Int32)), (.int (1 : Int32))])) rfl (by rw [hml]; rfl) (argsL := [(.int (1 : Int32))]) (rest := [(.int (1 : Int32))]) (lenOf pd_2 rfl) rfl (by show 2 * 0 + _ ≤ _; exact Nat.le_of_eq rfl) (hb hby at_18) (fun _ _ => ⟨rfl, e14, (by decide : 0 + 0 ≤ _), (by decide : 0 + 0 ≤ _)⟩)
    dsimp only [Pt.U, Pt.locs, Pt.cells, Pt.slots] at X15 l15 y15 z15 st15 hQ15
    subst l15 y15 z15
    obtain ⟨rfl, N15q, e15⟩ := hQ15
    have N15 := Fr.app N14 N15q
    refine Go.on (T' := T15) (g' := (mkF m 21 #[.val (.int i0), .val (.int (1 : Int32)), .val (.ref (w 4))] [(.int (1 : Int32)), (.int (1 : Int32))])) st15 ?_
    refine Go.on (T' := T15) (g' := (mkF m 24 #[.val (.int i0), .val (.int (1 : Int32)), .val (.ref (w 4))] [])) (fun t k => XS.icmpNo X15.here hx rfl (hb hby at_21) rfl (teq (by decide : (1 : Int32) = (1 : Int32))).2 k) ?_
    refine Go.on (T' := T15) (g' := (mkF m 25 #[.val (.int i0), .val (.int (1 : Int32)), .val (.ref (w 4))] [(.int (1 : Int32))])) (fun t k => XS.iconst X15.here hx rfl (hb hby at_24) k) ?_
    refine Go.on (T' := T15) (g' := (mkF m 29 #[.val (.int i0), .val (.int (1 : Int32)), .val (.ref (w 4))] [(.int (1 : Int32))])) (fun t k => XS.goto X15.here hx rfl (pc0 := 25) (pc' := 29) rfl (hb hby at_25) (by decide) (by decide) k) ?_
    obtain ⟨fs, hr, hrun, hended, hW, hsame⟩ := X15.leave (v := some (.int (1 : Int32))) (fun h => by rw [Bd.returns] at h; cases h)
    exact ⟨_, _, retN X15 hx (t := .boolean) Bd.returns (by simp) (hb hby at_29) hr, hrun, hended, _, _, rfl, ⟨rfl, N15⟩, ⟨_, rfl⟩, hW, hsame.mono (by decide) (by decide)⟩
  · skip
    rw [h1]
    refine Go.on (T' := s₁) (g' := (mkF m 8 #[.val (.int i0), .val (.int (2 : Int32)), .unset] [])) (fun t k => XS.istoreN X0.here hx rfl (hb hby at_7) rfl (l' := #[.val (.int i0), .val (.int (2 : Int32)), .unset]) rfl k) ?_
    refine Go.on (T' := s₁) (g' := (mkF m 9 #[.val (.int i0), .val (.int (2 : Int32)), .unset] [(.int (2 : Int32))])) (fun t k => XS.iloadN X0.here hx rfl (hb hby at_8) rfl k) ?_
    obtain ⟨_, _, ⟨T18, L18, k18, n18⟩, -, X18, ⟨Lc18, hQ18, l18, y18, z18⟩, st18⟩ := Jvm.LawKit.callS X0 hx (y := (⟨"com/example/ostium/ostium/core/compact/ParameterTypeTakesValuePinLaw", "pick", "(I)Lcom/example/ostium/ostium/core/compact/ParameterType;"⟩ : MethodName)) hown (mvT hZ (hw _ (List.mem_of_getElem? (i := 1) rfl))) (mvT hZ (hw _ (List.mem_of_getElem? (i := 2) rfl))) (mvT hZ (hw _ (List.mem_of_getElem? (i := 3) rfl))) (mvT hZ (hw _ (List.mem_of_getElem? (i := 4) rfl))) (by decide) (backOf (W := 0) (rm1_2 l Z a0 hw [] w h0 n0 (Nat.le_trans Z0 (own_ext0 h0).1) hP) hZ (hw _ (List.mem_of_getElem? (i := 4) rfl)) (hw _ (List.mem_of_getElem? (i := 3) rfl)) (by decide) (by decide)) (g := (mkF m 9 #[.val (.int i0), .val (.int (2 : Int32)), .unset] [(.int (2 : Int32))])) rfl (by rw [hml]; rfl) (argsL := [(.int (2 : Int32))]) (rest := []) (lenOf pd_0 rfl) rfl (by show 2 * 0 + _ ≤ _; exact Nat.le_of_eq rfl) (hb hby at_9) (fun _ _ => ⟨rfl, e0, (by decide : 0 + 0 ≤ _), (by decide : 0 + 0 ≤ _)⟩)
    dsimp only [Pt.U, Pt.locs, Pt.cells, Pt.slots] at X18 l18 y18 z18 st18 hQ18
    subst l18 y18 z18
    obtain ⟨rfl, N18q, e18⟩ := hQ18
    have N18 := Fr.app N0 N18q
    refine Go.on (T' := T18) (g' := (mkF m 12 #[.val (.int i0), .val (.int (2 : Int32)), .unset] [(.ref (w 3))])) st18 ?_
    refine Go.on (T' := T18) (g' := (mkF m 13 #[.val (.int i0), .val (.int (2 : Int32)), .val (.ref (w 3))] [])) (fun t k => XS.astoreN X18.here hx rfl (hb hby at_12) rfl rfl (l' := #[.val (.int i0), .val (.int (2 : Int32)), .val (.ref (w 3))]) rfl k) ?_
    refine Go.on (T' := T18) (g' := (mkF m 14 #[.val (.int i0), .val (.int (2 : Int32)), .val (.ref (w 3))] [(.ref (w 3))])) (fun t k => XS.aloadN X18.here hx rfl (hb hby at_13) rfl rfl k) ?_
    obtain ⟨cq21, kq21, q21a, q21b, q21c⟩ := isOf hZ e18 (pin_9 hP)
    obtain ⟨_, _, ⟨T21, L21, k21, n21⟩, -, X21, ⟨Lc21, hQ21, l21, y21, z21⟩, st21⟩ := X18.virtualBack hx (y := (⟨"com/example/ostium/ostium/core/compact/ParameterType", "takesValue", "()Z"⟩ : MethodName)) (z := (⟨"com/example/ostium/ostium/core/compact/ParameterType", "takesValue", "()Z"⟩ : MethodName)) hown (mvT hZ (hw _ (List.mem_of_getElem? (i := 8) rfl))) (mvT hZ (hw _ (List.mem_of_getElem? (i := 9) rfl))) (notFace_of_selects (args := #[]) (mvT hZ (hw _ (List.mem_of_getElem? (i := 11) rfl)))) (mvT hZ (hw _ (List.mem_of_getElem? (i := 11) rfl))) (mvT hZ (hw _ (List.mem_of_getElem? (i := 10) rfl))) (by decide) (backOf (W := 0) (rm2_2 l Z a0 hw [] w h0 n0 (Nat.le_trans Z0 (own_ext0 h0).1) hP) hZ (hw _ (List.mem_of_getElem? (i := 12) rfl)) (hw _ (List.mem_of_getElem? (i := 6) rfl)) (by decide) (by decide)) q21a q21c (g := (mkF m 14 #[.val (.int i0), .val (.int (2 : Int32)), .val (.ref (w 3))] [(.ref (w 3))])) rfl (by rw [hml]; rfl) (Steps.refl _) (argsL := []) (rest := []) (lenOf pd_1 rfl) rfl (by show 2 * 0 + _ ≤ _; exact Nat.le_of_eq rfl) (hb hby at_14) (fun _ _ => ⟨rfl, e18, (by decide : 0 + 0 ≤ _), (by decide : 0 + 0 ≤ _)⟩)
    dsimp only [Pt.U, Pt.locs, Pt.cells, Pt.slots] at X21 l21 y21 z21 st21 hQ21
    subst l21 y21 z21
    obtain ⟨rfl, N21q, e21⟩ := hQ21
    have N21 := Fr.app N18 N21q
    refine Go.on (T' := T21) (g' := (mkF m 17 #[.val (.int i0), .val (.int (2 : Int32)), .val (.ref (w 3))] [(.int (1 : Int32))])) (fun t k => st21.trans k) ?_
    refine Go.on (T' := T21) (g' := (mkF m 18 #[.val (.int i0), .val (.int (2 : Int32)), .val (.ref (w 3))] [(.int (2 : Int32)), (.int (1 : Int32))])) (fun t k => XS.iloadN X21.here hx rfl (hb hby at_17) rfl k) ?_
    obtain ⟨_, _, ⟨T22, L22, k22, n22⟩, -, X22, ⟨Lc22, hQ22, l22, y22, z22⟩, st22⟩ := Jvm.LawKit.callS X21 hx (y := (⟨"com/example/ostium/ostium/core/compact/ParameterTypeTakesValuePinLaw", "expected", "(I)Z"⟩ : MethodName)) hown (mvT hZ (hw _ (List.mem_of_getElem? (i := 15) rfl))) (mvT hZ (hw _ (List.mem_of_getElem? (i := 16) rfl))) (mvT hZ (hw _ (List.mem_of_getElem? (i := 3) rfl))) (mvT hZ (hw _ (List.mem_of_getElem? (i := 17) rfl))) (by decide) (backOf (W := 1) (rm3_2 l Z a0 hw [] w h0 n0 (Nat.le_trans Z0 (own_ext0 h0).1) hP) hZ (hw _ (List.mem_of_getElem? (i := 17) rfl)) (hw _ (List.mem_of_getElem? (i := 3) rfl)) (by decide) (by decide)) (g := (mkF m 18 #[.val (.int i0), .val (.int (2 : Int32)), .val (.ref (w 3))] [(.int (2 : Int32)), (.int (1 : Int32))])) rfl (by rw [hml]; rfl) (argsL := [(.int (2 : Int32))]) (rest := [(.int (1 : Int32))]) (lenOf pd_2 rfl) rfl (by show 2 * 0 + _ ≤ _; exact Nat.le_of_eq rfl) (hb hby at_18) (fun _ _ => ⟨rfl, e21, (by decide : 0 + 0 ≤ _), (by decide : 0 + 0 ≤ _)⟩)
    dsimp only [Pt.U, Pt.locs, Pt.cells, Pt.slots] at X22 l22 y22 z22 st22 hQ22
    subst l22 y22 z22
    obtain ⟨rfl, N22q, e22⟩ := hQ22
    have N22 := Fr.app N21 N22q
    refine Go.on (T' := T22) (g' := (mkF m 21 #[.val (.int i0), .val (.int (2 : Int32)), .val (.ref (w 3))] [(.int (1 : Int32)), (.int (1 : Int32))])) st22 ?_
    refine Go.on (T' := T22) (g' := (mkF m 24 #[.val (.int i0), .val (.int (2 : Int32)), .val (.ref (w 3))] [])) (fun t k => XS.icmpNo X22.here hx rfl (hb hby at_21) rfl (teq (by decide : (1 : Int32) = (1 : Int32))).2 k) ?_
    refine Go.on (T' := T22) (g' := (mkF m 25 #[.val (.int i0), .val (.int (2 : Int32)), .val (.ref (w 3))] [(.int (1 : Int32))])) (fun t k => XS.iconst X22.here hx rfl (hb hby at_24) k) ?_
    refine Go.on (T' := T22) (g' := (mkF m 29 #[.val (.int i0), .val (.int (2 : Int32)), .val (.ref (w 3))] [(.int (1 : Int32))])) (fun t k => XS.goto X22.here hx rfl (pc0 := 25) (pc' := 29) rfl (hb hby at_25) (by decide) (by decide) k) ?_
    obtain ⟨fs, hr, hrun, hended, hW, hsame⟩ := X22.leave (v := some (.int (1 : Int32))) (fun h => by rw [Bd.returns] at h; cases h)
    exact ⟨_, _, retN X22 hx (t := .boolean) Bd.returns (by simp) (hb hby at_29) hr, hrun, hended, _, _, rfl, ⟨rfl, N22⟩, ⟨_, rfl⟩, hW, hsame.mono (by decide) (by decide)⟩
  · skip
    rw [h1]
    refine Go.on (T' := s₁) (g' := (mkF m 8 #[.val (.int i0), .val (.int (3 : Int32)), .unset] [])) (fun t k => XS.istoreN X0.here hx rfl (hb hby at_7) rfl (l' := #[.val (.int i0), .val (.int (3 : Int32)), .unset]) rfl k) ?_
    refine Go.on (T' := s₁) (g' := (mkF m 9 #[.val (.int i0), .val (.int (3 : Int32)), .unset] [(.int (3 : Int32))])) (fun t k => XS.iloadN X0.here hx rfl (hb hby at_8) rfl k) ?_
    obtain ⟨_, _, ⟨T25, L25, k25, n25⟩, -, X25, ⟨Lc25, hQ25, l25, y25, z25⟩, st25⟩ := Jvm.LawKit.callS X0 hx (y := (⟨"com/example/ostium/ostium/core/compact/ParameterTypeTakesValuePinLaw", "pick", "(I)Lcom/example/ostium/ostium/core/compact/ParameterType;"⟩ : MethodName)) hown (mvT hZ (hw _ (List.mem_of_getElem? (i := 1) rfl))) (mvT hZ (hw _ (List.mem_of_getElem? (i := 2) rfl))) (mvT hZ (hw _ (List.mem_of_getElem? (i := 3) rfl))) (mvT hZ (hw _ (List.mem_of_getElem? (i := 4) rfl))) (by decide) (backOf (W := 0) (rm1_3 l Z a0 hw [] w h0 n0 (Nat.le_trans Z0 (own_ext0 h0).1) hP) hZ (hw _ (List.mem_of_getElem? (i := 4) rfl)) (hw _ (List.mem_of_getElem? (i := 3) rfl)) (by decide) (by decide)) (g := (mkF m 9 #[.val (.int i0), .val (.int (3 : Int32)), .unset] [(.int (3 : Int32))])) rfl (by rw [hml]; rfl) (argsL := [(.int (3 : Int32))]) (rest := []) (lenOf pd_0 rfl) rfl (by show 2 * 0 + _ ≤ _; exact Nat.le_of_eq rfl) (hb hby at_9) (fun _ _ => ⟨rfl, e0, (by decide : 0 + 0 ≤ _), (by decide : 0 + 0 ≤ _)⟩)
    dsimp only [Pt.U, Pt.locs, Pt.cells, Pt.slots] at X25 l25 y25 z25 st25 hQ25
    subst l25 y25 z25
    obtain ⟨rfl, N25q, e25⟩ := hQ25
    have N25 := Fr.app N0 N25q
    refine Go.on (T' := T25) (g' := (mkF m 12 #[.val (.int i0), .val (.int (3 : Int32)), .unset] [(.ref (w 2))])) st25 ?_
    refine Go.on (T' := T25) (g' := (mkF m 13 #[.val (.int i0), .val (.int (3 : Int32)), .val (.ref (w 2))] [])) (fun t k => XS.astoreN X25.here hx rfl (hb hby at_12) rfl rfl (l' := #[.val (.int i0), .val (.int (3 : Int32)), .val (.ref (w 2))]) rfl k) ?_
    refine Go.on (T' := T25) (g' := (mkF m 14 #[.val (.int i0), .val (.int (3 : Int32)), .val (.ref (w 2))] [(.ref (w 2))])) (fun t k => XS.aloadN X25.here hx rfl (hb hby at_13) rfl rfl k) ?_
    obtain ⟨cq28, kq28, q28a, q28b, q28c⟩ := isOf hZ e25 (pin_8 hP)
    obtain ⟨_, _, ⟨T28, L28, k28, n28⟩, -, X28, ⟨Lc28, hQ28, l28, y28, z28⟩, st28⟩ := X25.virtualBack hx (y := (⟨"com/example/ostium/ostium/core/compact/ParameterType", "takesValue", "()Z"⟩ : MethodName)) (z := (⟨"com/example/ostium/ostium/core/compact/ParameterType", "takesValue", "()Z"⟩ : MethodName)) hown (mvT hZ (hw _ (List.mem_of_getElem? (i := 8) rfl))) (mvT hZ (hw _ (List.mem_of_getElem? (i := 9) rfl))) (notFace_of_selects (args := #[]) (mvT hZ (hw _ (List.mem_of_getElem? (i := 11) rfl)))) (mvT hZ (hw _ (List.mem_of_getElem? (i := 11) rfl))) (mvT hZ (hw _ (List.mem_of_getElem? (i := 10) rfl))) (by decide) (backOf (W := 0) (rm2_3 l Z a0 hw [] w h0 n0 (Nat.le_trans Z0 (own_ext0 h0).1) hP) hZ (hw _ (List.mem_of_getElem? (i := 12) rfl)) (hw _ (List.mem_of_getElem? (i := 6) rfl)) (by decide) (by decide)) q28a q28c (g := (mkF m 14 #[.val (.int i0), .val (.int (3 : Int32)), .val (.ref (w 2))] [(.ref (w 2))])) rfl (by rw [hml]; rfl) (Steps.refl _) (argsL := []) (rest := []) (lenOf pd_1 rfl) rfl (by show 2 * 0 + _ ≤ _; exact Nat.le_of_eq rfl) (hb hby at_14) (fun _ _ => ⟨rfl, e25, (by decide : 0 + 0 ≤ _), (by decide : 0 + 0 ≤ _)⟩)
    dsimp only [Pt.U, Pt.locs, Pt.cells, Pt.slots] at X28 l28 y28 z28 st28 hQ28
    subst l28 y28 z28
    obtain ⟨rfl, N28q, e28⟩ := hQ28
    have N28 := Fr.app N25 N28q
    refine Go.on (T' := T28) (g' := (mkF m 17 #[.val (.int i0), .val (.int (3 : Int32)), .val (.ref (w 2))] [(.int (1 : Int32))])) (fun t k => st28.trans k) ?_
    refine Go.on (T' := T28) (g' := (mkF m 18 #[.val (.int i0), .val (.int (3 : Int32)), .val (.ref (w 2))] [(.int (3 : Int32)), (.int (1 : Int32))])) (fun t k => XS.iloadN X28.here hx rfl (hb hby at_17) rfl k) ?_
    obtain ⟨_, _, ⟨T29, L29, k29, n29⟩, -, X29, ⟨Lc29, hQ29, l29, y29, z29⟩, st29⟩ := Jvm.LawKit.callS X28 hx (y := (⟨"com/example/ostium/ostium/core/compact/ParameterTypeTakesValuePinLaw", "expected", "(I)Z"⟩ : MethodName)) hown (mvT hZ (hw _ (List.mem_of_getElem? (i := 15) rfl))) (mvT hZ (hw _ (List.mem_of_getElem? (i := 16) rfl))) (mvT hZ (hw _ (List.mem_of_getElem? (i := 3) rfl))) (mvT hZ (hw _ (List.mem_of_getElem? (i := 17) rfl))) (by decide) (backOf (W := 1) (rm3_3 l Z a0 hw [] w h0 n0 (Nat.le_trans Z0 (own_ext0 h0).1) hP) hZ (hw _ (List.mem_of_getElem? (i := 17) rfl)) (hw _ (List.mem_of_getElem? (i := 3) rfl)) (by decide) (by decide)) (g := (mkF m 18 #[.val (.int i0), .val (.int (3 : Int32)), .val (.ref (w 2))] [(.int (3 : Int32)), (.int (1 : Int32))])) rfl (by rw [hml]; rfl) (argsL := [(.int (3 : Int32))]) (rest := [(.int (1 : Int32))]) (lenOf pd_2 rfl) rfl (by show 2 * 0 + _ ≤ _; exact Nat.le_of_eq rfl) (hb hby at_18) (fun _ _ => ⟨rfl, e28, (by decide : 0 + 0 ≤ _), (by decide : 0 + 0 ≤ _)⟩)
    dsimp only [Pt.U, Pt.locs, Pt.cells, Pt.slots] at X29 l29 y29 z29 st29 hQ29
    subst l29 y29 z29
    obtain ⟨rfl, N29q, e29⟩ := hQ29
    have N29 := Fr.app N28 N29q
    refine Go.on (T' := T29) (g' := (mkF m 21 #[.val (.int i0), .val (.int (3 : Int32)), .val (.ref (w 2))] [(.int (1 : Int32)), (.int (1 : Int32))])) st29 ?_
    refine Go.on (T' := T29) (g' := (mkF m 24 #[.val (.int i0), .val (.int (3 : Int32)), .val (.ref (w 2))] [])) (fun t k => XS.icmpNo X29.here hx rfl (hb hby at_21) rfl (teq (by decide : (1 : Int32) = (1 : Int32))).2 k) ?_
    refine Go.on (T' := T29) (g' := (mkF m 25 #[.val (.int i0), .val (.int (3 : Int32)), .val (.ref (w 2))] [(.int (1 : Int32))])) (fun t k => XS.iconst X29.here hx rfl (hb hby at_24) k) ?_
    refine Go.on (T' := T29) (g' := (mkF m 29 #[.val (.int i0), .val (.int (3 : Int32)), .val (.ref (w 2))] [(.int (1 : Int32))])) (fun t k => XS.goto X29.here hx rfl (pc0 := 25) (pc' := 29) rfl (hb hby at_25) (by decide) (by decide) k) ?_
    obtain ⟨fs, hr, hrun, hended, hW, hsame⟩ := X29.leave (v := some (.int (1 : Int32))) (fun h => by rw [Bd.returns] at h; cases h)
    exact ⟨_, _, retN X29 hx (t := .boolean) Bd.returns (by simp) (hb hby at_29) hr, hrun, hended, _, _, rfl, ⟨rfl, N29⟩, ⟨_, rfl⟩, hW, hsame.mono (by decide) (by decide)⟩
  · skip
    rw [h1]
    refine Go.on (T' := s₁) (g' := (mkF m 8 #[.val (.int i0), .val (.int (4 : Int32)), .unset] [])) (fun t k => XS.istoreN X0.here hx rfl (hb hby at_7) rfl (l' := #[.val (.int i0), .val (.int (4 : Int32)), .unset]) rfl k) ?_
    refine Go.on (T' := s₁) (g' := (mkF m 9 #[.val (.int i0), .val (.int (4 : Int32)), .unset] [(.int (4 : Int32))])) (fun t k => XS.iloadN X0.here hx rfl (hb hby at_8) rfl k) ?_
    obtain ⟨_, _, ⟨T32, L32, k32, n32⟩, -, X32, ⟨Lc32, hQ32, l32, y32, z32⟩, st32⟩ := Jvm.LawKit.callS X0 hx (y := (⟨"com/example/ostium/ostium/core/compact/ParameterTypeTakesValuePinLaw", "pick", "(I)Lcom/example/ostium/ostium/core/compact/ParameterType;"⟩ : MethodName)) hown (mvT hZ (hw _ (List.mem_of_getElem? (i := 1) rfl))) (mvT hZ (hw _ (List.mem_of_getElem? (i := 2) rfl))) (mvT hZ (hw _ (List.mem_of_getElem? (i := 3) rfl))) (mvT hZ (hw _ (List.mem_of_getElem? (i := 4) rfl))) (by decide) (backOf (W := 0) (rm1_4 l Z a0 hw [] w h0 n0 (Nat.le_trans Z0 (own_ext0 h0).1) hP) hZ (hw _ (List.mem_of_getElem? (i := 4) rfl)) (hw _ (List.mem_of_getElem? (i := 3) rfl)) (by decide) (by decide)) (g := (mkF m 9 #[.val (.int i0), .val (.int (4 : Int32)), .unset] [(.int (4 : Int32))])) rfl (by rw [hml]; rfl) (argsL := [(.int (4 : Int32))]) (rest := []) (lenOf pd_0 rfl) rfl (by show 2 * 0 + _ ≤ _; exact Nat.le_of_eq rfl) (hb hby at_9) (fun _ _ => ⟨rfl, e0, (by decide : 0 + 0 ≤ _), (by decide : 0 + 0 ≤ _)⟩)
    dsimp only [Pt.U, Pt.locs, Pt.cells, Pt.slots] at X32 l32 y32 z32 st32 hQ32
    subst l32 y32 z32
    obtain ⟨rfl, N32q, e32⟩ := hQ32
    have N32 := Fr.app N0 N32q
    refine Go.on (T' := T32) (g' := (mkF m 12 #[.val (.int i0), .val (.int (4 : Int32)), .unset] [(.ref (w 5))])) st32 ?_
    refine Go.on (T' := T32) (g' := (mkF m 13 #[.val (.int i0), .val (.int (4 : Int32)), .val (.ref (w 5))] [])) (fun t k => XS.astoreN X32.here hx rfl (hb hby at_12) rfl rfl (l' := #[.val (.int i0), .val (.int (4 : Int32)), .val (.ref (w 5))]) rfl k) ?_
    refine Go.on (T' := T32) (g' := (mkF m 14 #[.val (.int i0), .val (.int (4 : Int32)), .val (.ref (w 5))] [(.ref (w 5))])) (fun t k => XS.aloadN X32.here hx rfl (hb hby at_13) rfl rfl k) ?_
    obtain ⟨cq35, kq35, q35a, q35b, q35c⟩ := isOf hZ e32 (pin_11 hP)
    obtain ⟨_, _, ⟨T35, L35, k35, n35⟩, -, X35, ⟨Lc35, hQ35, l35, y35, z35⟩, st35⟩ := X32.virtualBack hx (y := (⟨"com/example/ostium/ostium/core/compact/ParameterType", "takesValue", "()Z"⟩ : MethodName)) (z := (⟨"com/example/ostium/ostium/core/compact/ParameterType", "takesValue", "()Z"⟩ : MethodName)) hown (mvT hZ (hw _ (List.mem_of_getElem? (i := 8) rfl))) (mvT hZ (hw _ (List.mem_of_getElem? (i := 9) rfl))) (notFace_of_selects (args := #[]) (mvT hZ (hw _ (List.mem_of_getElem? (i := 11) rfl)))) (mvT hZ (hw _ (List.mem_of_getElem? (i := 11) rfl))) (mvT hZ (hw _ (List.mem_of_getElem? (i := 10) rfl))) (by decide) (backOf (W := 0) (rm2_4 l Z a0 hw [] w h0 n0 (Nat.le_trans Z0 (own_ext0 h0).1) hP) hZ (hw _ (List.mem_of_getElem? (i := 12) rfl)) (hw _ (List.mem_of_getElem? (i := 6) rfl)) (by decide) (by decide)) q35a q35c (g := (mkF m 14 #[.val (.int i0), .val (.int (4 : Int32)), .val (.ref (w 5))] [(.ref (w 5))])) rfl (by rw [hml]; rfl) (Steps.refl _) (argsL := []) (rest := []) (lenOf pd_1 rfl) rfl (by show 2 * 0 + _ ≤ _; exact Nat.le_of_eq rfl) (hb hby at_14) (fun _ _ => ⟨rfl, e32, (by decide : 0 + 0 ≤ _), (by decide : 0 + 0 ≤ _)⟩)
    dsimp only [Pt.U, Pt.locs, Pt.cells, Pt.slots] at X35 l35 y35 z35 st35 hQ35
    subst l35 y35 z35
    obtain ⟨rfl, N35q, e35⟩ := hQ35
    have N35 := Fr.app N32 N35q
    refine Go.on (T' := T35) (g' := (mkF m 17 #[.val (.int i0), .val (.int (4 : Int32)), .val (.ref (w 5))] [(.int (1 : Int32))])) (fun t k => st35.trans k) ?_
    refine Go.on (T' := T35) (g' := (mkF m 18 #[.val (.int i0), .val (.int (4 : Int32)), .val (.ref (w 5))] [(.int (4 : Int32)), (.int (1 : Int32))])) (fun t k => XS.iloadN X35.here hx rfl (hb hby at_17) rfl k) ?_
    obtain ⟨_, _, ⟨T36, L36, k36, n36⟩, -, X36, ⟨Lc36, hQ36, l36, y36, z36⟩, st36⟩ := Jvm.LawKit.callS X35 hx (y := (⟨"com/example/ostium/ostium/core/compact/ParameterTypeTakesValuePinLaw", "expected", "(I)Z"⟩ : MethodName)) hown (mvT hZ (hw _ (List.mem_of_getElem? (i := 15) rfl))) (mvT hZ (hw _ (List.mem_of_getElem? (i := 16) rfl))) (mvT hZ (hw _ (List.mem_of_getElem? (i := 3) rfl))) (mvT hZ (hw _ (List.mem_of_getElem? (i := 17) rfl))) (by decide) (backOf (W := 1) (rm3_4 l Z a0 hw [] w h0 n0 (Nat.le_trans Z0 (own_ext0 h0).1) hP) hZ (hw _ (List.mem_of_getElem? (i := 17) rfl)) (hw _ (List.mem_of_getElem? (i := 3) rfl)) (by decide) (by decide)) (g := (mkF m 18 #[.val (.int i0), .val (.int (4 : Int32)), .val (.ref (w 5))] [(.int (4 : Int32)), (.int (1 : Int32))])) rfl (by rw [hml]; rfl) (argsL := [(.int (4 : Int32))]) (rest := [(.int (1 : Int32))]) (lenOf pd_2 rfl) rfl (by show 2 * 0 + _ ≤ _; exact Nat.le_of_eq rfl) (hb hby at_18) (fun _ _ => ⟨rfl, e35, (by decide : 0 + 0 ≤ _), (by decide : 0 + 0 ≤ _)⟩)
    dsimp only [Pt.U, Pt.locs, Pt.cells, Pt.slots] at X36 l36 y36 z36 st36 hQ36
    subst l36 y36 z36
    obtain ⟨rfl, N36q, e36⟩ := hQ36
    have N36 := Fr.app N35 N36q
    refine Go.on (T' := T36) (g' := (mkF m 21 #[.val (.int i0), .val (.int (4 : Int32)), .val (.ref (w 5))] [(.int (1 : Int32)), (.int (1 : Int32))])) st36 ?_
    refine Go.on (T' := T36) (g' := (mkF m 24 #[.val (.int i0), .val (.int (4 : Int32)), .val (.ref (w 5))] [])) (fun t k => XS.icmpNo X36.here hx rfl (hb hby at_21) rfl (teq (by decide : (1 : Int32) = (1 : Int32))).2 k) ?_
    refine Go.on (T' := T36) (g' := (mkF m 25 #[.val (.int i0), .val (.int (4 : Int32)), .val (.ref (w 5))] [(.int (1 : Int32))])) (fun t k => XS.iconst X36.here hx rfl (hb hby at_24) k) ?_
    refine Go.on (T' := T36) (g' := (mkF m 29 #[.val (.int i0), .val (.int (4 : Int32)), .val (.ref (w 5))] [(.int (1 : Int32))])) (fun t k => XS.goto X36.here hx rfl (pc0 := 25) (pc' := 29) rfl (hb hby at_25) (by decide) (by decide) k) ?_
    obtain ⟨fs, hr, hrun, hended, hW, hsame⟩ := X36.leave (v := some (.int (1 : Int32))) (fun h => by rw [Bd.returns] at h; cases h)
    exact ⟨_, _, retN X36 hx (t := .boolean) Bd.returns (by simp) (hb hby at_29) hr, hrun, hended, _, _, rfl, ⟨rfl, N36⟩, ⟨_, rfl⟩, hW, hsame.mono (by decide) (by decide)⟩
  · skip
    rw [h1]
    refine Go.on (T' := s₁) (g' := (mkF m 8 #[.val (.int i0), .val (.int (5 : Int32)), .unset] [])) (fun t k => XS.istoreN X0.here hx rfl (hb hby at_7) rfl (l' := #[.val (.int i0), .val (.int (5 : Int32)), .unset]) rfl k) ?_
    refine Go.on (T' := s₁) (g' := (mkF m 9 #[.val (.int i0), .val (.int (5 : Int32)), .unset] [(.int (5 : Int32))])) (fun t k => XS.iloadN X0.here hx rfl (hb hby at_8) rfl k) ?_
    obtain ⟨_, _, ⟨T39, L39, k39, n39⟩, -, X39, ⟨Lc39, hQ39, l39, y39, z39⟩, st39⟩ := Jvm.LawKit.callS X0 hx (y := (⟨"com/example/ostium/ostium/core/compact/ParameterTypeTakesValuePinLaw", "pick", "(I)Lcom/example/ostium/ostium/core/compact/ParameterType;"⟩ : MethodName)) hown (mvT hZ (hw _ (List.mem_of_getElem? (i := 1) rfl))) (mvT hZ (hw _ (List.mem_of_getElem? (i := 2) rfl))) (mvT hZ (hw _ (List.mem_of_getElem? (i := 3) rfl))) (mvT hZ (hw _ (List.mem_of_getElem? (i := 4) rfl))) (by decide) (backOf (W := 0) (rm1_5 l Z a0 hw [] w h0 n0 (Nat.le_trans Z0 (own_ext0 h0).1) hP) hZ (hw _ (List.mem_of_getElem? (i := 4) rfl)) (hw _ (List.mem_of_getElem? (i := 3) rfl)) (by decide) (by decide)) (g := (mkF m 9 #[.val (.int i0), .val (.int (5 : Int32)), .unset] [(.int (5 : Int32))])) rfl (by rw [hml]; rfl) (argsL := [(.int (5 : Int32))]) (rest := []) (lenOf pd_0 rfl) rfl (by show 2 * 0 + _ ≤ _; exact Nat.le_of_eq rfl) (hb hby at_9) (fun _ _ => ⟨rfl, e0, (by decide : 0 + 0 ≤ _), (by decide : 0 + 0 ≤ _)⟩)
    dsimp only [Pt.U, Pt.locs, Pt.cells, Pt.slots] at X39 l39 y39 z39 st39 hQ39
    subst l39 y39 z39
    obtain ⟨rfl, N39q, e39⟩ := hQ39
    have N39 := Fr.app N0 N39q
    refine Go.on (T' := T39) (g' := (mkF m 12 #[.val (.int i0), .val (.int (5 : Int32)), .unset] [(.ref (w 1))])) st39 ?_
    refine Go.on (T' := T39) (g' := (mkF m 13 #[.val (.int i0), .val (.int (5 : Int32)), .val (.ref (w 1))] [])) (fun t k => XS.astoreN X39.here hx rfl (hb hby at_12) rfl rfl (l' := #[.val (.int i0), .val (.int (5 : Int32)), .val (.ref (w 1))]) rfl k) ?_
    refine Go.on (T' := T39) (g' := (mkF m 14 #[.val (.int i0), .val (.int (5 : Int32)), .val (.ref (w 1))] [(.ref (w 1))])) (fun t k => XS.aloadN X39.here hx rfl (hb hby at_13) rfl rfl k) ?_
    obtain ⟨cq42, kq42, q42a, q42b, q42c⟩ := isOf hZ e39 (pin_7 hP)
    obtain ⟨_, _, ⟨T42, L42, k42, n42⟩, -, X42, ⟨Lc42, hQ42, l42, y42, z42⟩, st42⟩ := X39.virtualBack hx (y := (⟨"com/example/ostium/ostium/core/compact/ParameterType", "takesValue", "()Z"⟩ : MethodName)) (z := (⟨"com/example/ostium/ostium/core/compact/ParameterType", "takesValue", "()Z"⟩ : MethodName)) hown (mvT hZ (hw _ (List.mem_of_getElem? (i := 8) rfl))) (mvT hZ (hw _ (List.mem_of_getElem? (i := 9) rfl))) (notFace_of_selects (args := #[]) (mvT hZ (hw _ (List.mem_of_getElem? (i := 11) rfl)))) (mvT hZ (hw _ (List.mem_of_getElem? (i := 11) rfl))) (mvT hZ (hw _ (List.mem_of_getElem? (i := 10) rfl))) (by decide) (backOf (W := 0) (rm2_5 l Z a0 hw [] w h0 n0 (Nat.le_trans Z0 (own_ext0 h0).1) hP) hZ (hw _ (List.mem_of_getElem? (i := 12) rfl)) (hw _ (List.mem_of_getElem? (i := 6) rfl)) (by decide) (by decide)) q42a q42c (g := (mkF m 14 #[.val (.int i0), .val (.int (5 : Int32)), .val (.ref (w 1))] [(.ref (w 1))])) rfl (by rw [hml]; rfl) (Steps.refl _) (argsL := []) (rest := []) (lenOf pd_1 rfl) rfl (by show 2 * 0 + _ ≤ _; exact Nat.le_of_eq rfl) (hb hby at_14) (fun _ _ => ⟨rfl, e39, (by decide : 0 + 0 ≤ _), (by decide : 0 + 0 ≤ _)⟩)
    dsimp only [Pt.U, Pt.locs, Pt.cells, Pt.slots] at X42 l42 y42 z42 st42 hQ42
    subst l42 y42 z42
    obtain ⟨rfl, N42q, e42⟩ := hQ42
    have N42 := Fr.app N39 N42q
    refine Go.on (T' := T42) (g' := (mkF m 17 #[.val (.int i0), .val (.int (5 : Int32)), .val (.ref (w 1))] [(.int (0 : Int32))])) (fun t k => st42.trans k) ?_
    refine Go.on (T' := T42) (g' := (mkF m 18 #[.val (.int i0), .val (.int (5 : Int32)), .val (.ref (w 1))] [(.int (5 : Int32)), (.int (0 : Int32))])) (fun t k => XS.iloadN X42.here hx rfl (hb hby at_17) rfl k) ?_
    obtain ⟨_, _, ⟨T43, L43, k43, n43⟩, -, X43, ⟨Lc43, hQ43, l43, y43, z43⟩, st43⟩ := Jvm.LawKit.callS X42 hx (y := (⟨"com/example/ostium/ostium/core/compact/ParameterTypeTakesValuePinLaw", "expected", "(I)Z"⟩ : MethodName)) hown (mvT hZ (hw _ (List.mem_of_getElem? (i := 15) rfl))) (mvT hZ (hw _ (List.mem_of_getElem? (i := 16) rfl))) (mvT hZ (hw _ (List.mem_of_getElem? (i := 3) rfl))) (mvT hZ (hw _ (List.mem_of_getElem? (i := 17) rfl))) (by decide) (backOf (W := 1) (rm3_5 l Z a0 hw [] w h0 n0 (Nat.le_trans Z0 (own_ext0 h0).1) hP) hZ (hw _ (List.mem_of_getElem? (i := 17) rfl)) (hw _ (List.mem_of_getElem? (i := 3) rfl)) (by decide) (by decide)) (g := (mkF m 18 #[.val (.int i0), .val (.int (5 : Int32)), .val (.ref (w 1))] [(.int (5 : Int32)), (.int (0 : Int32))])) rfl (by rw [hml]; rfl) (argsL := [(.int (5 : Int32))]) (rest := [(.int (0 : Int32))]) (lenOf pd_2 rfl) rfl (by show 2 * 0 + _ ≤ _; exact Nat.le_of_eq rfl) (hb hby at_18) (fun _ _ => ⟨rfl, e42, (by decide : 0 + 0 ≤ _), (by decide : 0 + 0 ≤ _)⟩)
    dsimp only [Pt.U, Pt.locs, Pt.cells, Pt.slots] at X43 l43 y43 z43 st43 hQ43
    subst l43 y43 z43
    obtain ⟨rfl, N43q, e43⟩ := hQ43
    have N43 := Fr.app N42 N43q
    refine Go.on (T' := T43) (g' := (mkF m 21 #[.val (.int i0), .val (.int (5 : Int32)), .val (.ref (w 1))] [(.int (0 : Int32)), (.int (0 : Int32))])) st43 ?_
    refine Go.on (T' := T43) (g' := (mkF m 24 #[.val (.int i0), .val (.int (5 : Int32)), .val (.ref (w 1))] [])) (fun t k => XS.icmpNo X43.here hx rfl (hb hby at_21) rfl (teq (by decide : (0 : Int32) = (0 : Int32))).2 k) ?_
    refine Go.on (T' := T43) (g' := (mkF m 25 #[.val (.int i0), .val (.int (5 : Int32)), .val (.ref (w 1))] [(.int (1 : Int32))])) (fun t k => XS.iconst X43.here hx rfl (hb hby at_24) k) ?_
    refine Go.on (T' := T43) (g' := (mkF m 29 #[.val (.int i0), .val (.int (5 : Int32)), .val (.ref (w 1))] [(.int (1 : Int32))])) (fun t k => XS.goto X43.here hx rfl (pc0 := 25) (pc' := 29) rfl (hb hby at_25) (by decide) (by decide) k) ?_
    obtain ⟨fs, hr, hrun, hended, hW, hsame⟩ := X43.leave (v := some (.int (1 : Int32))) (fun h => by rw [Bd.returns] at h; cases h)
    exact ⟨_, _, retN X43 hx (t := .boolean) Bd.returns (by simp) (hb hby at_29) hr, hrun, hended, _, _, rfl, ⟨rfl, N43⟩, ⟨_, rfl⟩, hW, hsame.mono (by decide) (by decide)⟩
set_option maxRecDepth 65536 in
set_option maxHeartbeats 40000000 in
theorem comes_1 {Post : Tables → Env → Array Value → State → Outcome → State → Prop} (hpost : ∀ tb e args s v u, (limb_1_1.after args s (.returned v) u = true ∧ limb_1_2.after args s (.returned v) u = true ∧ True) → FrameEnd s (.returned v) u (Jvm.fieldLocs frame_1_writes args s ++ Jvm.arrayLocs frame_1_arrays args s ++ Jvm.staticLocs frame_1_statics s) 0 0 → Post tb e args s (.returned v) u) :
    ArmFor flags0 classFile x code maxLocals ret World_1 tables_1 room_1 Calls_1 rest_1 Pre_1 Post := by
  intro l hfl _ _ p e ha hc hk s m args below hf hA hF happ hP
  obtain ⟨hcalls, hrest, hpre⟩ := hP
  obtain ⟨-, -, -, hnamed, -, -, -, hat⟩ := (Spec.applies_iff hf).mp happ
  obtain ⟨hg, hn⟩ := and_e (Cond.before_iff.mp (show (Jvm.Cond.and given_1 narrow_1).before args s = true from hpre))
  obtain ⟨u1, v1⟩ := and_e hg
  obtain ⟨w0, rfl⟩ : ∃ w0 : Value, args = #[w0] := by
    have hs : args.size = 1 := by simpa [Cond.value, given_1] using u1
    obtain ⟨L⟩ := args
    match L, hs with
    | [w0], _ => exact ⟨w0, rfl⟩
  have hw := fun d (hd : d ∈ tables_1) => atoms_spec (ws := Jvm.Cond.code x code maxLocals ret :: tables_1) hat d (List.mem_cons_of_mem _ hd)
  have hfit : Fit s := fun {y c} hc i hi => by
    obtain ⟨ha, rfl⟩ := Array.getElem?_eq_some_iff.mp hc
    have q := List.all_eq_true.mp ((Array.all_eq_true_iff_forall_mem.mp hF) _ (Array.getElem_mem ha)) i (List.mem_range.mpr hi)
    simpa [Array.getElem?_eq_getElem hi] using q
  obtain ⟨i0, ei0⟩ := is_v v1
  obtain rfl : w0 = (.int i0) := Option.some.inj ei0
  obtain ⟨u2, v2⟩ := and_e hn
  obtain ⟨u3, v3⟩ := and_e v2
  obtain ⟨u4, v4⟩ := and_e v3
  obtain ⟨u5, v5⟩ := and_e v4
  obtain ⟨u6, v6⟩ := and_e v5
  obtain ⟨u7, v7⟩ := and_e v6
  obtain ⟨u8, v8⟩ := and_e v7
  obtain ⟨u9, v9⟩ := and_e v8
  obtain ⟨u10, v10⟩ := and_e v9
  obtain ⟨u11, v11⟩ := and_e v10
  obtain ⟨u12, v12⟩ := and_e v11
  obtain ⟨x0, ev0⟩ := exa_v u2
  obtain ⟨x1, ev1⟩ := exa_v u3
  obtain ⟨x2, ev2⟩ := exa_v u6
  obtain ⟨x3, ev3⟩ := exa_v u8
  obtain ⟨x4, ev4⟩ := exa_v u10
  obtain ⟨x5, ev5⟩ := exa_v u12
  obtain ⟨w, hw_⟩ : ∃ w : Nat → Addr, w 0 = x0 ∧ w 1 = x1 ∧ w 2 = x2 ∧ w 3 = x3 ∧ w 4 = x4 ∧ w 5 = x5 ∧ True := ⟨fun k => [x0, x1, x2, x3, x4, x5].getD k 0, rfl, rfl, rfl, rfl, rfl, rfl, trivial⟩
  obtain ⟨rfl, rfl, rfl, rfl, rfl, rfl, -⟩ := hw_
  have hPin : Pins s s.heap w := ⟨Sta.start ev0 (Or.inr ⟨(hw _ (List.mem_of_getElem? (i := 6) rfl)), (hw _ (List.mem_of_getElem? (i := 7) rfl))⟩),
    Sta.start ev1 (Or.inr ⟨(hw _ (List.mem_of_getElem? (i := 6) rfl)), (hw _ (List.mem_of_getElem? (i := 14) rfl))⟩),
    Sta.start ev2 (Or.inr ⟨(hw _ (List.mem_of_getElem? (i := 6) rfl)), (hw _ (List.mem_of_getElem? (i := 19) rfl))⟩),
    Sta.start ev3 (Or.inr ⟨(hw _ (List.mem_of_getElem? (i := 6) rfl)), (hw _ (List.mem_of_getElem? (i := 21) rfl))⟩),
    Sta.start ev4 (Or.inr ⟨(hw _ (List.mem_of_getElem? (i := 6) rfl)), (hw _ (List.mem_of_getElem? (i := 23) rfl))⟩),
    Sta.start ev5 (Or.inr ⟨(hw _ (List.mem_of_getElem? (i := 6) rfl)), (hw _ (List.mem_of_getElem? (i := 26) rfl))⟩),
    Exa.start ev0 u2,
    Exa.start ev1 u3,
    Exa.start ev2 u6,
    Exa.start ev3 u8,
    Exa.start ev4 u10,
    Exa.start ev5 u12,
    Fld.start ((fld_at ev0).symm.trans (own_eqI u4)),
    Fld.start ((fld_at ev1).symm.trans (own_eqI u5)),
    Fld.start ((fld_at ev2).symm.trans (own_eqI u7)),
    Fld.start ((fld_at ev3).symm.trans (own_eqI u9)),
    Fld.start ((fld_at ev4).symm.trans (own_eqI u11)),
    Fld.start ((fld_at ev5).symm.trans (own_eqI v12)),
    trivial⟩
  obtain ⟨n, o, h1, h2, h3, _, L, rfl, ⟨rfl, N⟩, hq⟩ := rm0 l s _ hw tables_1 w s.heap s.heap.size (Nat.le_refl _) hPin i0 p e ha hc hk s m _ below hf ((Spec.applies_iff_loose hf).mp happ).1 ⟨rfl, State.Warmed39.refl s, rfl⟩ trivial
  refine ⟨n, _, h1, h2, h3, hpost _ _ _ _ _ _ ⟨Cond.after_iff.mpr rfl, Cond.after_iff.mpr (eq_i res_at (Term.int_eval (1)) rfl), trivial⟩ ⟨hq.1, hq.2.1, (hq.2.2.sift fun y hy => Or.inr (N y hy)).mono (by decide) (by decide)⟩⟩
theorem main_1_1 : Claimed_1_1 := comes_1 fun _ _ _ _ _ _ h hF => ⟨h.1, hF⟩
theorem main_1_2 : Claimed_1_2 := comes_1 fun _ _ _ _ _ _ h hF => ⟨h.2.1, hF⟩
end Jvm.Pilot.@@N@@
namespace Jvm.Pilot.@@N@@
open Jvm Jvm.ClassFile Sem Op Lib Jvm.Free Jvm.Stand Jvm.Pilot.@@N@@.Jvm.D
/-! MADE BY PROGRAM (witnessworld.py) out of the Statement's table words and the real class files: 12 classes; the members and pool entries that the words name. The judged class is class 1, her method 3. -/
namespace start1
open Jvm.ClassFile
def u (s : String) : CpInfo := .utf8 (stringToUtf16 s)
/-- a pool by its gaps: so many unusable entries, then the entry; so many at the end -/
def gap : Nat → List CpInfo → List CpInfo
  | 0, r => r
  | n + 1, r => .unusable :: gap n r
def poolList (es : List (Nat × CpInfo)) (last : Nat) : List CpInfo := es.foldr (fun e r => gap e.1 (e.2 :: r)) (gap last [])
def pool (es : List (Nat × CpInfo)) (last : Nat) : Array CpInfo := ⟨poolList es last⟩
def fileOf (pool : Array CpInfo) (this : Nat) (attrs : Array Attribute := #[]) (ms : Array MethodInfo := #[]) (fl : Nat := 33) (sup : Nat := 0) (ifs : Array Nat := #[]) (fds : Array FieldInfo := #[]) : ClassFile where
  minorVersion := 0
  majorVersion := 65
  constantPool := pool
  accessFlags := fl
  thisClass := this
  superClass := sup
  interfaces := ifs
  fields := fds
  methods := ms
  attributes := attrs
def plain (name : String) (sup : Option ClassId) : Class where
  name := name
  kind := .ordinary
  loader := none
  accessFlags := 33
  super := sup
  interfaces := #[]
  cf := none
  fields := #[]
  methods := #[]
  instanceTypes := #[]
  staticTypes := #[]
  resolved := #[]
  callSites := []
  init := .initialized
  statics := none
  mirror := none

def pool0 : Array CpInfo := pool [(5, u "<init>"), (0, u "()V"), (1, .class_ 10), (1, u "java/lang/Object")] 113

def k0m0 : Method := { name := "<init>", desc := "()V", sig := { parameters := [], returnType := none }, accessFlags := 1, code := none }
/-- java/lang/Object -/
def k0 : Class := { plain "java/lang/Object" none with
  accessFlags := 33
  interfaces := #[]
  cf := some (fileOf pool0 8 #[] #[{ accessFlags := 1, nameIndex := 5, descriptorIndex := 6, attributes := #[] }] 33 0 #[] #[])
  fields := #[]
  methods := #[k0m0]
  instanceTypes := #[]
  staticTypes := #[]
  resolved := Array.replicate 124 none
  statics := none }

def pool1 : Array CpInfo := pool [(2, .class_ 4), (1, u "java/lang/Object"), (0, u "<init>"), (0, u "()V"), (0, .fieldref 8 9), (0, .class_ 10), (0, .nameAndType 11 12), (0, u "com/example/ostium/ostium/core/compact/ParameterType"), (0, u "STRING"), (0, u "Lcom/example/ostium/ostium/core/compact/ParameterType;"), (0, .fieldref 8 14), (0, .nameAndType 15 12), (0, u "UNSIGNED"), (0, .fieldref 8 17), (0, .nameAndType 18 12), (0, u "INTEGER"), (0, .fieldref 8 20), (0, .nameAndType 21 12), (0, u "NUMBER"), (0, .fieldref 8 23), (0, .nameAndType 24 12), (0, u "DATE"), (0, .fieldref 8 26), (0, .nameAndType 27 12), (0, u "NOW"), (0, .integer 2147483647), (0, .methodref 30 31), (0, .class_ 32), (0, .nameAndType 33 34), (0, u "com/example/ostium/ostium/core/compact/ParameterTypeTakesValuePinLaw"), (0, u "pick"), (0, u "(I)Lcom/example/ostium/ostium/core/compact/ParameterType;"), (0, .methodref 8 36), (0, .nameAndType 37 38), (0, u "takesValue"), (0, u "()Z"), (0, .methodref 30 40), (0, .nameAndType 41 42), (0, u "expected"), (0, u "(I)Z"), (3, u "law")] 2

def k1m0 : Method := { name := "<init>", desc := "()V", sig := { parameters := [], returnType := none }, accessFlags := 2, code := none }
def k1c1 : Code := { maxStack := 2, maxLocals := 1, code := method_2_code, exceptionTable := #[], attributes := #[] }
def k1m1 : Method := { name := "pick", desc := "(I)Lcom/example/ostium/ostium/core/compact/ParameterType;", sig := { parameters := [.int], returnType := some (.object "com/example/ostium/ostium/core/compact/ParameterType") }, accessFlags := 10, code := some k1c1 }
def k1c2 : Code := { maxStack := 2, maxLocals := 1, code := method_3_code, exceptionTable := #[], attributes := #[] }
def k1m2 : Method := { name := "expected", desc := "(I)Z", sig := { parameters := [.int], returnType := some .boolean }, accessFlags := 10, code := some k1c2 }
def k1c3 : Code := { maxStack := 2, maxLocals := 3, code := code, exceptionTable := #[], attributes := #[] }
def k1m3 : Method := { name := "law", desc := "(I)Z", sig := { parameters := [.int], returnType := some .boolean }, accessFlags := 9, code := some k1c3 }
/-- com/example/ostium/ostium/core/compact/ParameterTypeTakesValuePinLaw -/
def k1 : Class := { plain "com/example/ostium/ostium/core/compact/ParameterTypeTakesValuePinLaw" (some 0) with
  accessFlags := 49
  interfaces := #[]
  cf := some (fileOf pool1 30 #[] #[{ accessFlags := 2, nameIndex := 5, descriptorIndex := 6, attributes := #[] }, { accessFlags := 10, nameIndex := 33, descriptorIndex := 34, attributes := #[] }, { accessFlags := 10, nameIndex := 41, descriptorIndex := 42, attributes := #[] }, { accessFlags := 9, nameIndex := 46, descriptorIndex := 42, attributes := #[] }] 49 2 #[] #[])
  fields := #[]
  methods := #[k1m0, k1m1, k1m2, k1m3]
  instanceTypes := #[]
  staticTypes := #[]
  resolved := Array.replicate 49 none
  statics := none }

def pool2 : Array CpInfo := pool [(1, .class_ 2), (0, u "java/lang/constant/Constable"), (0, .class_ 4), (0, u "java/lang/Object")] 6

/-- java/lang/constant/Constable -/
def k2 : Class := { plain "java/lang/constant/Constable" (some 0) with
  accessFlags := 1537
  interfaces := #[]
  cf := some (fileOf pool2 1 #[] #[] 1537 3 #[] #[])
  fields := #[]
  methods := #[]
  instanceTypes := #[]
  staticTypes := #[]
  resolved := Array.replicate 11 none
  statics := none }

def pool3 : Array CpInfo := pool [(1, .class_ 2), (0, u "java/lang/Comparable"), (0, .class_ 4), (0, u "java/lang/Object")] 7

/-- java/lang/Comparable -/
def k3 : Class := { plain "java/lang/Comparable" (some 0) with
  accessFlags := 1537
  interfaces := #[]
  cf := some (fileOf pool3 1 #[] #[] 1537 3 #[] #[])
  fields := #[]
  methods := #[]
  instanceTypes := #[]
  staticTypes := #[]
  resolved := Array.replicate 12 none
  statics := none }

def pool4 : Array CpInfo := pool [(1, .class_ 2), (0, u "java/io/Serializable"), (0, .class_ 4), (0, u "java/lang/Object")] 2

/-- java/io/Serializable -/
def k4 : Class := { plain "java/io/Serializable" (some 0) with
  accessFlags := 1537
  interfaces := #[]
  cf := some (fileOf pool4 1 #[] #[] 1537 3 #[] #[])
  fields := #[]
  methods := #[]
  instanceTypes := #[]
  staticTypes := #[]
  resolved := Array.replicate 7 none
  statics := none }

def pool5 : Array CpInfo := pool [(2, .class_ 4), (1, u "java/lang/Enum"), (0, u "name"), (0, u "Ljava/lang/String;"), (2, u "ordinal"), (0, u "I"), (1, .class_ 14), (1, u "java/lang/Object"), (4, u "hash"), (86, .class_ 108), (1, u "java/lang/Enum$EnumDesc"), (2, .class_ 112), (0, u "java/lang/constant/Constable"), (0, .class_ 114), (0, u "java/lang/Comparable"), (0, .class_ 116), (0, u "java/io/Serializable")] 87

/-- java/lang/Enum -/
def k5 : Class := { plain "java/lang/Enum" (some 0) with
  accessFlags := 1057
  interfaces := #[2, 3, 4]
  cf := some (fileOf pool5 2 #[.nestMembers #[106]] #[] 1057 12 #[111, 113, 115] #[{ accessFlags := 18, nameIndex := 5, descriptorIndex := 6, attributes := #[] }, { accessFlags := 18, nameIndex := 9, descriptorIndex := 10, attributes := #[] }, { accessFlags := 2, nameIndex := 19, descriptorIndex := 10, attributes := #[] }])
  fields := #[{ name := "name", type := (.object "java/lang/String"), accessFlags := 18, slot := 0, constantValue := 0 }, { name := "ordinal", type := .int, accessFlags := 18, slot := 1, constantValue := 0 }, { name := "hash", type := .int, accessFlags := 2, slot := 2, constantValue := 0 }]
  methods := #[]
  instanceTypes := #[(.object "java/lang/String"), .int, .int]
  staticTypes := #[]
  resolved := Array.replicate 204 none
  statics := none }

def pool6 : Array CpInfo := pool [(1, .class_ 2), (0, u "com/example/ostium/ostium/core/compact/ParameterType"), (2, u "STRING"), (0, u "Lcom/example/ostium/ostium/core/compact/ParameterType;"), (2, u "UNSIGNED"), (2, u "INTEGER"), (2, u "NUMBER"), (2, u "DATE"), (0, .fieldref 1 20), (0, .nameAndType 21 6), (0, u "NOW"), (2, u "$VALUES"), (0, u "[Lcom/example/ostium/ostium/core/compact/ParameterType;"), (6, .class_ 34), (1, u "java/lang/Enum"), (20, u "()Z"), (2, u "DIGITS"), (0, u "Ljava/util/regex/Pattern;"), (13, u "SIGNED_DIGITS"), (2, u "DECIMAL"), (41, u "takesValue")] 11

def k6c0 : Code := { maxStack := 2, maxLocals := 1, code := prog_45_method_4_code, exceptionTable := #[], attributes := #[] }
def k6m0 : Method := { name := "takesValue", desc := "()Z", sig := { parameters := [], returnType := some .boolean }, accessFlags := 0, code := some k6c0 }
/-- com/example/ostium/ostium/core/compact/ParameterType -/
def k6 : Class := { plain "com/example/ostium/ostium/core/compact/ParameterType" (some 5) with
  accessFlags := 16433
  interfaces := #[]
  cf := some (fileOf pool6 1 #[] #[{ accessFlags := 0, nameIndex := 118, descriptorIndex := 55, attributes := #[] }] 16433 32 #[] #[{ accessFlags := 16409, nameIndex := 5, descriptorIndex := 6, attributes := #[] }, { accessFlags := 16409, nameIndex := 9, descriptorIndex := 6, attributes := #[] }, { accessFlags := 16409, nameIndex := 12, descriptorIndex := 6, attributes := #[] }, { accessFlags := 16409, nameIndex := 15, descriptorIndex := 6, attributes := #[] }, { accessFlags := 16409, nameIndex := 18, descriptorIndex := 6, attributes := #[] }, { accessFlags := 16409, nameIndex := 21, descriptorIndex := 6, attributes := #[] }, { accessFlags := 26, nameIndex := 58, descriptorIndex := 59, attributes := #[] }, { accessFlags := 26, nameIndex := 73, descriptorIndex := 59, attributes := #[] }, { accessFlags := 26, nameIndex := 76, descriptorIndex := 59, attributes := #[] }, { accessFlags := 4122, nameIndex := 24, descriptorIndex := 25, attributes := #[] }])
  fields := #[{ name := "STRING", type := (.object "com/example/ostium/ostium/core/compact/ParameterType"), accessFlags := 16409, slot := 0, constantValue := 0 }, { name := "UNSIGNED", type := (.object "com/example/ostium/ostium/core/compact/ParameterType"), accessFlags := 16409, slot := 1, constantValue := 0 }, { name := "INTEGER", type := (.object "com/example/ostium/ostium/core/compact/ParameterType"), accessFlags := 16409, slot := 2, constantValue := 0 }, { name := "NUMBER", type := (.object "com/example/ostium/ostium/core/compact/ParameterType"), accessFlags := 16409, slot := 3, constantValue := 0 }, { name := "DATE", type := (.object "com/example/ostium/ostium/core/compact/ParameterType"), accessFlags := 16409, slot := 4, constantValue := 0 }, { name := "NOW", type := (.object "com/example/ostium/ostium/core/compact/ParameterType"), accessFlags := 16409, slot := 5, constantValue := 0 }, { name := "DIGITS", type := (.object "java/util/regex/Pattern"), accessFlags := 26, slot := 6, constantValue := 0 }, { name := "SIGNED_DIGITS", type := (.object "java/util/regex/Pattern"), accessFlags := 26, slot := 7, constantValue := 0 }, { name := "DECIMAL", type := (.object "java/util/regex/Pattern"), accessFlags := 26, slot := 8, constantValue := 0 }, { name := "$VALUES", type := (.array (.object "com/example/ostium/ostium/core/compact/ParameterType")), accessFlags := 4122, slot := 9, constantValue := 0 }]
  methods := #[k6m0]
  instanceTypes := #[(.object "java/lang/String"), .int, .int]
  staticTypes := #[(.object "com/example/ostium/ostium/core/compact/ParameterType"), (.object "com/example/ostium/ostium/core/compact/ParameterType"), (.object "com/example/ostium/ostium/core/compact/ParameterType"), (.object "com/example/ostium/ostium/core/compact/ParameterType"), (.object "com/example/ostium/ostium/core/compact/ParameterType"), (.object "com/example/ostium/ostium/core/compact/ParameterType"), (.object "java/util/regex/Pattern"), (.object "java/util/regex/Pattern"), (.object "java/util/regex/Pattern"), (.array (.object "com/example/ostium/ostium/core/compact/ParameterType"))]
  resolved := Array.replicate 130 none
  statics := some 0 }

def pool7 : Array CpInfo := pool [(1, u "java/lang/Cloneable"), (0, .class_ 1), (0, u "java/lang/Object"), (0, .class_ 3)] 3

/-- java/lang/Cloneable -/
def k7 : Class := { plain "java/lang/Cloneable" (some 0) with
  accessFlags := 1537
  interfaces := #[]
  cf := some (fileOf pool7 2 #[] #[] 1537 4 #[] #[])
  fields := #[]
  methods := #[]
  instanceTypes := #[]
  staticTypes := #[]
  resolved := Array.replicate 8 none
  statics := none }

/-- the primitive byte -/
def k8 : Class := { plain "byte" none with kind := .primitive 'B', accessFlags := 0x411 }
/-- [B -/
def k9 : Class := { plain "[B" (some 0) with kind := .array 8 .byte, interfaces := #[7, 4], accessFlags := 1041 }

/-- the primitive int -/
def k10 : Class := { plain "int" none with kind := .primitive 'I', accessFlags := 0x411 }
/-- [I -/
def k11 : Class := { plain "[I" (some 0) with kind := .array 10 .int, interfaces := #[7, 4], accessFlags := 1041 }

def heap : Heap := #[{ cls := 6, slots := #[.ref 1, .ref 5, .ref 4, .ref 3, .ref 6, .ref 2, .null, .null, .null, .null], vm := .statics 6 },
  { cls := 6, slots := #[.null, .int 0, .int 0], vm := .none },
  { cls := 6, slots := #[.null, .int 5, .int 0], vm := .none },
  { cls := 6, slots := #[.null, .int 3, .int 0], vm := .none },
  { cls := 6, slots := #[.null, .int 2, .int 0], vm := .none },
  { cls := 6, slots := #[.null, .int 1, .int 0], vm := .none },
  { cls := 6, slots := #[.null, .int 4, .int 0], vm := .none }]
def classes : Array Class := #[k0, k1, k2, k3, k4, k5, k6, k7, k8, k9, k10, k11]
def interned : List (Array UInt16 × Addr) := []
def slotsUsed : Nat := 28
def theMethod : MethodId := ⟨1, 3⟩
def args0 : Array Value := #[.int 5]
def aboutOver (below : List Frame) : State where
  vm := { classes := classes, interned := interned.toArray }
  heap := heap
  slotsUsed := slotsUsed
  threads := #[{ frames := .invoking theMethod args0 :: below }]
def below0 : List Frame := [.native { method := ⟨0, 0⟩, args := #[] }]
def about1 : State := aboutOver below0
def p0 : Program := .bare "" "" ""
def e0 : Env := launch0.env 0 0 0
theorem w_frames : about1.frames = Frame.invoking theMethod args0 :: below0 := rfl
set_option maxRecDepth 65536 in
theorem w_args : argsFit about1.vm theMethod args0 = true := by decide +kernel
set_option maxRecDepth 65536 in
theorem w_heap : heapFits about1 = true := by decide +kernel
set_option maxRecDepth 65536 in
theorem w_runnable : about1.curStatus? = some .runnable := by decide +kernel
set_option maxRecDepth 65536 in
theorem w_alone : about1.alone = true := by decide +kernel
set_option maxRecDepth 65536 in
theorem w_named : about1.methodNamed? x = some theMethod := by decide +kernel
set_option maxRecDepth 65536 in
theorem w_hears : about1.hears theMethod below0 = true := by decide +kernel
set_option maxRecDepth 65536 in
theorem w_ripe : about1.ripe theMethod args0 below0 = true := by decide +kernel
theorem w_running : about1.status = .running := rfl
set_option maxRecDepth 65536 in
theorem w_room : about1.hasRoom e0.platform room_1 = true :=
  launch0.hasRoom_least _ room_1 (by decide +kernel) (by decide +kernel) (by decide +kernel) (by decide +kernel) (by decide +kernel) (by decide +kernel)
theorem allAtoms_all (ts : List Jvm.Cond) (a : Array Jvm.Value) (st : Jvm.State) : (allAtoms ts).before a st = ts.all (fun c => c.before a st) := by
  induction ts with
  | nil => rfl
  | cons c t ih =>
    show (Jvm.Cond.and c (allAtoms t)).before a st = _
    rw [Jvm.Cond.before_and, ih, List.all_cons]
def words1 : List Jvm.Cond := Jvm.Cond.code x code maxLocals ret :: tables_1
/-- a 'code' word, met by the world's own term for the bytes: nothing is compared byte by byte -/
theorem code_word {y : MethodName} {bytes : ByteArray} {mx : Nat} {rt : Option FieldType} {a : Array Value} {s : State} {m : MethodId} {meth : Method} {c : Code} (h1 : s.methodNamed? y = some m) (h2 : s.vm.method? m = some meth) (h3 : meth.code = some c) (h4 : c.code = bytes)
    (h5 : (c.maxLocals == mx && c.exceptionTable.isEmpty && decide (c.maxStack ≤ mostOperands) && decide (meth.sig.returnType = rt) && !meth.locks && decide (parseMethodDescriptor y.desc = some meth.sig)) = true) : (Jvm.Cond.code y bytes mx rt).before a s = true := by
  simp only [Bool.and_eq_true, beq_iff_eq, Bool.not_eq_true', decide_eq_true_eq] at h5
  obtain ⟨⟨⟨⟨⟨g1, g2⟩, g3⟩, g4⟩, g5⟩, g6⟩ := h5
  simp [Cond.before, Cond.holds, Cond.value, h1, h2, h3, h4, g1, g2, g3, g4, g5, g6]
def isCode : Jvm.Cond → Bool
  | .code _ _ _ _ => true
  | _ => false
theorem all_split {L : List Jvm.Cond} {P : Jvm.Cond → Bool} (h1 : L.all (fun c => isCode c || P c) = true) (h2 : ∀ c ∈ L.filter isCode, P c = true) : L.all P = true := by
  refine List.all_eq_true.mpr fun c hc => ?_
  have h := List.all_eq_true.mp h1 c hc
  rcases Bool.eq_false_or_eq_true (isCode c) with hi | hi
  · exact h2 c (List.mem_filter.mpr ⟨hc, hi⟩)
  · simpa [hi] using h
set_option maxRecDepth 65536 in
theorem w_c0 : (Jvm.Cond.code x code maxLocals ret).before args0 about1 = true := code_word (m := ⟨1, 3⟩) (meth := k1m3) (c := k1c3) (by decide +kernel) rfl rfl rfl (by decide +kernel)
set_option maxRecDepth 65536 in
theorem w_c1 : (Jvm.Cond.code ({ cls := "com/example/ostium/ostium/core/compact/ParameterTypeTakesValuePinLaw", name := "pick", desc := "(I)Lcom/example/ostium/ostium/core/compact/ParameterType;" } : Jvm.MethodName) method_2_code (1 : Nat) (Option.some (Jvm.ClassFile.FieldType.object "com/example/ostium/ostium/core/compact/ParameterType"))).before args0 about1 = true := code_word (m := ⟨1, 1⟩) (meth := k1m1) (c := k1c1) (by decide +kernel) rfl rfl rfl (by decide +kernel)
set_option maxRecDepth 65536 in
theorem w_c2 : (Jvm.Cond.code ({ cls := "com/example/ostium/ostium/core/compact/ParameterType", name := "takesValue", desc := "()Z" } : Jvm.MethodName) prog_45_method_4_code (1 : Nat) (Option.some Jvm.ClassFile.FieldType.boolean)).before args0 about1 = true := code_word (m := ⟨6, 0⟩) (meth := k6m0) (c := k6c0) (by decide +kernel) rfl rfl rfl (by decide +kernel)
set_option maxRecDepth 65536 in
theorem w_c3 : (Jvm.Cond.code ({ cls := "com/example/ostium/ostium/core/compact/ParameterTypeTakesValuePinLaw", name := "expected", desc := "(I)Z" } : Jvm.MethodName) method_3_code (1 : Nat) (Option.some Jvm.ClassFile.FieldType.boolean)).before args0 about1 = true := code_word (m := ⟨1, 2⟩) (meth := k1m2) (c := k1c2) (by decide +kernel) rfl rfl rfl (by decide +kernel)
def codes1 : List Jvm.Cond := [Jvm.Cond.code x code maxLocals ret, Jvm.Cond.code ({ cls := "com/example/ostium/ostium/core/compact/ParameterTypeTakesValuePinLaw", name := "pick", desc := "(I)Lcom/example/ostium/ostium/core/compact/ParameterType;" } : Jvm.MethodName) method_2_code (1 : Nat) (Option.some (Jvm.ClassFile.FieldType.object "com/example/ostium/ostium/core/compact/ParameterType")), Jvm.Cond.code ({ cls := "com/example/ostium/ostium/core/compact/ParameterType", name := "takesValue", desc := "()Z" } : Jvm.MethodName) prog_45_method_4_code (1 : Nat) (Option.some Jvm.ClassFile.FieldType.boolean), Jvm.Cond.code ({ cls := "com/example/ostium/ostium/core/compact/ParameterTypeTakesValuePinLaw", name := "expected", desc := "(I)Z" } : Jvm.MethodName) method_3_code (1 : Nat) (Option.some Jvm.ClassFile.FieldType.boolean)]
set_option maxRecDepth 65536 in
theorem codes_eq : words1.filter isCode = codes1 := rfl
theorem w_codes : ∀ c ∈ words1.filter isCode, c.before args0 about1 = true := by
  rw [codes_eq]
  intro c hc
  simp only [codes1, List.mem_cons, List.not_mem_nil, or_false] at hc
  rcases hc with rfl | rfl | rfl | rfl
  · exact w_c0
  · exact w_c1
  · exact w_c2
  · exact w_c3
set_option maxRecDepth 65536 in
theorem w_t1 : (words1.take 24).all (fun c => isCode c || c.before args0 about1) = true := by decide +kernel
set_option maxRecDepth 65536 in
theorem w_t2 : (words1.drop 24).all (fun c => isCode c || c.before args0 about1) = true := by decide +kernel
theorem w_tables : (allAtoms (Jvm.Cond.code x code maxLocals ret :: tables_1)).before args0 about1 = true := by
  rw [allAtoms_all]
  show words1.all (fun c => c.before args0 about1) = true
  refine all_split ?_ w_codes
  rw [← List.take_append_drop 24 words1, List.all_append, w_t1, w_t2]
  rfl
set_option maxRecDepth 65536 in
theorem w_case : (Jvm.Cond.and given_1 narrow_1).before args0 about1 = true := by decide +kernel
theorem w_applies : (headSpec (Jvm.Cond.code x code maxLocals ret :: tables_1) room_1).applies x e0.platform about1 = true :=
  (Spec.applies_iff w_frames).mpr ⟨w_running, w_runnable, w_alone, w_named, w_hears, w_ripe, w_room, w_tables⟩
theorem atStart : AtStart classFile x code maxLocals ret World_1 tables_1 room_1 Calls_1 rest_1 Pre_1 launch0 p0 e0 about1 theMethod args0 below0 :=
  ⟨lists_1, trivial, launch0.admits_env _ _ _, launch0.least_env, fairChoices_fair.cas, fairChoices_fair.clock, w_frames, w_args, w_heap, w_applies, trivial, trivial, w_case⟩
end start1
theorem witness_1 : WitnessClaimed_1 := ⟨start1.p0, start1.e0, start1.about1, start1.theMethod, start1.args0, start1.below0, start1.atStart⟩
end Jvm.Pilot.@@N@@
