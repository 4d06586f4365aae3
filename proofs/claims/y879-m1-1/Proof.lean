import JvmDerived
import JvmDerived.Pilot.@@N@@Statement
import JvmDerived.Pilot.@@N@@Code
set_option linter.unusedVariables false
set_option linter.unusedSimpArgs false
@@BLOCK:NumsL.lean.txt@@
namespace Jvm.Pilot.@@N@@
open Jvm Jvm.ClassFile Sem Op Lib Jvm.Free Jvm.Stand Jvm.LawKit Jvm.RoadKit Bundle Jvm.Pilot.@@N@@.Jvm.D
/-- from here the run comes to its end, and G holds there -/
def Go (p : Program) (e : Env) (below : List Frame) (G : Outcome → State → Prop) (T : State) (g : JFrame) : Prop := ∃ s₂ o, Steps p.tables e below (T.setTop g) s₂ ∧ s₂.status = .running ∧ Ended s₂ below o ∧ G o s₂
theorem Go.on {p : Program} {e : Env} {below : List Frame} {G : Outcome → State → Prop} {T T' : State} {g g' : JFrame} (h : ∀ t, Steps p.tables e below (T'.setTop g') t → Steps p.tables e below (T.setTop g) t) (k : Go p e below G T' g') : Go p e below G T g := by
  obtain ⟨s2, o, k1, k2⟩ := k
  exact ⟨s2, o, h _ k1, k2⟩
/-- a body that writes nothing: what it returns; the heap as it was -/
def Qp (r : Option Value) (h0 : Heap) (n0 : Nat) (v : Option Value) (h : Heap) (L : List Loc) : Prop := v = r ∧ Fr n0 L ∧ h = h0
def Ql (r : Option Value) (n0 : Nat) (v : Option Value) (L : List Loc) : Prop := v = r ∧ Fr n0 L
/-- a body that only makes new cells -/
def Qx (r : Option Value) (F : Heap → Prop) (h0 : Heap) (n0 : Nat) (v : Option Value) (h : Heap) (L : List Loc) : Prop := v = r ∧ Fr n0 L ∧ Ext h0 h ∧ F h
theorem own_ext0 (h : Heap) : Ext h h := ⟨Nat.le_refl _, fun _ _ q => q⟩
theorem own_ext2 {a b c : Heap} (E : Ext a b) (F : Ext b c) : Ext a c := ⟨Nat.le_trans E.1 F.1, fun x y q => F.2 x y (E.2 x y q)⟩
theorem own_extw {h0 h h' : Heap} {a : Addr} {sl : Nat} {v : Value} (E : Ext h0 h) (W : Wr h h' a sl v) (q : h0.size ≤ a) : Ext h0 h' := by
  refine ⟨by rw [W.size]; exact E.1, fun x c hx => ?_⟩
  obtain ⟨c', g1, -, -, -, g5, -⟩ := wr_at W (E.2 x c hx)
  have hne : x ≠ a := Nat.ne_of_lt (Nat.lt_of_lt_of_le (Array.getElem?_eq_some_iff.mp hx).1 q)
  rw [g1, g5 hne]
theorem own_extE {h a b : Heap} (e : a = b) (X : Ext h b) : Ext h a := e ▸ X
theorem own_arrE {Z : State} {a b : Heap} {x : Addr} {c : Cell} {ty : FieldType} (e : a = b) (A : Arr Z b x c ty) : Arr Z a x c ty := e ▸ A
theorem own_ne {Z : State} {h : Heap} {a b : Addr} {C n d : String} {v v' : Value} (F : Fld Z h a C n d v) (G : Fld Z h b C n d v') (hv : v ≠ v') : ¬ (a = b) := by
  rintro rfl
  obtain ⟨cell, cf, k, i, f, h1, h2, -, -, -, -, h7⟩ := F
  obtain ⟨cell', cf', k', i', f', g1, g2, -, -, -, -, g7⟩ := G
  cases h1.symm.trans g1
  cases h2.symm.trans g2
  exact hv (Option.some.inj (h7.symm.trans g7))
theorem own_irrI (x : Int32) : ¬ (x < x) := by simp
theorem own_irrJ (x : Int64) : ¬ (x < x) := by simp
theorem own_eqI {args : Array Value} {s : State} {t : Term} {n : Int32} (h : (Jvm.Cond.eq t (.int n)).value args s none s [] = some true) : t.eval args s none [] s = some (.int n) := by
  exact eqv_i (Term.int_eval n) h
theorem own_len {args : Array Value} {s : State} {t : Term} {n : Int32} {a : Addr} {cl : Cell} {ty : FieldType} {k : Nat} (h : (Term.length t).eval args s none [] s = some (.int n)) (ht : t.eval args s none [] s = some (.ref a)) (A : Arr s s.heap a cl ty) (hk : n.toInt = k) : cl.slots.size = k := by
  have ha := A.fin (U := s) (Vm.Alike.refl _)
  by_cases hl : cl.slots.size < 2 ^ 31
  · have e := (len_f ht ha hl).symm.trans h
    have e2 : cl.slots.size.toInt32 = n := by simpa using e
    have e3 := len_toInt hl
    rw [e2, hk] at e3
    omega
  · simp [Term.eval, ht, ha, hl] at h
theorem own_slots {cl : Cell} {vs : List Value} (h1 : cl.slots.size = vs.length) (h2 : ∀ (i : Nat) (v : Value), vs[i]? = some v → cl.slots[i]? = some v) : cl.slots = vs.toArray := by
  apply Array.ext
  · simp [h1]
  · intro i hi hj
    have hj' : i < vs.length := by simpa using hj
    have q := h2 i vs[i] (by simp [hj'])
    rw [Array.getElem?_eq_getElem hi] at q
    simpa using q
theorem own_eqR {args : Array Value} {s : State} {t u : Term} {a : Addr} (h : (Jvm.Cond.eq t u).value args s none s [] = some true) (hu : u.eval args s none [] s = some (.ref a)) : t.eval args s none [] s = some (.ref a) := by
  obtain ⟨x, y, h1, h2, k1, k2⟩ := cmp_v (Or.inl h)
  cases h2.symm.trans hu
  have q := gotT (eq_R h1 h2 k2.2 rfl) h
  rw [h1, q]
def Pins (Z : State) (h : Heap) (w : Nat → Addr) : Prop :=
  Sta Z h "com/example/bagwise/bagwise/terms/Truth" "TRUE" "Lcom/example/bagwise/bagwise/terms/Truth;" (.ref (w 0)) ∧
  Sta Z h "com/example/bagwise/bagwise/terms/Truth" "FALSE" "Lcom/example/bagwise/bagwise/terms/Truth;" (.ref (w 1)) ∧
  Sta Z h "com/example/bagwise/bagwise/terms/Truth" "ERROR" "Lcom/example/bagwise/bagwise/terms/Truth;" (.ref (w 2)) ∧
  Exa Z h (w 0) "com/example/bagwise/bagwise/terms/Truth" ∧
  Exa Z h (w 1) "com/example/bagwise/bagwise/terms/Truth" ∧
  Exa Z h (w 2) "com/example/bagwise/bagwise/terms/Truth" ∧
  Fld Z h (w 0) "java/lang/Enum" "ordinal" "I" (.int (0 : Int32)) ∧
  Fld Z h (w 1) "java/lang/Enum" "ordinal" "I" (.int (1 : Int32)) ∧
  Fld Z h (w 2) "java/lang/Enum" "ordinal" "I" (.int (2 : Int32)) ∧
  True
theorem pin_0 {Z : State} {h : Heap} {w : Nat → Addr} (P : Pins Z h w) : Sta Z h "com/example/bagwise/bagwise/terms/Truth" "TRUE" "Lcom/example/bagwise/bagwise/terms/Truth;" (.ref (w 0)) := P.1
theorem pin_1 {Z : State} {h : Heap} {w : Nat → Addr} (P : Pins Z h w) : Sta Z h "com/example/bagwise/bagwise/terms/Truth" "FALSE" "Lcom/example/bagwise/bagwise/terms/Truth;" (.ref (w 1)) := P.2.1
theorem pin_2 {Z : State} {h : Heap} {w : Nat → Addr} (P : Pins Z h w) : Sta Z h "com/example/bagwise/bagwise/terms/Truth" "ERROR" "Lcom/example/bagwise/bagwise/terms/Truth;" (.ref (w 2)) := P.2.2.1
theorem pin_3 {Z : State} {h : Heap} {w : Nat → Addr} (P : Pins Z h w) : Exa Z h (w 0) "com/example/bagwise/bagwise/terms/Truth" := P.2.2.2.1
theorem pin_4 {Z : State} {h : Heap} {w : Nat → Addr} (P : Pins Z h w) : Exa Z h (w 1) "com/example/bagwise/bagwise/terms/Truth" := P.2.2.2.2.1
theorem pin_5 {Z : State} {h : Heap} {w : Nat → Addr} (P : Pins Z h w) : Exa Z h (w 2) "com/example/bagwise/bagwise/terms/Truth" := P.2.2.2.2.2.1
theorem pin_6 {Z : State} {h : Heap} {w : Nat → Addr} (P : Pins Z h w) : Fld Z h (w 0) "java/lang/Enum" "ordinal" "I" (.int (0 : Int32)) := P.2.2.2.2.2.2.1
theorem pin_7 {Z : State} {h : Heap} {w : Nat → Addr} (P : Pins Z h w) : Fld Z h (w 1) "java/lang/Enum" "ordinal" "I" (.int (1 : Int32)) := P.2.2.2.2.2.2.2.1
theorem pin_8 {Z : State} {h : Heap} {w : Nat → Addr} (P : Pins Z h w) : Fld Z h (w 2) "java/lang/Enum" "ordinal" "I" (.int (2 : Int32)) := P.2.2.2.2.2.2.2.2.1
theorem pins_ext {Z : State} {h h' : Heap} {w : Nat → Addr} (E : Ext h h') (P : Pins Z h w) : Pins Z h' w :=
  ⟨(pin_0 P).ext E, (pin_1 P).ext E, (pin_2 P).ext E, (pin_3 P).ext E, (pin_4 P).ext E, (pin_5 P).ext E, (pin_6 P).ext E, (pin_7 P).ext E, (pin_8 P).ext E, trivial⟩
theorem own_mod3 (x : Int32) : ((x &&& (2147483647 : Int32)) % (3 : Int32)) = (0 : Int32) ∨ ((x &&& (2147483647 : Int32)) % (3 : Int32)) = (1 : Int32) ∨ ((x &&& (2147483647 : Int32)) % (3 : Int32)) = (2 : Int32) := by
  have e := Jvm.Kit.i32_mask x 2147483647 (k := 31) (by decide) (by decide)
  have e2 : ((x &&& 2147483647) % (3 : Int32)).toInt = (x &&& 2147483647).toInt % (3 : Int32).toInt := Jvm.Kit.i32_rem_nonneg (by rw [e]; omega)
  have e3 : (3 : Int32).toInt = 3 := by decide
  rw [e3] at e2
  generalize ((x &&& 2147483647) % (3 : Int32)) = y at *
  simp only [← Int32.toInt_inj]
  show y.toInt = 0 ∨ y.toInt = 1 ∨ y.toInt = 2
  omega
theorem d1_0 : decode method_2_code 0 = .ok (.iload_n 0, 1) := by decide +kernel
theorem d1_1 : decode method_2_code 1 = .ok (.ifCond .ne 7, 3) := by decide +kernel
theorem d1_4 : decode method_2_code 4 = .ok (.getstatic 7, 3) := by decide +kernel
theorem d1_7 : decode method_2_code 7 = .ok (.areturn, 1) := by decide +kernel
theorem pn_0 : plainName "com/example/bagwise/bagwise/terms/TruthAndPinLaw" = true := by first | (simp [plainName, overriddenIn]; done) | decide +kernel
set_option maxRecDepth 65536 in
set_option maxHeartbeats 40000000 in
theorem rm1_0 (l : Launch) (Z : State) (a0 : Array Value) (hw : ∀ d ∈ tables_1, d.before a0 Z = true) (ws : List Jvm.Cond) (w : Nat → Addr) (h0 : Heap) (n0 : Nat) (Z0 : n0 ≤ h0.size) (hP : Pins Z h0 w) :
    MetFree l (⟨"com/example/bagwise/bagwise/terms/TruthAndPinLaw", "pick", "(I)Lcom/example/bagwise/bagwise/terms/Truth;"⟩ : MethodName) (head1 (Jvm.Cond.code (⟨"com/example/bagwise/bagwise/terms/TruthAndPinLaw", "pick", "(I)Lcom/example/bagwise/bagwise/terms/Truth;"⟩ : MethodName) method_2_code 1 (some (.object "com/example/bagwise/bagwise/terms/Truth")) :: ws) ({ frames := 0, cells := 0, slots := 0, locals := 0 } : Room)) (fun a U => a = #[(.int (0 : Int32))] ∧ Z.Warmed39 U.vm ∧ U.heap = h0) (fun _ _ _ _ _ => True) (fun _ U o U' => ∃ v L, o = .returned v ∧ Qp (some (.ref (w 0))) h0 n0 v U'.heap L ∧ FrameEnd U o U' L ({ frames := 0, cells := 0, slots := 0, locals := 0 } : Room).cells ({ frames := 0, cells := 0, slots := 0, locals := 0 } : Room).slots) := by
  refine MetFree.of_bodySF (plainFor_of_name pn_0) hisR ?_
  intro p e s m args below meth c s₁ Bd hml0 hP0 hK
  obtain ⟨rfl, hZ, hh⟩ := hP0
  have hx := Bd.exec
  have hby := Bd.bytes
  have hml : c.maxLocals = 1 := hml0
  have hown : s.vm.findClass "com/example/bagwise/bagwise/terms/TruthAndPinLaw" = some m.cls := findClass_of_methodNamed Bd.named
  have hnm := (name_of_methodNamed Bd.named Bd.method).1
  have X0 : Stand p l e ({ frames := 0, cells := 0, slots := 0, locals := 0 } : Room) s m #[(.int (0 : Int32))] below meth c s₁ [] 0 0 := Stand.of_body Bd
  have e0 : s₁.heap = h0 := by rw [← hh, Bd.state]; rfl
  have N0 := Fr.nil n0
  suffices hgo : Go p e below (fun o U' => ∃ v L, o = .returned v ∧ Qp (some (.ref (w 0))) h0 n0 v U'.heap L ∧ FrameEnd s o U' L ({ frames := 0, cells := 0, slots := 0, locals := 0 } : Room).cells ({ frames := 0, cells := 0, slots := 0, locals := 0 } : Room).slots) s₁ (mkF m 0 #[.val (.int (0 : Int32))] []) by
    obtain ⟨s2, o, g1, g2, g3, g4⟩ := hgo
    refine ⟨s2, o, castTop (?_ : entryFrame m #[(.int (0 : Int32))] 1 = _) g1, g2, g3, g4⟩
    first | (simp [entryFrame, mkF, argsToLocals, Value.category]; done) | rfl
  refine Go.on (T' := s₁) (g' := (mkF m 1 #[.val (.int (0 : Int32))] [(.int (0 : Int32))])) (fun t k => XS.iloadN X0.here hx rfl (hb hby d1_0) rfl k) ?_
  refine Go.on (T' := s₁) (g' := (mkF m 4 #[.val (.int (0 : Int32))] [])) (fun t k => XS.ifNo X0.here hx rfl (hb hby d1_1) rfl ((if0 _ _).trans (teq (by decide : (0 : Int32) = (0 : Int32))).2) k) ?_
  obtain ⟨T3, X3, e3, st3⟩ := getS2 X0 hx hZ hown (host := "") (Or.inl (hw _ (List.mem_of_getElem? (i := 5) rfl))) Via.refl e0 (pin_0 hP) (g := (mkF m 4 #[.val (.int (0 : Int32))] [])) rfl (hb hby d1_4)
  refine Go.on (T' := T3) (g' := (mkF m 7 #[.val (.int (0 : Int32))] [(.ref (w 0))])) st3 ?_
  obtain ⟨fs, hr, hrun, hended, hW, hsame⟩ := X3.leave (v := some (.ref (w 0))) (fun h => by rw [Bd.returns] at h; cases h)
  exact ⟨_, _, retOut X3 hx Bd.returns rfl (Or.inr (Or.inr (Or.inr (Or.inr ⟨rfl, rfl, rfl⟩)))) (hb hby d1_7) hr, hrun, hended, _, _, rfl, ⟨rfl, N0, e3⟩, ⟨_, rfl⟩, hW, hsame.mono (by decide) (by decide)⟩
theorem pd_0 : parseMethodDescriptor "(I)Lcom/example/bagwise/bagwise/terms/Truth;" = some ⟨[.int], some (.object "com/example/bagwise/bagwise/terms/Truth")⟩ := by decide +kernel
theorem d2_0 : decode prog_175_method_7_code 0 = .ok (.aload_n 0, 1) := by decide +kernel
theorem d2_1 : decode prog_175_method_7_code 1 = .ok (.getstatic 7, 3) := by decide +kernel
theorem d2_4 : decode prog_175_method_7_code 4 = .ok (.if_acmp .eq 10, 3) := by decide +kernel
theorem d2_7 : decode prog_175_method_7_code 7 = .ok (.aload_n 1, 1) := by decide +kernel
theorem d2_8 : decode prog_175_method_7_code 8 = .ok (.getstatic 7, 3) := by decide +kernel
theorem d2_11 : decode prog_175_method_7_code 11 = .ok (.if_acmp .ne 7, 3) := by decide +kernel
theorem d2_18 : decode prog_175_method_7_code 18 = .ok (.aload_n 0, 1) := by decide +kernel
theorem d2_19 : decode prog_175_method_7_code 19 = .ok (.getstatic 10, 3) := by decide +kernel
theorem d2_22 : decode prog_175_method_7_code 22 = .ok (.if_acmp .eq 10, 3) := by decide +kernel
theorem d2_25 : decode prog_175_method_7_code 25 = .ok (.aload_n 1, 1) := by decide +kernel
theorem d2_26 : decode prog_175_method_7_code 26 = .ok (.getstatic 10, 3) := by decide +kernel
theorem d2_29 : decode prog_175_method_7_code 29 = .ok (.if_acmp .ne 9, 3) := by decide +kernel
theorem d2_38 : decode prog_175_method_7_code 38 = .ok (.getstatic 3, 3) := by decide +kernel
theorem d2_41 : decode prog_175_method_7_code 41 = .ok (.areturn, 1) := by decide +kernel
theorem pn_1 : plainName "com/example/bagwise/bagwise/terms/Truth" = true := by first | (simp [plainName, overriddenIn]; done) | decide +kernel
set_option maxRecDepth 65536 in
set_option maxHeartbeats 40000000 in
theorem rm2_0 (l : Launch) (Z : State) (a0 : Array Value) (hw : ∀ d ∈ tables_1, d.before a0 Z = true) (ws : List Jvm.Cond) (w : Nat → Addr) (h0 : Heap) (n0 : Nat) (Z0 : n0 ≤ h0.size) (hP : Pins Z h0 w) :
    MetFree l (⟨"com/example/bagwise/bagwise/terms/Truth", "and", "(Lcom/example/bagwise/bagwise/terms/Truth;)Lcom/example/bagwise/bagwise/terms/Truth;"⟩ : MethodName) (head1 (Jvm.Cond.code (⟨"com/example/bagwise/bagwise/terms/Truth", "and", "(Lcom/example/bagwise/bagwise/terms/Truth;)Lcom/example/bagwise/bagwise/terms/Truth;"⟩ : MethodName) prog_175_method_7_code 2 (some (.object "com/example/bagwise/bagwise/terms/Truth")) :: ws) ({ frames := 0, cells := 0, slots := 0, locals := 0 } : Room)) (fun a U => a = #[(.ref (w 0)), (.ref (w 0))] ∧ Z.Warmed39 U.vm ∧ U.heap = h0) (fun _ _ _ _ _ => True) (fun _ U o U' => ∃ v L, o = .returned v ∧ Qp (some (.ref (w 0))) h0 n0 v U'.heap L ∧ FrameEnd U o U' L ({ frames := 0, cells := 0, slots := 0, locals := 0 } : Room).cells ({ frames := 0, cells := 0, slots := 0, locals := 0 } : Room).slots) := by
  refine MetFree.of_bodySF (plainFor_of_name pn_1) hisR ?_
  intro p e s m args below meth c s₁ Bd hml0 hP0 hK
  obtain ⟨rfl, hZ, hh⟩ := hP0
  have hx := Bd.exec
  have hby := Bd.bytes
  have hml : c.maxLocals = 2 := hml0
  have hown : s.vm.findClass "com/example/bagwise/bagwise/terms/Truth" = some m.cls := findClass_of_methodNamed Bd.named
  have hnm := (name_of_methodNamed Bd.named Bd.method).1
  have X0 : Stand p l e ({ frames := 0, cells := 0, slots := 0, locals := 0 } : Room) s m #[(.ref (w 0)), (.ref (w 0))] below meth c s₁ [] 0 0 := Stand.of_body Bd
  have e0 : s₁.heap = h0 := by rw [← hh, Bd.state]; rfl
  have N0 := Fr.nil n0
  suffices hgo : Go p e below (fun o U' => ∃ v L, o = .returned v ∧ Qp (some (.ref (w 0))) h0 n0 v U'.heap L ∧ FrameEnd s o U' L ({ frames := 0, cells := 0, slots := 0, locals := 0 } : Room).cells ({ frames := 0, cells := 0, slots := 0, locals := 0 } : Room).slots) s₁ (mkF m 0 #[.val (.ref (w 0)), .val (.ref (w 0))] []) by
    obtain ⟨s2, o, g1, g2, g3, g4⟩ := hgo
    refine ⟨s2, o, castTop (?_ : entryFrame m #[(.ref (w 0)), (.ref (w 0))] 2 = _) g1, g2, g3, g4⟩
    first | (simp [entryFrame, mkF, argsToLocals, Value.category]; done) | rfl
  refine Go.on (T' := s₁) (g' := (mkF m 1 #[.val (.ref (w 0)), .val (.ref (w 0))] [(.ref (w 0))])) (fun t k => XS.aloadN X0.here hx rfl (hb hby d2_0) rfl rfl k) ?_
  obtain ⟨T12, X12, e12, st12⟩ := getS2 X0 hx hZ hown (host := "") (Or.inl (hw _ (List.mem_of_getElem? (i := 13) rfl))) Via.refl e0 (pin_1 hP) (g := (mkF m 1 #[.val (.ref (w 0)), .val (.ref (w 0))] [(.ref (w 0))])) rfl (hb hby d2_1)
  refine Go.on (T' := T12) (g' := (mkF m 4 #[.val (.ref (w 0)), .val (.ref (w 0))] [(.ref (w 1)), (.ref (w 0))])) st12 ?_
  refine Go.on (T' := T12) (g' := (mkF m 7 #[.val (.ref (w 0)), .val (.ref (w 0))] [])) (fun t k => Jvm.RoadKit.acmp (g := (mkF m 4 #[.val (.ref (w 0)), .val (.ref (w 0))] [(.ref (w 1)), (.ref (w 0))])) X12 hx rfl rfl rfl (pc0 := 4) (pc' := 7) (same := false) rfl (hb hby d2_4) rfl (decide_eq_false fun q => (own_ne (pin_6 hP) (pin_7 hP) (by decide)) (Value.ref.inj q)) (by decide) (by decide) k) ?_
  refine Go.on (T' := T12) (g' := (mkF m 8 #[.val (.ref (w 0)), .val (.ref (w 0))] [(.ref (w 0))])) (fun t k => XS.aloadN X12.here hx rfl (hb hby d2_7) rfl rfl k) ?_
  obtain ⟨T13, X13, e13, st13⟩ := getS2 X12 hx hZ hown (host := "") (Or.inl (hw _ (List.mem_of_getElem? (i := 13) rfl))) Via.refl e12 (pin_1 hP) (g := (mkF m 8 #[.val (.ref (w 0)), .val (.ref (w 0))] [(.ref (w 0))])) rfl (hb hby d2_8)
  refine Go.on (T' := T13) (g' := (mkF m 11 #[.val (.ref (w 0)), .val (.ref (w 0))] [(.ref (w 1)), (.ref (w 0))])) st13 ?_
  refine Go.on (T' := T13) (g' := (mkF m 18 #[.val (.ref (w 0)), .val (.ref (w 0))] [])) (fun t k => Jvm.RoadKit.acmp (g := (mkF m 11 #[.val (.ref (w 0)), .val (.ref (w 0))] [(.ref (w 1)), (.ref (w 0))])) X13 hx rfl rfl rfl (pc0 := 11) (pc' := 18) (same := false) rfl (hb hby d2_11) rfl (decide_eq_false fun q => (own_ne (pin_6 hP) (pin_7 hP) (by decide)) (Value.ref.inj q)) (by decide) (by decide) k) ?_
  refine Go.on (T' := T13) (g' := (mkF m 19 #[.val (.ref (w 0)), .val (.ref (w 0))] [(.ref (w 0))])) (fun t k => XS.aloadN X13.here hx rfl (hb hby d2_18) rfl rfl k) ?_
  obtain ⟨T14, X14, e14, st14⟩ := getS2 X13 hx hZ hown (host := "") (Or.inl (hw _ (List.mem_of_getElem? (i := 15) rfl))) Via.refl e13 (pin_2 hP) (g := (mkF m 19 #[.val (.ref (w 0)), .val (.ref (w 0))] [(.ref (w 0))])) rfl (hb hby d2_19)
  refine Go.on (T' := T14) (g' := (mkF m 22 #[.val (.ref (w 0)), .val (.ref (w 0))] [(.ref (w 2)), (.ref (w 0))])) st14 ?_
  refine Go.on (T' := T14) (g' := (mkF m 25 #[.val (.ref (w 0)), .val (.ref (w 0))] [])) (fun t k => Jvm.RoadKit.acmp (g := (mkF m 22 #[.val (.ref (w 0)), .val (.ref (w 0))] [(.ref (w 2)), (.ref (w 0))])) X14 hx rfl rfl rfl (pc0 := 22) (pc' := 25) (same := false) rfl (hb hby d2_22) rfl (decide_eq_false fun q => (own_ne (pin_6 hP) (pin_8 hP) (by decide)) (Value.ref.inj q)) (by decide) (by decide) k) ?_
  refine Go.on (T' := T14) (g' := (mkF m 26 #[.val (.ref (w 0)), .val (.ref (w 0))] [(.ref (w 0))])) (fun t k => XS.aloadN X14.here hx rfl (hb hby d2_25) rfl rfl k) ?_
  obtain ⟨T15, X15, e15, st15⟩ := getS2 X14 hx hZ hown (host := "") (Or.inl (hw _ (List.mem_of_getElem? (i := 15) rfl))) Via.refl e14 (pin_2 hP) (g := (mkF m 26 #[.val (.ref (w 0)), .val (.ref (w 0))] [(.ref (w 0))])) rfl (hb hby d2_26)
  refine Go.on (T' := T15) (g' := (mkF m 29 #[.val (.ref (w 0)), .val (.ref (w 0))] [(.ref (w 2)), (.ref (w 0))])) st15 ?_
  refine Go.on (T' := T15) (g' := (mkF m 38 #[.val (.ref (w 0)), .val (.ref (w 0))] [])) (fun t k => Jvm.RoadKit.acmp (g := (mkF m 29 #[.val (.ref (w 0)), .val (.ref (w 0))] [(.ref (w 2)), (.ref (w 0))])) X15 hx rfl rfl rfl (pc0 := 29) (pc' := 38) (same := false) rfl (hb hby d2_29) rfl (decide_eq_false fun q => (own_ne (pin_6 hP) (pin_8 hP) (by decide)) (Value.ref.inj q)) (by decide) (by decide) k) ?_
  obtain ⟨T16, X16, e16, st16⟩ := getS2 X15 hx hZ hown (host := "") (Or.inl (hw _ (List.mem_of_getElem? (i := 17) rfl))) Via.refl e15 (pin_0 hP) (g := (mkF m 38 #[.val (.ref (w 0)), .val (.ref (w 0))] [])) rfl (hb hby d2_38)
  refine Go.on (T' := T16) (g' := (mkF m 41 #[.val (.ref (w 0)), .val (.ref (w 0))] [(.ref (w 0))])) st16 ?_
  obtain ⟨fs, hr, hrun, hended, hW, hsame⟩ := X16.leave (v := some (.ref (w 0))) (fun h => by rw [Bd.returns] at h; cases h)
  exact ⟨_, _, retOut X16 hx Bd.returns rfl (Or.inr (Or.inr (Or.inr (Or.inr ⟨rfl, rfl, rfl⟩)))) (hb hby d2_41) hr, hrun, hended, _, _, rfl, ⟨rfl, N0, e16⟩, ⟨_, rfl⟩, hW, hsame.mono (by decide) (by decide)⟩
theorem pd_1 : parseMethodDescriptor "(Lcom/example/bagwise/bagwise/terms/Truth;)Lcom/example/bagwise/bagwise/terms/Truth;" = some ⟨[(.object "com/example/bagwise/bagwise/terms/Truth")], some (.object "com/example/bagwise/bagwise/terms/Truth")⟩ := by decide +kernel
theorem d3_0 : decode method_3_code 0 = .ok (.aload_n 0, 1) := by decide +kernel
theorem d3_1 : decode method_3_code 1 = .ok (.getstatic 13, 3) := by decide +kernel
theorem d3_4 : decode method_3_code 4 = .ok (.if_acmp .ne 5, 3) := by decide +kernel
theorem d3_9 : decode method_3_code 9 = .ok (.aload_n 0, 1) := by decide +kernel
theorem d3_10 : decode method_3_code 10 = .ok (.getstatic 16, 3) := by decide +kernel
theorem d3_13 : decode method_3_code 13 = .ok (.if_acmp .ne 5, 3) := by decide +kernel
theorem d3_18 : decode method_3_code 18 = .ok (.aload_n 0, 1) := by decide +kernel
theorem d3_19 : decode method_3_code 19 = .ok (.getstatic 7, 3) := by decide +kernel
theorem d3_22 : decode method_3_code 22 = .ok (.if_acmp .ne 5, 3) := by decide +kernel
theorem d3_25 : decode method_3_code 25 = .ok (.iconst 2, 1) := by decide +kernel
theorem d3_26 : decode method_3_code 26 = .ok (.ireturn, 1) := by decide +kernel
set_option maxRecDepth 65536 in
set_option maxHeartbeats 40000000 in
theorem rm3_0 (l : Launch) (Z : State) (a0 : Array Value) (hw : ∀ d ∈ tables_1, d.before a0 Z = true) (ws : List Jvm.Cond) (w : Nat → Addr) (h0 : Heap) (n0 : Nat) (Z0 : n0 ≤ h0.size) (hP : Pins Z h0 w) :
    MetFree l (⟨"com/example/bagwise/bagwise/terms/TruthAndPinLaw", "rank", "(Lcom/example/bagwise/bagwise/terms/Truth;)I"⟩ : MethodName) (head1 (Jvm.Cond.code (⟨"com/example/bagwise/bagwise/terms/TruthAndPinLaw", "rank", "(Lcom/example/bagwise/bagwise/terms/Truth;)I"⟩ : MethodName) method_3_code 1 (some .int) :: ws) ({ frames := 0, cells := 0, slots := 0, locals := 0 } : Room)) (fun a U => a = #[(.ref (w 0))] ∧ Z.Warmed39 U.vm ∧ U.heap = h0) (fun _ _ _ _ _ => True) (fun _ U o U' => ∃ v L, o = .returned v ∧ Qp (some (.int (2 : Int32))) h0 n0 v U'.heap L ∧ FrameEnd U o U' L ({ frames := 0, cells := 0, slots := 0, locals := 0 } : Room).cells ({ frames := 0, cells := 0, slots := 0, locals := 0 } : Room).slots) := by
  refine MetFree.of_bodySF (plainFor_of_name pn_0) hisR ?_
  intro p e s m args below meth c s₁ Bd hml0 hP0 hK
  obtain ⟨rfl, hZ, hh⟩ := hP0
  have hx := Bd.exec
  have hby := Bd.bytes
  have hml : c.maxLocals = 1 := hml0
  have hown : s.vm.findClass "com/example/bagwise/bagwise/terms/TruthAndPinLaw" = some m.cls := findClass_of_methodNamed Bd.named
  have hnm := (name_of_methodNamed Bd.named Bd.method).1
  have X0 : Stand p l e ({ frames := 0, cells := 0, slots := 0, locals := 0 } : Room) s m #[(.ref (w 0))] below meth c s₁ [] 0 0 := Stand.of_body Bd
  have e0 : s₁.heap = h0 := by rw [← hh, Bd.state]; rfl
  have N0 := Fr.nil n0
  suffices hgo : Go p e below (fun o U' => ∃ v L, o = .returned v ∧ Qp (some (.int (2 : Int32))) h0 n0 v U'.heap L ∧ FrameEnd s o U' L ({ frames := 0, cells := 0, slots := 0, locals := 0 } : Room).cells ({ frames := 0, cells := 0, slots := 0, locals := 0 } : Room).slots) s₁ (mkF m 0 #[.val (.ref (w 0))] []) by
    obtain ⟨s2, o, g1, g2, g3, g4⟩ := hgo
    refine ⟨s2, o, castTop (?_ : entryFrame m #[(.ref (w 0))] 1 = _) g1, g2, g3, g4⟩
    first | (simp [entryFrame, mkF, argsToLocals, Value.category]; done) | rfl
  refine Go.on (T' := s₁) (g' := (mkF m 1 #[.val (.ref (w 0))] [(.ref (w 0))])) (fun t k => XS.aloadN X0.here hx rfl (hb hby d3_0) rfl rfl k) ?_
  obtain ⟨T21, X21, e21, st21⟩ := getS2 X0 hx hZ hown (host := "") (Or.inl (hw _ (List.mem_of_getElem? (i := 21) rfl))) Via.refl e0 (pin_1 hP) (g := (mkF m 1 #[.val (.ref (w 0))] [(.ref (w 0))])) rfl (hb hby d3_1)
  refine Go.on (T' := T21) (g' := (mkF m 4 #[.val (.ref (w 0))] [(.ref (w 1)), (.ref (w 0))])) st21 ?_
  refine Go.on (T' := T21) (g' := (mkF m 9 #[.val (.ref (w 0))] [])) (fun t k => Jvm.RoadKit.acmp (g := (mkF m 4 #[.val (.ref (w 0))] [(.ref (w 1)), (.ref (w 0))])) X21 hx rfl rfl rfl (pc0 := 4) (pc' := 9) (same := false) rfl (hb hby d3_4) rfl (decide_eq_false fun q => (own_ne (pin_6 hP) (pin_7 hP) (by decide)) (Value.ref.inj q)) (by decide) (by decide) k) ?_
  refine Go.on (T' := T21) (g' := (mkF m 10 #[.val (.ref (w 0))] [(.ref (w 0))])) (fun t k => XS.aloadN X21.here hx rfl (hb hby d3_9) rfl rfl k) ?_
  obtain ⟨T22, X22, e22, st22⟩ := getS2 X21 hx hZ hown (host := "") (Or.inl (hw _ (List.mem_of_getElem? (i := 22) rfl))) Via.refl e21 (pin_2 hP) (g := (mkF m 10 #[.val (.ref (w 0))] [(.ref (w 0))])) rfl (hb hby d3_10)
  refine Go.on (T' := T22) (g' := (mkF m 13 #[.val (.ref (w 0))] [(.ref (w 2)), (.ref (w 0))])) st22 ?_
  refine Go.on (T' := T22) (g' := (mkF m 18 #[.val (.ref (w 0))] [])) (fun t k => Jvm.RoadKit.acmp (g := (mkF m 13 #[.val (.ref (w 0))] [(.ref (w 2)), (.ref (w 0))])) X22 hx rfl rfl rfl (pc0 := 13) (pc' := 18) (same := false) rfl (hb hby d3_13) rfl (decide_eq_false fun q => (own_ne (pin_6 hP) (pin_8 hP) (by decide)) (Value.ref.inj q)) (by decide) (by decide) k) ?_
  refine Go.on (T' := T22) (g' := (mkF m 19 #[.val (.ref (w 0))] [(.ref (w 0))])) (fun t k => XS.aloadN X22.here hx rfl (hb hby d3_18) rfl rfl k) ?_
  obtain ⟨T23, X23, e23, st23⟩ := getS2 X22 hx hZ hown (host := "") (Or.inl (hw _ (List.mem_of_getElem? (i := 5) rfl))) Via.refl e22 (pin_0 hP) (g := (mkF m 19 #[.val (.ref (w 0))] [(.ref (w 0))])) rfl (hb hby d3_19)
  refine Go.on (T' := T23) (g' := (mkF m 22 #[.val (.ref (w 0))] [(.ref (w 0)), (.ref (w 0))])) st23 ?_
  refine Go.on (T' := T23) (g' := (mkF m 25 #[.val (.ref (w 0))] [])) (fun t k => Jvm.RoadKit.acmp (g := (mkF m 22 #[.val (.ref (w 0))] [(.ref (w 0)), (.ref (w 0))])) X23 hx rfl rfl rfl (pc0 := 22) (pc' := 25) (same := true) rfl (hb hby d3_22) rfl (decide_eq_true rfl) (by decide) (by decide) k) ?_
  refine Go.on (T' := T23) (g' := (mkF m 26 #[.val (.ref (w 0))] [(.int (2 : Int32))])) (fun t k => XS.iconst X23.here hx rfl (hb hby d3_25) k) ?_
  obtain ⟨fs, hr, hrun, hended, hW, hsame⟩ := X23.leave (v := some (.int (2 : Int32))) (fun h => by rw [Bd.returns] at h; cases h)
  exact ⟨_, _, retOut X23 hx Bd.returns rfl (Or.inl ⟨rfl, Or.inl rfl, _, rfl⟩) (hb hby d3_26) hr, hrun, hended, _, _, rfl, ⟨rfl, N0, e23⟩, ⟨_, rfl⟩, hW, hsame.mono (by decide) (by decide)⟩
theorem pd_2 : parseMethodDescriptor "(Lcom/example/bagwise/bagwise/terms/Truth;)I" = some ⟨[(.object "com/example/bagwise/bagwise/terms/Truth")], some .int⟩ := by decide +kernel
theorem d4_0 : decode jdk_29_method_69_code 0 = .ok (.iload_n 0, 1) := by decide +kernel
theorem d4_1 : decode jdk_29_method_69_code 1 = .ok (.iload_n 1, 1) := by decide +kernel
theorem d4_2 : decode jdk_29_method_69_code 2 = .ok (.if_icmp .gt 7, 3) := by decide +kernel
theorem d4_5 : decode jdk_29_method_69_code 5 = .ok (.iload_n 0, 1) := by decide +kernel
theorem d4_6 : decode jdk_29_method_69_code 6 = .ok (.goto 4, 3) := by decide +kernel
theorem d4_10 : decode jdk_29_method_69_code 10 = .ok (.ireturn, 1) := by decide +kernel
set_option maxRecDepth 65536 in
set_option maxHeartbeats 40000000 in
theorem rm4_0 (l : Launch) (Z : State) (a0 : Array Value) (hw : ∀ d ∈ tables_1, d.before a0 Z = true) (ws : List Jvm.Cond) (w : Nat → Addr) (h0 : Heap) (n0 : Nat) (Z0 : n0 ≤ h0.size) (hP : Pins Z h0 w) :
    MetFree l (⟨"java/lang/Math", "min", "(II)I"⟩ : MethodName) (head1 (Jvm.Cond.code (⟨"java/lang/Math", "min", "(II)I"⟩ : MethodName) jdk_29_method_69_code 2 (some .int) :: ws) ({ frames := 0, cells := 0, slots := 0, locals := 0 } : Room)) (fun a U => a = #[(.int (2 : Int32)), (.int (2 : Int32))] ∧ Z.Warmed39 U.vm ∧ U.heap = h0) (fun _ _ _ _ _ => True) (fun _ U o U' => ∃ v L, o = .returned v ∧ Qp (some (.int (2 : Int32))) h0 n0 v U'.heap L ∧ FrameEnd U o U' L ({ frames := 0, cells := 0, slots := 0, locals := 0 } : Room).cells ({ frames := 0, cells := 0, slots := 0, locals := 0 } : Room).slots) := by
  refine MetFree.of_bodySF (Jvm.Free.JP.mathPlain rfl (by decide +kernel)) hisR ?_
  intro p e s m args below meth c s₁ Bd hml0 hP0 hK
  obtain ⟨rfl, hZ, hh⟩ := hP0
  have hx := Bd.exec
  have hby := Bd.bytes
  have hml : c.maxLocals = 2 := hml0
  have hown : s.vm.findClass "java/lang/Math" = some m.cls := findClass_of_methodNamed Bd.named
  have hnm := (name_of_methodNamed Bd.named Bd.method).1
  have X0 : Stand p l e ({ frames := 0, cells := 0, slots := 0, locals := 0 } : Room) s m #[(.int (2 : Int32)), (.int (2 : Int32))] below meth c s₁ [] 0 0 := Stand.of_body Bd
  have e0 : s₁.heap = h0 := by rw [← hh, Bd.state]; rfl
  have N0 := Fr.nil n0
  suffices hgo : Go p e below (fun o U' => ∃ v L, o = .returned v ∧ Qp (some (.int (2 : Int32))) h0 n0 v U'.heap L ∧ FrameEnd s o U' L ({ frames := 0, cells := 0, slots := 0, locals := 0 } : Room).cells ({ frames := 0, cells := 0, slots := 0, locals := 0 } : Room).slots) s₁ (mkF m 0 #[.val (.int (2 : Int32)), .val (.int (2 : Int32))] []) by
    obtain ⟨s2, o, g1, g2, g3, g4⟩ := hgo
    refine ⟨s2, o, castTop (?_ : entryFrame m #[(.int (2 : Int32)), (.int (2 : Int32))] 2 = _) g1, g2, g3, g4⟩
    first | (simp [entryFrame, mkF, argsToLocals, Value.category]; done) | rfl
  refine Go.on (T' := s₁) (g' := (mkF m 1 #[.val (.int (2 : Int32)), .val (.int (2 : Int32))] [(.int (2 : Int32))])) (fun t k => XS.iloadN X0.here hx rfl (hb hby d4_0) rfl k) ?_
  refine Go.on (T' := s₁) (g' := (mkF m 2 #[.val (.int (2 : Int32)), .val (.int (2 : Int32))] [(.int (2 : Int32)), (.int (2 : Int32))])) (fun t k => XS.iloadN X0.here hx rfl (hb hby d4_1) rfl k) ?_
  refine Go.on (T' := s₁) (g' := (mkF m 5 #[.val (.int (2 : Int32)), .val (.int (2 : Int32))] [])) (fun t k => XS.icmpNo X0.here hx rfl (hb hby d4_2) rfl (flt (by decide : ¬ ((2 : Int32) < (2 : Int32)))).2.2.1 k) ?_
  refine Go.on (T' := s₁) (g' := (mkF m 6 #[.val (.int (2 : Int32)), .val (.int (2 : Int32))] [(.int (2 : Int32))])) (fun t k => XS.iloadN X0.here hx rfl (hb hby d4_5) rfl k) ?_
  refine Go.on (T' := s₁) (g' := (mkF m 10 #[.val (.int (2 : Int32)), .val (.int (2 : Int32))] [(.int (2 : Int32))])) (fun t k => XS.goto X0.here hx rfl (pc0 := 6) (pc' := 10) rfl (hb hby d4_6) (by decide) (by decide) k) ?_
  obtain ⟨fs, hr, hrun, hended, hW, hsame⟩ := X0.leave (v := some (.int (2 : Int32))) (fun h => by rw [Bd.returns] at h; cases h)
  exact ⟨_, _, retOut X0 hx Bd.returns rfl (Or.inl ⟨rfl, Or.inl rfl, _, rfl⟩) (hb hby d4_10) hr, hrun, hended, _, _, rfl, ⟨rfl, N0, e0⟩, ⟨_, rfl⟩, hW, hsame.mono (by decide) (by decide)⟩
theorem pd_3 : parseMethodDescriptor "(II)I" = some ⟨[.int, .int], some .int⟩ := by decide +kernel
theorem d1_8 : decode method_2_code 8 = .ok (.iload_n 0, 1) := by decide +kernel
theorem d1_9 : decode method_2_code 9 = .ok (.iconst 1, 1) := by decide +kernel
theorem d1_10 : decode method_2_code 10 = .ok (.if_icmp .ne 7, 3) := by decide +kernel
theorem d1_13 : decode method_2_code 13 = .ok (.getstatic 13, 3) := by decide +kernel
theorem d1_16 : decode method_2_code 16 = .ok (.areturn, 1) := by decide +kernel
set_option maxRecDepth 65536 in
set_option maxHeartbeats 40000000 in
theorem rm1_1 (l : Launch) (Z : State) (a0 : Array Value) (hw : ∀ d ∈ tables_1, d.before a0 Z = true) (ws : List Jvm.Cond) (w : Nat → Addr) (h0 : Heap) (n0 : Nat) (Z0 : n0 ≤ h0.size) (hP : Pins Z h0 w) :
    MetFree l (⟨"com/example/bagwise/bagwise/terms/TruthAndPinLaw", "pick", "(I)Lcom/example/bagwise/bagwise/terms/Truth;"⟩ : MethodName) (head1 (Jvm.Cond.code (⟨"com/example/bagwise/bagwise/terms/TruthAndPinLaw", "pick", "(I)Lcom/example/bagwise/bagwise/terms/Truth;"⟩ : MethodName) method_2_code 1 (some (.object "com/example/bagwise/bagwise/terms/Truth")) :: ws) ({ frames := 0, cells := 0, slots := 0, locals := 0 } : Room)) (fun a U => a = #[(.int (1 : Int32))] ∧ Z.Warmed39 U.vm ∧ U.heap = h0) (fun _ _ _ _ _ => True) (fun _ U o U' => ∃ v L, o = .returned v ∧ Qp (some (.ref (w 1))) h0 n0 v U'.heap L ∧ FrameEnd U o U' L ({ frames := 0, cells := 0, slots := 0, locals := 0 } : Room).cells ({ frames := 0, cells := 0, slots := 0, locals := 0 } : Room).slots) := by
  refine MetFree.of_bodySF (plainFor_of_name pn_0) hisR ?_
  intro p e s m args below meth c s₁ Bd hml0 hP0 hK
  obtain ⟨rfl, hZ, hh⟩ := hP0
  have hx := Bd.exec
  have hby := Bd.bytes
  have hml : c.maxLocals = 1 := hml0
  have hown : s.vm.findClass "com/example/bagwise/bagwise/terms/TruthAndPinLaw" = some m.cls := findClass_of_methodNamed Bd.named
  have hnm := (name_of_methodNamed Bd.named Bd.method).1
  have X0 : Stand p l e ({ frames := 0, cells := 0, slots := 0, locals := 0 } : Room) s m #[(.int (1 : Int32))] below meth c s₁ [] 0 0 := Stand.of_body Bd
  have e0 : s₁.heap = h0 := by rw [← hh, Bd.state]; rfl
  have N0 := Fr.nil n0
  suffices hgo : Go p e below (fun o U' => ∃ v L, o = .returned v ∧ Qp (some (.ref (w 1))) h0 n0 v U'.heap L ∧ FrameEnd s o U' L ({ frames := 0, cells := 0, slots := 0, locals := 0 } : Room).cells ({ frames := 0, cells := 0, slots := 0, locals := 0 } : Room).slots) s₁ (mkF m 0 #[.val (.int (1 : Int32))] []) by
    obtain ⟨s2, o, g1, g2, g3, g4⟩ := hgo
    refine ⟨s2, o, castTop (?_ : entryFrame m #[(.int (1 : Int32))] 1 = _) g1, g2, g3, g4⟩
    first | (simp [entryFrame, mkF, argsToLocals, Value.category]; done) | rfl
  refine Go.on (T' := s₁) (g' := (mkF m 1 #[.val (.int (1 : Int32))] [(.int (1 : Int32))])) (fun t k => XS.iloadN X0.here hx rfl (hb hby d1_0) rfl k) ?_
  refine Go.on (T' := s₁) (g' := (mkF m 8 #[.val (.int (1 : Int32))] [])) (fun t k => XS.ifYes X0.here hx rfl (pc0 := 1) (pc' := 8) rfl (hb hby d1_1) rfl ((if0 _ _).trans (feq (by decide : ¬ ((1 : Int32) = (0 : Int32)))).2) (by decide) (by decide) k) ?_
  refine Go.on (T' := s₁) (g' := (mkF m 9 #[.val (.int (1 : Int32))] [(.int (1 : Int32))])) (fun t k => XS.iloadN X0.here hx rfl (hb hby d1_8) rfl k) ?_
  refine Go.on (T' := s₁) (g' := (mkF m 10 #[.val (.int (1 : Int32))] [(.int (1 : Int32)), (.int (1 : Int32))])) (fun t k => XS.iconst X0.here hx rfl (hb hby d1_9) k) ?_
  refine Go.on (T' := s₁) (g' := (mkF m 13 #[.val (.int (1 : Int32))] [])) (fun t k => XS.icmpNo X0.here hx rfl (hb hby d1_10) rfl (teq (by decide : (1 : Int32) = (1 : Int32))).2 k) ?_
  obtain ⟨T29, X29, e29, st29⟩ := getS2 X0 hx hZ hown (host := "") (Or.inl (hw _ (List.mem_of_getElem? (i := 21) rfl))) Via.refl e0 (pin_1 hP) (g := (mkF m 13 #[.val (.int (1 : Int32))] [])) rfl (hb hby d1_13)
  refine Go.on (T' := T29) (g' := (mkF m 16 #[.val (.int (1 : Int32))] [(.ref (w 1))])) st29 ?_
  obtain ⟨fs, hr, hrun, hended, hW, hsame⟩ := X29.leave (v := some (.ref (w 1))) (fun h => by rw [Bd.returns] at h; cases h)
  exact ⟨_, _, retOut X29 hx Bd.returns rfl (Or.inr (Or.inr (Or.inr (Or.inr ⟨rfl, rfl, rfl⟩)))) (hb hby d1_16) hr, hrun, hended, _, _, rfl, ⟨rfl, N0, e29⟩, ⟨_, rfl⟩, hW, hsame.mono (by decide) (by decide)⟩
theorem d2_14 : decode prog_175_method_7_code 14 = .ok (.getstatic 7, 3) := by decide +kernel
theorem d2_17 : decode prog_175_method_7_code 17 = .ok (.areturn, 1) := by decide +kernel
set_option maxRecDepth 65536 in
set_option maxHeartbeats 40000000 in
theorem rm2_1 (l : Launch) (Z : State) (a0 : Array Value) (hw : ∀ d ∈ tables_1, d.before a0 Z = true) (ws : List Jvm.Cond) (w : Nat → Addr) (h0 : Heap) (n0 : Nat) (Z0 : n0 ≤ h0.size) (hP : Pins Z h0 w) :
    MetFree l (⟨"com/example/bagwise/bagwise/terms/Truth", "and", "(Lcom/example/bagwise/bagwise/terms/Truth;)Lcom/example/bagwise/bagwise/terms/Truth;"⟩ : MethodName) (head1 (Jvm.Cond.code (⟨"com/example/bagwise/bagwise/terms/Truth", "and", "(Lcom/example/bagwise/bagwise/terms/Truth;)Lcom/example/bagwise/bagwise/terms/Truth;"⟩ : MethodName) prog_175_method_7_code 2 (some (.object "com/example/bagwise/bagwise/terms/Truth")) :: ws) ({ frames := 0, cells := 0, slots := 0, locals := 0 } : Room)) (fun a U => a = #[(.ref (w 0)), (.ref (w 1))] ∧ Z.Warmed39 U.vm ∧ U.heap = h0) (fun _ _ _ _ _ => True) (fun _ U o U' => ∃ v L, o = .returned v ∧ Qp (some (.ref (w 1))) h0 n0 v U'.heap L ∧ FrameEnd U o U' L ({ frames := 0, cells := 0, slots := 0, locals := 0 } : Room).cells ({ frames := 0, cells := 0, slots := 0, locals := 0 } : Room).slots) := by
  refine MetFree.of_bodySF (plainFor_of_name pn_1) hisR ?_
  intro p e s m args below meth c s₁ Bd hml0 hP0 hK
  obtain ⟨rfl, hZ, hh⟩ := hP0
  have hx := Bd.exec
  have hby := Bd.bytes
  have hml : c.maxLocals = 2 := hml0
  have hown : s.vm.findClass "com/example/bagwise/bagwise/terms/Truth" = some m.cls := findClass_of_methodNamed Bd.named
  have hnm := (name_of_methodNamed Bd.named Bd.method).1
  have X0 : Stand p l e ({ frames := 0, cells := 0, slots := 0, locals := 0 } : Room) s m #[(.ref (w 0)), (.ref (w 1))] below meth c s₁ [] 0 0 := Stand.of_body Bd
  have e0 : s₁.heap = h0 := by rw [← hh, Bd.state]; rfl
  have N0 := Fr.nil n0
  suffices hgo : Go p e below (fun o U' => ∃ v L, o = .returned v ∧ Qp (some (.ref (w 1))) h0 n0 v U'.heap L ∧ FrameEnd s o U' L ({ frames := 0, cells := 0, slots := 0, locals := 0 } : Room).cells ({ frames := 0, cells := 0, slots := 0, locals := 0 } : Room).slots) s₁ (mkF m 0 #[.val (.ref (w 0)), .val (.ref (w 1))] []) by
    obtain ⟨s2, o, g1, g2, g3, g4⟩ := hgo
    refine ⟨s2, o, castTop (?_ : entryFrame m #[(.ref (w 0)), (.ref (w 1))] 2 = _) g1, g2, g3, g4⟩
    first | (simp [entryFrame, mkF, argsToLocals, Value.category]; done) | rfl
  refine Go.on (T' := s₁) (g' := (mkF m 1 #[.val (.ref (w 0)), .val (.ref (w 1))] [(.ref (w 0))])) (fun t k => XS.aloadN X0.here hx rfl (hb hby d2_0) rfl rfl k) ?_
  obtain ⟨T34, X34, e34, st34⟩ := getS2 X0 hx hZ hown (host := "") (Or.inl (hw _ (List.mem_of_getElem? (i := 13) rfl))) Via.refl e0 (pin_1 hP) (g := (mkF m 1 #[.val (.ref (w 0)), .val (.ref (w 1))] [(.ref (w 0))])) rfl (hb hby d2_1)
  refine Go.on (T' := T34) (g' := (mkF m 4 #[.val (.ref (w 0)), .val (.ref (w 1))] [(.ref (w 1)), (.ref (w 0))])) st34 ?_
  refine Go.on (T' := T34) (g' := (mkF m 7 #[.val (.ref (w 0)), .val (.ref (w 1))] [])) (fun t k => Jvm.RoadKit.acmp (g := (mkF m 4 #[.val (.ref (w 0)), .val (.ref (w 1))] [(.ref (w 1)), (.ref (w 0))])) X34 hx rfl rfl rfl (pc0 := 4) (pc' := 7) (same := false) rfl (hb hby d2_4) rfl (decide_eq_false fun q => (own_ne (pin_6 hP) (pin_7 hP) (by decide)) (Value.ref.inj q)) (by decide) (by decide) k) ?_
  refine Go.on (T' := T34) (g' := (mkF m 8 #[.val (.ref (w 0)), .val (.ref (w 1))] [(.ref (w 1))])) (fun t k => XS.aloadN X34.here hx rfl (hb hby d2_7) rfl rfl k) ?_
  obtain ⟨T35, X35, e35, st35⟩ := getS2 X34 hx hZ hown (host := "") (Or.inl (hw _ (List.mem_of_getElem? (i := 13) rfl))) Via.refl e34 (pin_1 hP) (g := (mkF m 8 #[.val (.ref (w 0)), .val (.ref (w 1))] [(.ref (w 1))])) rfl (hb hby d2_8)
  refine Go.on (T' := T35) (g' := (mkF m 11 #[.val (.ref (w 0)), .val (.ref (w 1))] [(.ref (w 1)), (.ref (w 1))])) st35 ?_
  refine Go.on (T' := T35) (g' := (mkF m 14 #[.val (.ref (w 0)), .val (.ref (w 1))] [])) (fun t k => Jvm.RoadKit.acmp (g := (mkF m 11 #[.val (.ref (w 0)), .val (.ref (w 1))] [(.ref (w 1)), (.ref (w 1))])) X35 hx rfl rfl rfl (pc0 := 11) (pc' := 14) (same := true) rfl (hb hby d2_11) rfl (decide_eq_true rfl) (by decide) (by decide) k) ?_
  obtain ⟨T36, X36, e36, st36⟩ := getS2 X35 hx hZ hown (host := "") (Or.inl (hw _ (List.mem_of_getElem? (i := 13) rfl))) Via.refl e35 (pin_1 hP) (g := (mkF m 14 #[.val (.ref (w 0)), .val (.ref (w 1))] [])) rfl (hb hby d2_14)
  refine Go.on (T' := T36) (g' := (mkF m 17 #[.val (.ref (w 0)), .val (.ref (w 1))] [(.ref (w 1))])) st36 ?_
  obtain ⟨fs, hr, hrun, hended, hW, hsame⟩ := X36.leave (v := some (.ref (w 1))) (fun h => by rw [Bd.returns] at h; cases h)
  exact ⟨_, _, retOut X36 hx Bd.returns rfl (Or.inr (Or.inr (Or.inr (Or.inr ⟨rfl, rfl, rfl⟩)))) (hb hby d2_17) hr, hrun, hended, _, _, rfl, ⟨rfl, N0, e36⟩, ⟨_, rfl⟩, hW, hsame.mono (by decide) (by decide)⟩
theorem d3_7 : decode method_3_code 7 = .ok (.iconst 0, 1) := by decide +kernel
theorem d3_8 : decode method_3_code 8 = .ok (.ireturn, 1) := by decide +kernel
set_option maxRecDepth 65536 in
set_option maxHeartbeats 40000000 in
theorem rm3_1 (l : Launch) (Z : State) (a0 : Array Value) (hw : ∀ d ∈ tables_1, d.before a0 Z = true) (ws : List Jvm.Cond) (w : Nat → Addr) (h0 : Heap) (n0 : Nat) (Z0 : n0 ≤ h0.size) (hP : Pins Z h0 w) :
    MetFree l (⟨"com/example/bagwise/bagwise/terms/TruthAndPinLaw", "rank", "(Lcom/example/bagwise/bagwise/terms/Truth;)I"⟩ : MethodName) (head1 (Jvm.Cond.code (⟨"com/example/bagwise/bagwise/terms/TruthAndPinLaw", "rank", "(Lcom/example/bagwise/bagwise/terms/Truth;)I"⟩ : MethodName) method_3_code 1 (some .int) :: ws) ({ frames := 0, cells := 0, slots := 0, locals := 0 } : Room)) (fun a U => a = #[(.ref (w 1))] ∧ Z.Warmed39 U.vm ∧ U.heap = h0) (fun _ _ _ _ _ => True) (fun _ U o U' => ∃ v L, o = .returned v ∧ Qp (some (.int (0 : Int32))) h0 n0 v U'.heap L ∧ FrameEnd U o U' L ({ frames := 0, cells := 0, slots := 0, locals := 0 } : Room).cells ({ frames := 0, cells := 0, slots := 0, locals := 0 } : Room).slots) := by
  refine MetFree.of_bodySF (plainFor_of_name pn_0) hisR ?_
  intro p e s m args below meth c s₁ Bd hml0 hP0 hK
  obtain ⟨rfl, hZ, hh⟩ := hP0
  have hx := Bd.exec
  have hby := Bd.bytes
  have hml : c.maxLocals = 1 := hml0
  have hown : s.vm.findClass "com/example/bagwise/bagwise/terms/TruthAndPinLaw" = some m.cls := findClass_of_methodNamed Bd.named
  have hnm := (name_of_methodNamed Bd.named Bd.method).1
  have X0 : Stand p l e ({ frames := 0, cells := 0, slots := 0, locals := 0 } : Room) s m #[(.ref (w 1))] below meth c s₁ [] 0 0 := Stand.of_body Bd
  have e0 : s₁.heap = h0 := by rw [← hh, Bd.state]; rfl
  have N0 := Fr.nil n0
  suffices hgo : Go p e below (fun o U' => ∃ v L, o = .returned v ∧ Qp (some (.int (0 : Int32))) h0 n0 v U'.heap L ∧ FrameEnd s o U' L ({ frames := 0, cells := 0, slots := 0, locals := 0 } : Room).cells ({ frames := 0, cells := 0, slots := 0, locals := 0 } : Room).slots) s₁ (mkF m 0 #[.val (.ref (w 1))] []) by
    obtain ⟨s2, o, g1, g2, g3, g4⟩ := hgo
    refine ⟨s2, o, castTop (?_ : entryFrame m #[(.ref (w 1))] 1 = _) g1, g2, g3, g4⟩
    first | (simp [entryFrame, mkF, argsToLocals, Value.category]; done) | rfl
  refine Go.on (T' := s₁) (g' := (mkF m 1 #[.val (.ref (w 1))] [(.ref (w 1))])) (fun t k => XS.aloadN X0.here hx rfl (hb hby d3_0) rfl rfl k) ?_
  obtain ⟨T40, X40, e40, st40⟩ := getS2 X0 hx hZ hown (host := "") (Or.inl (hw _ (List.mem_of_getElem? (i := 21) rfl))) Via.refl e0 (pin_1 hP) (g := (mkF m 1 #[.val (.ref (w 1))] [(.ref (w 1))])) rfl (hb hby d3_1)
  refine Go.on (T' := T40) (g' := (mkF m 4 #[.val (.ref (w 1))] [(.ref (w 1)), (.ref (w 1))])) st40 ?_
  refine Go.on (T' := T40) (g' := (mkF m 7 #[.val (.ref (w 1))] [])) (fun t k => Jvm.RoadKit.acmp (g := (mkF m 4 #[.val (.ref (w 1))] [(.ref (w 1)), (.ref (w 1))])) X40 hx rfl rfl rfl (pc0 := 4) (pc' := 7) (same := true) rfl (hb hby d3_4) rfl (decide_eq_true rfl) (by decide) (by decide) k) ?_
  refine Go.on (T' := T40) (g' := (mkF m 8 #[.val (.ref (w 1))] [(.int (0 : Int32))])) (fun t k => XS.iconst X40.here hx rfl (hb hby d3_7) k) ?_
  obtain ⟨fs, hr, hrun, hended, hW, hsame⟩ := X40.leave (v := some (.int (0 : Int32))) (fun h => by rw [Bd.returns] at h; cases h)
  exact ⟨_, _, retOut X40 hx Bd.returns rfl (Or.inl ⟨rfl, Or.inl rfl, _, rfl⟩) (hb hby d3_8) hr, hrun, hended, _, _, rfl, ⟨rfl, N0, e40⟩, ⟨_, rfl⟩, hW, hsame.mono (by decide) (by decide)⟩
theorem d4_9 : decode jdk_29_method_69_code 9 = .ok (.iload_n 1, 1) := by decide +kernel
set_option maxRecDepth 65536 in
set_option maxHeartbeats 40000000 in
theorem rm4_1 (l : Launch) (Z : State) (a0 : Array Value) (hw : ∀ d ∈ tables_1, d.before a0 Z = true) (ws : List Jvm.Cond) (w : Nat → Addr) (h0 : Heap) (n0 : Nat) (Z0 : n0 ≤ h0.size) (hP : Pins Z h0 w) :
    MetFree l (⟨"java/lang/Math", "min", "(II)I"⟩ : MethodName) (head1 (Jvm.Cond.code (⟨"java/lang/Math", "min", "(II)I"⟩ : MethodName) jdk_29_method_69_code 2 (some .int) :: ws) ({ frames := 0, cells := 0, slots := 0, locals := 0 } : Room)) (fun a U => a = #[(.int (2 : Int32)), (.int (0 : Int32))] ∧ Z.Warmed39 U.vm ∧ U.heap = h0) (fun _ _ _ _ _ => True) (fun _ U o U' => ∃ v L, o = .returned v ∧ Qp (some (.int (0 : Int32))) h0 n0 v U'.heap L ∧ FrameEnd U o U' L ({ frames := 0, cells := 0, slots := 0, locals := 0 } : Room).cells ({ frames := 0, cells := 0, slots := 0, locals := 0 } : Room).slots) := by
  refine MetFree.of_bodySF (Jvm.Free.JP.mathPlain rfl (by decide +kernel)) hisR ?_
  intro p e s m args below meth c s₁ Bd hml0 hP0 hK
  obtain ⟨rfl, hZ, hh⟩ := hP0
  have hx := Bd.exec
  have hby := Bd.bytes
  have hml : c.maxLocals = 2 := hml0
  have hown : s.vm.findClass "java/lang/Math" = some m.cls := findClass_of_methodNamed Bd.named
  have hnm := (name_of_methodNamed Bd.named Bd.method).1
  have X0 : Stand p l e ({ frames := 0, cells := 0, slots := 0, locals := 0 } : Room) s m #[(.int (2 : Int32)), (.int (0 : Int32))] below meth c s₁ [] 0 0 := Stand.of_body Bd
  have e0 : s₁.heap = h0 := by rw [← hh, Bd.state]; rfl
  have N0 := Fr.nil n0
  suffices hgo : Go p e below (fun o U' => ∃ v L, o = .returned v ∧ Qp (some (.int (0 : Int32))) h0 n0 v U'.heap L ∧ FrameEnd s o U' L ({ frames := 0, cells := 0, slots := 0, locals := 0 } : Room).cells ({ frames := 0, cells := 0, slots := 0, locals := 0 } : Room).slots) s₁ (mkF m 0 #[.val (.int (2 : Int32)), .val (.int (0 : Int32))] []) by
    obtain ⟨s2, o, g1, g2, g3, g4⟩ := hgo
    refine ⟨s2, o, castTop (?_ : entryFrame m #[(.int (2 : Int32)), (.int (0 : Int32))] 2 = _) g1, g2, g3, g4⟩
    first | (simp [entryFrame, mkF, argsToLocals, Value.category]; done) | rfl
  refine Go.on (T' := s₁) (g' := (mkF m 1 #[.val (.int (2 : Int32)), .val (.int (0 : Int32))] [(.int (2 : Int32))])) (fun t k => XS.iloadN X0.here hx rfl (hb hby d4_0) rfl k) ?_
  refine Go.on (T' := s₁) (g' := (mkF m 2 #[.val (.int (2 : Int32)), .val (.int (0 : Int32))] [(.int (0 : Int32)), (.int (2 : Int32))])) (fun t k => XS.iloadN X0.here hx rfl (hb hby d4_1) rfl k) ?_
  refine Go.on (T' := s₁) (g' := (mkF m 9 #[.val (.int (2 : Int32)), .val (.int (0 : Int32))] [])) (fun t k => XS.icmpYes X0.here hx rfl (pc0 := 2) (pc' := 9) rfl (hb hby d4_2) rfl (tlt (by decide : (0 : Int32) < (2 : Int32))).2.2.1 (by decide) (by decide) k) ?_
  refine Go.on (T' := s₁) (g' := (mkF m 10 #[.val (.int (2 : Int32)), .val (.int (0 : Int32))] [(.int (0 : Int32))])) (fun t k => XS.iloadN X0.here hx rfl (hb hby d4_9) rfl k) ?_
  obtain ⟨fs, hr, hrun, hended, hW, hsame⟩ := X0.leave (v := some (.int (0 : Int32))) (fun h => by rw [Bd.returns] at h; cases h)
  exact ⟨_, _, retOut X0 hx Bd.returns rfl (Or.inl ⟨rfl, Or.inl rfl, _, rfl⟩) (hb hby d4_10) hr, hrun, hended, _, _, rfl, ⟨rfl, N0, e0⟩, ⟨_, rfl⟩, hW, hsame.mono (by decide) (by decide)⟩
theorem d1_17 : decode method_2_code 17 = .ok (.getstatic 16, 3) := by decide +kernel
theorem d1_20 : decode method_2_code 20 = .ok (.areturn, 1) := by decide +kernel
set_option maxRecDepth 65536 in
set_option maxHeartbeats 40000000 in
theorem rm1_2 (l : Launch) (Z : State) (a0 : Array Value) (hw : ∀ d ∈ tables_1, d.before a0 Z = true) (ws : List Jvm.Cond) (w : Nat → Addr) (h0 : Heap) (n0 : Nat) (Z0 : n0 ≤ h0.size) (hP : Pins Z h0 w) :
    MetFree l (⟨"com/example/bagwise/bagwise/terms/TruthAndPinLaw", "pick", "(I)Lcom/example/bagwise/bagwise/terms/Truth;"⟩ : MethodName) (head1 (Jvm.Cond.code (⟨"com/example/bagwise/bagwise/terms/TruthAndPinLaw", "pick", "(I)Lcom/example/bagwise/bagwise/terms/Truth;"⟩ : MethodName) method_2_code 1 (some (.object "com/example/bagwise/bagwise/terms/Truth")) :: ws) ({ frames := 0, cells := 0, slots := 0, locals := 0 } : Room)) (fun a U => a = #[(.int (2 : Int32))] ∧ Z.Warmed39 U.vm ∧ U.heap = h0) (fun _ _ _ _ _ => True) (fun _ U o U' => ∃ v L, o = .returned v ∧ Qp (some (.ref (w 2))) h0 n0 v U'.heap L ∧ FrameEnd U o U' L ({ frames := 0, cells := 0, slots := 0, locals := 0 } : Room).cells ({ frames := 0, cells := 0, slots := 0, locals := 0 } : Room).slots) := by
  refine MetFree.of_bodySF (plainFor_of_name pn_0) hisR ?_
  intro p e s m args below meth c s₁ Bd hml0 hP0 hK
  obtain ⟨rfl, hZ, hh⟩ := hP0
  have hx := Bd.exec
  have hby := Bd.bytes
  have hml : c.maxLocals = 1 := hml0
  have hown : s.vm.findClass "com/example/bagwise/bagwise/terms/TruthAndPinLaw" = some m.cls := findClass_of_methodNamed Bd.named
  have hnm := (name_of_methodNamed Bd.named Bd.method).1
  have X0 : Stand p l e ({ frames := 0, cells := 0, slots := 0, locals := 0 } : Room) s m #[(.int (2 : Int32))] below meth c s₁ [] 0 0 := Stand.of_body Bd
  have e0 : s₁.heap = h0 := by rw [← hh, Bd.state]; rfl
  have N0 := Fr.nil n0
  suffices hgo : Go p e below (fun o U' => ∃ v L, o = .returned v ∧ Qp (some (.ref (w 2))) h0 n0 v U'.heap L ∧ FrameEnd s o U' L ({ frames := 0, cells := 0, slots := 0, locals := 0 } : Room).cells ({ frames := 0, cells := 0, slots := 0, locals := 0 } : Room).slots) s₁ (mkF m 0 #[.val (.int (2 : Int32))] []) by
    obtain ⟨s2, o, g1, g2, g3, g4⟩ := hgo
    refine ⟨s2, o, castTop (?_ : entryFrame m #[(.int (2 : Int32))] 1 = _) g1, g2, g3, g4⟩
    first | (simp [entryFrame, mkF, argsToLocals, Value.category]; done) | rfl
  refine Go.on (T' := s₁) (g' := (mkF m 1 #[.val (.int (2 : Int32))] [(.int (2 : Int32))])) (fun t k => XS.iloadN X0.here hx rfl (hb hby d1_0) rfl k) ?_
  refine Go.on (T' := s₁) (g' := (mkF m 8 #[.val (.int (2 : Int32))] [])) (fun t k => XS.ifYes X0.here hx rfl (pc0 := 1) (pc' := 8) rfl (hb hby d1_1) rfl ((if0 _ _).trans (feq (by decide : ¬ ((2 : Int32) = (0 : Int32)))).2) (by decide) (by decide) k) ?_
  refine Go.on (T' := s₁) (g' := (mkF m 9 #[.val (.int (2 : Int32))] [(.int (2 : Int32))])) (fun t k => XS.iloadN X0.here hx rfl (hb hby d1_8) rfl k) ?_
  refine Go.on (T' := s₁) (g' := (mkF m 10 #[.val (.int (2 : Int32))] [(.int (1 : Int32)), (.int (2 : Int32))])) (fun t k => XS.iconst X0.here hx rfl (hb hby d1_9) k) ?_
  refine Go.on (T' := s₁) (g' := (mkF m 17 #[.val (.int (2 : Int32))] [])) (fun t k => XS.icmpYes X0.here hx rfl (pc0 := 10) (pc' := 17) rfl (hb hby d1_10) rfl (feq (by decide : ¬ ((2 : Int32) = (1 : Int32)))).2 (by decide) (by decide) k) ?_
  obtain ⟨T45, X45, e45, st45⟩ := getS2 X0 hx hZ hown (host := "") (Or.inl (hw _ (List.mem_of_getElem? (i := 22) rfl))) Via.refl e0 (pin_2 hP) (g := (mkF m 17 #[.val (.int (2 : Int32))] [])) rfl (hb hby d1_17)
  refine Go.on (T' := T45) (g' := (mkF m 20 #[.val (.int (2 : Int32))] [(.ref (w 2))])) st45 ?_
  obtain ⟨fs, hr, hrun, hended, hW, hsame⟩ := X45.leave (v := some (.ref (w 2))) (fun h => by rw [Bd.returns] at h; cases h)
  exact ⟨_, _, retOut X45 hx Bd.returns rfl (Or.inr (Or.inr (Or.inr (Or.inr ⟨rfl, rfl, rfl⟩)))) (hb hby d1_20) hr, hrun, hended, _, _, rfl, ⟨rfl, N0, e45⟩, ⟨_, rfl⟩, hW, hsame.mono (by decide) (by decide)⟩
theorem d2_32 : decode prog_175_method_7_code 32 = .ok (.getstatic 10, 3) := by decide +kernel
theorem d2_35 : decode prog_175_method_7_code 35 = .ok (.goto 6, 3) := by decide +kernel
set_option maxRecDepth 65536 in
set_option maxHeartbeats 40000000 in
theorem rm2_2 (l : Launch) (Z : State) (a0 : Array Value) (hw : ∀ d ∈ tables_1, d.before a0 Z = true) (ws : List Jvm.Cond) (w : Nat → Addr) (h0 : Heap) (n0 : Nat) (Z0 : n0 ≤ h0.size) (hP : Pins Z h0 w) :
    MetFree l (⟨"com/example/bagwise/bagwise/terms/Truth", "and", "(Lcom/example/bagwise/bagwise/terms/Truth;)Lcom/example/bagwise/bagwise/terms/Truth;"⟩ : MethodName) (head1 (Jvm.Cond.code (⟨"com/example/bagwise/bagwise/terms/Truth", "and", "(Lcom/example/bagwise/bagwise/terms/Truth;)Lcom/example/bagwise/bagwise/terms/Truth;"⟩ : MethodName) prog_175_method_7_code 2 (some (.object "com/example/bagwise/bagwise/terms/Truth")) :: ws) ({ frames := 0, cells := 0, slots := 0, locals := 0 } : Room)) (fun a U => a = #[(.ref (w 0)), (.ref (w 2))] ∧ Z.Warmed39 U.vm ∧ U.heap = h0) (fun _ _ _ _ _ => True) (fun _ U o U' => ∃ v L, o = .returned v ∧ Qp (some (.ref (w 2))) h0 n0 v U'.heap L ∧ FrameEnd U o U' L ({ frames := 0, cells := 0, slots := 0, locals := 0 } : Room).cells ({ frames := 0, cells := 0, slots := 0, locals := 0 } : Room).slots) := by
  refine MetFree.of_bodySF (plainFor_of_name pn_1) hisR ?_
  intro p e s m args below meth c s₁ Bd hml0 hP0 hK
  obtain ⟨rfl, hZ, hh⟩ := hP0
  have hx := Bd.exec
  have hby := Bd.bytes
  have hml : c.maxLocals = 2 := hml0
  have hown : s.vm.findClass "com/example/bagwise/bagwise/terms/Truth" = some m.cls := findClass_of_methodNamed Bd.named
  have hnm := (name_of_methodNamed Bd.named Bd.method).1
  have X0 : Stand p l e ({ frames := 0, cells := 0, slots := 0, locals := 0 } : Room) s m #[(.ref (w 0)), (.ref (w 2))] below meth c s₁ [] 0 0 := Stand.of_body Bd
  have e0 : s₁.heap = h0 := by rw [← hh, Bd.state]; rfl
  have N0 := Fr.nil n0
  suffices hgo : Go p e below (fun o U' => ∃ v L, o = .returned v ∧ Qp (some (.ref (w 2))) h0 n0 v U'.heap L ∧ FrameEnd s o U' L ({ frames := 0, cells := 0, slots := 0, locals := 0 } : Room).cells ({ frames := 0, cells := 0, slots := 0, locals := 0 } : Room).slots) s₁ (mkF m 0 #[.val (.ref (w 0)), .val (.ref (w 2))] []) by
    obtain ⟨s2, o, g1, g2, g3, g4⟩ := hgo
    refine ⟨s2, o, castTop (?_ : entryFrame m #[(.ref (w 0)), (.ref (w 2))] 2 = _) g1, g2, g3, g4⟩
    first | (simp [entryFrame, mkF, argsToLocals, Value.category]; done) | rfl
  refine Go.on (T' := s₁) (g' := (mkF m 1 #[.val (.ref (w 0)), .val (.ref (w 2))] [(.ref (w 0))])) (fun t k => XS.aloadN X0.here hx rfl (hb hby d2_0) rfl rfl k) ?_
  obtain ⟨T52, X52, e52, st52⟩ := getS2 X0 hx hZ hown (host := "") (Or.inl (hw _ (List.mem_of_getElem? (i := 13) rfl))) Via.refl e0 (pin_1 hP) (g := (mkF m 1 #[.val (.ref (w 0)), .val (.ref (w 2))] [(.ref (w 0))])) rfl (hb hby d2_1)
  refine Go.on (T' := T52) (g' := (mkF m 4 #[.val (.ref (w 0)), .val (.ref (w 2))] [(.ref (w 1)), (.ref (w 0))])) st52 ?_
  refine Go.on (T' := T52) (g' := (mkF m 7 #[.val (.ref (w 0)), .val (.ref (w 2))] [])) (fun t k => Jvm.RoadKit.acmp (g := (mkF m 4 #[.val (.ref (w 0)), .val (.ref (w 2))] [(.ref (w 1)), (.ref (w 0))])) X52 hx rfl rfl rfl (pc0 := 4) (pc' := 7) (same := false) rfl (hb hby d2_4) rfl (decide_eq_false fun q => (own_ne (pin_6 hP) (pin_7 hP) (by decide)) (Value.ref.inj q)) (by decide) (by decide) k) ?_
  refine Go.on (T' := T52) (g' := (mkF m 8 #[.val (.ref (w 0)), .val (.ref (w 2))] [(.ref (w 2))])) (fun t k => XS.aloadN X52.here hx rfl (hb hby d2_7) rfl rfl k) ?_
  obtain ⟨T53, X53, e53, st53⟩ := getS2 X52 hx hZ hown (host := "") (Or.inl (hw _ (List.mem_of_getElem? (i := 13) rfl))) Via.refl e52 (pin_1 hP) (g := (mkF m 8 #[.val (.ref (w 0)), .val (.ref (w 2))] [(.ref (w 2))])) rfl (hb hby d2_8)
  refine Go.on (T' := T53) (g' := (mkF m 11 #[.val (.ref (w 0)), .val (.ref (w 2))] [(.ref (w 1)), (.ref (w 2))])) st53 ?_
  refine Go.on (T' := T53) (g' := (mkF m 18 #[.val (.ref (w 0)), .val (.ref (w 2))] [])) (fun t k => Jvm.RoadKit.acmp (g := (mkF m 11 #[.val (.ref (w 0)), .val (.ref (w 2))] [(.ref (w 1)), (.ref (w 2))])) X53 hx rfl rfl rfl (pc0 := 11) (pc' := 18) (same := false) rfl (hb hby d2_11) rfl (decide_eq_false fun q => (own_ne (pin_8 hP) (pin_7 hP) (by decide)) (Value.ref.inj q)) (by decide) (by decide) k) ?_
  refine Go.on (T' := T53) (g' := (mkF m 19 #[.val (.ref (w 0)), .val (.ref (w 2))] [(.ref (w 0))])) (fun t k => XS.aloadN X53.here hx rfl (hb hby d2_18) rfl rfl k) ?_
  obtain ⟨T54, X54, e54, st54⟩ := getS2 X53 hx hZ hown (host := "") (Or.inl (hw _ (List.mem_of_getElem? (i := 15) rfl))) Via.refl e53 (pin_2 hP) (g := (mkF m 19 #[.val (.ref (w 0)), .val (.ref (w 2))] [(.ref (w 0))])) rfl (hb hby d2_19)
  refine Go.on (T' := T54) (g' := (mkF m 22 #[.val (.ref (w 0)), .val (.ref (w 2))] [(.ref (w 2)), (.ref (w 0))])) st54 ?_
  refine Go.on (T' := T54) (g' := (mkF m 25 #[.val (.ref (w 0)), .val (.ref (w 2))] [])) (fun t k => Jvm.RoadKit.acmp (g := (mkF m 22 #[.val (.ref (w 0)), .val (.ref (w 2))] [(.ref (w 2)), (.ref (w 0))])) X54 hx rfl rfl rfl (pc0 := 22) (pc' := 25) (same := false) rfl (hb hby d2_22) rfl (decide_eq_false fun q => (own_ne (pin_6 hP) (pin_8 hP) (by decide)) (Value.ref.inj q)) (by decide) (by decide) k) ?_
  refine Go.on (T' := T54) (g' := (mkF m 26 #[.val (.ref (w 0)), .val (.ref (w 2))] [(.ref (w 2))])) (fun t k => XS.aloadN X54.here hx rfl (hb hby d2_25) rfl rfl k) ?_
  obtain ⟨T55, X55, e55, st55⟩ := getS2 X54 hx hZ hown (host := "") (Or.inl (hw _ (List.mem_of_getElem? (i := 15) rfl))) Via.refl e54 (pin_2 hP) (g := (mkF m 26 #[.val (.ref (w 0)), .val (.ref (w 2))] [(.ref (w 2))])) rfl (hb hby d2_26)
  refine Go.on (T' := T55) (g' := (mkF m 29 #[.val (.ref (w 0)), .val (.ref (w 2))] [(.ref (w 2)), (.ref (w 2))])) st55 ?_
  refine Go.on (T' := T55) (g' := (mkF m 32 #[.val (.ref (w 0)), .val (.ref (w 2))] [])) (fun t k => Jvm.RoadKit.acmp (g := (mkF m 29 #[.val (.ref (w 0)), .val (.ref (w 2))] [(.ref (w 2)), (.ref (w 2))])) X55 hx rfl rfl rfl (pc0 := 29) (pc' := 32) (same := true) rfl (hb hby d2_29) rfl (decide_eq_true rfl) (by decide) (by decide) k) ?_
  obtain ⟨T56, X56, e56, st56⟩ := getS2 X55 hx hZ hown (host := "") (Or.inl (hw _ (List.mem_of_getElem? (i := 15) rfl))) Via.refl e55 (pin_2 hP) (g := (mkF m 32 #[.val (.ref (w 0)), .val (.ref (w 2))] [])) rfl (hb hby d2_32)
  refine Go.on (T' := T56) (g' := (mkF m 35 #[.val (.ref (w 0)), .val (.ref (w 2))] [(.ref (w 2))])) st56 ?_
  refine Go.on (T' := T56) (g' := (mkF m 41 #[.val (.ref (w 0)), .val (.ref (w 2))] [(.ref (w 2))])) (fun t k => XS.goto X56.here hx rfl (pc0 := 35) (pc' := 41) rfl (hb hby d2_35) (by decide) (by decide) k) ?_
  obtain ⟨fs, hr, hrun, hended, hW, hsame⟩ := X56.leave (v := some (.ref (w 2))) (fun h => by rw [Bd.returns] at h; cases h)
  exact ⟨_, _, retOut X56 hx Bd.returns rfl (Or.inr (Or.inr (Or.inr (Or.inr ⟨rfl, rfl, rfl⟩)))) (hb hby d2_41) hr, hrun, hended, _, _, rfl, ⟨rfl, N0, e56⟩, ⟨_, rfl⟩, hW, hsame.mono (by decide) (by decide)⟩
theorem d3_16 : decode method_3_code 16 = .ok (.iconst 1, 1) := by decide +kernel
theorem d3_17 : decode method_3_code 17 = .ok (.ireturn, 1) := by decide +kernel
set_option maxRecDepth 65536 in
set_option maxHeartbeats 40000000 in
theorem rm3_2 (l : Launch) (Z : State) (a0 : Array Value) (hw : ∀ d ∈ tables_1, d.before a0 Z = true) (ws : List Jvm.Cond) (w : Nat → Addr) (h0 : Heap) (n0 : Nat) (Z0 : n0 ≤ h0.size) (hP : Pins Z h0 w) :
    MetFree l (⟨"com/example/bagwise/bagwise/terms/TruthAndPinLaw", "rank", "(Lcom/example/bagwise/bagwise/terms/Truth;)I"⟩ : MethodName) (head1 (Jvm.Cond.code (⟨"com/example/bagwise/bagwise/terms/TruthAndPinLaw", "rank", "(Lcom/example/bagwise/bagwise/terms/Truth;)I"⟩ : MethodName) method_3_code 1 (some .int) :: ws) ({ frames := 0, cells := 0, slots := 0, locals := 0 } : Room)) (fun a U => a = #[(.ref (w 2))] ∧ Z.Warmed39 U.vm ∧ U.heap = h0) (fun _ _ _ _ _ => True) (fun _ U o U' => ∃ v L, o = .returned v ∧ Qp (some (.int (1 : Int32))) h0 n0 v U'.heap L ∧ FrameEnd U o U' L ({ frames := 0, cells := 0, slots := 0, locals := 0 } : Room).cells ({ frames := 0, cells := 0, slots := 0, locals := 0 } : Room).slots) := by
  refine MetFree.of_bodySF (plainFor_of_name pn_0) hisR ?_
  intro p e s m args below meth c s₁ Bd hml0 hP0 hK
  obtain ⟨rfl, hZ, hh⟩ := hP0
  have hx := Bd.exec
  have hby := Bd.bytes
  have hml : c.maxLocals = 1 := hml0
  have hown : s.vm.findClass "com/example/bagwise/bagwise/terms/TruthAndPinLaw" = some m.cls := findClass_of_methodNamed Bd.named
  have hnm := (name_of_methodNamed Bd.named Bd.method).1
  have X0 : Stand p l e ({ frames := 0, cells := 0, slots := 0, locals := 0 } : Room) s m #[(.ref (w 2))] below meth c s₁ [] 0 0 := Stand.of_body Bd
  have e0 : s₁.heap = h0 := by rw [← hh, Bd.state]; rfl
  have N0 := Fr.nil n0
  suffices hgo : Go p e below (fun o U' => ∃ v L, o = .returned v ∧ Qp (some (.int (1 : Int32))) h0 n0 v U'.heap L ∧ FrameEnd s o U' L ({ frames := 0, cells := 0, slots := 0, locals := 0 } : Room).cells ({ frames := 0, cells := 0, slots := 0, locals := 0 } : Room).slots) s₁ (mkF m 0 #[.val (.ref (w 2))] []) by
    obtain ⟨s2, o, g1, g2, g3, g4⟩ := hgo
    refine ⟨s2, o, castTop (?_ : entryFrame m #[(.ref (w 2))] 1 = _) g1, g2, g3, g4⟩
    first | (simp [entryFrame, mkF, argsToLocals, Value.category]; done) | rfl
  refine Go.on (T' := s₁) (g' := (mkF m 1 #[.val (.ref (w 2))] [(.ref (w 2))])) (fun t k => XS.aloadN X0.here hx rfl (hb hby d3_0) rfl rfl k) ?_
  obtain ⟨T61, X61, e61, st61⟩ := getS2 X0 hx hZ hown (host := "") (Or.inl (hw _ (List.mem_of_getElem? (i := 21) rfl))) Via.refl e0 (pin_1 hP) (g := (mkF m 1 #[.val (.ref (w 2))] [(.ref (w 2))])) rfl (hb hby d3_1)
  refine Go.on (T' := T61) (g' := (mkF m 4 #[.val (.ref (w 2))] [(.ref (w 1)), (.ref (w 2))])) st61 ?_
  refine Go.on (T' := T61) (g' := (mkF m 9 #[.val (.ref (w 2))] [])) (fun t k => Jvm.RoadKit.acmp (g := (mkF m 4 #[.val (.ref (w 2))] [(.ref (w 1)), (.ref (w 2))])) X61 hx rfl rfl rfl (pc0 := 4) (pc' := 9) (same := false) rfl (hb hby d3_4) rfl (decide_eq_false fun q => (own_ne (pin_8 hP) (pin_7 hP) (by decide)) (Value.ref.inj q)) (by decide) (by decide) k) ?_
  refine Go.on (T' := T61) (g' := (mkF m 10 #[.val (.ref (w 2))] [(.ref (w 2))])) (fun t k => XS.aloadN X61.here hx rfl (hb hby d3_9) rfl rfl k) ?_
  obtain ⟨T62, X62, e62, st62⟩ := getS2 X61 hx hZ hown (host := "") (Or.inl (hw _ (List.mem_of_getElem? (i := 22) rfl))) Via.refl e61 (pin_2 hP) (g := (mkF m 10 #[.val (.ref (w 2))] [(.ref (w 2))])) rfl (hb hby d3_10)
  refine Go.on (T' := T62) (g' := (mkF m 13 #[.val (.ref (w 2))] [(.ref (w 2)), (.ref (w 2))])) st62 ?_
  refine Go.on (T' := T62) (g' := (mkF m 16 #[.val (.ref (w 2))] [])) (fun t k => Jvm.RoadKit.acmp (g := (mkF m 13 #[.val (.ref (w 2))] [(.ref (w 2)), (.ref (w 2))])) X62 hx rfl rfl rfl (pc0 := 13) (pc' := 16) (same := true) rfl (hb hby d3_13) rfl (decide_eq_true rfl) (by decide) (by decide) k) ?_
  refine Go.on (T' := T62) (g' := (mkF m 17 #[.val (.ref (w 2))] [(.int (1 : Int32))])) (fun t k => XS.iconst X62.here hx rfl (hb hby d3_16) k) ?_
  obtain ⟨fs, hr, hrun, hended, hW, hsame⟩ := X62.leave (v := some (.int (1 : Int32))) (fun h => by rw [Bd.returns] at h; cases h)
  exact ⟨_, _, retOut X62 hx Bd.returns rfl (Or.inl ⟨rfl, Or.inl rfl, _, rfl⟩) (hb hby d3_17) hr, hrun, hended, _, _, rfl, ⟨rfl, N0, e62⟩, ⟨_, rfl⟩, hW, hsame.mono (by decide) (by decide)⟩
set_option maxRecDepth 65536 in
set_option maxHeartbeats 40000000 in
theorem rm4_2 (l : Launch) (Z : State) (a0 : Array Value) (hw : ∀ d ∈ tables_1, d.before a0 Z = true) (ws : List Jvm.Cond) (w : Nat → Addr) (h0 : Heap) (n0 : Nat) (Z0 : n0 ≤ h0.size) (hP : Pins Z h0 w) :
    MetFree l (⟨"java/lang/Math", "min", "(II)I"⟩ : MethodName) (head1 (Jvm.Cond.code (⟨"java/lang/Math", "min", "(II)I"⟩ : MethodName) jdk_29_method_69_code 2 (some .int) :: ws) ({ frames := 0, cells := 0, slots := 0, locals := 0 } : Room)) (fun a U => a = #[(.int (2 : Int32)), (.int (1 : Int32))] ∧ Z.Warmed39 U.vm ∧ U.heap = h0) (fun _ _ _ _ _ => True) (fun _ U o U' => ∃ v L, o = .returned v ∧ Qp (some (.int (1 : Int32))) h0 n0 v U'.heap L ∧ FrameEnd U o U' L ({ frames := 0, cells := 0, slots := 0, locals := 0 } : Room).cells ({ frames := 0, cells := 0, slots := 0, locals := 0 } : Room).slots) := by
  refine MetFree.of_bodySF (Jvm.Free.JP.mathPlain rfl (by decide +kernel)) hisR ?_
  intro p e s m args below meth c s₁ Bd hml0 hP0 hK
  obtain ⟨rfl, hZ, hh⟩ := hP0
  have hx := Bd.exec
  have hby := Bd.bytes
  have hml : c.maxLocals = 2 := hml0
  have hown : s.vm.findClass "java/lang/Math" = some m.cls := findClass_of_methodNamed Bd.named
  have hnm := (name_of_methodNamed Bd.named Bd.method).1
  have X0 : Stand p l e ({ frames := 0, cells := 0, slots := 0, locals := 0 } : Room) s m #[(.int (2 : Int32)), (.int (1 : Int32))] below meth c s₁ [] 0 0 := Stand.of_body Bd
  have e0 : s₁.heap = h0 := by rw [← hh, Bd.state]; rfl
  have N0 := Fr.nil n0
  suffices hgo : Go p e below (fun o U' => ∃ v L, o = .returned v ∧ Qp (some (.int (1 : Int32))) h0 n0 v U'.heap L ∧ FrameEnd s o U' L ({ frames := 0, cells := 0, slots := 0, locals := 0 } : Room).cells ({ frames := 0, cells := 0, slots := 0, locals := 0 } : Room).slots) s₁ (mkF m 0 #[.val (.int (2 : Int32)), .val (.int (1 : Int32))] []) by
    obtain ⟨s2, o, g1, g2, g3, g4⟩ := hgo
    refine ⟨s2, o, castTop (?_ : entryFrame m #[(.int (2 : Int32)), (.int (1 : Int32))] 2 = _) g1, g2, g3, g4⟩
    first | (simp [entryFrame, mkF, argsToLocals, Value.category]; done) | rfl
  refine Go.on (T' := s₁) (g' := (mkF m 1 #[.val (.int (2 : Int32)), .val (.int (1 : Int32))] [(.int (2 : Int32))])) (fun t k => XS.iloadN X0.here hx rfl (hb hby d4_0) rfl k) ?_
  refine Go.on (T' := s₁) (g' := (mkF m 2 #[.val (.int (2 : Int32)), .val (.int (1 : Int32))] [(.int (1 : Int32)), (.int (2 : Int32))])) (fun t k => XS.iloadN X0.here hx rfl (hb hby d4_1) rfl k) ?_
  refine Go.on (T' := s₁) (g' := (mkF m 9 #[.val (.int (2 : Int32)), .val (.int (1 : Int32))] [])) (fun t k => XS.icmpYes X0.here hx rfl (pc0 := 2) (pc' := 9) rfl (hb hby d4_2) rfl (tlt (by decide : (1 : Int32) < (2 : Int32))).2.2.1 (by decide) (by decide) k) ?_
  refine Go.on (T' := s₁) (g' := (mkF m 10 #[.val (.int (2 : Int32)), .val (.int (1 : Int32))] [(.int (1 : Int32))])) (fun t k => XS.iloadN X0.here hx rfl (hb hby d4_9) rfl k) ?_
  obtain ⟨fs, hr, hrun, hended, hW, hsame⟩ := X0.leave (v := some (.int (1 : Int32))) (fun h => by rw [Bd.returns] at h; cases h)
  exact ⟨_, _, retOut X0 hx Bd.returns rfl (Or.inl ⟨rfl, Or.inl rfl, _, rfl⟩) (hb hby d4_10) hr, hrun, hended, _, _, rfl, ⟨rfl, N0, e0⟩, ⟨_, rfl⟩, hW, hsame.mono (by decide) (by decide)⟩
set_option maxRecDepth 65536 in
set_option maxHeartbeats 40000000 in
theorem rm2_3 (l : Launch) (Z : State) (a0 : Array Value) (hw : ∀ d ∈ tables_1, d.before a0 Z = true) (ws : List Jvm.Cond) (w : Nat → Addr) (h0 : Heap) (n0 : Nat) (Z0 : n0 ≤ h0.size) (hP : Pins Z h0 w) :
    MetFree l (⟨"com/example/bagwise/bagwise/terms/Truth", "and", "(Lcom/example/bagwise/bagwise/terms/Truth;)Lcom/example/bagwise/bagwise/terms/Truth;"⟩ : MethodName) (head1 (Jvm.Cond.code (⟨"com/example/bagwise/bagwise/terms/Truth", "and", "(Lcom/example/bagwise/bagwise/terms/Truth;)Lcom/example/bagwise/bagwise/terms/Truth;"⟩ : MethodName) prog_175_method_7_code 2 (some (.object "com/example/bagwise/bagwise/terms/Truth")) :: ws) ({ frames := 0, cells := 0, slots := 0, locals := 0 } : Room)) (fun a U => a = #[(.ref (w 1)), (.ref (w 0))] ∧ Z.Warmed39 U.vm ∧ U.heap = h0) (fun _ _ _ _ _ => True) (fun _ U o U' => ∃ v L, o = .returned v ∧ Qp (some (.ref (w 1))) h0 n0 v U'.heap L ∧ FrameEnd U o U' L ({ frames := 0, cells := 0, slots := 0, locals := 0 } : Room).cells ({ frames := 0, cells := 0, slots := 0, locals := 0 } : Room).slots) := by
  refine MetFree.of_bodySF (plainFor_of_name pn_1) hisR ?_
  intro p e s m args below meth c s₁ Bd hml0 hP0 hK
  obtain ⟨rfl, hZ, hh⟩ := hP0
  have hx := Bd.exec
  have hby := Bd.bytes
  have hml : c.maxLocals = 2 := hml0
  have hown : s.vm.findClass "com/example/bagwise/bagwise/terms/Truth" = some m.cls := findClass_of_methodNamed Bd.named
  have hnm := (name_of_methodNamed Bd.named Bd.method).1
  have X0 : Stand p l e ({ frames := 0, cells := 0, slots := 0, locals := 0 } : Room) s m #[(.ref (w 1)), (.ref (w 0))] below meth c s₁ [] 0 0 := Stand.of_body Bd
  have e0 : s₁.heap = h0 := by rw [← hh, Bd.state]; rfl
  have N0 := Fr.nil n0
  suffices hgo : Go p e below (fun o U' => ∃ v L, o = .returned v ∧ Qp (some (.ref (w 1))) h0 n0 v U'.heap L ∧ FrameEnd s o U' L ({ frames := 0, cells := 0, slots := 0, locals := 0 } : Room).cells ({ frames := 0, cells := 0, slots := 0, locals := 0 } : Room).slots) s₁ (mkF m 0 #[.val (.ref (w 1)), .val (.ref (w 0))] []) by
    obtain ⟨s2, o, g1, g2, g3, g4⟩ := hgo
    refine ⟨s2, o, castTop (?_ : entryFrame m #[(.ref (w 1)), (.ref (w 0))] 2 = _) g1, g2, g3, g4⟩
    first | (simp [entryFrame, mkF, argsToLocals, Value.category]; done) | rfl
  refine Go.on (T' := s₁) (g' := (mkF m 1 #[.val (.ref (w 1)), .val (.ref (w 0))] [(.ref (w 1))])) (fun t k => XS.aloadN X0.here hx rfl (hb hby d2_0) rfl rfl k) ?_
  obtain ⟨T71, X71, e71, st71⟩ := getS2 X0 hx hZ hown (host := "") (Or.inl (hw _ (List.mem_of_getElem? (i := 13) rfl))) Via.refl e0 (pin_1 hP) (g := (mkF m 1 #[.val (.ref (w 1)), .val (.ref (w 0))] [(.ref (w 1))])) rfl (hb hby d2_1)
  refine Go.on (T' := T71) (g' := (mkF m 4 #[.val (.ref (w 1)), .val (.ref (w 0))] [(.ref (w 1)), (.ref (w 1))])) st71 ?_
  refine Go.on (T' := T71) (g' := (mkF m 14 #[.val (.ref (w 1)), .val (.ref (w 0))] [])) (fun t k => Jvm.RoadKit.acmp (g := (mkF m 4 #[.val (.ref (w 1)), .val (.ref (w 0))] [(.ref (w 1)), (.ref (w 1))])) X71 hx rfl rfl rfl (pc0 := 4) (pc' := 14) (same := true) rfl (hb hby d2_4) rfl (decide_eq_true rfl) (by decide) (by decide) k) ?_
  obtain ⟨T72, X72, e72, st72⟩ := getS2 X71 hx hZ hown (host := "") (Or.inl (hw _ (List.mem_of_getElem? (i := 13) rfl))) Via.refl e71 (pin_1 hP) (g := (mkF m 14 #[.val (.ref (w 1)), .val (.ref (w 0))] [])) rfl (hb hby d2_14)
  refine Go.on (T' := T72) (g' := (mkF m 17 #[.val (.ref (w 1)), .val (.ref (w 0))] [(.ref (w 1))])) st72 ?_
  obtain ⟨fs, hr, hrun, hended, hW, hsame⟩ := X72.leave (v := some (.ref (w 1))) (fun h => by rw [Bd.returns] at h; cases h)
  exact ⟨_, _, retOut X72 hx Bd.returns rfl (Or.inr (Or.inr (Or.inr (Or.inr ⟨rfl, rfl, rfl⟩)))) (hb hby d2_17) hr, hrun, hended, _, _, rfl, ⟨rfl, N0, e72⟩, ⟨_, rfl⟩, hW, hsame.mono (by decide) (by decide)⟩
set_option maxRecDepth 65536 in
set_option maxHeartbeats 40000000 in
theorem rm4_3 (l : Launch) (Z : State) (a0 : Array Value) (hw : ∀ d ∈ tables_1, d.before a0 Z = true) (ws : List Jvm.Cond) (w : Nat → Addr) (h0 : Heap) (n0 : Nat) (Z0 : n0 ≤ h0.size) (hP : Pins Z h0 w) :
    MetFree l (⟨"java/lang/Math", "min", "(II)I"⟩ : MethodName) (head1 (Jvm.Cond.code (⟨"java/lang/Math", "min", "(II)I"⟩ : MethodName) jdk_29_method_69_code 2 (some .int) :: ws) ({ frames := 0, cells := 0, slots := 0, locals := 0 } : Room)) (fun a U => a = #[(.int (0 : Int32)), (.int (2 : Int32))] ∧ Z.Warmed39 U.vm ∧ U.heap = h0) (fun _ _ _ _ _ => True) (fun _ U o U' => ∃ v L, o = .returned v ∧ Qp (some (.int (0 : Int32))) h0 n0 v U'.heap L ∧ FrameEnd U o U' L ({ frames := 0, cells := 0, slots := 0, locals := 0 } : Room).cells ({ frames := 0, cells := 0, slots := 0, locals := 0 } : Room).slots) := by
  refine MetFree.of_bodySF (Jvm.Free.JP.mathPlain rfl (by decide +kernel)) hisR ?_
  intro p e s m args below meth c s₁ Bd hml0 hP0 hK
  obtain ⟨rfl, hZ, hh⟩ := hP0
  have hx := Bd.exec
  have hby := Bd.bytes
  have hml : c.maxLocals = 2 := hml0
  have hown : s.vm.findClass "java/lang/Math" = some m.cls := findClass_of_methodNamed Bd.named
  have hnm := (name_of_methodNamed Bd.named Bd.method).1
  have X0 : Stand p l e ({ frames := 0, cells := 0, slots := 0, locals := 0 } : Room) s m #[(.int (0 : Int32)), (.int (2 : Int32))] below meth c s₁ [] 0 0 := Stand.of_body Bd
  have e0 : s₁.heap = h0 := by rw [← hh, Bd.state]; rfl
  have N0 := Fr.nil n0
  suffices hgo : Go p e below (fun o U' => ∃ v L, o = .returned v ∧ Qp (some (.int (0 : Int32))) h0 n0 v U'.heap L ∧ FrameEnd s o U' L ({ frames := 0, cells := 0, slots := 0, locals := 0 } : Room).cells ({ frames := 0, cells := 0, slots := 0, locals := 0 } : Room).slots) s₁ (mkF m 0 #[.val (.int (0 : Int32)), .val (.int (2 : Int32))] []) by
    obtain ⟨s2, o, g1, g2, g3, g4⟩ := hgo
    refine ⟨s2, o, castTop (?_ : entryFrame m #[(.int (0 : Int32)), (.int (2 : Int32))] 2 = _) g1, g2, g3, g4⟩
    first | (simp [entryFrame, mkF, argsToLocals, Value.category]; done) | rfl
  refine Go.on (T' := s₁) (g' := (mkF m 1 #[.val (.int (0 : Int32)), .val (.int (2 : Int32))] [(.int (0 : Int32))])) (fun t k => XS.iloadN X0.here hx rfl (hb hby d4_0) rfl k) ?_
  refine Go.on (T' := s₁) (g' := (mkF m 2 #[.val (.int (0 : Int32)), .val (.int (2 : Int32))] [(.int (2 : Int32)), (.int (0 : Int32))])) (fun t k => XS.iloadN X0.here hx rfl (hb hby d4_1) rfl k) ?_
  refine Go.on (T' := s₁) (g' := (mkF m 5 #[.val (.int (0 : Int32)), .val (.int (2 : Int32))] [])) (fun t k => XS.icmpNo X0.here hx rfl (hb hby d4_2) rfl (flt (by decide : ¬ ((2 : Int32) < (0 : Int32)))).2.2.1 k) ?_
  refine Go.on (T' := s₁) (g' := (mkF m 6 #[.val (.int (0 : Int32)), .val (.int (2 : Int32))] [(.int (0 : Int32))])) (fun t k => XS.iloadN X0.here hx rfl (hb hby d4_5) rfl k) ?_
  refine Go.on (T' := s₁) (g' := (mkF m 10 #[.val (.int (0 : Int32)), .val (.int (2 : Int32))] [(.int (0 : Int32))])) (fun t k => XS.goto X0.here hx rfl (pc0 := 6) (pc' := 10) rfl (hb hby d4_6) (by decide) (by decide) k) ?_
  obtain ⟨fs, hr, hrun, hended, hW, hsame⟩ := X0.leave (v := some (.int (0 : Int32))) (fun h => by rw [Bd.returns] at h; cases h)
  exact ⟨_, _, retOut X0 hx Bd.returns rfl (Or.inl ⟨rfl, Or.inl rfl, _, rfl⟩) (hb hby d4_10) hr, hrun, hended, _, _, rfl, ⟨rfl, N0, e0⟩, ⟨_, rfl⟩, hW, hsame.mono (by decide) (by decide)⟩
set_option maxRecDepth 65536 in
set_option maxHeartbeats 40000000 in
theorem rm2_4 (l : Launch) (Z : State) (a0 : Array Value) (hw : ∀ d ∈ tables_1, d.before a0 Z = true) (ws : List Jvm.Cond) (w : Nat → Addr) (h0 : Heap) (n0 : Nat) (Z0 : n0 ≤ h0.size) (hP : Pins Z h0 w) :
    MetFree l (⟨"com/example/bagwise/bagwise/terms/Truth", "and", "(Lcom/example/bagwise/bagwise/terms/Truth;)Lcom/example/bagwise/bagwise/terms/Truth;"⟩ : MethodName) (head1 (Jvm.Cond.code (⟨"com/example/bagwise/bagwise/terms/Truth", "and", "(Lcom/example/bagwise/bagwise/terms/Truth;)Lcom/example/bagwise/bagwise/terms/Truth;"⟩ : MethodName) prog_175_method_7_code 2 (some (.object "com/example/bagwise/bagwise/terms/Truth")) :: ws) ({ frames := 0, cells := 0, slots := 0, locals := 0 } : Room)) (fun a U => a = #[(.ref (w 1)), (.ref (w 1))] ∧ Z.Warmed39 U.vm ∧ U.heap = h0) (fun _ _ _ _ _ => True) (fun _ U o U' => ∃ v L, o = .returned v ∧ Qp (some (.ref (w 1))) h0 n0 v U'.heap L ∧ FrameEnd U o U' L ({ frames := 0, cells := 0, slots := 0, locals := 0 } : Room).cells ({ frames := 0, cells := 0, slots := 0, locals := 0 } : Room).slots) := by
  refine MetFree.of_bodySF (plainFor_of_name pn_1) hisR ?_
  intro p e s m args below meth c s₁ Bd hml0 hP0 hK
  obtain ⟨rfl, hZ, hh⟩ := hP0
  have hx := Bd.exec
  have hby := Bd.bytes
  have hml : c.maxLocals = 2 := hml0
  have hown : s.vm.findClass "com/example/bagwise/bagwise/terms/Truth" = some m.cls := findClass_of_methodNamed Bd.named
  have hnm := (name_of_methodNamed Bd.named Bd.method).1
  have X0 : Stand p l e ({ frames := 0, cells := 0, slots := 0, locals := 0 } : Room) s m #[(.ref (w 1)), (.ref (w 1))] below meth c s₁ [] 0 0 := Stand.of_body Bd
  have e0 : s₁.heap = h0 := by rw [← hh, Bd.state]; rfl
  have N0 := Fr.nil n0
  suffices hgo : Go p e below (fun o U' => ∃ v L, o = .returned v ∧ Qp (some (.ref (w 1))) h0 n0 v U'.heap L ∧ FrameEnd s o U' L ({ frames := 0, cells := 0, slots := 0, locals := 0 } : Room).cells ({ frames := 0, cells := 0, slots := 0, locals := 0 } : Room).slots) s₁ (mkF m 0 #[.val (.ref (w 1)), .val (.ref (w 1))] []) by
    obtain ⟨s2, o, g1, g2, g3, g4⟩ := hgo
    refine ⟨s2, o, castTop (?_ : entryFrame m #[(.ref (w 1)), (.ref (w 1))] 2 = _) g1, g2, g3, g4⟩
    first | (simp [entryFrame, mkF, argsToLocals, Value.category]; done) | rfl
  refine Go.on (T' := s₁) (g' := (mkF m 1 #[.val (.ref (w 1)), .val (.ref (w 1))] [(.ref (w 1))])) (fun t k => XS.aloadN X0.here hx rfl (hb hby d2_0) rfl rfl k) ?_
  obtain ⟨T81, X81, e81, st81⟩ := getS2 X0 hx hZ hown (host := "") (Or.inl (hw _ (List.mem_of_getElem? (i := 13) rfl))) Via.refl e0 (pin_1 hP) (g := (mkF m 1 #[.val (.ref (w 1)), .val (.ref (w 1))] [(.ref (w 1))])) rfl (hb hby d2_1)
  refine Go.on (T' := T81) (g' := (mkF m 4 #[.val (.ref (w 1)), .val (.ref (w 1))] [(.ref (w 1)), (.ref (w 1))])) st81 ?_
  refine Go.on (T' := T81) (g' := (mkF m 14 #[.val (.ref (w 1)), .val (.ref (w 1))] [])) (fun t k => Jvm.RoadKit.acmp (g := (mkF m 4 #[.val (.ref (w 1)), .val (.ref (w 1))] [(.ref (w 1)), (.ref (w 1))])) X81 hx rfl rfl rfl (pc0 := 4) (pc' := 14) (same := true) rfl (hb hby d2_4) rfl (decide_eq_true rfl) (by decide) (by decide) k) ?_
  obtain ⟨T82, X82, e82, st82⟩ := getS2 X81 hx hZ hown (host := "") (Or.inl (hw _ (List.mem_of_getElem? (i := 13) rfl))) Via.refl e81 (pin_1 hP) (g := (mkF m 14 #[.val (.ref (w 1)), .val (.ref (w 1))] [])) rfl (hb hby d2_14)
  refine Go.on (T' := T82) (g' := (mkF m 17 #[.val (.ref (w 1)), .val (.ref (w 1))] [(.ref (w 1))])) st82 ?_
  obtain ⟨fs, hr, hrun, hended, hW, hsame⟩ := X82.leave (v := some (.ref (w 1))) (fun h => by rw [Bd.returns] at h; cases h)
  exact ⟨_, _, retOut X82 hx Bd.returns rfl (Or.inr (Or.inr (Or.inr (Or.inr ⟨rfl, rfl, rfl⟩)))) (hb hby d2_17) hr, hrun, hended, _, _, rfl, ⟨rfl, N0, e82⟩, ⟨_, rfl⟩, hW, hsame.mono (by decide) (by decide)⟩
set_option maxRecDepth 65536 in
set_option maxHeartbeats 40000000 in
theorem rm4_4 (l : Launch) (Z : State) (a0 : Array Value) (hw : ∀ d ∈ tables_1, d.before a0 Z = true) (ws : List Jvm.Cond) (w : Nat → Addr) (h0 : Heap) (n0 : Nat) (Z0 : n0 ≤ h0.size) (hP : Pins Z h0 w) :
    MetFree l (⟨"java/lang/Math", "min", "(II)I"⟩ : MethodName) (head1 (Jvm.Cond.code (⟨"java/lang/Math", "min", "(II)I"⟩ : MethodName) jdk_29_method_69_code 2 (some .int) :: ws) ({ frames := 0, cells := 0, slots := 0, locals := 0 } : Room)) (fun a U => a = #[(.int (0 : Int32)), (.int (0 : Int32))] ∧ Z.Warmed39 U.vm ∧ U.heap = h0) (fun _ _ _ _ _ => True) (fun _ U o U' => ∃ v L, o = .returned v ∧ Qp (some (.int (0 : Int32))) h0 n0 v U'.heap L ∧ FrameEnd U o U' L ({ frames := 0, cells := 0, slots := 0, locals := 0 } : Room).cells ({ frames := 0, cells := 0, slots := 0, locals := 0 } : Room).slots) := by
  refine MetFree.of_bodySF (Jvm.Free.JP.mathPlain rfl (by decide +kernel)) hisR ?_
  intro p e s m args below meth c s₁ Bd hml0 hP0 hK
  obtain ⟨rfl, hZ, hh⟩ := hP0
  have hx := Bd.exec
  have hby := Bd.bytes
  have hml : c.maxLocals = 2 := hml0
  have hown : s.vm.findClass "java/lang/Math" = some m.cls := findClass_of_methodNamed Bd.named
  have hnm := (name_of_methodNamed Bd.named Bd.method).1
  have X0 : Stand p l e ({ frames := 0, cells := 0, slots := 0, locals := 0 } : Room) s m #[(.int (0 : Int32)), (.int (0 : Int32))] below meth c s₁ [] 0 0 := Stand.of_body Bd
  have e0 : s₁.heap = h0 := by rw [← hh, Bd.state]; rfl
  have N0 := Fr.nil n0
  suffices hgo : Go p e below (fun o U' => ∃ v L, o = .returned v ∧ Qp (some (.int (0 : Int32))) h0 n0 v U'.heap L ∧ FrameEnd s o U' L ({ frames := 0, cells := 0, slots := 0, locals := 0 } : Room).cells ({ frames := 0, cells := 0, slots := 0, locals := 0 } : Room).slots) s₁ (mkF m 0 #[.val (.int (0 : Int32)), .val (.int (0 : Int32))] []) by
    obtain ⟨s2, o, g1, g2, g3, g4⟩ := hgo
    refine ⟨s2, o, castTop (?_ : entryFrame m #[(.int (0 : Int32)), (.int (0 : Int32))] 2 = _) g1, g2, g3, g4⟩
    first | (simp [entryFrame, mkF, argsToLocals, Value.category]; done) | rfl
  refine Go.on (T' := s₁) (g' := (mkF m 1 #[.val (.int (0 : Int32)), .val (.int (0 : Int32))] [(.int (0 : Int32))])) (fun t k => XS.iloadN X0.here hx rfl (hb hby d4_0) rfl k) ?_
  refine Go.on (T' := s₁) (g' := (mkF m 2 #[.val (.int (0 : Int32)), .val (.int (0 : Int32))] [(.int (0 : Int32)), (.int (0 : Int32))])) (fun t k => XS.iloadN X0.here hx rfl (hb hby d4_1) rfl k) ?_
  refine Go.on (T' := s₁) (g' := (mkF m 5 #[.val (.int (0 : Int32)), .val (.int (0 : Int32))] [])) (fun t k => XS.icmpNo X0.here hx rfl (hb hby d4_2) rfl (flt (by decide : ¬ ((0 : Int32) < (0 : Int32)))).2.2.1 k) ?_
  refine Go.on (T' := s₁) (g' := (mkF m 6 #[.val (.int (0 : Int32)), .val (.int (0 : Int32))] [(.int (0 : Int32))])) (fun t k => XS.iloadN X0.here hx rfl (hb hby d4_5) rfl k) ?_
  refine Go.on (T' := s₁) (g' := (mkF m 10 #[.val (.int (0 : Int32)), .val (.int (0 : Int32))] [(.int (0 : Int32))])) (fun t k => XS.goto X0.here hx rfl (pc0 := 6) (pc' := 10) rfl (hb hby d4_6) (by decide) (by decide) k) ?_
  obtain ⟨fs, hr, hrun, hended, hW, hsame⟩ := X0.leave (v := some (.int (0 : Int32))) (fun h => by rw [Bd.returns] at h; cases h)
  exact ⟨_, _, retOut X0 hx Bd.returns rfl (Or.inl ⟨rfl, Or.inl rfl, _, rfl⟩) (hb hby d4_10) hr, hrun, hended, _, _, rfl, ⟨rfl, N0, e0⟩, ⟨_, rfl⟩, hW, hsame.mono (by decide) (by decide)⟩
set_option maxRecDepth 65536 in
set_option maxHeartbeats 40000000 in
theorem rm2_5 (l : Launch) (Z : State) (a0 : Array Value) (hw : ∀ d ∈ tables_1, d.before a0 Z = true) (ws : List Jvm.Cond) (w : Nat → Addr) (h0 : Heap) (n0 : Nat) (Z0 : n0 ≤ h0.size) (hP : Pins Z h0 w) :
    MetFree l (⟨"com/example/bagwise/bagwise/terms/Truth", "and", "(Lcom/example/bagwise/bagwise/terms/Truth;)Lcom/example/bagwise/bagwise/terms/Truth;"⟩ : MethodName) (head1 (Jvm.Cond.code (⟨"com/example/bagwise/bagwise/terms/Truth", "and", "(Lcom/example/bagwise/bagwise/terms/Truth;)Lcom/example/bagwise/bagwise/terms/Truth;"⟩ : MethodName) prog_175_method_7_code 2 (some (.object "com/example/bagwise/bagwise/terms/Truth")) :: ws) ({ frames := 0, cells := 0, slots := 0, locals := 0 } : Room)) (fun a U => a = #[(.ref (w 1)), (.ref (w 2))] ∧ Z.Warmed39 U.vm ∧ U.heap = h0) (fun _ _ _ _ _ => True) (fun _ U o U' => ∃ v L, o = .returned v ∧ Qp (some (.ref (w 1))) h0 n0 v U'.heap L ∧ FrameEnd U o U' L ({ frames := 0, cells := 0, slots := 0, locals := 0 } : Room).cells ({ frames := 0, cells := 0, slots := 0, locals := 0 } : Room).slots) := by
  refine MetFree.of_bodySF (plainFor_of_name pn_1) hisR ?_
  intro p e s m args below meth c s₁ Bd hml0 hP0 hK
  obtain ⟨rfl, hZ, hh⟩ := hP0
  have hx := Bd.exec
  have hby := Bd.bytes
  have hml : c.maxLocals = 2 := hml0
  have hown : s.vm.findClass "com/example/bagwise/bagwise/terms/Truth" = some m.cls := findClass_of_methodNamed Bd.named
  have hnm := (name_of_methodNamed Bd.named Bd.method).1
  have X0 : Stand p l e ({ frames := 0, cells := 0, slots := 0, locals := 0 } : Room) s m #[(.ref (w 1)), (.ref (w 2))] below meth c s₁ [] 0 0 := Stand.of_body Bd
  have e0 : s₁.heap = h0 := by rw [← hh, Bd.state]; rfl
  have N0 := Fr.nil n0
  suffices hgo : Go p e below (fun o U' => ∃ v L, o = .returned v ∧ Qp (some (.ref (w 1))) h0 n0 v U'.heap L ∧ FrameEnd s o U' L ({ frames := 0, cells := 0, slots := 0, locals := 0 } : Room).cells ({ frames := 0, cells := 0, slots := 0, locals := 0 } : Room).slots) s₁ (mkF m 0 #[.val (.ref (w 1)), .val (.ref (w 2))] []) by
    obtain ⟨s2, o, g1, g2, g3, g4⟩ := hgo
    refine ⟨s2, o, castTop (?_ : entryFrame m #[(.ref (w 1)), (.ref (w 2))] 2 = _) g1, g2, g3, g4⟩
    first | (simp [entryFrame, mkF, argsToLocals, Value.category]; done) | rfl
  refine Go.on (T' := s₁) (g' := (mkF m 1 #[.val (.ref (w 1)), .val (.ref (w 2))] [(.ref (w 1))])) (fun t k => XS.aloadN X0.here hx rfl (hb hby d2_0) rfl rfl k) ?_
  obtain ⟨T91, X91, e91, st91⟩ := getS2 X0 hx hZ hown (host := "") (Or.inl (hw _ (List.mem_of_getElem? (i := 13) rfl))) Via.refl e0 (pin_1 hP) (g := (mkF m 1 #[.val (.ref (w 1)), .val (.ref (w 2))] [(.ref (w 1))])) rfl (hb hby d2_1)
  refine Go.on (T' := T91) (g' := (mkF m 4 #[.val (.ref (w 1)), .val (.ref (w 2))] [(.ref (w 1)), (.ref (w 1))])) st91 ?_
  refine Go.on (T' := T91) (g' := (mkF m 14 #[.val (.ref (w 1)), .val (.ref (w 2))] [])) (fun t k => Jvm.RoadKit.acmp (g := (mkF m 4 #[.val (.ref (w 1)), .val (.ref (w 2))] [(.ref (w 1)), (.ref (w 1))])) X91 hx rfl rfl rfl (pc0 := 4) (pc' := 14) (same := true) rfl (hb hby d2_4) rfl (decide_eq_true rfl) (by decide) (by decide) k) ?_
  obtain ⟨T92, X92, e92, st92⟩ := getS2 X91 hx hZ hown (host := "") (Or.inl (hw _ (List.mem_of_getElem? (i := 13) rfl))) Via.refl e91 (pin_1 hP) (g := (mkF m 14 #[.val (.ref (w 1)), .val (.ref (w 2))] [])) rfl (hb hby d2_14)
  refine Go.on (T' := T92) (g' := (mkF m 17 #[.val (.ref (w 1)), .val (.ref (w 2))] [(.ref (w 1))])) st92 ?_
  obtain ⟨fs, hr, hrun, hended, hW, hsame⟩ := X92.leave (v := some (.ref (w 1))) (fun h => by rw [Bd.returns] at h; cases h)
  exact ⟨_, _, retOut X92 hx Bd.returns rfl (Or.inr (Or.inr (Or.inr (Or.inr ⟨rfl, rfl, rfl⟩)))) (hb hby d2_17) hr, hrun, hended, _, _, rfl, ⟨rfl, N0, e92⟩, ⟨_, rfl⟩, hW, hsame.mono (by decide) (by decide)⟩
set_option maxRecDepth 65536 in
set_option maxHeartbeats 40000000 in
theorem rm4_5 (l : Launch) (Z : State) (a0 : Array Value) (hw : ∀ d ∈ tables_1, d.before a0 Z = true) (ws : List Jvm.Cond) (w : Nat → Addr) (h0 : Heap) (n0 : Nat) (Z0 : n0 ≤ h0.size) (hP : Pins Z h0 w) :
    MetFree l (⟨"java/lang/Math", "min", "(II)I"⟩ : MethodName) (head1 (Jvm.Cond.code (⟨"java/lang/Math", "min", "(II)I"⟩ : MethodName) jdk_29_method_69_code 2 (some .int) :: ws) ({ frames := 0, cells := 0, slots := 0, locals := 0 } : Room)) (fun a U => a = #[(.int (0 : Int32)), (.int (1 : Int32))] ∧ Z.Warmed39 U.vm ∧ U.heap = h0) (fun _ _ _ _ _ => True) (fun _ U o U' => ∃ v L, o = .returned v ∧ Qp (some (.int (0 : Int32))) h0 n0 v U'.heap L ∧ FrameEnd U o U' L ({ frames := 0, cells := 0, slots := 0, locals := 0 } : Room).cells ({ frames := 0, cells := 0, slots := 0, locals := 0 } : Room).slots) := by
  refine MetFree.of_bodySF (Jvm.Free.JP.mathPlain rfl (by decide +kernel)) hisR ?_
  intro p e s m args below meth c s₁ Bd hml0 hP0 hK
  obtain ⟨rfl, hZ, hh⟩ := hP0
  have hx := Bd.exec
  have hby := Bd.bytes
  have hml : c.maxLocals = 2 := hml0
  have hown : s.vm.findClass "java/lang/Math" = some m.cls := findClass_of_methodNamed Bd.named
  have hnm := (name_of_methodNamed Bd.named Bd.method).1
  have X0 : Stand p l e ({ frames := 0, cells := 0, slots := 0, locals := 0 } : Room) s m #[(.int (0 : Int32)), (.int (1 : Int32))] below meth c s₁ [] 0 0 := Stand.of_body Bd
  have e0 : s₁.heap = h0 := by rw [← hh, Bd.state]; rfl
  have N0 := Fr.nil n0
  suffices hgo : Go p e below (fun o U' => ∃ v L, o = .returned v ∧ Qp (some (.int (0 : Int32))) h0 n0 v U'.heap L ∧ FrameEnd s o U' L ({ frames := 0, cells := 0, slots := 0, locals := 0 } : Room).cells ({ frames := 0, cells := 0, slots := 0, locals := 0 } : Room).slots) s₁ (mkF m 0 #[.val (.int (0 : Int32)), .val (.int (1 : Int32))] []) by
    obtain ⟨s2, o, g1, g2, g3, g4⟩ := hgo
    refine ⟨s2, o, castTop (?_ : entryFrame m #[(.int (0 : Int32)), (.int (1 : Int32))] 2 = _) g1, g2, g3, g4⟩
    first | (simp [entryFrame, mkF, argsToLocals, Value.category]; done) | rfl
  refine Go.on (T' := s₁) (g' := (mkF m 1 #[.val (.int (0 : Int32)), .val (.int (1 : Int32))] [(.int (0 : Int32))])) (fun t k => XS.iloadN X0.here hx rfl (hb hby d4_0) rfl k) ?_
  refine Go.on (T' := s₁) (g' := (mkF m 2 #[.val (.int (0 : Int32)), .val (.int (1 : Int32))] [(.int (1 : Int32)), (.int (0 : Int32))])) (fun t k => XS.iloadN X0.here hx rfl (hb hby d4_1) rfl k) ?_
  refine Go.on (T' := s₁) (g' := (mkF m 5 #[.val (.int (0 : Int32)), .val (.int (1 : Int32))] [])) (fun t k => XS.icmpNo X0.here hx rfl (hb hby d4_2) rfl (flt (by decide : ¬ ((1 : Int32) < (0 : Int32)))).2.2.1 k) ?_
  refine Go.on (T' := s₁) (g' := (mkF m 6 #[.val (.int (0 : Int32)), .val (.int (1 : Int32))] [(.int (0 : Int32))])) (fun t k => XS.iloadN X0.here hx rfl (hb hby d4_5) rfl k) ?_
  refine Go.on (T' := s₁) (g' := (mkF m 10 #[.val (.int (0 : Int32)), .val (.int (1 : Int32))] [(.int (0 : Int32))])) (fun t k => XS.goto X0.here hx rfl (pc0 := 6) (pc' := 10) rfl (hb hby d4_6) (by decide) (by decide) k) ?_
  obtain ⟨fs, hr, hrun, hended, hW, hsame⟩ := X0.leave (v := some (.int (0 : Int32))) (fun h => by rw [Bd.returns] at h; cases h)
  exact ⟨_, _, retOut X0 hx Bd.returns rfl (Or.inl ⟨rfl, Or.inl rfl, _, rfl⟩) (hb hby d4_10) hr, hrun, hended, _, _, rfl, ⟨rfl, N0, e0⟩, ⟨_, rfl⟩, hW, hsame.mono (by decide) (by decide)⟩
set_option maxRecDepth 65536 in
set_option maxHeartbeats 40000000 in
theorem rm2_6 (l : Launch) (Z : State) (a0 : Array Value) (hw : ∀ d ∈ tables_1, d.before a0 Z = true) (ws : List Jvm.Cond) (w : Nat → Addr) (h0 : Heap) (n0 : Nat) (Z0 : n0 ≤ h0.size) (hP : Pins Z h0 w) :
    MetFree l (⟨"com/example/bagwise/bagwise/terms/Truth", "and", "(Lcom/example/bagwise/bagwise/terms/Truth;)Lcom/example/bagwise/bagwise/terms/Truth;"⟩ : MethodName) (head1 (Jvm.Cond.code (⟨"com/example/bagwise/bagwise/terms/Truth", "and", "(Lcom/example/bagwise/bagwise/terms/Truth;)Lcom/example/bagwise/bagwise/terms/Truth;"⟩ : MethodName) prog_175_method_7_code 2 (some (.object "com/example/bagwise/bagwise/terms/Truth")) :: ws) ({ frames := 0, cells := 0, slots := 0, locals := 0 } : Room)) (fun a U => a = #[(.ref (w 2)), (.ref (w 0))] ∧ Z.Warmed39 U.vm ∧ U.heap = h0) (fun _ _ _ _ _ => True) (fun _ U o U' => ∃ v L, o = .returned v ∧ Qp (some (.ref (w 2))) h0 n0 v U'.heap L ∧ FrameEnd U o U' L ({ frames := 0, cells := 0, slots := 0, locals := 0 } : Room).cells ({ frames := 0, cells := 0, slots := 0, locals := 0 } : Room).slots) := by
  refine MetFree.of_bodySF (plainFor_of_name pn_1) hisR ?_
  intro p e s m args below meth c s₁ Bd hml0 hP0 hK
  obtain ⟨rfl, hZ, hh⟩ := hP0
  have hx := Bd.exec
  have hby := Bd.bytes
  have hml : c.maxLocals = 2 := hml0
  have hown : s.vm.findClass "com/example/bagwise/bagwise/terms/Truth" = some m.cls := findClass_of_methodNamed Bd.named
  have hnm := (name_of_methodNamed Bd.named Bd.method).1
  have X0 : Stand p l e ({ frames := 0, cells := 0, slots := 0, locals := 0 } : Room) s m #[(.ref (w 2)), (.ref (w 0))] below meth c s₁ [] 0 0 := Stand.of_body Bd
  have e0 : s₁.heap = h0 := by rw [← hh, Bd.state]; rfl
  have N0 := Fr.nil n0
  suffices hgo : Go p e below (fun o U' => ∃ v L, o = .returned v ∧ Qp (some (.ref (w 2))) h0 n0 v U'.heap L ∧ FrameEnd s o U' L ({ frames := 0, cells := 0, slots := 0, locals := 0 } : Room).cells ({ frames := 0, cells := 0, slots := 0, locals := 0 } : Room).slots) s₁ (mkF m 0 #[.val (.ref (w 2)), .val (.ref (w 0))] []) by
    obtain ⟨s2, o, g1, g2, g3, g4⟩ := hgo
    refine ⟨s2, o, castTop (?_ : entryFrame m #[(.ref (w 2)), (.ref (w 0))] 2 = _) g1, g2, g3, g4⟩
    first | (simp [entryFrame, mkF, argsToLocals, Value.category]; done) | rfl
  refine Go.on (T' := s₁) (g' := (mkF m 1 #[.val (.ref (w 2)), .val (.ref (w 0))] [(.ref (w 2))])) (fun t k => XS.aloadN X0.here hx rfl (hb hby d2_0) rfl rfl k) ?_
  obtain ⟨T105, X105, e105, st105⟩ := getS2 X0 hx hZ hown (host := "") (Or.inl (hw _ (List.mem_of_getElem? (i := 13) rfl))) Via.refl e0 (pin_1 hP) (g := (mkF m 1 #[.val (.ref (w 2)), .val (.ref (w 0))] [(.ref (w 2))])) rfl (hb hby d2_1)
  refine Go.on (T' := T105) (g' := (mkF m 4 #[.val (.ref (w 2)), .val (.ref (w 0))] [(.ref (w 1)), (.ref (w 2))])) st105 ?_
  refine Go.on (T' := T105) (g' := (mkF m 7 #[.val (.ref (w 2)), .val (.ref (w 0))] [])) (fun t k => Jvm.RoadKit.acmp (g := (mkF m 4 #[.val (.ref (w 2)), .val (.ref (w 0))] [(.ref (w 1)), (.ref (w 2))])) X105 hx rfl rfl rfl (pc0 := 4) (pc' := 7) (same := false) rfl (hb hby d2_4) rfl (decide_eq_false fun q => (own_ne (pin_8 hP) (pin_7 hP) (by decide)) (Value.ref.inj q)) (by decide) (by decide) k) ?_
  refine Go.on (T' := T105) (g' := (mkF m 8 #[.val (.ref (w 2)), .val (.ref (w 0))] [(.ref (w 0))])) (fun t k => XS.aloadN X105.here hx rfl (hb hby d2_7) rfl rfl k) ?_
  obtain ⟨T106, X106, e106, st106⟩ := getS2 X105 hx hZ hown (host := "") (Or.inl (hw _ (List.mem_of_getElem? (i := 13) rfl))) Via.refl e105 (pin_1 hP) (g := (mkF m 8 #[.val (.ref (w 2)), .val (.ref (w 0))] [(.ref (w 0))])) rfl (hb hby d2_8)
  refine Go.on (T' := T106) (g' := (mkF m 11 #[.val (.ref (w 2)), .val (.ref (w 0))] [(.ref (w 1)), (.ref (w 0))])) st106 ?_
  refine Go.on (T' := T106) (g' := (mkF m 18 #[.val (.ref (w 2)), .val (.ref (w 0))] [])) (fun t k => Jvm.RoadKit.acmp (g := (mkF m 11 #[.val (.ref (w 2)), .val (.ref (w 0))] [(.ref (w 1)), (.ref (w 0))])) X106 hx rfl rfl rfl (pc0 := 11) (pc' := 18) (same := false) rfl (hb hby d2_11) rfl (decide_eq_false fun q => (own_ne (pin_6 hP) (pin_7 hP) (by decide)) (Value.ref.inj q)) (by decide) (by decide) k) ?_
  refine Go.on (T' := T106) (g' := (mkF m 19 #[.val (.ref (w 2)), .val (.ref (w 0))] [(.ref (w 2))])) (fun t k => XS.aloadN X106.here hx rfl (hb hby d2_18) rfl rfl k) ?_
  obtain ⟨T107, X107, e107, st107⟩ := getS2 X106 hx hZ hown (host := "") (Or.inl (hw _ (List.mem_of_getElem? (i := 15) rfl))) Via.refl e106 (pin_2 hP) (g := (mkF m 19 #[.val (.ref (w 2)), .val (.ref (w 0))] [(.ref (w 2))])) rfl (hb hby d2_19)
  refine Go.on (T' := T107) (g' := (mkF m 22 #[.val (.ref (w 2)), .val (.ref (w 0))] [(.ref (w 2)), (.ref (w 2))])) st107 ?_
  refine Go.on (T' := T107) (g' := (mkF m 32 #[.val (.ref (w 2)), .val (.ref (w 0))] [])) (fun t k => Jvm.RoadKit.acmp (g := (mkF m 22 #[.val (.ref (w 2)), .val (.ref (w 0))] [(.ref (w 2)), (.ref (w 2))])) X107 hx rfl rfl rfl (pc0 := 22) (pc' := 32) (same := true) rfl (hb hby d2_22) rfl (decide_eq_true rfl) (by decide) (by decide) k) ?_
  obtain ⟨T108, X108, e108, st108⟩ := getS2 X107 hx hZ hown (host := "") (Or.inl (hw _ (List.mem_of_getElem? (i := 15) rfl))) Via.refl e107 (pin_2 hP) (g := (mkF m 32 #[.val (.ref (w 2)), .val (.ref (w 0))] [])) rfl (hb hby d2_32)
  refine Go.on (T' := T108) (g' := (mkF m 35 #[.val (.ref (w 2)), .val (.ref (w 0))] [(.ref (w 2))])) st108 ?_
  refine Go.on (T' := T108) (g' := (mkF m 41 #[.val (.ref (w 2)), .val (.ref (w 0))] [(.ref (w 2))])) (fun t k => XS.goto X108.here hx rfl (pc0 := 35) (pc' := 41) rfl (hb hby d2_35) (by decide) (by decide) k) ?_
  obtain ⟨fs, hr, hrun, hended, hW, hsame⟩ := X108.leave (v := some (.ref (w 2))) (fun h => by rw [Bd.returns] at h; cases h)
  exact ⟨_, _, retOut X108 hx Bd.returns rfl (Or.inr (Or.inr (Or.inr (Or.inr ⟨rfl, rfl, rfl⟩)))) (hb hby d2_41) hr, hrun, hended, _, _, rfl, ⟨rfl, N0, e108⟩, ⟨_, rfl⟩, hW, hsame.mono (by decide) (by decide)⟩
set_option maxRecDepth 65536 in
set_option maxHeartbeats 40000000 in
theorem rm4_6 (l : Launch) (Z : State) (a0 : Array Value) (hw : ∀ d ∈ tables_1, d.before a0 Z = true) (ws : List Jvm.Cond) (w : Nat → Addr) (h0 : Heap) (n0 : Nat) (Z0 : n0 ≤ h0.size) (hP : Pins Z h0 w) :
    MetFree l (⟨"java/lang/Math", "min", "(II)I"⟩ : MethodName) (head1 (Jvm.Cond.code (⟨"java/lang/Math", "min", "(II)I"⟩ : MethodName) jdk_29_method_69_code 2 (some .int) :: ws) ({ frames := 0, cells := 0, slots := 0, locals := 0 } : Room)) (fun a U => a = #[(.int (1 : Int32)), (.int (2 : Int32))] ∧ Z.Warmed39 U.vm ∧ U.heap = h0) (fun _ _ _ _ _ => True) (fun _ U o U' => ∃ v L, o = .returned v ∧ Qp (some (.int (1 : Int32))) h0 n0 v U'.heap L ∧ FrameEnd U o U' L ({ frames := 0, cells := 0, slots := 0, locals := 0 } : Room).cells ({ frames := 0, cells := 0, slots := 0, locals := 0 } : Room).slots) := by
  refine MetFree.of_bodySF (Jvm.Free.JP.mathPlain rfl (by decide +kernel)) hisR ?_
  intro p e s m args below meth c s₁ Bd hml0 hP0 hK
  obtain ⟨rfl, hZ, hh⟩ := hP0
  have hx := Bd.exec
  have hby := Bd.bytes
  have hml : c.maxLocals = 2 := hml0
  have hown : s.vm.findClass "java/lang/Math" = some m.cls := findClass_of_methodNamed Bd.named
  have hnm := (name_of_methodNamed Bd.named Bd.method).1
  have X0 : Stand p l e ({ frames := 0, cells := 0, slots := 0, locals := 0 } : Room) s m #[(.int (1 : Int32)), (.int (2 : Int32))] below meth c s₁ [] 0 0 := Stand.of_body Bd
  have e0 : s₁.heap = h0 := by rw [← hh, Bd.state]; rfl
  have N0 := Fr.nil n0
  suffices hgo : Go p e below (fun o U' => ∃ v L, o = .returned v ∧ Qp (some (.int (1 : Int32))) h0 n0 v U'.heap L ∧ FrameEnd s o U' L ({ frames := 0, cells := 0, slots := 0, locals := 0 } : Room).cells ({ frames := 0, cells := 0, slots := 0, locals := 0 } : Room).slots) s₁ (mkF m 0 #[.val (.int (1 : Int32)), .val (.int (2 : Int32))] []) by
    obtain ⟨s2, o, g1, g2, g3, g4⟩ := hgo
    refine ⟨s2, o, castTop (?_ : entryFrame m #[(.int (1 : Int32)), (.int (2 : Int32))] 2 = _) g1, g2, g3, g4⟩
    first | (simp [entryFrame, mkF, argsToLocals, Value.category]; done) | rfl
  refine Go.on (T' := s₁) (g' := (mkF m 1 #[.val (.int (1 : Int32)), .val (.int (2 : Int32))] [(.int (1 : Int32))])) (fun t k => XS.iloadN X0.here hx rfl (hb hby d4_0) rfl k) ?_
  refine Go.on (T' := s₁) (g' := (mkF m 2 #[.val (.int (1 : Int32)), .val (.int (2 : Int32))] [(.int (2 : Int32)), (.int (1 : Int32))])) (fun t k => XS.iloadN X0.here hx rfl (hb hby d4_1) rfl k) ?_
  refine Go.on (T' := s₁) (g' := (mkF m 5 #[.val (.int (1 : Int32)), .val (.int (2 : Int32))] [])) (fun t k => XS.icmpNo X0.here hx rfl (hb hby d4_2) rfl (flt (by decide : ¬ ((2 : Int32) < (1 : Int32)))).2.2.1 k) ?_
  refine Go.on (T' := s₁) (g' := (mkF m 6 #[.val (.int (1 : Int32)), .val (.int (2 : Int32))] [(.int (1 : Int32))])) (fun t k => XS.iloadN X0.here hx rfl (hb hby d4_5) rfl k) ?_
  refine Go.on (T' := s₁) (g' := (mkF m 10 #[.val (.int (1 : Int32)), .val (.int (2 : Int32))] [(.int (1 : Int32))])) (fun t k => XS.goto X0.here hx rfl (pc0 := 6) (pc' := 10) rfl (hb hby d4_6) (by decide) (by decide) k) ?_
  obtain ⟨fs, hr, hrun, hended, hW, hsame⟩ := X0.leave (v := some (.int (1 : Int32))) (fun h => by rw [Bd.returns] at h; cases h)
  exact ⟨_, _, retOut X0 hx Bd.returns rfl (Or.inl ⟨rfl, Or.inl rfl, _, rfl⟩) (hb hby d4_10) hr, hrun, hended, _, _, rfl, ⟨rfl, N0, e0⟩, ⟨_, rfl⟩, hW, hsame.mono (by decide) (by decide)⟩
set_option maxRecDepth 65536 in
set_option maxHeartbeats 40000000 in
theorem rm2_7 (l : Launch) (Z : State) (a0 : Array Value) (hw : ∀ d ∈ tables_1, d.before a0 Z = true) (ws : List Jvm.Cond) (w : Nat → Addr) (h0 : Heap) (n0 : Nat) (Z0 : n0 ≤ h0.size) (hP : Pins Z h0 w) :
    MetFree l (⟨"com/example/bagwise/bagwise/terms/Truth", "and", "(Lcom/example/bagwise/bagwise/terms/Truth;)Lcom/example/bagwise/bagwise/terms/Truth;"⟩ : MethodName) (head1 (Jvm.Cond.code (⟨"com/example/bagwise/bagwise/terms/Truth", "and", "(Lcom/example/bagwise/bagwise/terms/Truth;)Lcom/example/bagwise/bagwise/terms/Truth;"⟩ : MethodName) prog_175_method_7_code 2 (some (.object "com/example/bagwise/bagwise/terms/Truth")) :: ws) ({ frames := 0, cells := 0, slots := 0, locals := 0 } : Room)) (fun a U => a = #[(.ref (w 2)), (.ref (w 1))] ∧ Z.Warmed39 U.vm ∧ U.heap = h0) (fun _ _ _ _ _ => True) (fun _ U o U' => ∃ v L, o = .returned v ∧ Qp (some (.ref (w 1))) h0 n0 v U'.heap L ∧ FrameEnd U o U' L ({ frames := 0, cells := 0, slots := 0, locals := 0 } : Room).cells ({ frames := 0, cells := 0, slots := 0, locals := 0 } : Room).slots) := by
  refine MetFree.of_bodySF (plainFor_of_name pn_1) hisR ?_
  intro p e s m args below meth c s₁ Bd hml0 hP0 hK
  obtain ⟨rfl, hZ, hh⟩ := hP0
  have hx := Bd.exec
  have hby := Bd.bytes
  have hml : c.maxLocals = 2 := hml0
  have hown : s.vm.findClass "com/example/bagwise/bagwise/terms/Truth" = some m.cls := findClass_of_methodNamed Bd.named
  have hnm := (name_of_methodNamed Bd.named Bd.method).1
  have X0 : Stand p l e ({ frames := 0, cells := 0, slots := 0, locals := 0 } : Room) s m #[(.ref (w 2)), (.ref (w 1))] below meth c s₁ [] 0 0 := Stand.of_body Bd
  have e0 : s₁.heap = h0 := by rw [← hh, Bd.state]; rfl
  have N0 := Fr.nil n0
  suffices hgo : Go p e below (fun o U' => ∃ v L, o = .returned v ∧ Qp (some (.ref (w 1))) h0 n0 v U'.heap L ∧ FrameEnd s o U' L ({ frames := 0, cells := 0, slots := 0, locals := 0 } : Room).cells ({ frames := 0, cells := 0, slots := 0, locals := 0 } : Room).slots) s₁ (mkF m 0 #[.val (.ref (w 2)), .val (.ref (w 1))] []) by
    obtain ⟨s2, o, g1, g2, g3, g4⟩ := hgo
    refine ⟨s2, o, castTop (?_ : entryFrame m #[(.ref (w 2)), (.ref (w 1))] 2 = _) g1, g2, g3, g4⟩
    first | (simp [entryFrame, mkF, argsToLocals, Value.category]; done) | rfl
  refine Go.on (T' := s₁) (g' := (mkF m 1 #[.val (.ref (w 2)), .val (.ref (w 1))] [(.ref (w 2))])) (fun t k => XS.aloadN X0.here hx rfl (hb hby d2_0) rfl rfl k) ?_
  obtain ⟨T118, X118, e118, st118⟩ := getS2 X0 hx hZ hown (host := "") (Or.inl (hw _ (List.mem_of_getElem? (i := 13) rfl))) Via.refl e0 (pin_1 hP) (g := (mkF m 1 #[.val (.ref (w 2)), .val (.ref (w 1))] [(.ref (w 2))])) rfl (hb hby d2_1)
  refine Go.on (T' := T118) (g' := (mkF m 4 #[.val (.ref (w 2)), .val (.ref (w 1))] [(.ref (w 1)), (.ref (w 2))])) st118 ?_
  refine Go.on (T' := T118) (g' := (mkF m 7 #[.val (.ref (w 2)), .val (.ref (w 1))] [])) (fun t k => Jvm.RoadKit.acmp (g := (mkF m 4 #[.val (.ref (w 2)), .val (.ref (w 1))] [(.ref (w 1)), (.ref (w 2))])) X118 hx rfl rfl rfl (pc0 := 4) (pc' := 7) (same := false) rfl (hb hby d2_4) rfl (decide_eq_false fun q => (own_ne (pin_8 hP) (pin_7 hP) (by decide)) (Value.ref.inj q)) (by decide) (by decide) k) ?_
  refine Go.on (T' := T118) (g' := (mkF m 8 #[.val (.ref (w 2)), .val (.ref (w 1))] [(.ref (w 1))])) (fun t k => XS.aloadN X118.here hx rfl (hb hby d2_7) rfl rfl k) ?_
  obtain ⟨T119, X119, e119, st119⟩ := getS2 X118 hx hZ hown (host := "") (Or.inl (hw _ (List.mem_of_getElem? (i := 13) rfl))) Via.refl e118 (pin_1 hP) (g := (mkF m 8 #[.val (.ref (w 2)), .val (.ref (w 1))] [(.ref (w 1))])) rfl (hb hby d2_8)
  refine Go.on (T' := T119) (g' := (mkF m 11 #[.val (.ref (w 2)), .val (.ref (w 1))] [(.ref (w 1)), (.ref (w 1))])) st119 ?_
  refine Go.on (T' := T119) (g' := (mkF m 14 #[.val (.ref (w 2)), .val (.ref (w 1))] [])) (fun t k => Jvm.RoadKit.acmp (g := (mkF m 11 #[.val (.ref (w 2)), .val (.ref (w 1))] [(.ref (w 1)), (.ref (w 1))])) X119 hx rfl rfl rfl (pc0 := 11) (pc' := 14) (same := true) rfl (hb hby d2_11) rfl (decide_eq_true rfl) (by decide) (by decide) k) ?_
  obtain ⟨T120, X120, e120, st120⟩ := getS2 X119 hx hZ hown (host := "") (Or.inl (hw _ (List.mem_of_getElem? (i := 13) rfl))) Via.refl e119 (pin_1 hP) (g := (mkF m 14 #[.val (.ref (w 2)), .val (.ref (w 1))] [])) rfl (hb hby d2_14)
  refine Go.on (T' := T120) (g' := (mkF m 17 #[.val (.ref (w 2)), .val (.ref (w 1))] [(.ref (w 1))])) st120 ?_
  obtain ⟨fs, hr, hrun, hended, hW, hsame⟩ := X120.leave (v := some (.ref (w 1))) (fun h => by rw [Bd.returns] at h; cases h)
  exact ⟨_, _, retOut X120 hx Bd.returns rfl (Or.inr (Or.inr (Or.inr (Or.inr ⟨rfl, rfl, rfl⟩)))) (hb hby d2_17) hr, hrun, hended, _, _, rfl, ⟨rfl, N0, e120⟩, ⟨_, rfl⟩, hW, hsame.mono (by decide) (by decide)⟩
set_option maxRecDepth 65536 in
set_option maxHeartbeats 40000000 in
theorem rm4_7 (l : Launch) (Z : State) (a0 : Array Value) (hw : ∀ d ∈ tables_1, d.before a0 Z = true) (ws : List Jvm.Cond) (w : Nat → Addr) (h0 : Heap) (n0 : Nat) (Z0 : n0 ≤ h0.size) (hP : Pins Z h0 w) :
    MetFree l (⟨"java/lang/Math", "min", "(II)I"⟩ : MethodName) (head1 (Jvm.Cond.code (⟨"java/lang/Math", "min", "(II)I"⟩ : MethodName) jdk_29_method_69_code 2 (some .int) :: ws) ({ frames := 0, cells := 0, slots := 0, locals := 0 } : Room)) (fun a U => a = #[(.int (1 : Int32)), (.int (0 : Int32))] ∧ Z.Warmed39 U.vm ∧ U.heap = h0) (fun _ _ _ _ _ => True) (fun _ U o U' => ∃ v L, o = .returned v ∧ Qp (some (.int (0 : Int32))) h0 n0 v U'.heap L ∧ FrameEnd U o U' L ({ frames := 0, cells := 0, slots := 0, locals := 0 } : Room).cells ({ frames := 0, cells := 0, slots := 0, locals := 0 } : Room).slots) := by
  refine MetFree.of_bodySF (Jvm.Free.JP.mathPlain rfl (by decide +kernel)) hisR ?_
  intro p e s m args below meth c s₁ Bd hml0 hP0 hK
  obtain ⟨rfl, hZ, hh⟩ := hP0
  have hx := Bd.exec
  have hby := Bd.bytes
  have hml : c.maxLocals = 2 := hml0
  have hown : s.vm.findClass "java/lang/Math" = some m.cls := findClass_of_methodNamed Bd.named
  have hnm := (name_of_methodNamed Bd.named Bd.method).1
  have X0 : Stand p l e ({ frames := 0, cells := 0, slots := 0, locals := 0 } : Room) s m #[(.int (1 : Int32)), (.int (0 : Int32))] below meth c s₁ [] 0 0 := Stand.of_body Bd
  have e0 : s₁.heap = h0 := by rw [← hh, Bd.state]; rfl
  have N0 := Fr.nil n0
  suffices hgo : Go p e below (fun o U' => ∃ v L, o = .returned v ∧ Qp (some (.int (0 : Int32))) h0 n0 v U'.heap L ∧ FrameEnd s o U' L ({ frames := 0, cells := 0, slots := 0, locals := 0 } : Room).cells ({ frames := 0, cells := 0, slots := 0, locals := 0 } : Room).slots) s₁ (mkF m 0 #[.val (.int (1 : Int32)), .val (.int (0 : Int32))] []) by
    obtain ⟨s2, o, g1, g2, g3, g4⟩ := hgo
    refine ⟨s2, o, castTop (?_ : entryFrame m #[(.int (1 : Int32)), (.int (0 : Int32))] 2 = _) g1, g2, g3, g4⟩
    first | (simp [entryFrame, mkF, argsToLocals, Value.category]; done) | rfl
  refine Go.on (T' := s₁) (g' := (mkF m 1 #[.val (.int (1 : Int32)), .val (.int (0 : Int32))] [(.int (1 : Int32))])) (fun t k => XS.iloadN X0.here hx rfl (hb hby d4_0) rfl k) ?_
  refine Go.on (T' := s₁) (g' := (mkF m 2 #[.val (.int (1 : Int32)), .val (.int (0 : Int32))] [(.int (0 : Int32)), (.int (1 : Int32))])) (fun t k => XS.iloadN X0.here hx rfl (hb hby d4_1) rfl k) ?_
  refine Go.on (T' := s₁) (g' := (mkF m 9 #[.val (.int (1 : Int32)), .val (.int (0 : Int32))] [])) (fun t k => XS.icmpYes X0.here hx rfl (pc0 := 2) (pc' := 9) rfl (hb hby d4_2) rfl (tlt (by decide : (0 : Int32) < (1 : Int32))).2.2.1 (by decide) (by decide) k) ?_
  refine Go.on (T' := s₁) (g' := (mkF m 10 #[.val (.int (1 : Int32)), .val (.int (0 : Int32))] [(.int (0 : Int32))])) (fun t k => XS.iloadN X0.here hx rfl (hb hby d4_9) rfl k) ?_
  obtain ⟨fs, hr, hrun, hended, hW, hsame⟩ := X0.leave (v := some (.int (0 : Int32))) (fun h => by rw [Bd.returns] at h; cases h)
  exact ⟨_, _, retOut X0 hx Bd.returns rfl (Or.inl ⟨rfl, Or.inl rfl, _, rfl⟩) (hb hby d4_10) hr, hrun, hended, _, _, rfl, ⟨rfl, N0, e0⟩, ⟨_, rfl⟩, hW, hsame.mono (by decide) (by decide)⟩
set_option maxRecDepth 65536 in
set_option maxHeartbeats 40000000 in
theorem rm2_8 (l : Launch) (Z : State) (a0 : Array Value) (hw : ∀ d ∈ tables_1, d.before a0 Z = true) (ws : List Jvm.Cond) (w : Nat → Addr) (h0 : Heap) (n0 : Nat) (Z0 : n0 ≤ h0.size) (hP : Pins Z h0 w) :
    MetFree l (⟨"com/example/bagwise/bagwise/terms/Truth", "and", "(Lcom/example/bagwise/bagwise/terms/Truth;)Lcom/example/bagwise/bagwise/terms/Truth;"⟩ : MethodName) (head1 (Jvm.Cond.code (⟨"com/example/bagwise/bagwise/terms/Truth", "and", "(Lcom/example/bagwise/bagwise/terms/Truth;)Lcom/example/bagwise/bagwise/terms/Truth;"⟩ : MethodName) prog_175_method_7_code 2 (some (.object "com/example/bagwise/bagwise/terms/Truth")) :: ws) ({ frames := 0, cells := 0, slots := 0, locals := 0 } : Room)) (fun a U => a = #[(.ref (w 2)), (.ref (w 2))] ∧ Z.Warmed39 U.vm ∧ U.heap = h0) (fun _ _ _ _ _ => True) (fun _ U o U' => ∃ v L, o = .returned v ∧ Qp (some (.ref (w 2))) h0 n0 v U'.heap L ∧ FrameEnd U o U' L ({ frames := 0, cells := 0, slots := 0, locals := 0 } : Room).cells ({ frames := 0, cells := 0, slots := 0, locals := 0 } : Room).slots) := by
  refine MetFree.of_bodySF (plainFor_of_name pn_1) hisR ?_
  intro p e s m args below meth c s₁ Bd hml0 hP0 hK
  obtain ⟨rfl, hZ, hh⟩ := hP0
  have hx := Bd.exec
  have hby := Bd.bytes
  have hml : c.maxLocals = 2 := hml0
  have hown : s.vm.findClass "com/example/bagwise/bagwise/terms/Truth" = some m.cls := findClass_of_methodNamed Bd.named
  have hnm := (name_of_methodNamed Bd.named Bd.method).1
  have X0 : Stand p l e ({ frames := 0, cells := 0, slots := 0, locals := 0 } : Room) s m #[(.ref (w 2)), (.ref (w 2))] below meth c s₁ [] 0 0 := Stand.of_body Bd
  have e0 : s₁.heap = h0 := by rw [← hh, Bd.state]; rfl
  have N0 := Fr.nil n0
  suffices hgo : Go p e below (fun o U' => ∃ v L, o = .returned v ∧ Qp (some (.ref (w 2))) h0 n0 v U'.heap L ∧ FrameEnd s o U' L ({ frames := 0, cells := 0, slots := 0, locals := 0 } : Room).cells ({ frames := 0, cells := 0, slots := 0, locals := 0 } : Room).slots) s₁ (mkF m 0 #[.val (.ref (w 2)), .val (.ref (w 2))] []) by
    obtain ⟨s2, o, g1, g2, g3, g4⟩ := hgo
    refine ⟨s2, o, castTop (?_ : entryFrame m #[(.ref (w 2)), (.ref (w 2))] 2 = _) g1, g2, g3, g4⟩
    first | (simp [entryFrame, mkF, argsToLocals, Value.category]; done) | rfl
  refine Go.on (T' := s₁) (g' := (mkF m 1 #[.val (.ref (w 2)), .val (.ref (w 2))] [(.ref (w 2))])) (fun t k => XS.aloadN X0.here hx rfl (hb hby d2_0) rfl rfl k) ?_
  obtain ⟨T131, X131, e131, st131⟩ := getS2 X0 hx hZ hown (host := "") (Or.inl (hw _ (List.mem_of_getElem? (i := 13) rfl))) Via.refl e0 (pin_1 hP) (g := (mkF m 1 #[.val (.ref (w 2)), .val (.ref (w 2))] [(.ref (w 2))])) rfl (hb hby d2_1)
  refine Go.on (T' := T131) (g' := (mkF m 4 #[.val (.ref (w 2)), .val (.ref (w 2))] [(.ref (w 1)), (.ref (w 2))])) st131 ?_
  refine Go.on (T' := T131) (g' := (mkF m 7 #[.val (.ref (w 2)), .val (.ref (w 2))] [])) (fun t k => Jvm.RoadKit.acmp (g := (mkF m 4 #[.val (.ref (w 2)), .val (.ref (w 2))] [(.ref (w 1)), (.ref (w 2))])) X131 hx rfl rfl rfl (pc0 := 4) (pc' := 7) (same := false) rfl (hb hby d2_4) rfl (decide_eq_false fun q => (own_ne (pin_8 hP) (pin_7 hP) (by decide)) (Value.ref.inj q)) (by decide) (by decide) k) ?_
  refine Go.on (T' := T131) (g' := (mkF m 8 #[.val (.ref (w 2)), .val (.ref (w 2))] [(.ref (w 2))])) (fun t k => XS.aloadN X131.here hx rfl (hb hby d2_7) rfl rfl k) ?_
  obtain ⟨T132, X132, e132, st132⟩ := getS2 X131 hx hZ hown (host := "") (Or.inl (hw _ (List.mem_of_getElem? (i := 13) rfl))) Via.refl e131 (pin_1 hP) (g := (mkF m 8 #[.val (.ref (w 2)), .val (.ref (w 2))] [(.ref (w 2))])) rfl (hb hby d2_8)
  refine Go.on (T' := T132) (g' := (mkF m 11 #[.val (.ref (w 2)), .val (.ref (w 2))] [(.ref (w 1)), (.ref (w 2))])) st132 ?_
  refine Go.on (T' := T132) (g' := (mkF m 18 #[.val (.ref (w 2)), .val (.ref (w 2))] [])) (fun t k => Jvm.RoadKit.acmp (g := (mkF m 11 #[.val (.ref (w 2)), .val (.ref (w 2))] [(.ref (w 1)), (.ref (w 2))])) X132 hx rfl rfl rfl (pc0 := 11) (pc' := 18) (same := false) rfl (hb hby d2_11) rfl (decide_eq_false fun q => (own_ne (pin_8 hP) (pin_7 hP) (by decide)) (Value.ref.inj q)) (by decide) (by decide) k) ?_
  refine Go.on (T' := T132) (g' := (mkF m 19 #[.val (.ref (w 2)), .val (.ref (w 2))] [(.ref (w 2))])) (fun t k => XS.aloadN X132.here hx rfl (hb hby d2_18) rfl rfl k) ?_
  obtain ⟨T133, X133, e133, st133⟩ := getS2 X132 hx hZ hown (host := "") (Or.inl (hw _ (List.mem_of_getElem? (i := 15) rfl))) Via.refl e132 (pin_2 hP) (g := (mkF m 19 #[.val (.ref (w 2)), .val (.ref (w 2))] [(.ref (w 2))])) rfl (hb hby d2_19)
  refine Go.on (T' := T133) (g' := (mkF m 22 #[.val (.ref (w 2)), .val (.ref (w 2))] [(.ref (w 2)), (.ref (w 2))])) st133 ?_
  refine Go.on (T' := T133) (g' := (mkF m 32 #[.val (.ref (w 2)), .val (.ref (w 2))] [])) (fun t k => Jvm.RoadKit.acmp (g := (mkF m 22 #[.val (.ref (w 2)), .val (.ref (w 2))] [(.ref (w 2)), (.ref (w 2))])) X133 hx rfl rfl rfl (pc0 := 22) (pc' := 32) (same := true) rfl (hb hby d2_22) rfl (decide_eq_true rfl) (by decide) (by decide) k) ?_
  obtain ⟨T134, X134, e134, st134⟩ := getS2 X133 hx hZ hown (host := "") (Or.inl (hw _ (List.mem_of_getElem? (i := 15) rfl))) Via.refl e133 (pin_2 hP) (g := (mkF m 32 #[.val (.ref (w 2)), .val (.ref (w 2))] [])) rfl (hb hby d2_32)
  refine Go.on (T' := T134) (g' := (mkF m 35 #[.val (.ref (w 2)), .val (.ref (w 2))] [(.ref (w 2))])) st134 ?_
  refine Go.on (T' := T134) (g' := (mkF m 41 #[.val (.ref (w 2)), .val (.ref (w 2))] [(.ref (w 2))])) (fun t k => XS.goto X134.here hx rfl (pc0 := 35) (pc' := 41) rfl (hb hby d2_35) (by decide) (by decide) k) ?_
  obtain ⟨fs, hr, hrun, hended, hW, hsame⟩ := X134.leave (v := some (.ref (w 2))) (fun h => by rw [Bd.returns] at h; cases h)
  exact ⟨_, _, retOut X134 hx Bd.returns rfl (Or.inr (Or.inr (Or.inr (Or.inr ⟨rfl, rfl, rfl⟩)))) (hb hby d2_41) hr, hrun, hended, _, _, rfl, ⟨rfl, N0, e134⟩, ⟨_, rfl⟩, hW, hsame.mono (by decide) (by decide)⟩
set_option maxRecDepth 65536 in
set_option maxHeartbeats 40000000 in
theorem rm4_8 (l : Launch) (Z : State) (a0 : Array Value) (hw : ∀ d ∈ tables_1, d.before a0 Z = true) (ws : List Jvm.Cond) (w : Nat → Addr) (h0 : Heap) (n0 : Nat) (Z0 : n0 ≤ h0.size) (hP : Pins Z h0 w) :
    MetFree l (⟨"java/lang/Math", "min", "(II)I"⟩ : MethodName) (head1 (Jvm.Cond.code (⟨"java/lang/Math", "min", "(II)I"⟩ : MethodName) jdk_29_method_69_code 2 (some .int) :: ws) ({ frames := 0, cells := 0, slots := 0, locals := 0 } : Room)) (fun a U => a = #[(.int (1 : Int32)), (.int (1 : Int32))] ∧ Z.Warmed39 U.vm ∧ U.heap = h0) (fun _ _ _ _ _ => True) (fun _ U o U' => ∃ v L, o = .returned v ∧ Qp (some (.int (1 : Int32))) h0 n0 v U'.heap L ∧ FrameEnd U o U' L ({ frames := 0, cells := 0, slots := 0, locals := 0 } : Room).cells ({ frames := 0, cells := 0, slots := 0, locals := 0 } : Room).slots) := by
  refine MetFree.of_bodySF (Jvm.Free.JP.mathPlain rfl (by decide +kernel)) hisR ?_
  intro p e s m args below meth c s₁ Bd hml0 hP0 hK
  obtain ⟨rfl, hZ, hh⟩ := hP0
  have hx := Bd.exec
  have hby := Bd.bytes
  have hml : c.maxLocals = 2 := hml0
  have hown : s.vm.findClass "java/lang/Math" = some m.cls := findClass_of_methodNamed Bd.named
  have hnm := (name_of_methodNamed Bd.named Bd.method).1
  have X0 : Stand p l e ({ frames := 0, cells := 0, slots := 0, locals := 0 } : Room) s m #[(.int (1 : Int32)), (.int (1 : Int32))] below meth c s₁ [] 0 0 := Stand.of_body Bd
  have e0 : s₁.heap = h0 := by rw [← hh, Bd.state]; rfl
  have N0 := Fr.nil n0
  suffices hgo : Go p e below (fun o U' => ∃ v L, o = .returned v ∧ Qp (some (.int (1 : Int32))) h0 n0 v U'.heap L ∧ FrameEnd s o U' L ({ frames := 0, cells := 0, slots := 0, locals := 0 } : Room).cells ({ frames := 0, cells := 0, slots := 0, locals := 0 } : Room).slots) s₁ (mkF m 0 #[.val (.int (1 : Int32)), .val (.int (1 : Int32))] []) by
    obtain ⟨s2, o, g1, g2, g3, g4⟩ := hgo
    refine ⟨s2, o, castTop (?_ : entryFrame m #[(.int (1 : Int32)), (.int (1 : Int32))] 2 = _) g1, g2, g3, g4⟩
    first | (simp [entryFrame, mkF, argsToLocals, Value.category]; done) | rfl
  refine Go.on (T' := s₁) (g' := (mkF m 1 #[.val (.int (1 : Int32)), .val (.int (1 : Int32))] [(.int (1 : Int32))])) (fun t k => XS.iloadN X0.here hx rfl (hb hby d4_0) rfl k) ?_
  refine Go.on (T' := s₁) (g' := (mkF m 2 #[.val (.int (1 : Int32)), .val (.int (1 : Int32))] [(.int (1 : Int32)), (.int (1 : Int32))])) (fun t k => XS.iloadN X0.here hx rfl (hb hby d4_1) rfl k) ?_
  refine Go.on (T' := s₁) (g' := (mkF m 5 #[.val (.int (1 : Int32)), .val (.int (1 : Int32))] [])) (fun t k => XS.icmpNo X0.here hx rfl (hb hby d4_2) rfl (flt (by decide : ¬ ((1 : Int32) < (1 : Int32)))).2.2.1 k) ?_
  refine Go.on (T' := s₁) (g' := (mkF m 6 #[.val (.int (1 : Int32)), .val (.int (1 : Int32))] [(.int (1 : Int32))])) (fun t k => XS.iloadN X0.here hx rfl (hb hby d4_5) rfl k) ?_
  refine Go.on (T' := s₁) (g' := (mkF m 10 #[.val (.int (1 : Int32)), .val (.int (1 : Int32))] [(.int (1 : Int32))])) (fun t k => XS.goto X0.here hx rfl (pc0 := 6) (pc' := 10) rfl (hb hby d4_6) (by decide) (by decide) k) ?_
  obtain ⟨fs, hr, hrun, hended, hW, hsame⟩ := X0.leave (v := some (.int (1 : Int32))) (fun h => by rw [Bd.returns] at h; cases h)
  exact ⟨_, _, retOut X0 hx Bd.returns rfl (Or.inl ⟨rfl, Or.inl rfl, _, rfl⟩) (hb hby d4_10) hr, hrun, hended, _, _, rfl, ⟨rfl, N0, e0⟩, ⟨_, rfl⟩, hW, hsame.mono (by decide) (by decide)⟩
set_option maxRecDepth 65536 in
set_option maxHeartbeats 40000000 in
theorem rm0 (l : Launch) (Z : State) (a0 : Array Value) (hw : ∀ d ∈ tables_1, d.before a0 Z = true) (ws : List Jvm.Cond) (w : Nat → Addr) (h0 : Heap) (n0 : Nat) (Z0 : n0 ≤ h0.size) (hP : Pins Z h0 w) (i0 : Int32) (i1 : Int32) :
    MetFree l x (head1 (Jvm.Cond.code x code maxLocals ret :: ws) room_1) (fun a U => a = #[(.int i0), (.int i1)] ∧ Z.Warmed39 U.vm ∧ U.heap = h0) (fun _ _ _ _ _ => True) (fun _ U o U' => ∃ v L, o = .returned v ∧ Ql (some (.int (1 : Int32))) n0 v L ∧ FrameEnd U o U' L 0 0) := by
  refine MetFree.of_bodySF (plainFor_of_name pn_0) hisR ?_
  intro p e s m args below meth c s₁ Bd hml0 hP0 hK
  obtain ⟨rfl, hZ, hh⟩ := hP0
  have hx := Bd.exec
  have hby := Bd.bytes
  have hml : c.maxLocals = 6 := hml0
  have hown : s.vm.findClass "com/example/bagwise/bagwise/terms/TruthAndPinLaw" = some m.cls := findClass_of_methodNamed Bd.named
  have hnm := (name_of_methodNamed Bd.named Bd.method).1
  have X0 : Stand p l e room_1 s m #[(.int i0), (.int i1)] below meth c s₁ [] 0 0 := Stand.of_body Bd
  have e0 : s₁.heap = h0 := by rw [← hh, Bd.state]; rfl
  have N0 := Fr.nil n0
  suffices hgo : Go p e below (fun o U' => ∃ v L, o = .returned v ∧ Ql (some (.int (1 : Int32))) n0 v L ∧ FrameEnd s o U' L 0 0) s₁ (mkF m 0 #[.val (.int i0), .val (.int i1), .unset, .unset, .unset, .unset] []) by
    obtain ⟨s2, o, g1, g2, g3, g4⟩ := hgo
    refine ⟨s2, o, castTop (?_ : entryFrame m #[(.int i0), (.int i1)] maxLocals = _) g1, g2, g3, g4⟩
    first | (simp [entryFrame, mkF, argsToLocals, Value.category, maxLocals]; done) | rfl
  refine Go.on (T' := s₁) (g' := (mkF m 1 #[.val (.int i0), .val (.int i1), .unset, .unset, .unset, .unset] [(.int i0)])) (fun t k => XS.iloadN X0.here hx rfl (hb hby at_0) rfl k) ?_
  refine Go.on (T' := s₁) (g' := (mkF m 3 #[.val (.int i0), .val (.int i1), .unset, .unset, .unset, .unset] [(.int (2147483647 : Int32)), (.int i0)])) (X0.ldcInt hx hown (mvT hZ (hw _ (List.mem_of_getElem? (i := 0) rfl))) (g := (mkF m 1 #[.val (.int i0), .val (.int i1), .unset, .unset, .unset, .unset] [(.int i0)])) rfl (hb hby at_1)) ?_
  refine Go.on (T' := s₁) (g' := (mkF m 4 #[.val (.int i0), .val (.int i1), .unset, .unset, .unset, .unset] [(.int (i0 &&& (2147483647 : Int32)))])) (fun t k => XS.iand X0.here hx rfl (hb hby at_3) rfl k) ?_
  refine Go.on (T' := s₁) (g' := (mkF m 5 #[.val (.int i0), .val (.int i1), .unset, .unset, .unset, .unset] [(.int (3 : Int32)), (.int (i0 &&& (2147483647 : Int32)))])) (fun t k => XS.iconst X0.here hx rfl (hb hby at_4) k) ?_
  refine Go.on (T' := s₁) (g' := (mkF m 6 #[.val (.int i0), .val (.int i1), .unset, .unset, .unset, .unset] [(.int ((i0 &&& (2147483647 : Int32)) % (3 : Int32)))])) (fun t k => iremM X0 hx rfl (hb hby at_5) rfl (by decide) k) ?_
  rcases own_mod3 i0 with h1 | h1 | h1
  · skip
    rw [h1]
    obtain ⟨_, _, ⟨T4, L4, k4, n4⟩, -, X4, ⟨Lc4, hQ4, l4, y4, z4⟩, st4⟩ := Jvm.LawKit.callS X0 hx (y := (⟨"com/example/bagwise/bagwise/terms/TruthAndPinLaw", "pick", "(I)Lcom/example/bagwise/bagwise/terms/Truth;"⟩ : MethodName)) hown (mvT hZ (hw _ (List.mem_of_getElem? (i := 1) rfl))) (mvT hZ (hw _ (List.mem_of_getElem? (i := 2) rfl))) (mvT hZ (hw _ (List.mem_of_getElem? (i := 3) rfl))) (mvT hZ (hw _ (List.mem_of_getElem? (i := 4) rfl))) (by decide) (backOf (W := 0) (rm1_0 l Z a0 hw [] w h0 n0 (Nat.le_trans Z0 (own_ext0 h0).1) hP) hZ (hw _ (List.mem_of_getElem? (i := 4) rfl)) (hw _ (List.mem_of_getElem? (i := 3) rfl)) (by decide) (by decide)) (g := (mkF m 6 #[.val (.int i0), .val (.int i1), .unset, .unset, .unset, .unset] [(.int (0 : Int32))])) rfl (by rw [hml]; rfl) (argsL := [(.int (0 : Int32))]) (rest := []) (lenOf pd_0 rfl) rfl (by show 2 * 0 + _ ≤ _; exact Nat.le_of_eq rfl) (hb hby at_6) (fun _ _ => ⟨rfl, e0, (by decide : 0 + 0 ≤ _), (by decide : 0 + 0 ≤ _)⟩)
    dsimp only [Pt.U, Pt.locs, Pt.cells, Pt.slots] at X4 l4 y4 z4 st4 hQ4
    subst l4 y4 z4
    obtain ⟨rfl, N4q, e4⟩ := hQ4
    have N4 := Fr.app N0 N4q
    refine Go.on (T' := T4) (g' := (mkF m 9 #[.val (.int i0), .val (.int i1), .unset, .unset, .unset, .unset] [(.ref (w 0))])) st4 ?_
    refine Go.on (T' := T4) (g' := (mkF m 10 #[.val (.int i0), .val (.int i1), .val (.ref (w 0)), .unset, .unset, .unset] [])) (fun t k => XS.astoreN X4.here hx rfl (hb hby at_9) rfl rfl (l' := #[.val (.int i0), .val (.int i1), .val (.ref (w 0)), .unset, .unset, .unset]) rfl k) ?_
    refine Go.on (T' := T4) (g' := (mkF m 11 #[.val (.int i0), .val (.int i1), .val (.ref (w 0)), .unset, .unset, .unset] [(.int i1)])) (fun t k => XS.iloadN X4.here hx rfl (hb hby at_10) rfl k) ?_
    refine Go.on (T' := T4) (g' := (mkF m 13 #[.val (.int i0), .val (.int i1), .val (.ref (w 0)), .unset, .unset, .unset] [(.int (2147483647 : Int32)), (.int i1)])) (X4.ldcInt hx hown (mvT hZ (hw _ (List.mem_of_getElem? (i := 0) rfl))) (g := (mkF m 11 #[.val (.int i0), .val (.int i1), .val (.ref (w 0)), .unset, .unset, .unset] [(.int i1)])) rfl (hb hby at_11)) ?_
    refine Go.on (T' := T4) (g' := (mkF m 14 #[.val (.int i0), .val (.int i1), .val (.ref (w 0)), .unset, .unset, .unset] [(.int (i1 &&& (2147483647 : Int32)))])) (fun t k => XS.iand X4.here hx rfl (hb hby at_13) rfl k) ?_
    refine Go.on (T' := T4) (g' := (mkF m 15 #[.val (.int i0), .val (.int i1), .val (.ref (w 0)), .unset, .unset, .unset] [(.int (3 : Int32)), (.int (i1 &&& (2147483647 : Int32)))])) (fun t k => XS.iconst X4.here hx rfl (hb hby at_14) k) ?_
    refine Go.on (T' := T4) (g' := (mkF m 16 #[.val (.int i0), .val (.int i1), .val (.ref (w 0)), .unset, .unset, .unset] [(.int ((i1 &&& (2147483647 : Int32)) % (3 : Int32)))])) (fun t k => iremM X4 hx rfl (hb hby at_15) rfl (by decide) k) ?_
    rcases own_mod3 i1 with h5 | h5 | h5
    · skip
      rw [h5]
      obtain ⟨_, _, ⟨T6, L6, k6, n6⟩, -, X6, ⟨Lc6, hQ6, l6, y6, z6⟩, st6⟩ := Jvm.LawKit.callS X4 hx (y := (⟨"com/example/bagwise/bagwise/terms/TruthAndPinLaw", "pick", "(I)Lcom/example/bagwise/bagwise/terms/Truth;"⟩ : MethodName)) hown (mvT hZ (hw _ (List.mem_of_getElem? (i := 1) rfl))) (mvT hZ (hw _ (List.mem_of_getElem? (i := 2) rfl))) (mvT hZ (hw _ (List.mem_of_getElem? (i := 3) rfl))) (mvT hZ (hw _ (List.mem_of_getElem? (i := 4) rfl))) (by decide) (backOf (W := 0) (rm1_0 l Z a0 hw [] w h0 n0 (Nat.le_trans Z0 (own_ext0 h0).1) hP) hZ (hw _ (List.mem_of_getElem? (i := 4) rfl)) (hw _ (List.mem_of_getElem? (i := 3) rfl)) (by decide) (by decide)) (g := (mkF m 16 #[.val (.int i0), .val (.int i1), .val (.ref (w 0)), .unset, .unset, .unset] [(.int (0 : Int32))])) rfl (by rw [hml]; rfl) (argsL := [(.int (0 : Int32))]) (rest := []) (lenOf pd_0 rfl) rfl (by show 2 * 0 + _ ≤ _; exact Nat.le_of_eq rfl) (hb hby at_16) (fun _ _ => ⟨rfl, e4, (by decide : 0 + 0 ≤ _), (by decide : 0 + 0 ≤ _)⟩)
      dsimp only [Pt.U, Pt.locs, Pt.cells, Pt.slots] at X6 l6 y6 z6 st6 hQ6
      subst l6 y6 z6
      obtain ⟨rfl, N6q, e6⟩ := hQ6
      have N6 := Fr.app N4 N6q
      refine Go.on (T' := T6) (g' := (mkF m 19 #[.val (.int i0), .val (.int i1), .val (.ref (w 0)), .unset, .unset, .unset] [(.ref (w 0))])) st6 ?_
      refine Go.on (T' := T6) (g' := (mkF m 20 #[.val (.int i0), .val (.int i1), .val (.ref (w 0)), .val (.ref (w 0)), .unset, .unset] [])) (fun t k => XS.astoreN X6.here hx rfl (hb hby at_19) rfl rfl (l' := #[.val (.int i0), .val (.int i1), .val (.ref (w 0)), .val (.ref (w 0)), .unset, .unset]) rfl k) ?_
      refine Go.on (T' := T6) (g' := (mkF m 21 #[.val (.int i0), .val (.int i1), .val (.ref (w 0)), .val (.ref (w 0)), .unset, .unset] [(.ref (w 0))])) (fun t k => XS.aloadN X6.here hx rfl (hb hby at_20) rfl rfl k) ?_
      refine Go.on (T' := T6) (g' := (mkF m 22 #[.val (.int i0), .val (.int i1), .val (.ref (w 0)), .val (.ref (w 0)), .unset, .unset] [(.ref (w 0)), (.ref (w 0))])) (fun t k => XS.aloadN X6.here hx rfl (hb hby at_21) rfl rfl k) ?_
      obtain ⟨cq17, kq17, q17a, q17b, q17c⟩ := isOf hZ e6 (pin_3 hP)
      obtain ⟨_, _, ⟨T17, L17, k17, n17⟩, -, X17, ⟨Lc17, hQ17, l17, y17, z17⟩, st17⟩ := X6.virtualBack hx (y := (⟨"com/example/bagwise/bagwise/terms/Truth", "and", "(Lcom/example/bagwise/bagwise/terms/Truth;)Lcom/example/bagwise/bagwise/terms/Truth;"⟩ : MethodName)) (z := (⟨"com/example/bagwise/bagwise/terms/Truth", "and", "(Lcom/example/bagwise/bagwise/terms/Truth;)Lcom/example/bagwise/bagwise/terms/Truth;"⟩ : MethodName)) hown (mvT hZ (hw _ (List.mem_of_getElem? (i := 8) rfl))) (mvT hZ (hw _ (List.mem_of_getElem? (i := 9) rfl))) (notFace_of_selects (args := #[]) (mvT hZ (hw _ (List.mem_of_getElem? (i := 11) rfl)))) (mvT hZ (hw _ (List.mem_of_getElem? (i := 11) rfl))) (mvT hZ (hw _ (List.mem_of_getElem? (i := 10) rfl))) (by decide) (backOf (W := 0) (rm2_0 l Z a0 hw [] w h0 n0 (Nat.le_trans Z0 (own_ext0 h0).1) hP) hZ (hw _ (List.mem_of_getElem? (i := 12) rfl)) (hw _ (List.mem_of_getElem? (i := 6) rfl)) (by decide) (by decide)) q17a q17c (g := (mkF m 22 #[.val (.int i0), .val (.int i1), .val (.ref (w 0)), .val (.ref (w 0)), .unset, .unset] [(.ref (w 0)), (.ref (w 0))])) rfl (by rw [hml]; rfl) (Steps.refl _) (argsL := [(.ref (w 0))]) (rest := []) (lenOf pd_1 rfl) rfl (by show 2 * 0 + _ ≤ _; exact Nat.le_of_eq rfl) (hb hby at_22) (fun _ _ => ⟨rfl, e6, (by decide : 0 + 0 ≤ _), (by decide : 0 + 0 ≤ _)⟩)
      dsimp only [Pt.U, Pt.locs, Pt.cells, Pt.slots] at X17 l17 y17 z17 st17 hQ17
      subst l17 y17 z17
      obtain ⟨rfl, N17q, e17⟩ := hQ17
      have N17 := Fr.app N6 N17q
      refine Go.on (T' := T17) (g' := (mkF m 25 #[.val (.int i0), .val (.int i1), .val (.ref (w 0)), .val (.ref (w 0)), .unset, .unset] [(.ref (w 0))])) (fun t k => st17.trans k) ?_
      refine Go.on (T' := T17) (g' := (mkF m 27 #[.val (.int i0), .val (.int i1), .val (.ref (w 0)), .val (.ref (w 0)), .val (.ref (w 0)), .unset] [])) (fun t k => XS.astore X17.here hx rfl (hb hby at_25) rfl rfl (l' := #[.val (.int i0), .val (.int i1), .val (.ref (w 0)), .val (.ref (w 0)), .val (.ref (w 0)), .unset]) rfl k) ?_
      refine Go.on (T' := T17) (g' := (mkF m 28 #[.val (.int i0), .val (.int i1), .val (.ref (w 0)), .val (.ref (w 0)), .val (.ref (w 0)), .unset] [(.ref (w 0))])) (fun t k => XS.aloadN X17.here hx rfl (hb hby at_27) rfl rfl k) ?_
      obtain ⟨_, _, ⟨T24, L24, k24, n24⟩, -, X24, ⟨Lc24, hQ24, l24, y24, z24⟩, st24⟩ := Jvm.LawKit.callS X17 hx (y := (⟨"com/example/bagwise/bagwise/terms/TruthAndPinLaw", "rank", "(Lcom/example/bagwise/bagwise/terms/Truth;)I"⟩ : MethodName)) hown (mvT hZ (hw _ (List.mem_of_getElem? (i := 18) rfl))) (mvT hZ (hw _ (List.mem_of_getElem? (i := 19) rfl))) (mvT hZ (hw _ (List.mem_of_getElem? (i := 3) rfl))) (mvT hZ (hw _ (List.mem_of_getElem? (i := 20) rfl))) (by decide) (backOf (W := 0) (rm3_0 l Z a0 hw [] w h0 n0 (Nat.le_trans Z0 (own_ext0 h0).1) hP) hZ (hw _ (List.mem_of_getElem? (i := 20) rfl)) (hw _ (List.mem_of_getElem? (i := 3) rfl)) (by decide) (by decide)) (g := (mkF m 28 #[.val (.int i0), .val (.int i1), .val (.ref (w 0)), .val (.ref (w 0)), .val (.ref (w 0)), .unset] [(.ref (w 0))])) rfl (by rw [hml]; rfl) (argsL := [(.ref (w 0))]) (rest := []) (lenOf pd_2 rfl) rfl (by show 2 * 0 + _ ≤ _; exact Nat.le_of_eq rfl) (hb hby at_28) (fun _ _ => ⟨rfl, e17, (by decide : 0 + 0 ≤ _), (by decide : 0 + 0 ≤ _)⟩)
      dsimp only [Pt.U, Pt.locs, Pt.cells, Pt.slots] at X24 l24 y24 z24 st24 hQ24
      subst l24 y24 z24
      obtain ⟨rfl, N24q, e24⟩ := hQ24
      have N24 := Fr.app N17 N24q
      refine Go.on (T' := T24) (g' := (mkF m 31 #[.val (.int i0), .val (.int i1), .val (.ref (w 0)), .val (.ref (w 0)), .val (.ref (w 0)), .unset] [(.int (2 : Int32))])) st24 ?_
      refine Go.on (T' := T24) (g' := (mkF m 32 #[.val (.int i0), .val (.int i1), .val (.ref (w 0)), .val (.ref (w 0)), .val (.ref (w 0)), .unset] [(.ref (w 0)), (.int (2 : Int32))])) (fun t k => XS.aloadN X24.here hx rfl (hb hby at_31) rfl rfl k) ?_
      obtain ⟨_, _, ⟨T25, L25, k25, n25⟩, -, X25, ⟨Lc25, hQ25, l25, y25, z25⟩, st25⟩ := Jvm.LawKit.callS X24 hx (y := (⟨"com/example/bagwise/bagwise/terms/TruthAndPinLaw", "rank", "(Lcom/example/bagwise/bagwise/terms/Truth;)I"⟩ : MethodName)) hown (mvT hZ (hw _ (List.mem_of_getElem? (i := 18) rfl))) (mvT hZ (hw _ (List.mem_of_getElem? (i := 19) rfl))) (mvT hZ (hw _ (List.mem_of_getElem? (i := 3) rfl))) (mvT hZ (hw _ (List.mem_of_getElem? (i := 20) rfl))) (by decide) (backOf (W := 1) (rm3_0 l Z a0 hw [] w h0 n0 (Nat.le_trans Z0 (own_ext0 h0).1) hP) hZ (hw _ (List.mem_of_getElem? (i := 20) rfl)) (hw _ (List.mem_of_getElem? (i := 3) rfl)) (by decide) (by decide)) (g := (mkF m 32 #[.val (.int i0), .val (.int i1), .val (.ref (w 0)), .val (.ref (w 0)), .val (.ref (w 0)), .unset] [(.ref (w 0)), (.int (2 : Int32))])) rfl (by rw [hml]; rfl) (argsL := [(.ref (w 0))]) (rest := [(.int (2 : Int32))]) (lenOf pd_2 rfl) rfl (by show 2 * 0 + _ ≤ _; exact Nat.le_of_eq rfl) (hb hby at_32) (fun _ _ => ⟨rfl, e24, (by decide : 0 + 0 ≤ _), (by decide : 0 + 0 ≤ _)⟩)
      dsimp only [Pt.U, Pt.locs, Pt.cells, Pt.slots] at X25 l25 y25 z25 st25 hQ25
      subst l25 y25 z25
      obtain ⟨rfl, N25q, e25⟩ := hQ25
      have N25 := Fr.app N24 N25q
      refine Go.on (T' := T25) (g' := (mkF m 35 #[.val (.int i0), .val (.int i1), .val (.ref (w 0)), .val (.ref (w 0)), .val (.ref (w 0)), .unset] [(.int (2 : Int32)), (.int (2 : Int32))])) st25 ?_
      obtain ⟨_, _, ⟨T26, L26, k26, n26⟩, -, X26, ⟨Lc26, hQ26, l26, y26, z26⟩, st26⟩ := Jvm.LawKit.callS X25 hx (y := (⟨"java/lang/Math", "min", "(II)I"⟩ : MethodName)) hown (mvT hZ (hw _ (List.mem_of_getElem? (i := 23) rfl))) (mvT hZ (hw _ (List.mem_of_getElem? (i := 24) rfl))) (mvT hZ (hw _ (List.mem_of_getElem? (i := 25) rfl))) (mvT hZ (hw _ (List.mem_of_getElem? (i := 26) rfl))) (by decide) (backOf (W := 0) (rm4_0 l Z a0 hw [] w h0 n0 (Nat.le_trans Z0 (own_ext0 h0).1) hP) hZ (hw _ (List.mem_of_getElem? (i := 26) rfl)) (hw _ (List.mem_of_getElem? (i := 25) rfl)) (by decide) (by decide)) (g := (mkF m 35 #[.val (.int i0), .val (.int i1), .val (.ref (w 0)), .val (.ref (w 0)), .val (.ref (w 0)), .unset] [(.int (2 : Int32)), (.int (2 : Int32))])) rfl (by rw [hml]; rfl) (argsL := [(.int (2 : Int32)), (.int (2 : Int32))]) (rest := []) (lenOf pd_3 rfl) rfl (by show 2 * 0 + _ ≤ _; exact Nat.le_of_eq rfl) (hb hby at_35) (fun _ _ => ⟨rfl, e25, (by decide : 0 + 0 ≤ _), (by decide : 0 + 0 ≤ _)⟩)
      dsimp only [Pt.U, Pt.locs, Pt.cells, Pt.slots] at X26 l26 y26 z26 st26 hQ26
      subst l26 y26 z26
      obtain ⟨rfl, N26q, e26⟩ := hQ26
      have N26 := Fr.app N25 N26q
      refine Go.on (T' := T26) (g' := (mkF m 38 #[.val (.int i0), .val (.int i1), .val (.ref (w 0)), .val (.ref (w 0)), .val (.ref (w 0)), .unset] [(.int (2 : Int32))])) st26 ?_
      refine Go.on (T' := T26) (g' := (mkF m 40 #[.val (.int i0), .val (.int i1), .val (.ref (w 0)), .val (.ref (w 0)), .val (.ref (w 0)), .val (.int (2 : Int32))] [])) (fun t k => XS.istore X26.here hx rfl (hb hby at_38) rfl (l' := #[.val (.int i0), .val (.int i1), .val (.ref (w 0)), .val (.ref (w 0)), .val (.ref (w 0)), .val (.int (2 : Int32))]) rfl k) ?_
      refine Go.on (T' := T26) (g' := (mkF m 42 #[.val (.int i0), .val (.int i1), .val (.ref (w 0)), .val (.ref (w 0)), .val (.ref (w 0)), .val (.int (2 : Int32))] [(.ref (w 0))])) (fun t k => XS.aload X26.here hx rfl (hb hby at_40) rfl rfl k) ?_
      refine Go.on (T' := T26) (g' := (mkF m 45 #[.val (.int i0), .val (.int i1), .val (.ref (w 0)), .val (.ref (w 0)), .val (.ref (w 0)), .val (.int (2 : Int32))] [])) (fun t k => XS.ifnullNo X26.here hx rfl (hb hby at_42) rfl k) ?_
      refine Go.on (T' := T26) (g' := (mkF m 47 #[.val (.int i0), .val (.int i1), .val (.ref (w 0)), .val (.ref (w 0)), .val (.ref (w 0)), .val (.int (2 : Int32))] [(.ref (w 0))])) (fun t k => XS.aload X26.here hx rfl (hb hby at_45) rfl rfl k) ?_
      obtain ⟨_, _, ⟨T27, L27, k27, n27⟩, -, X27, ⟨Lc27, hQ27, l27, y27, z27⟩, st27⟩ := Jvm.LawKit.callS X26 hx (y := (⟨"com/example/bagwise/bagwise/terms/TruthAndPinLaw", "rank", "(Lcom/example/bagwise/bagwise/terms/Truth;)I"⟩ : MethodName)) hown (mvT hZ (hw _ (List.mem_of_getElem? (i := 18) rfl))) (mvT hZ (hw _ (List.mem_of_getElem? (i := 19) rfl))) (mvT hZ (hw _ (List.mem_of_getElem? (i := 3) rfl))) (mvT hZ (hw _ (List.mem_of_getElem? (i := 20) rfl))) (by decide) (backOf (W := 0) (rm3_0 l Z a0 hw [] w h0 n0 (Nat.le_trans Z0 (own_ext0 h0).1) hP) hZ (hw _ (List.mem_of_getElem? (i := 20) rfl)) (hw _ (List.mem_of_getElem? (i := 3) rfl)) (by decide) (by decide)) (g := (mkF m 47 #[.val (.int i0), .val (.int i1), .val (.ref (w 0)), .val (.ref (w 0)), .val (.ref (w 0)), .val (.int (2 : Int32))] [(.ref (w 0))])) rfl (by rw [hml]; rfl) (argsL := [(.ref (w 0))]) (rest := []) (lenOf pd_2 rfl) rfl (by show 2 * 0 + _ ≤ _; exact Nat.le_of_eq rfl) (hb hby at_47) (fun _ _ => ⟨rfl, e26, (by decide : 0 + 0 ≤ _), (by decide : 0 + 0 ≤ _)⟩)
      dsimp only [Pt.U, Pt.locs, Pt.cells, Pt.slots] at X27 l27 y27 z27 st27 hQ27
      subst l27 y27 z27
      obtain ⟨rfl, N27q, e27⟩ := hQ27
      have N27 := Fr.app N26 N27q
      refine Go.on (T' := T27) (g' := (mkF m 50 #[.val (.int i0), .val (.int i1), .val (.ref (w 0)), .val (.ref (w 0)), .val (.ref (w 0)), .val (.int (2 : Int32))] [(.int (2 : Int32))])) st27 ?_
      refine Go.on (T' := T27) (g' := (mkF m 52 #[.val (.int i0), .val (.int i1), .val (.ref (w 0)), .val (.ref (w 0)), .val (.ref (w 0)), .val (.int (2 : Int32))] [(.int (2 : Int32)), (.int (2 : Int32))])) (fun t k => XS.iload X27.here hx rfl (hb hby at_50) rfl k) ?_
      refine Go.on (T' := T27) (g' := (mkF m 55 #[.val (.int i0), .val (.int i1), .val (.ref (w 0)), .val (.ref (w 0)), .val (.ref (w 0)), .val (.int (2 : Int32))] [])) (fun t k => XS.icmpNo X27.here hx rfl (hb hby at_52) rfl (teq (by decide : (2 : Int32) = (2 : Int32))).2 k) ?_
      refine Go.on (T' := T27) (g' := (mkF m 56 #[.val (.int i0), .val (.int i1), .val (.ref (w 0)), .val (.ref (w 0)), .val (.ref (w 0)), .val (.int (2 : Int32))] [(.int (1 : Int32))])) (fun t k => XS.iconst X27.here hx rfl (hb hby at_55) k) ?_
      refine Go.on (T' := T27) (g' := (mkF m 60 #[.val (.int i0), .val (.int i1), .val (.ref (w 0)), .val (.ref (w 0)), .val (.ref (w 0)), .val (.int (2 : Int32))] [(.int (1 : Int32))])) (fun t k => XS.goto X27.here hx rfl (pc0 := 56) (pc' := 60) rfl (hb hby at_56) (by decide) (by decide) k) ?_
      obtain ⟨fs, hr, hrun, hended, hW, hsame⟩ := X27.leave (v := some (.int (1 : Int32))) (fun h => by rw [Bd.returns] at h; cases h)
      exact ⟨_, _, retN X27 hx (t := .boolean) Bd.returns (by simp) (hb hby at_60) hr, hrun, hended, _, _, rfl, ⟨rfl, N27⟩, ⟨_, rfl⟩, hW, hsame.mono (by decide) (by decide)⟩
    · skip
      rw [h5]
      obtain ⟨_, _, ⟨T30, L30, k30, n30⟩, -, X30, ⟨Lc30, hQ30, l30, y30, z30⟩, st30⟩ := Jvm.LawKit.callS X4 hx (y := (⟨"com/example/bagwise/bagwise/terms/TruthAndPinLaw", "pick", "(I)Lcom/example/bagwise/bagwise/terms/Truth;"⟩ : MethodName)) hown (mvT hZ (hw _ (List.mem_of_getElem? (i := 1) rfl))) (mvT hZ (hw _ (List.mem_of_getElem? (i := 2) rfl))) (mvT hZ (hw _ (List.mem_of_getElem? (i := 3) rfl))) (mvT hZ (hw _ (List.mem_of_getElem? (i := 4) rfl))) (by decide) (backOf (W := 0) (rm1_1 l Z a0 hw [] w h0 n0 (Nat.le_trans Z0 (own_ext0 h0).1) hP) hZ (hw _ (List.mem_of_getElem? (i := 4) rfl)) (hw _ (List.mem_of_getElem? (i := 3) rfl)) (by decide) (by decide)) (g := (mkF m 16 #[.val (.int i0), .val (.int i1), .val (.ref (w 0)), .unset, .unset, .unset] [(.int (1 : Int32))])) rfl (by rw [hml]; rfl) (argsL := [(.int (1 : Int32))]) (rest := []) (lenOf pd_0 rfl) rfl (by show 2 * 0 + _ ≤ _; exact Nat.le_of_eq rfl) (hb hby at_16) (fun _ _ => ⟨rfl, e4, (by decide : 0 + 0 ≤ _), (by decide : 0 + 0 ≤ _)⟩)
      dsimp only [Pt.U, Pt.locs, Pt.cells, Pt.slots] at X30 l30 y30 z30 st30 hQ30
      subst l30 y30 z30
      obtain ⟨rfl, N30q, e30⟩ := hQ30
      have N30 := Fr.app N4 N30q
      refine Go.on (T' := T30) (g' := (mkF m 19 #[.val (.int i0), .val (.int i1), .val (.ref (w 0)), .unset, .unset, .unset] [(.ref (w 1))])) st30 ?_
      refine Go.on (T' := T30) (g' := (mkF m 20 #[.val (.int i0), .val (.int i1), .val (.ref (w 0)), .val (.ref (w 1)), .unset, .unset] [])) (fun t k => XS.astoreN X30.here hx rfl (hb hby at_19) rfl rfl (l' := #[.val (.int i0), .val (.int i1), .val (.ref (w 0)), .val (.ref (w 1)), .unset, .unset]) rfl k) ?_
      refine Go.on (T' := T30) (g' := (mkF m 21 #[.val (.int i0), .val (.int i1), .val (.ref (w 0)), .val (.ref (w 1)), .unset, .unset] [(.ref (w 0))])) (fun t k => XS.aloadN X30.here hx rfl (hb hby at_20) rfl rfl k) ?_
      refine Go.on (T' := T30) (g' := (mkF m 22 #[.val (.int i0), .val (.int i1), .val (.ref (w 0)), .val (.ref (w 1)), .unset, .unset] [(.ref (w 1)), (.ref (w 0))])) (fun t k => XS.aloadN X30.here hx rfl (hb hby at_21) rfl rfl k) ?_
      obtain ⟨cq37, kq37, q37a, q37b, q37c⟩ := isOf hZ e30 (pin_3 hP)
      obtain ⟨_, _, ⟨T37, L37, k37, n37⟩, -, X37, ⟨Lc37, hQ37, l37, y37, z37⟩, st37⟩ := X30.virtualBack hx (y := (⟨"com/example/bagwise/bagwise/terms/Truth", "and", "(Lcom/example/bagwise/bagwise/terms/Truth;)Lcom/example/bagwise/bagwise/terms/Truth;"⟩ : MethodName)) (z := (⟨"com/example/bagwise/bagwise/terms/Truth", "and", "(Lcom/example/bagwise/bagwise/terms/Truth;)Lcom/example/bagwise/bagwise/terms/Truth;"⟩ : MethodName)) hown (mvT hZ (hw _ (List.mem_of_getElem? (i := 8) rfl))) (mvT hZ (hw _ (List.mem_of_getElem? (i := 9) rfl))) (notFace_of_selects (args := #[]) (mvT hZ (hw _ (List.mem_of_getElem? (i := 11) rfl)))) (mvT hZ (hw _ (List.mem_of_getElem? (i := 11) rfl))) (mvT hZ (hw _ (List.mem_of_getElem? (i := 10) rfl))) (by decide) (backOf (W := 0) (rm2_1 l Z a0 hw [] w h0 n0 (Nat.le_trans Z0 (own_ext0 h0).1) hP) hZ (hw _ (List.mem_of_getElem? (i := 12) rfl)) (hw _ (List.mem_of_getElem? (i := 6) rfl)) (by decide) (by decide)) q37a q37c (g := (mkF m 22 #[.val (.int i0), .val (.int i1), .val (.ref (w 0)), .val (.ref (w 1)), .unset, .unset] [(.ref (w 1)), (.ref (w 0))])) rfl (by rw [hml]; rfl) (Steps.refl _) (argsL := [(.ref (w 1))]) (rest := []) (lenOf pd_1 rfl) rfl (by show 2 * 0 + _ ≤ _; exact Nat.le_of_eq rfl) (hb hby at_22) (fun _ _ => ⟨rfl, e30, (by decide : 0 + 0 ≤ _), (by decide : 0 + 0 ≤ _)⟩)
      dsimp only [Pt.U, Pt.locs, Pt.cells, Pt.slots] at X37 l37 y37 z37 st37 hQ37
      subst l37 y37 z37
      obtain ⟨rfl, N37q, e37⟩ := hQ37
      have N37 := Fr.app N30 N37q
      refine Go.on (T' := T37) (g' := (mkF m 25 #[.val (.int i0), .val (.int i1), .val (.ref (w 0)), .val (.ref (w 1)), .unset, .unset] [(.ref (w 1))])) (fun t k => st37.trans k) ?_
      refine Go.on (T' := T37) (g' := (mkF m 27 #[.val (.int i0), .val (.int i1), .val (.ref (w 0)), .val (.ref (w 1)), .val (.ref (w 1)), .unset] [])) (fun t k => XS.astore X37.here hx rfl (hb hby at_25) rfl rfl (l' := #[.val (.int i0), .val (.int i1), .val (.ref (w 0)), .val (.ref (w 1)), .val (.ref (w 1)), .unset]) rfl k) ?_
      refine Go.on (T' := T37) (g' := (mkF m 28 #[.val (.int i0), .val (.int i1), .val (.ref (w 0)), .val (.ref (w 1)), .val (.ref (w 1)), .unset] [(.ref (w 0))])) (fun t k => XS.aloadN X37.here hx rfl (hb hby at_27) rfl rfl k) ?_
      obtain ⟨_, _, ⟨T38, L38, k38, n38⟩, -, X38, ⟨Lc38, hQ38, l38, y38, z38⟩, st38⟩ := Jvm.LawKit.callS X37 hx (y := (⟨"com/example/bagwise/bagwise/terms/TruthAndPinLaw", "rank", "(Lcom/example/bagwise/bagwise/terms/Truth;)I"⟩ : MethodName)) hown (mvT hZ (hw _ (List.mem_of_getElem? (i := 18) rfl))) (mvT hZ (hw _ (List.mem_of_getElem? (i := 19) rfl))) (mvT hZ (hw _ (List.mem_of_getElem? (i := 3) rfl))) (mvT hZ (hw _ (List.mem_of_getElem? (i := 20) rfl))) (by decide) (backOf (W := 0) (rm3_0 l Z a0 hw [] w h0 n0 (Nat.le_trans Z0 (own_ext0 h0).1) hP) hZ (hw _ (List.mem_of_getElem? (i := 20) rfl)) (hw _ (List.mem_of_getElem? (i := 3) rfl)) (by decide) (by decide)) (g := (mkF m 28 #[.val (.int i0), .val (.int i1), .val (.ref (w 0)), .val (.ref (w 1)), .val (.ref (w 1)), .unset] [(.ref (w 0))])) rfl (by rw [hml]; rfl) (argsL := [(.ref (w 0))]) (rest := []) (lenOf pd_2 rfl) rfl (by show 2 * 0 + _ ≤ _; exact Nat.le_of_eq rfl) (hb hby at_28) (fun _ _ => ⟨rfl, e37, (by decide : 0 + 0 ≤ _), (by decide : 0 + 0 ≤ _)⟩)
      dsimp only [Pt.U, Pt.locs, Pt.cells, Pt.slots] at X38 l38 y38 z38 st38 hQ38
      subst l38 y38 z38
      obtain ⟨rfl, N38q, e38⟩ := hQ38
      have N38 := Fr.app N37 N38q
      refine Go.on (T' := T38) (g' := (mkF m 31 #[.val (.int i0), .val (.int i1), .val (.ref (w 0)), .val (.ref (w 1)), .val (.ref (w 1)), .unset] [(.int (2 : Int32))])) st38 ?_
      refine Go.on (T' := T38) (g' := (mkF m 32 #[.val (.int i0), .val (.int i1), .val (.ref (w 0)), .val (.ref (w 1)), .val (.ref (w 1)), .unset] [(.ref (w 1)), (.int (2 : Int32))])) (fun t k => XS.aloadN X38.here hx rfl (hb hby at_31) rfl rfl k) ?_
      obtain ⟨_, _, ⟨T41, L41, k41, n41⟩, -, X41, ⟨Lc41, hQ41, l41, y41, z41⟩, st41⟩ := Jvm.LawKit.callS X38 hx (y := (⟨"com/example/bagwise/bagwise/terms/TruthAndPinLaw", "rank", "(Lcom/example/bagwise/bagwise/terms/Truth;)I"⟩ : MethodName)) hown (mvT hZ (hw _ (List.mem_of_getElem? (i := 18) rfl))) (mvT hZ (hw _ (List.mem_of_getElem? (i := 19) rfl))) (mvT hZ (hw _ (List.mem_of_getElem? (i := 3) rfl))) (mvT hZ (hw _ (List.mem_of_getElem? (i := 20) rfl))) (by decide) (backOf (W := 1) (rm3_1 l Z a0 hw [] w h0 n0 (Nat.le_trans Z0 (own_ext0 h0).1) hP) hZ (hw _ (List.mem_of_getElem? (i := 20) rfl)) (hw _ (List.mem_of_getElem? (i := 3) rfl)) (by decide) (by decide)) (g := (mkF m 32 #[.val (.int i0), .val (.int i1), .val (.ref (w 0)), .val (.ref (w 1)), .val (.ref (w 1)), .unset] [(.ref (w 1)), (.int (2 : Int32))])) rfl (by rw [hml]; rfl) (argsL := [(.ref (w 1))]) (rest := [(.int (2 : Int32))]) (lenOf pd_2 rfl) rfl (by show 2 * 0 + _ ≤ _; exact Nat.le_of_eq rfl) (hb hby at_32) (fun _ _ => ⟨rfl, e38, (by decide : 0 + 0 ≤ _), (by decide : 0 + 0 ≤ _)⟩)
      dsimp only [Pt.U, Pt.locs, Pt.cells, Pt.slots] at X41 l41 y41 z41 st41 hQ41
      subst l41 y41 z41
      obtain ⟨rfl, N41q, e41⟩ := hQ41
      have N41 := Fr.app N38 N41q
      refine Go.on (T' := T41) (g' := (mkF m 35 #[.val (.int i0), .val (.int i1), .val (.ref (w 0)), .val (.ref (w 1)), .val (.ref (w 1)), .unset] [(.int (0 : Int32)), (.int (2 : Int32))])) st41 ?_
      obtain ⟨_, _, ⟨T42, L42, k42, n42⟩, -, X42, ⟨Lc42, hQ42, l42, y42, z42⟩, st42⟩ := Jvm.LawKit.callS X41 hx (y := (⟨"java/lang/Math", "min", "(II)I"⟩ : MethodName)) hown (mvT hZ (hw _ (List.mem_of_getElem? (i := 23) rfl))) (mvT hZ (hw _ (List.mem_of_getElem? (i := 24) rfl))) (mvT hZ (hw _ (List.mem_of_getElem? (i := 25) rfl))) (mvT hZ (hw _ (List.mem_of_getElem? (i := 26) rfl))) (by decide) (backOf (W := 0) (rm4_1 l Z a0 hw [] w h0 n0 (Nat.le_trans Z0 (own_ext0 h0).1) hP) hZ (hw _ (List.mem_of_getElem? (i := 26) rfl)) (hw _ (List.mem_of_getElem? (i := 25) rfl)) (by decide) (by decide)) (g := (mkF m 35 #[.val (.int i0), .val (.int i1), .val (.ref (w 0)), .val (.ref (w 1)), .val (.ref (w 1)), .unset] [(.int (0 : Int32)), (.int (2 : Int32))])) rfl (by rw [hml]; rfl) (argsL := [(.int (2 : Int32)), (.int (0 : Int32))]) (rest := []) (lenOf pd_3 rfl) rfl (by show 2 * 0 + _ ≤ _; exact Nat.le_of_eq rfl) (hb hby at_35) (fun _ _ => ⟨rfl, e41, (by decide : 0 + 0 ≤ _), (by decide : 0 + 0 ≤ _)⟩)
      dsimp only [Pt.U, Pt.locs, Pt.cells, Pt.slots] at X42 l42 y42 z42 st42 hQ42
      subst l42 y42 z42
      obtain ⟨rfl, N42q, e42⟩ := hQ42
      have N42 := Fr.app N41 N42q
      refine Go.on (T' := T42) (g' := (mkF m 38 #[.val (.int i0), .val (.int i1), .val (.ref (w 0)), .val (.ref (w 1)), .val (.ref (w 1)), .unset] [(.int (0 : Int32))])) st42 ?_
      refine Go.on (T' := T42) (g' := (mkF m 40 #[.val (.int i0), .val (.int i1), .val (.ref (w 0)), .val (.ref (w 1)), .val (.ref (w 1)), .val (.int (0 : Int32))] [])) (fun t k => XS.istore X42.here hx rfl (hb hby at_38) rfl (l' := #[.val (.int i0), .val (.int i1), .val (.ref (w 0)), .val (.ref (w 1)), .val (.ref (w 1)), .val (.int (0 : Int32))]) rfl k) ?_
      refine Go.on (T' := T42) (g' := (mkF m 42 #[.val (.int i0), .val (.int i1), .val (.ref (w 0)), .val (.ref (w 1)), .val (.ref (w 1)), .val (.int (0 : Int32))] [(.ref (w 1))])) (fun t k => XS.aload X42.here hx rfl (hb hby at_40) rfl rfl k) ?_
      refine Go.on (T' := T42) (g' := (mkF m 45 #[.val (.int i0), .val (.int i1), .val (.ref (w 0)), .val (.ref (w 1)), .val (.ref (w 1)), .val (.int (0 : Int32))] [])) (fun t k => XS.ifnullNo X42.here hx rfl (hb hby at_42) rfl k) ?_
      refine Go.on (T' := T42) (g' := (mkF m 47 #[.val (.int i0), .val (.int i1), .val (.ref (w 0)), .val (.ref (w 1)), .val (.ref (w 1)), .val (.int (0 : Int32))] [(.ref (w 1))])) (fun t k => XS.aload X42.here hx rfl (hb hby at_45) rfl rfl k) ?_
      obtain ⟨_, _, ⟨T43, L43, k43, n43⟩, -, X43, ⟨Lc43, hQ43, l43, y43, z43⟩, st43⟩ := Jvm.LawKit.callS X42 hx (y := (⟨"com/example/bagwise/bagwise/terms/TruthAndPinLaw", "rank", "(Lcom/example/bagwise/bagwise/terms/Truth;)I"⟩ : MethodName)) hown (mvT hZ (hw _ (List.mem_of_getElem? (i := 18) rfl))) (mvT hZ (hw _ (List.mem_of_getElem? (i := 19) rfl))) (mvT hZ (hw _ (List.mem_of_getElem? (i := 3) rfl))) (mvT hZ (hw _ (List.mem_of_getElem? (i := 20) rfl))) (by decide) (backOf (W := 0) (rm3_1 l Z a0 hw [] w h0 n0 (Nat.le_trans Z0 (own_ext0 h0).1) hP) hZ (hw _ (List.mem_of_getElem? (i := 20) rfl)) (hw _ (List.mem_of_getElem? (i := 3) rfl)) (by decide) (by decide)) (g := (mkF m 47 #[.val (.int i0), .val (.int i1), .val (.ref (w 0)), .val (.ref (w 1)), .val (.ref (w 1)), .val (.int (0 : Int32))] [(.ref (w 1))])) rfl (by rw [hml]; rfl) (argsL := [(.ref (w 1))]) (rest := []) (lenOf pd_2 rfl) rfl (by show 2 * 0 + _ ≤ _; exact Nat.le_of_eq rfl) (hb hby at_47) (fun _ _ => ⟨rfl, e42, (by decide : 0 + 0 ≤ _), (by decide : 0 + 0 ≤ _)⟩)
      dsimp only [Pt.U, Pt.locs, Pt.cells, Pt.slots] at X43 l43 y43 z43 st43 hQ43
      subst l43 y43 z43
      obtain ⟨rfl, N43q, e43⟩ := hQ43
      have N43 := Fr.app N42 N43q
      refine Go.on (T' := T43) (g' := (mkF m 50 #[.val (.int i0), .val (.int i1), .val (.ref (w 0)), .val (.ref (w 1)), .val (.ref (w 1)), .val (.int (0 : Int32))] [(.int (0 : Int32))])) st43 ?_
      refine Go.on (T' := T43) (g' := (mkF m 52 #[.val (.int i0), .val (.int i1), .val (.ref (w 0)), .val (.ref (w 1)), .val (.ref (w 1)), .val (.int (0 : Int32))] [(.int (0 : Int32)), (.int (0 : Int32))])) (fun t k => XS.iload X43.here hx rfl (hb hby at_50) rfl k) ?_
      refine Go.on (T' := T43) (g' := (mkF m 55 #[.val (.int i0), .val (.int i1), .val (.ref (w 0)), .val (.ref (w 1)), .val (.ref (w 1)), .val (.int (0 : Int32))] [])) (fun t k => XS.icmpNo X43.here hx rfl (hb hby at_52) rfl (teq (by decide : (0 : Int32) = (0 : Int32))).2 k) ?_
      refine Go.on (T' := T43) (g' := (mkF m 56 #[.val (.int i0), .val (.int i1), .val (.ref (w 0)), .val (.ref (w 1)), .val (.ref (w 1)), .val (.int (0 : Int32))] [(.int (1 : Int32))])) (fun t k => XS.iconst X43.here hx rfl (hb hby at_55) k) ?_
      refine Go.on (T' := T43) (g' := (mkF m 60 #[.val (.int i0), .val (.int i1), .val (.ref (w 0)), .val (.ref (w 1)), .val (.ref (w 1)), .val (.int (0 : Int32))] [(.int (1 : Int32))])) (fun t k => XS.goto X43.here hx rfl (pc0 := 56) (pc' := 60) rfl (hb hby at_56) (by decide) (by decide) k) ?_
      obtain ⟨fs, hr, hrun, hended, hW, hsame⟩ := X43.leave (v := some (.int (1 : Int32))) (fun h => by rw [Bd.returns] at h; cases h)
      exact ⟨_, _, retN X43 hx (t := .boolean) Bd.returns (by simp) (hb hby at_60) hr, hrun, hended, _, _, rfl, ⟨rfl, N43⟩, ⟨_, rfl⟩, hW, hsame.mono (by decide) (by decide)⟩
    · skip
      rw [h5]
      obtain ⟨_, _, ⟨T46, L46, k46, n46⟩, -, X46, ⟨Lc46, hQ46, l46, y46, z46⟩, st46⟩ := Jvm.LawKit.callS X4 hx (y := (⟨"com/example/bagwise/bagwise/terms/TruthAndPinLaw", "pick", "(I)Lcom/example/bagwise/bagwise/terms/Truth;"⟩ : MethodName)) hown (mvT hZ (hw _ (List.mem_of_getElem? (i := 1) rfl))) (mvT hZ (hw _ (List.mem_of_getElem? (i := 2) rfl))) (mvT hZ (hw _ (List.mem_of_getElem? (i := 3) rfl))) (mvT hZ (hw _ (List.mem_of_getElem? (i := 4) rfl))) (by decide) (backOf (W := 0) (rm1_2 l Z a0 hw [] w h0 n0 (Nat.le_trans Z0 (own_ext0 h0).1) hP) hZ (hw _ (List.mem_of_getElem? (i := 4) rfl)) (hw _ (List.mem_of_getElem? (i := 3) rfl)) (by decide) (by decide)) (g := (mkF m 16 #[.val (.int i0), .val (.int i1), .val (.ref (w 0)), .unset, .unset, .unset] [(.int (2 : Int32))])) rfl (by rw [hml]; rfl) (argsL := [(.int (2 : Int32))]) (rest := []) (lenOf pd_0 rfl) rfl (by show 2 * 0 + _ ≤ _; exact Nat.le_of_eq rfl) (hb hby at_16) (fun _ _ => ⟨rfl, e4, (by decide : 0 + 0 ≤ _), (by decide : 0 + 0 ≤ _)⟩)
      dsimp only [Pt.U, Pt.locs, Pt.cells, Pt.slots] at X46 l46 y46 z46 st46 hQ46
      subst l46 y46 z46
      obtain ⟨rfl, N46q, e46⟩ := hQ46
      have N46 := Fr.app N4 N46q
      refine Go.on (T' := T46) (g' := (mkF m 19 #[.val (.int i0), .val (.int i1), .val (.ref (w 0)), .unset, .unset, .unset] [(.ref (w 2))])) st46 ?_
      refine Go.on (T' := T46) (g' := (mkF m 20 #[.val (.int i0), .val (.int i1), .val (.ref (w 0)), .val (.ref (w 2)), .unset, .unset] [])) (fun t k => XS.astoreN X46.here hx rfl (hb hby at_19) rfl rfl (l' := #[.val (.int i0), .val (.int i1), .val (.ref (w 0)), .val (.ref (w 2)), .unset, .unset]) rfl k) ?_
      refine Go.on (T' := T46) (g' := (mkF m 21 #[.val (.int i0), .val (.int i1), .val (.ref (w 0)), .val (.ref (w 2)), .unset, .unset] [(.ref (w 0))])) (fun t k => XS.aloadN X46.here hx rfl (hb hby at_20) rfl rfl k) ?_
      refine Go.on (T' := T46) (g' := (mkF m 22 #[.val (.int i0), .val (.int i1), .val (.ref (w 0)), .val (.ref (w 2)), .unset, .unset] [(.ref (w 2)), (.ref (w 0))])) (fun t k => XS.aloadN X46.here hx rfl (hb hby at_21) rfl rfl k) ?_
      obtain ⟨cq57, kq57, q57a, q57b, q57c⟩ := isOf hZ e46 (pin_3 hP)
      obtain ⟨_, _, ⟨T57, L57, k57, n57⟩, -, X57, ⟨Lc57, hQ57, l57, y57, z57⟩, st57⟩ := X46.virtualBack hx (y := (⟨"com/example/bagwise/bagwise/terms/Truth", "and", "(Lcom/example/bagwise/bagwise/terms/Truth;)Lcom/example/bagwise/bagwise/terms/Truth;"⟩ : MethodName)) (z := (⟨"com/example/bagwise/bagwise/terms/Truth", "and", "(Lcom/example/bagwise/bagwise/terms/Truth;)Lcom/example/bagwise/bagwise/terms/Truth;"⟩ : MethodName)) hown (mvT hZ (hw _ (List.mem_of_getElem? (i := 8) rfl))) (mvT hZ (hw _ (List.mem_of_getElem? (i := 9) rfl))) (notFace_of_selects (args := #[]) (mvT hZ (hw _ (List.mem_of_getElem? (i := 11) rfl)))) (mvT hZ (hw _ (List.mem_of_getElem? (i := 11) rfl))) (mvT hZ (hw _ (List.mem_of_getElem? (i := 10) rfl))) (by decide) (backOf (W := 0) (rm2_2 l Z a0 hw [] w h0 n0 (Nat.le_trans Z0 (own_ext0 h0).1) hP) hZ (hw _ (List.mem_of_getElem? (i := 12) rfl)) (hw _ (List.mem_of_getElem? (i := 6) rfl)) (by decide) (by decide)) q57a q57c (g := (mkF m 22 #[.val (.int i0), .val (.int i1), .val (.ref (w 0)), .val (.ref (w 2)), .unset, .unset] [(.ref (w 2)), (.ref (w 0))])) rfl (by rw [hml]; rfl) (Steps.refl _) (argsL := [(.ref (w 2))]) (rest := []) (lenOf pd_1 rfl) rfl (by show 2 * 0 + _ ≤ _; exact Nat.le_of_eq rfl) (hb hby at_22) (fun _ _ => ⟨rfl, e46, (by decide : 0 + 0 ≤ _), (by decide : 0 + 0 ≤ _)⟩)
      dsimp only [Pt.U, Pt.locs, Pt.cells, Pt.slots] at X57 l57 y57 z57 st57 hQ57
      subst l57 y57 z57
      obtain ⟨rfl, N57q, e57⟩ := hQ57
      have N57 := Fr.app N46 N57q
      refine Go.on (T' := T57) (g' := (mkF m 25 #[.val (.int i0), .val (.int i1), .val (.ref (w 0)), .val (.ref (w 2)), .unset, .unset] [(.ref (w 2))])) (fun t k => st57.trans k) ?_
      refine Go.on (T' := T57) (g' := (mkF m 27 #[.val (.int i0), .val (.int i1), .val (.ref (w 0)), .val (.ref (w 2)), .val (.ref (w 2)), .unset] [])) (fun t k => XS.astore X57.here hx rfl (hb hby at_25) rfl rfl (l' := #[.val (.int i0), .val (.int i1), .val (.ref (w 0)), .val (.ref (w 2)), .val (.ref (w 2)), .unset]) rfl k) ?_
      refine Go.on (T' := T57) (g' := (mkF m 28 #[.val (.int i0), .val (.int i1), .val (.ref (w 0)), .val (.ref (w 2)), .val (.ref (w 2)), .unset] [(.ref (w 0))])) (fun t k => XS.aloadN X57.here hx rfl (hb hby at_27) rfl rfl k) ?_
      obtain ⟨_, _, ⟨T58, L58, k58, n58⟩, -, X58, ⟨Lc58, hQ58, l58, y58, z58⟩, st58⟩ := Jvm.LawKit.callS X57 hx (y := (⟨"com/example/bagwise/bagwise/terms/TruthAndPinLaw", "rank", "(Lcom/example/bagwise/bagwise/terms/Truth;)I"⟩ : MethodName)) hown (mvT hZ (hw _ (List.mem_of_getElem? (i := 18) rfl))) (mvT hZ (hw _ (List.mem_of_getElem? (i := 19) rfl))) (mvT hZ (hw _ (List.mem_of_getElem? (i := 3) rfl))) (mvT hZ (hw _ (List.mem_of_getElem? (i := 20) rfl))) (by decide) (backOf (W := 0) (rm3_0 l Z a0 hw [] w h0 n0 (Nat.le_trans Z0 (own_ext0 h0).1) hP) hZ (hw _ (List.mem_of_getElem? (i := 20) rfl)) (hw _ (List.mem_of_getElem? (i := 3) rfl)) (by decide) (by decide)) (g := (mkF m 28 #[.val (.int i0), .val (.int i1), .val (.ref (w 0)), .val (.ref (w 2)), .val (.ref (w 2)), .unset] [(.ref (w 0))])) rfl (by rw [hml]; rfl) (argsL := [(.ref (w 0))]) (rest := []) (lenOf pd_2 rfl) rfl (by show 2 * 0 + _ ≤ _; exact Nat.le_of_eq rfl) (hb hby at_28) (fun _ _ => ⟨rfl, e57, (by decide : 0 + 0 ≤ _), (by decide : 0 + 0 ≤ _)⟩)
      dsimp only [Pt.U, Pt.locs, Pt.cells, Pt.slots] at X58 l58 y58 z58 st58 hQ58
      subst l58 y58 z58
      obtain ⟨rfl, N58q, e58⟩ := hQ58
      have N58 := Fr.app N57 N58q
      refine Go.on (T' := T58) (g' := (mkF m 31 #[.val (.int i0), .val (.int i1), .val (.ref (w 0)), .val (.ref (w 2)), .val (.ref (w 2)), .unset] [(.int (2 : Int32))])) st58 ?_
      refine Go.on (T' := T58) (g' := (mkF m 32 #[.val (.int i0), .val (.int i1), .val (.ref (w 0)), .val (.ref (w 2)), .val (.ref (w 2)), .unset] [(.ref (w 2)), (.int (2 : Int32))])) (fun t k => XS.aloadN X58.here hx rfl (hb hby at_31) rfl rfl k) ?_
      obtain ⟨_, _, ⟨T63, L63, k63, n63⟩, -, X63, ⟨Lc63, hQ63, l63, y63, z63⟩, st63⟩ := Jvm.LawKit.callS X58 hx (y := (⟨"com/example/bagwise/bagwise/terms/TruthAndPinLaw", "rank", "(Lcom/example/bagwise/bagwise/terms/Truth;)I"⟩ : MethodName)) hown (mvT hZ (hw _ (List.mem_of_getElem? (i := 18) rfl))) (mvT hZ (hw _ (List.mem_of_getElem? (i := 19) rfl))) (mvT hZ (hw _ (List.mem_of_getElem? (i := 3) rfl))) (mvT hZ (hw _ (List.mem_of_getElem? (i := 20) rfl))) (by decide) (backOf (W := 1) (rm3_2 l Z a0 hw [] w h0 n0 (Nat.le_trans Z0 (own_ext0 h0).1) hP) hZ (hw _ (List.mem_of_getElem? (i := 20) rfl)) (hw _ (List.mem_of_getElem? (i := 3) rfl)) (by decide) (by decide)) (g := (mkF m 32 #[.val (.int i0), .val (.int i1), .val (.ref (w 0)), .val (.ref (w 2)), .val (.ref (w 2)), .unset] [(.ref (w 2)), (.int (2 : Int32))])) rfl (by rw [hml]; rfl) (argsL := [(.ref (w 2))]) (rest := [(.int (2 : Int32))]) (lenOf pd_2 rfl) rfl (by show 2 * 0 + _ ≤ _; exact Nat.le_of_eq rfl) (hb hby at_32) (fun _ _ => ⟨rfl, e58, (by decide : 0 + 0 ≤ _), (by decide : 0 + 0 ≤ _)⟩)
      dsimp only [Pt.U, Pt.locs, Pt.cells, Pt.slots] at X63 l63 y63 z63 st63 hQ63
      subst l63 y63 z63
      obtain ⟨rfl, N63q, e63⟩ := hQ63
      have N63 := Fr.app N58 N63q
      refine Go.on (T' := T63) (g' := (mkF m 35 #[.val (.int i0), .val (.int i1), .val (.ref (w 0)), .val (.ref (w 2)), .val (.ref (w 2)), .unset] [(.int (1 : Int32)), (.int (2 : Int32))])) st63 ?_
      obtain ⟨_, _, ⟨T64, L64, k64, n64⟩, -, X64, ⟨Lc64, hQ64, l64, y64, z64⟩, st64⟩ := Jvm.LawKit.callS X63 hx (y := (⟨"java/lang/Math", "min", "(II)I"⟩ : MethodName)) hown (mvT hZ (hw _ (List.mem_of_getElem? (i := 23) rfl))) (mvT hZ (hw _ (List.mem_of_getElem? (i := 24) rfl))) (mvT hZ (hw _ (List.mem_of_getElem? (i := 25) rfl))) (mvT hZ (hw _ (List.mem_of_getElem? (i := 26) rfl))) (by decide) (backOf (W := 0) (rm4_2 l Z a0 hw [] w h0 n0 (Nat.le_trans Z0 (own_ext0 h0).1) hP) hZ (hw _ (List.mem_of_getElem? (i := 26) rfl)) (hw _ (List.mem_of_getElem? (i := 25) rfl)) (by decide) (by decide)) (g := (mkF m 35 #[.val (.int i0), .val (.int i1), .val (.ref (w 0)), .val (.ref (w 2)), .val (.ref (w 2)), .unset] [(.int (1 : Int32)), (.int (2 : Int32))])) rfl (by rw [hml]; rfl) (argsL := [(.int (2 : Int32)), (.int (1 : Int32))]) (rest := []) (lenOf pd_3 rfl) rfl (by show 2 * 0 + _ ≤ _; exact Nat.le_of_eq rfl) (hb hby at_35) (fun _ _ => ⟨rfl, e63, (by decide : 0 + 0 ≤ _), (by decide : 0 + 0 ≤ _)⟩)
      dsimp only [Pt.U, Pt.locs, Pt.cells, Pt.slots] at X64 l64 y64 z64 st64 hQ64
      subst l64 y64 z64
      obtain ⟨rfl, N64q, e64⟩ := hQ64
      have N64 := Fr.app N63 N64q
      refine Go.on (T' := T64) (g' := (mkF m 38 #[.val (.int i0), .val (.int i1), .val (.ref (w 0)), .val (.ref (w 2)), .val (.ref (w 2)), .unset] [(.int (1 : Int32))])) st64 ?_
      refine Go.on (T' := T64) (g' := (mkF m 40 #[.val (.int i0), .val (.int i1), .val (.ref (w 0)), .val (.ref (w 2)), .val (.ref (w 2)), .val (.int (1 : Int32))] [])) (fun t k => XS.istore X64.here hx rfl (hb hby at_38) rfl (l' := #[.val (.int i0), .val (.int i1), .val (.ref (w 0)), .val (.ref (w 2)), .val (.ref (w 2)), .val (.int (1 : Int32))]) rfl k) ?_
      refine Go.on (T' := T64) (g' := (mkF m 42 #[.val (.int i0), .val (.int i1), .val (.ref (w 0)), .val (.ref (w 2)), .val (.ref (w 2)), .val (.int (1 : Int32))] [(.ref (w 2))])) (fun t k => XS.aload X64.here hx rfl (hb hby at_40) rfl rfl k) ?_
      refine Go.on (T' := T64) (g' := (mkF m 45 #[.val (.int i0), .val (.int i1), .val (.ref (w 0)), .val (.ref (w 2)), .val (.ref (w 2)), .val (.int (1 : Int32))] [])) (fun t k => XS.ifnullNo X64.here hx rfl (hb hby at_42) rfl k) ?_
      refine Go.on (T' := T64) (g' := (mkF m 47 #[.val (.int i0), .val (.int i1), .val (.ref (w 0)), .val (.ref (w 2)), .val (.ref (w 2)), .val (.int (1 : Int32))] [(.ref (w 2))])) (fun t k => XS.aload X64.here hx rfl (hb hby at_45) rfl rfl k) ?_
      obtain ⟨_, _, ⟨T65, L65, k65, n65⟩, -, X65, ⟨Lc65, hQ65, l65, y65, z65⟩, st65⟩ := Jvm.LawKit.callS X64 hx (y := (⟨"com/example/bagwise/bagwise/terms/TruthAndPinLaw", "rank", "(Lcom/example/bagwise/bagwise/terms/Truth;)I"⟩ : MethodName)) hown (mvT hZ (hw _ (List.mem_of_getElem? (i := 18) rfl))) (mvT hZ (hw _ (List.mem_of_getElem? (i := 19) rfl))) (mvT hZ (hw _ (List.mem_of_getElem? (i := 3) rfl))) (mvT hZ (hw _ (List.mem_of_getElem? (i := 20) rfl))) (by decide) (backOf (W := 0) (rm3_2 l Z a0 hw [] w h0 n0 (Nat.le_trans Z0 (own_ext0 h0).1) hP) hZ (hw _ (List.mem_of_getElem? (i := 20) rfl)) (hw _ (List.mem_of_getElem? (i := 3) rfl)) (by decide) (by decide)) (g := (mkF m 47 #[.val (.int i0), .val (.int i1), .val (.ref (w 0)), .val (.ref (w 2)), .val (.ref (w 2)), .val (.int (1 : Int32))] [(.ref (w 2))])) rfl (by rw [hml]; rfl) (argsL := [(.ref (w 2))]) (rest := []) (lenOf pd_2 rfl) rfl (by show 2 * 0 + _ ≤ _; exact Nat.le_of_eq rfl) (hb hby at_47) (fun _ _ => ⟨rfl, e64, (by decide : 0 + 0 ≤ _), (by decide : 0 + 0 ≤ _)⟩)
      dsimp only [Pt.U, Pt.locs, Pt.cells, Pt.slots] at X65 l65 y65 z65 st65 hQ65
      subst l65 y65 z65
      obtain ⟨rfl, N65q, e65⟩ := hQ65
      have N65 := Fr.app N64 N65q
      refine Go.on (T' := T65) (g' := (mkF m 50 #[.val (.int i0), .val (.int i1), .val (.ref (w 0)), .val (.ref (w 2)), .val (.ref (w 2)), .val (.int (1 : Int32))] [(.int (1 : Int32))])) st65 ?_
      refine Go.on (T' := T65) (g' := (mkF m 52 #[.val (.int i0), .val (.int i1), .val (.ref (w 0)), .val (.ref (w 2)), .val (.ref (w 2)), .val (.int (1 : Int32))] [(.int (1 : Int32)), (.int (1 : Int32))])) (fun t k => XS.iload X65.here hx rfl (hb hby at_50) rfl k) ?_
      refine Go.on (T' := T65) (g' := (mkF m 55 #[.val (.int i0), .val (.int i1), .val (.ref (w 0)), .val (.ref (w 2)), .val (.ref (w 2)), .val (.int (1 : Int32))] [])) (fun t k => XS.icmpNo X65.here hx rfl (hb hby at_52) rfl (teq (by decide : (1 : Int32) = (1 : Int32))).2 k) ?_
      refine Go.on (T' := T65) (g' := (mkF m 56 #[.val (.int i0), .val (.int i1), .val (.ref (w 0)), .val (.ref (w 2)), .val (.ref (w 2)), .val (.int (1 : Int32))] [(.int (1 : Int32))])) (fun t k => XS.iconst X65.here hx rfl (hb hby at_55) k) ?_
      refine Go.on (T' := T65) (g' := (mkF m 60 #[.val (.int i0), .val (.int i1), .val (.ref (w 0)), .val (.ref (w 2)), .val (.ref (w 2)), .val (.int (1 : Int32))] [(.int (1 : Int32))])) (fun t k => XS.goto X65.here hx rfl (pc0 := 56) (pc' := 60) rfl (hb hby at_56) (by decide) (by decide) k) ?_
      obtain ⟨fs, hr, hrun, hended, hW, hsame⟩ := X65.leave (v := some (.int (1 : Int32))) (fun h => by rw [Bd.returns] at h; cases h)
      exact ⟨_, _, retN X65 hx (t := .boolean) Bd.returns (by simp) (hb hby at_60) hr, hrun, hended, _, _, rfl, ⟨rfl, N65⟩, ⟨_, rfl⟩, hW, hsame.mono (by decide) (by decide)⟩
  · skip
    rw [h1]
    obtain ⟨_, _, ⟨T66, L66, k66, n66⟩, -, X66, ⟨Lc66, hQ66, l66, y66, z66⟩, st66⟩ := Jvm.LawKit.callS X0 hx (y := (⟨"com/example/bagwise/bagwise/terms/TruthAndPinLaw", "pick", "(I)Lcom/example/bagwise/bagwise/terms/Truth;"⟩ : MethodName)) hown (mvT hZ (hw _ (List.mem_of_getElem? (i := 1) rfl))) (mvT hZ (hw _ (List.mem_of_getElem? (i := 2) rfl))) (mvT hZ (hw _ (List.mem_of_getElem? (i := 3) rfl))) (mvT hZ (hw _ (List.mem_of_getElem? (i := 4) rfl))) (by decide) (backOf (W := 0) (rm1_1 l Z a0 hw [] w h0 n0 (Nat.le_trans Z0 (own_ext0 h0).1) hP) hZ (hw _ (List.mem_of_getElem? (i := 4) rfl)) (hw _ (List.mem_of_getElem? (i := 3) rfl)) (by decide) (by decide)) (g := (mkF m 6 #[.val (.int i0), .val (.int i1), .unset, .unset, .unset, .unset] [(.int (1 : Int32))])) rfl (by rw [hml]; rfl) (argsL := [(.int (1 : Int32))]) (rest := []) (lenOf pd_0 rfl) rfl (by show 2 * 0 + _ ≤ _; exact Nat.le_of_eq rfl) (hb hby at_6) (fun _ _ => ⟨rfl, e0, (by decide : 0 + 0 ≤ _), (by decide : 0 + 0 ≤ _)⟩)
    dsimp only [Pt.U, Pt.locs, Pt.cells, Pt.slots] at X66 l66 y66 z66 st66 hQ66
    subst l66 y66 z66
    obtain ⟨rfl, N66q, e66⟩ := hQ66
    have N66 := Fr.app N0 N66q
    refine Go.on (T' := T66) (g' := (mkF m 9 #[.val (.int i0), .val (.int i1), .unset, .unset, .unset, .unset] [(.ref (w 1))])) st66 ?_
    refine Go.on (T' := T66) (g' := (mkF m 10 #[.val (.int i0), .val (.int i1), .val (.ref (w 1)), .unset, .unset, .unset] [])) (fun t k => XS.astoreN X66.here hx rfl (hb hby at_9) rfl rfl (l' := #[.val (.int i0), .val (.int i1), .val (.ref (w 1)), .unset, .unset, .unset]) rfl k) ?_
    refine Go.on (T' := T66) (g' := (mkF m 11 #[.val (.int i0), .val (.int i1), .val (.ref (w 1)), .unset, .unset, .unset] [(.int i1)])) (fun t k => XS.iloadN X66.here hx rfl (hb hby at_10) rfl k) ?_
    refine Go.on (T' := T66) (g' := (mkF m 13 #[.val (.int i0), .val (.int i1), .val (.ref (w 1)), .unset, .unset, .unset] [(.int (2147483647 : Int32)), (.int i1)])) (X66.ldcInt hx hown (mvT hZ (hw _ (List.mem_of_getElem? (i := 0) rfl))) (g := (mkF m 11 #[.val (.int i0), .val (.int i1), .val (.ref (w 1)), .unset, .unset, .unset] [(.int i1)])) rfl (hb hby at_11)) ?_
    refine Go.on (T' := T66) (g' := (mkF m 14 #[.val (.int i0), .val (.int i1), .val (.ref (w 1)), .unset, .unset, .unset] [(.int (i1 &&& (2147483647 : Int32)))])) (fun t k => XS.iand X66.here hx rfl (hb hby at_13) rfl k) ?_
    refine Go.on (T' := T66) (g' := (mkF m 15 #[.val (.int i0), .val (.int i1), .val (.ref (w 1)), .unset, .unset, .unset] [(.int (3 : Int32)), (.int (i1 &&& (2147483647 : Int32)))])) (fun t k => XS.iconst X66.here hx rfl (hb hby at_14) k) ?_
    refine Go.on (T' := T66) (g' := (mkF m 16 #[.val (.int i0), .val (.int i1), .val (.ref (w 1)), .unset, .unset, .unset] [(.int ((i1 &&& (2147483647 : Int32)) % (3 : Int32)))])) (fun t k => iremM X66 hx rfl (hb hby at_15) rfl (by decide) k) ?_
    rcases own_mod3 i1 with h67 | h67 | h67
    · skip
      rw [h67]
      obtain ⟨_, _, ⟨T68, L68, k68, n68⟩, -, X68, ⟨Lc68, hQ68, l68, y68, z68⟩, st68⟩ := Jvm.LawKit.callS X66 hx (y := (⟨"com/example/bagwise/bagwise/terms/TruthAndPinLaw", "pick", "(I)Lcom/example/bagwise/bagwise/terms/Truth;"⟩ : MethodName)) hown (mvT hZ (hw _ (List.mem_of_getElem? (i := 1) rfl))) (mvT hZ (hw _ (List.mem_of_getElem? (i := 2) rfl))) (mvT hZ (hw _ (List.mem_of_getElem? (i := 3) rfl))) (mvT hZ (hw _ (List.mem_of_getElem? (i := 4) rfl))) (by decide) (backOf (W := 0) (rm1_0 l Z a0 hw [] w h0 n0 (Nat.le_trans Z0 (own_ext0 h0).1) hP) hZ (hw _ (List.mem_of_getElem? (i := 4) rfl)) (hw _ (List.mem_of_getElem? (i := 3) rfl)) (by decide) (by decide)) (g := (mkF m 16 #[.val (.int i0), .val (.int i1), .val (.ref (w 1)), .unset, .unset, .unset] [(.int (0 : Int32))])) rfl (by rw [hml]; rfl) (argsL := [(.int (0 : Int32))]) (rest := []) (lenOf pd_0 rfl) rfl (by show 2 * 0 + _ ≤ _; exact Nat.le_of_eq rfl) (hb hby at_16) (fun _ _ => ⟨rfl, e66, (by decide : 0 + 0 ≤ _), (by decide : 0 + 0 ≤ _)⟩)
      dsimp only [Pt.U, Pt.locs, Pt.cells, Pt.slots] at X68 l68 y68 z68 st68 hQ68
      subst l68 y68 z68
      obtain ⟨rfl, N68q, e68⟩ := hQ68
      have N68 := Fr.app N66 N68q
      refine Go.on (T' := T68) (g' := (mkF m 19 #[.val (.int i0), .val (.int i1), .val (.ref (w 1)), .unset, .unset, .unset] [(.ref (w 0))])) st68 ?_
      refine Go.on (T' := T68) (g' := (mkF m 20 #[.val (.int i0), .val (.int i1), .val (.ref (w 1)), .val (.ref (w 0)), .unset, .unset] [])) (fun t k => XS.astoreN X68.here hx rfl (hb hby at_19) rfl rfl (l' := #[.val (.int i0), .val (.int i1), .val (.ref (w 1)), .val (.ref (w 0)), .unset, .unset]) rfl k) ?_
      refine Go.on (T' := T68) (g' := (mkF m 21 #[.val (.int i0), .val (.int i1), .val (.ref (w 1)), .val (.ref (w 0)), .unset, .unset] [(.ref (w 1))])) (fun t k => XS.aloadN X68.here hx rfl (hb hby at_20) rfl rfl k) ?_
      refine Go.on (T' := T68) (g' := (mkF m 22 #[.val (.int i0), .val (.int i1), .val (.ref (w 1)), .val (.ref (w 0)), .unset, .unset] [(.ref (w 0)), (.ref (w 1))])) (fun t k => XS.aloadN X68.here hx rfl (hb hby at_21) rfl rfl k) ?_
      obtain ⟨cq73, kq73, q73a, q73b, q73c⟩ := isOf hZ e68 (pin_4 hP)
      obtain ⟨_, _, ⟨T73, L73, k73, n73⟩, -, X73, ⟨Lc73, hQ73, l73, y73, z73⟩, st73⟩ := X68.virtualBack hx (y := (⟨"com/example/bagwise/bagwise/terms/Truth", "and", "(Lcom/example/bagwise/bagwise/terms/Truth;)Lcom/example/bagwise/bagwise/terms/Truth;"⟩ : MethodName)) (z := (⟨"com/example/bagwise/bagwise/terms/Truth", "and", "(Lcom/example/bagwise/bagwise/terms/Truth;)Lcom/example/bagwise/bagwise/terms/Truth;"⟩ : MethodName)) hown (mvT hZ (hw _ (List.mem_of_getElem? (i := 8) rfl))) (mvT hZ (hw _ (List.mem_of_getElem? (i := 9) rfl))) (notFace_of_selects (args := #[]) (mvT hZ (hw _ (List.mem_of_getElem? (i := 11) rfl)))) (mvT hZ (hw _ (List.mem_of_getElem? (i := 11) rfl))) (mvT hZ (hw _ (List.mem_of_getElem? (i := 10) rfl))) (by decide) (backOf (W := 0) (rm2_3 l Z a0 hw [] w h0 n0 (Nat.le_trans Z0 (own_ext0 h0).1) hP) hZ (hw _ (List.mem_of_getElem? (i := 12) rfl)) (hw _ (List.mem_of_getElem? (i := 6) rfl)) (by decide) (by decide)) q73a q73c (g := (mkF m 22 #[.val (.int i0), .val (.int i1), .val (.ref (w 1)), .val (.ref (w 0)), .unset, .unset] [(.ref (w 0)), (.ref (w 1))])) rfl (by rw [hml]; rfl) (Steps.refl _) (argsL := [(.ref (w 0))]) (rest := []) (lenOf pd_1 rfl) rfl (by show 2 * 0 + _ ≤ _; exact Nat.le_of_eq rfl) (hb hby at_22) (fun _ _ => ⟨rfl, e68, (by decide : 0 + 0 ≤ _), (by decide : 0 + 0 ≤ _)⟩)
      dsimp only [Pt.U, Pt.locs, Pt.cells, Pt.slots] at X73 l73 y73 z73 st73 hQ73
      subst l73 y73 z73
      obtain ⟨rfl, N73q, e73⟩ := hQ73
      have N73 := Fr.app N68 N73q
      refine Go.on (T' := T73) (g' := (mkF m 25 #[.val (.int i0), .val (.int i1), .val (.ref (w 1)), .val (.ref (w 0)), .unset, .unset] [(.ref (w 1))])) (fun t k => st73.trans k) ?_
      refine Go.on (T' := T73) (g' := (mkF m 27 #[.val (.int i0), .val (.int i1), .val (.ref (w 1)), .val (.ref (w 0)), .val (.ref (w 1)), .unset] [])) (fun t k => XS.astore X73.here hx rfl (hb hby at_25) rfl rfl (l' := #[.val (.int i0), .val (.int i1), .val (.ref (w 1)), .val (.ref (w 0)), .val (.ref (w 1)), .unset]) rfl k) ?_
      refine Go.on (T' := T73) (g' := (mkF m 28 #[.val (.int i0), .val (.int i1), .val (.ref (w 1)), .val (.ref (w 0)), .val (.ref (w 1)), .unset] [(.ref (w 1))])) (fun t k => XS.aloadN X73.here hx rfl (hb hby at_27) rfl rfl k) ?_
      obtain ⟨_, _, ⟨T74, L74, k74, n74⟩, -, X74, ⟨Lc74, hQ74, l74, y74, z74⟩, st74⟩ := Jvm.LawKit.callS X73 hx (y := (⟨"com/example/bagwise/bagwise/terms/TruthAndPinLaw", "rank", "(Lcom/example/bagwise/bagwise/terms/Truth;)I"⟩ : MethodName)) hown (mvT hZ (hw _ (List.mem_of_getElem? (i := 18) rfl))) (mvT hZ (hw _ (List.mem_of_getElem? (i := 19) rfl))) (mvT hZ (hw _ (List.mem_of_getElem? (i := 3) rfl))) (mvT hZ (hw _ (List.mem_of_getElem? (i := 20) rfl))) (by decide) (backOf (W := 0) (rm3_1 l Z a0 hw [] w h0 n0 (Nat.le_trans Z0 (own_ext0 h0).1) hP) hZ (hw _ (List.mem_of_getElem? (i := 20) rfl)) (hw _ (List.mem_of_getElem? (i := 3) rfl)) (by decide) (by decide)) (g := (mkF m 28 #[.val (.int i0), .val (.int i1), .val (.ref (w 1)), .val (.ref (w 0)), .val (.ref (w 1)), .unset] [(.ref (w 1))])) rfl (by rw [hml]; rfl) (argsL := [(.ref (w 1))]) (rest := []) (lenOf pd_2 rfl) rfl (by show 2 * 0 + _ ≤ _; exact Nat.le_of_eq rfl) (hb hby at_28) (fun _ _ => ⟨rfl, e73, (by decide : 0 + 0 ≤ _), (by decide : 0 + 0 ≤ _)⟩)
      dsimp only [Pt.U, Pt.locs, Pt.cells, Pt.slots] at X74 l74 y74 z74 st74 hQ74
      subst l74 y74 z74
      obtain ⟨rfl, N74q, e74⟩ := hQ74
      have N74 := Fr.app N73 N74q
      refine Go.on (T' := T74) (g' := (mkF m 31 #[.val (.int i0), .val (.int i1), .val (.ref (w 1)), .val (.ref (w 0)), .val (.ref (w 1)), .unset] [(.int (0 : Int32))])) st74 ?_
      refine Go.on (T' := T74) (g' := (mkF m 32 #[.val (.int i0), .val (.int i1), .val (.ref (w 1)), .val (.ref (w 0)), .val (.ref (w 1)), .unset] [(.ref (w 0)), (.int (0 : Int32))])) (fun t k => XS.aloadN X74.here hx rfl (hb hby at_31) rfl rfl k) ?_
      obtain ⟨_, _, ⟨T75, L75, k75, n75⟩, -, X75, ⟨Lc75, hQ75, l75, y75, z75⟩, st75⟩ := Jvm.LawKit.callS X74 hx (y := (⟨"com/example/bagwise/bagwise/terms/TruthAndPinLaw", "rank", "(Lcom/example/bagwise/bagwise/terms/Truth;)I"⟩ : MethodName)) hown (mvT hZ (hw _ (List.mem_of_getElem? (i := 18) rfl))) (mvT hZ (hw _ (List.mem_of_getElem? (i := 19) rfl))) (mvT hZ (hw _ (List.mem_of_getElem? (i := 3) rfl))) (mvT hZ (hw _ (List.mem_of_getElem? (i := 20) rfl))) (by decide) (backOf (W := 1) (rm3_0 l Z a0 hw [] w h0 n0 (Nat.le_trans Z0 (own_ext0 h0).1) hP) hZ (hw _ (List.mem_of_getElem? (i := 20) rfl)) (hw _ (List.mem_of_getElem? (i := 3) rfl)) (by decide) (by decide)) (g := (mkF m 32 #[.val (.int i0), .val (.int i1), .val (.ref (w 1)), .val (.ref (w 0)), .val (.ref (w 1)), .unset] [(.ref (w 0)), (.int (0 : Int32))])) rfl (by rw [hml]; rfl) (argsL := [(.ref (w 0))]) (rest := [(.int (0 : Int32))]) (lenOf pd_2 rfl) rfl (by show 2 * 0 + _ ≤ _; exact Nat.le_of_eq rfl) (hb hby at_32) (fun _ _ => ⟨rfl, e74, (by decide : 0 + 0 ≤ _), (by decide : 0 + 0 ≤ _)⟩)
      dsimp only [Pt.U, Pt.locs, Pt.cells, Pt.slots] at X75 l75 y75 z75 st75 hQ75
      subst l75 y75 z75
      obtain ⟨rfl, N75q, e75⟩ := hQ75
      have N75 := Fr.app N74 N75q
      refine Go.on (T' := T75) (g' := (mkF m 35 #[.val (.int i0), .val (.int i1), .val (.ref (w 1)), .val (.ref (w 0)), .val (.ref (w 1)), .unset] [(.int (2 : Int32)), (.int (0 : Int32))])) st75 ?_
      obtain ⟨_, _, ⟨T76, L76, k76, n76⟩, -, X76, ⟨Lc76, hQ76, l76, y76, z76⟩, st76⟩ := Jvm.LawKit.callS X75 hx (y := (⟨"java/lang/Math", "min", "(II)I"⟩ : MethodName)) hown (mvT hZ (hw _ (List.mem_of_getElem? (i := 23) rfl))) (mvT hZ (hw _ (List.mem_of_getElem? (i := 24) rfl))) (mvT hZ (hw _ (List.mem_of_getElem? (i := 25) rfl))) (mvT hZ (hw _ (List.mem_of_getElem? (i := 26) rfl))) (by decide) (backOf (W := 0) (rm4_3 l Z a0 hw [] w h0 n0 (Nat.le_trans Z0 (own_ext0 h0).1) hP) hZ (hw _ (List.mem_of_getElem? (i := 26) rfl)) (hw _ (List.mem_of_getElem? (i := 25) rfl)) (by decide) (by decide)) (g := (mkF m 35 #[.val (.int i0), .val (.int i1), .val (.ref (w 1)), .val (.ref (w 0)), .val (.ref (w 1)), .unset] [(.int (2 : Int32)), (.int (0 : Int32))])) rfl (by rw [hml]; rfl) (argsL := [(.int (0 : Int32)), (.int (2 : Int32))]) (rest := []) (lenOf pd_3 rfl) rfl (by show 2 * 0 + _ ≤ _; exact Nat.le_of_eq rfl) (hb hby at_35) (fun _ _ => ⟨rfl, e75, (by decide : 0 + 0 ≤ _), (by decide : 0 + 0 ≤ _)⟩)
      dsimp only [Pt.U, Pt.locs, Pt.cells, Pt.slots] at X76 l76 y76 z76 st76 hQ76
      subst l76 y76 z76
      obtain ⟨rfl, N76q, e76⟩ := hQ76
      have N76 := Fr.app N75 N76q
      refine Go.on (T' := T76) (g' := (mkF m 38 #[.val (.int i0), .val (.int i1), .val (.ref (w 1)), .val (.ref (w 0)), .val (.ref (w 1)), .unset] [(.int (0 : Int32))])) st76 ?_
      refine Go.on (T' := T76) (g' := (mkF m 40 #[.val (.int i0), .val (.int i1), .val (.ref (w 1)), .val (.ref (w 0)), .val (.ref (w 1)), .val (.int (0 : Int32))] [])) (fun t k => XS.istore X76.here hx rfl (hb hby at_38) rfl (l' := #[.val (.int i0), .val (.int i1), .val (.ref (w 1)), .val (.ref (w 0)), .val (.ref (w 1)), .val (.int (0 : Int32))]) rfl k) ?_
      refine Go.on (T' := T76) (g' := (mkF m 42 #[.val (.int i0), .val (.int i1), .val (.ref (w 1)), .val (.ref (w 0)), .val (.ref (w 1)), .val (.int (0 : Int32))] [(.ref (w 1))])) (fun t k => XS.aload X76.here hx rfl (hb hby at_40) rfl rfl k) ?_
      refine Go.on (T' := T76) (g' := (mkF m 45 #[.val (.int i0), .val (.int i1), .val (.ref (w 1)), .val (.ref (w 0)), .val (.ref (w 1)), .val (.int (0 : Int32))] [])) (fun t k => XS.ifnullNo X76.here hx rfl (hb hby at_42) rfl k) ?_
      refine Go.on (T' := T76) (g' := (mkF m 47 #[.val (.int i0), .val (.int i1), .val (.ref (w 1)), .val (.ref (w 0)), .val (.ref (w 1)), .val (.int (0 : Int32))] [(.ref (w 1))])) (fun t k => XS.aload X76.here hx rfl (hb hby at_45) rfl rfl k) ?_
      obtain ⟨_, _, ⟨T77, L77, k77, n77⟩, -, X77, ⟨Lc77, hQ77, l77, y77, z77⟩, st77⟩ := Jvm.LawKit.callS X76 hx (y := (⟨"com/example/bagwise/bagwise/terms/TruthAndPinLaw", "rank", "(Lcom/example/bagwise/bagwise/terms/Truth;)I"⟩ : MethodName)) hown (mvT hZ (hw _ (List.mem_of_getElem? (i := 18) rfl))) (mvT hZ (hw _ (List.mem_of_getElem? (i := 19) rfl))) (mvT hZ (hw _ (List.mem_of_getElem? (i := 3) rfl))) (mvT hZ (hw _ (List.mem_of_getElem? (i := 20) rfl))) (by decide) (backOf (W := 0) (rm3_1 l Z a0 hw [] w h0 n0 (Nat.le_trans Z0 (own_ext0 h0).1) hP) hZ (hw _ (List.mem_of_getElem? (i := 20) rfl)) (hw _ (List.mem_of_getElem? (i := 3) rfl)) (by decide) (by decide)) (g := (mkF m 47 #[.val (.int i0), .val (.int i1), .val (.ref (w 1)), .val (.ref (w 0)), .val (.ref (w 1)), .val (.int (0 : Int32))] [(.ref (w 1))])) rfl (by rw [hml]; rfl) (argsL := [(.ref (w 1))]) (rest := []) (lenOf pd_2 rfl) rfl (by show 2 * 0 + _ ≤ _; exact Nat.le_of_eq rfl) (hb hby at_47) (fun _ _ => ⟨rfl, e76, (by decide : 0 + 0 ≤ _), (by decide : 0 + 0 ≤ _)⟩)
      dsimp only [Pt.U, Pt.locs, Pt.cells, Pt.slots] at X77 l77 y77 z77 st77 hQ77
      subst l77 y77 z77
      obtain ⟨rfl, N77q, e77⟩ := hQ77
      have N77 := Fr.app N76 N77q
      refine Go.on (T' := T77) (g' := (mkF m 50 #[.val (.int i0), .val (.int i1), .val (.ref (w 1)), .val (.ref (w 0)), .val (.ref (w 1)), .val (.int (0 : Int32))] [(.int (0 : Int32))])) st77 ?_
      refine Go.on (T' := T77) (g' := (mkF m 52 #[.val (.int i0), .val (.int i1), .val (.ref (w 1)), .val (.ref (w 0)), .val (.ref (w 1)), .val (.int (0 : Int32))] [(.int (0 : Int32)), (.int (0 : Int32))])) (fun t k => XS.iload X77.here hx rfl (hb hby at_50) rfl k) ?_
      refine Go.on (T' := T77) (g' := (mkF m 55 #[.val (.int i0), .val (.int i1), .val (.ref (w 1)), .val (.ref (w 0)), .val (.ref (w 1)), .val (.int (0 : Int32))] [])) (fun t k => XS.icmpNo X77.here hx rfl (hb hby at_52) rfl (teq (by decide : (0 : Int32) = (0 : Int32))).2 k) ?_
      refine Go.on (T' := T77) (g' := (mkF m 56 #[.val (.int i0), .val (.int i1), .val (.ref (w 1)), .val (.ref (w 0)), .val (.ref (w 1)), .val (.int (0 : Int32))] [(.int (1 : Int32))])) (fun t k => XS.iconst X77.here hx rfl (hb hby at_55) k) ?_
      refine Go.on (T' := T77) (g' := (mkF m 60 #[.val (.int i0), .val (.int i1), .val (.ref (w 1)), .val (.ref (w 0)), .val (.ref (w 1)), .val (.int (0 : Int32))] [(.int (1 : Int32))])) (fun t k => XS.goto X77.here hx rfl (pc0 := 56) (pc' := 60) rfl (hb hby at_56) (by decide) (by decide) k) ?_
      obtain ⟨fs, hr, hrun, hended, hW, hsame⟩ := X77.leave (v := some (.int (1 : Int32))) (fun h => by rw [Bd.returns] at h; cases h)
      exact ⟨_, _, retN X77 hx (t := .boolean) Bd.returns (by simp) (hb hby at_60) hr, hrun, hended, _, _, rfl, ⟨rfl, N77⟩, ⟨_, rfl⟩, hW, hsame.mono (by decide) (by decide)⟩
    · skip
      rw [h67]
      obtain ⟨_, _, ⟨T78, L78, k78, n78⟩, -, X78, ⟨Lc78, hQ78, l78, y78, z78⟩, st78⟩ := Jvm.LawKit.callS X66 hx (y := (⟨"com/example/bagwise/bagwise/terms/TruthAndPinLaw", "pick", "(I)Lcom/example/bagwise/bagwise/terms/Truth;"⟩ : MethodName)) hown (mvT hZ (hw _ (List.mem_of_getElem? (i := 1) rfl))) (mvT hZ (hw _ (List.mem_of_getElem? (i := 2) rfl))) (mvT hZ (hw _ (List.mem_of_getElem? (i := 3) rfl))) (mvT hZ (hw _ (List.mem_of_getElem? (i := 4) rfl))) (by decide) (backOf (W := 0) (rm1_1 l Z a0 hw [] w h0 n0 (Nat.le_trans Z0 (own_ext0 h0).1) hP) hZ (hw _ (List.mem_of_getElem? (i := 4) rfl)) (hw _ (List.mem_of_getElem? (i := 3) rfl)) (by decide) (by decide)) (g := (mkF m 16 #[.val (.int i0), .val (.int i1), .val (.ref (w 1)), .unset, .unset, .unset] [(.int (1 : Int32))])) rfl (by rw [hml]; rfl) (argsL := [(.int (1 : Int32))]) (rest := []) (lenOf pd_0 rfl) rfl (by show 2 * 0 + _ ≤ _; exact Nat.le_of_eq rfl) (hb hby at_16) (fun _ _ => ⟨rfl, e66, (by decide : 0 + 0 ≤ _), (by decide : 0 + 0 ≤ _)⟩)
      dsimp only [Pt.U, Pt.locs, Pt.cells, Pt.slots] at X78 l78 y78 z78 st78 hQ78
      subst l78 y78 z78
      obtain ⟨rfl, N78q, e78⟩ := hQ78
      have N78 := Fr.app N66 N78q
      refine Go.on (T' := T78) (g' := (mkF m 19 #[.val (.int i0), .val (.int i1), .val (.ref (w 1)), .unset, .unset, .unset] [(.ref (w 1))])) st78 ?_
      refine Go.on (T' := T78) (g' := (mkF m 20 #[.val (.int i0), .val (.int i1), .val (.ref (w 1)), .val (.ref (w 1)), .unset, .unset] [])) (fun t k => XS.astoreN X78.here hx rfl (hb hby at_19) rfl rfl (l' := #[.val (.int i0), .val (.int i1), .val (.ref (w 1)), .val (.ref (w 1)), .unset, .unset]) rfl k) ?_
      refine Go.on (T' := T78) (g' := (mkF m 21 #[.val (.int i0), .val (.int i1), .val (.ref (w 1)), .val (.ref (w 1)), .unset, .unset] [(.ref (w 1))])) (fun t k => XS.aloadN X78.here hx rfl (hb hby at_20) rfl rfl k) ?_
      refine Go.on (T' := T78) (g' := (mkF m 22 #[.val (.int i0), .val (.int i1), .val (.ref (w 1)), .val (.ref (w 1)), .unset, .unset] [(.ref (w 1)), (.ref (w 1))])) (fun t k => XS.aloadN X78.here hx rfl (hb hby at_21) rfl rfl k) ?_
      obtain ⟨cq83, kq83, q83a, q83b, q83c⟩ := isOf hZ e78 (pin_4 hP)
      obtain ⟨_, _, ⟨T83, L83, k83, n83⟩, -, X83, ⟨Lc83, hQ83, l83, y83, z83⟩, st83⟩ := X78.virtualBack hx (y := (⟨"com/example/bagwise/bagwise/terms/Truth", "and", "(Lcom/example/bagwise/bagwise/terms/Truth;)Lcom/example/bagwise/bagwise/terms/Truth;"⟩ : MethodName)) (z := (⟨"com/example/bagwise/bagwise/terms/Truth", "and", "(Lcom/example/bagwise/bagwise/terms/Truth;)Lcom/example/bagwise/bagwise/terms/Truth;"⟩ : MethodName)) hown (mvT hZ (hw _ (List.mem_of_getElem? (i := 8) rfl))) (mvT hZ (hw _ (List.mem_of_getElem? (i := 9) rfl))) (notFace_of_selects (args := #[]) (mvT hZ (hw _ (List.mem_of_getElem? (i := 11) rfl)))) (mvT hZ (hw _ (List.mem_of_getElem? (i := 11) rfl))) (mvT hZ (hw _ (List.mem_of_getElem? (i := 10) rfl))) (by decide) (backOf (W := 0) (rm2_4 l Z a0 hw [] w h0 n0 (Nat.le_trans Z0 (own_ext0 h0).1) hP) hZ (hw _ (List.mem_of_getElem? (i := 12) rfl)) (hw _ (List.mem_of_getElem? (i := 6) rfl)) (by decide) (by decide)) q83a q83c (g := (mkF m 22 #[.val (.int i0), .val (.int i1), .val (.ref (w 1)), .val (.ref (w 1)), .unset, .unset] [(.ref (w 1)), (.ref (w 1))])) rfl (by rw [hml]; rfl) (Steps.refl _) (argsL := [(.ref (w 1))]) (rest := []) (lenOf pd_1 rfl) rfl (by show 2 * 0 + _ ≤ _; exact Nat.le_of_eq rfl) (hb hby at_22) (fun _ _ => ⟨rfl, e78, (by decide : 0 + 0 ≤ _), (by decide : 0 + 0 ≤ _)⟩)
      dsimp only [Pt.U, Pt.locs, Pt.cells, Pt.slots] at X83 l83 y83 z83 st83 hQ83
      subst l83 y83 z83
      obtain ⟨rfl, N83q, e83⟩ := hQ83
      have N83 := Fr.app N78 N83q
      refine Go.on (T' := T83) (g' := (mkF m 25 #[.val (.int i0), .val (.int i1), .val (.ref (w 1)), .val (.ref (w 1)), .unset, .unset] [(.ref (w 1))])) (fun t k => st83.trans k) ?_
      refine Go.on (T' := T83) (g' := (mkF m 27 #[.val (.int i0), .val (.int i1), .val (.ref (w 1)), .val (.ref (w 1)), .val (.ref (w 1)), .unset] [])) (fun t k => XS.astore X83.here hx rfl (hb hby at_25) rfl rfl (l' := #[.val (.int i0), .val (.int i1), .val (.ref (w 1)), .val (.ref (w 1)), .val (.ref (w 1)), .unset]) rfl k) ?_
      refine Go.on (T' := T83) (g' := (mkF m 28 #[.val (.int i0), .val (.int i1), .val (.ref (w 1)), .val (.ref (w 1)), .val (.ref (w 1)), .unset] [(.ref (w 1))])) (fun t k => XS.aloadN X83.here hx rfl (hb hby at_27) rfl rfl k) ?_
      obtain ⟨_, _, ⟨T84, L84, k84, n84⟩, -, X84, ⟨Lc84, hQ84, l84, y84, z84⟩, st84⟩ := Jvm.LawKit.callS X83 hx (y := (⟨"com/example/bagwise/bagwise/terms/TruthAndPinLaw", "rank", "(Lcom/example/bagwise/bagwise/terms/Truth;)I"⟩ : MethodName)) hown (mvT hZ (hw _ (List.mem_of_getElem? (i := 18) rfl))) (mvT hZ (hw _ (List.mem_of_getElem? (i := 19) rfl))) (mvT hZ (hw _ (List.mem_of_getElem? (i := 3) rfl))) (mvT hZ (hw _ (List.mem_of_getElem? (i := 20) rfl))) (by decide) (backOf (W := 0) (rm3_1 l Z a0 hw [] w h0 n0 (Nat.le_trans Z0 (own_ext0 h0).1) hP) hZ (hw _ (List.mem_of_getElem? (i := 20) rfl)) (hw _ (List.mem_of_getElem? (i := 3) rfl)) (by decide) (by decide)) (g := (mkF m 28 #[.val (.int i0), .val (.int i1), .val (.ref (w 1)), .val (.ref (w 1)), .val (.ref (w 1)), .unset] [(.ref (w 1))])) rfl (by rw [hml]; rfl) (argsL := [(.ref (w 1))]) (rest := []) (lenOf pd_2 rfl) rfl (by show 2 * 0 + _ ≤ _; exact Nat.le_of_eq rfl) (hb hby at_28) (fun _ _ => ⟨rfl, e83, (by decide : 0 + 0 ≤ _), (by decide : 0 + 0 ≤ _)⟩)
      dsimp only [Pt.U, Pt.locs, Pt.cells, Pt.slots] at X84 l84 y84 z84 st84 hQ84
      subst l84 y84 z84
      obtain ⟨rfl, N84q, e84⟩ := hQ84
      have N84 := Fr.app N83 N84q
      refine Go.on (T' := T84) (g' := (mkF m 31 #[.val (.int i0), .val (.int i1), .val (.ref (w 1)), .val (.ref (w 1)), .val (.ref (w 1)), .unset] [(.int (0 : Int32))])) st84 ?_
      refine Go.on (T' := T84) (g' := (mkF m 32 #[.val (.int i0), .val (.int i1), .val (.ref (w 1)), .val (.ref (w 1)), .val (.ref (w 1)), .unset] [(.ref (w 1)), (.int (0 : Int32))])) (fun t k => XS.aloadN X84.here hx rfl (hb hby at_31) rfl rfl k) ?_
      obtain ⟨_, _, ⟨T85, L85, k85, n85⟩, -, X85, ⟨Lc85, hQ85, l85, y85, z85⟩, st85⟩ := Jvm.LawKit.callS X84 hx (y := (⟨"com/example/bagwise/bagwise/terms/TruthAndPinLaw", "rank", "(Lcom/example/bagwise/bagwise/terms/Truth;)I"⟩ : MethodName)) hown (mvT hZ (hw _ (List.mem_of_getElem? (i := 18) rfl))) (mvT hZ (hw _ (List.mem_of_getElem? (i := 19) rfl))) (mvT hZ (hw _ (List.mem_of_getElem? (i := 3) rfl))) (mvT hZ (hw _ (List.mem_of_getElem? (i := 20) rfl))) (by decide) (backOf (W := 1) (rm3_1 l Z a0 hw [] w h0 n0 (Nat.le_trans Z0 (own_ext0 h0).1) hP) hZ (hw _ (List.mem_of_getElem? (i := 20) rfl)) (hw _ (List.mem_of_getElem? (i := 3) rfl)) (by decide) (by decide)) (g := (mkF m 32 #[.val (.int i0), .val (.int i1), .val (.ref (w 1)), .val (.ref (w 1)), .val (.ref (w 1)), .unset] [(.ref (w 1)), (.int (0 : Int32))])) rfl (by rw [hml]; rfl) (argsL := [(.ref (w 1))]) (rest := [(.int (0 : Int32))]) (lenOf pd_2 rfl) rfl (by show 2 * 0 + _ ≤ _; exact Nat.le_of_eq rfl) (hb hby at_32) (fun _ _ => ⟨rfl, e84, (by decide : 0 + 0 ≤ _), (by decide : 0 + 0 ≤ _)⟩)
      dsimp only [Pt.U, Pt.locs, Pt.cells, Pt.slots] at X85 l85 y85 z85 st85 hQ85
      subst l85 y85 z85
      obtain ⟨rfl, N85q, e85⟩ := hQ85
      have N85 := Fr.app N84 N85q
      refine Go.on (T' := T85) (g' := (mkF m 35 #[.val (.int i0), .val (.int i1), .val (.ref (w 1)), .val (.ref (w 1)), .val (.ref (w 1)), .unset] [(.int (0 : Int32)), (.int (0 : Int32))])) st85 ?_
      obtain ⟨_, _, ⟨T86, L86, k86, n86⟩, -, X86, ⟨Lc86, hQ86, l86, y86, z86⟩, st86⟩ := Jvm.LawKit.callS X85 hx (y := (⟨"java/lang/Math", "min", "(II)I"⟩ : MethodName)) hown (mvT hZ (hw _ (List.mem_of_getElem? (i := 23) rfl))) (mvT hZ (hw _ (List.mem_of_getElem? (i := 24) rfl))) (mvT hZ (hw _ (List.mem_of_getElem? (i := 25) rfl))) (mvT hZ (hw _ (List.mem_of_getElem? (i := 26) rfl))) (by decide) (backOf (W := 0) (rm4_4 l Z a0 hw [] w h0 n0 (Nat.le_trans Z0 (own_ext0 h0).1) hP) hZ (hw _ (List.mem_of_getElem? (i := 26) rfl)) (hw _ (List.mem_of_getElem? (i := 25) rfl)) (by decide) (by decide)) (g := (mkF m 35 #[.val (.int i0), .val (.int i1), .val (.ref (w 1)), .val (.ref (w 1)), .val (.ref (w 1)), .unset] [(.int (0 : Int32)), (.int (0 : Int32))])) rfl (by rw [hml]; rfl) (argsL := [(.int (0 : Int32)), (.int (0 : Int32))]) (rest := []) (lenOf pd_3 rfl) rfl (by show 2 * 0 + _ ≤ _; exact Nat.le_of_eq rfl) (hb hby at_35) (fun _ _ => ⟨rfl, e85, (by decide : 0 + 0 ≤ _), (by decide : 0 + 0 ≤ _)⟩)
      dsimp only [Pt.U, Pt.locs, Pt.cells, Pt.slots] at X86 l86 y86 z86 st86 hQ86
      subst l86 y86 z86
      obtain ⟨rfl, N86q, e86⟩ := hQ86
      have N86 := Fr.app N85 N86q
      refine Go.on (T' := T86) (g' := (mkF m 38 #[.val (.int i0), .val (.int i1), .val (.ref (w 1)), .val (.ref (w 1)), .val (.ref (w 1)), .unset] [(.int (0 : Int32))])) st86 ?_
      refine Go.on (T' := T86) (g' := (mkF m 40 #[.val (.int i0), .val (.int i1), .val (.ref (w 1)), .val (.ref (w 1)), .val (.ref (w 1)), .val (.int (0 : Int32))] [])) (fun t k => XS.istore X86.here hx rfl (hb hby at_38) rfl (l' := #[.val (.int i0), .val (.int i1), .val (.ref (w 1)), .val (.ref (w 1)), .val (.ref (w 1)), .val (.int (0 : Int32))]) rfl k) ?_
      refine Go.on (T' := T86) (g' := (mkF m 42 #[.val (.int i0), .val (.int i1), .val (.ref (w 1)), .val (.ref (w 1)), .val (.ref (w 1)), .val (.int (0 : Int32))] [(.ref (w 1))])) (fun t k => XS.aload X86.here hx rfl (hb hby at_40) rfl rfl k) ?_
      refine Go.on (T' := T86) (g' := (mkF m 45 #[.val (.int i0), .val (.int i1), .val (.ref (w 1)), .val (.ref (w 1)), .val (.ref (w 1)), .val (.int (0 : Int32))] [])) (fun t k => XS.ifnullNo X86.here hx rfl (hb hby at_42) rfl k) ?_
      refine Go.on (T' := T86) (g' := (mkF m 47 #[.val (.int i0), .val (.int i1), .val (.ref (w 1)), .val (.ref (w 1)), .val (.ref (w 1)), .val (.int (0 : Int32))] [(.ref (w 1))])) (fun t k => XS.aload X86.here hx rfl (hb hby at_45) rfl rfl k) ?_
      obtain ⟨_, _, ⟨T87, L87, k87, n87⟩, -, X87, ⟨Lc87, hQ87, l87, y87, z87⟩, st87⟩ := Jvm.LawKit.callS X86 hx (y := (⟨"com/example/bagwise/bagwise/terms/TruthAndPinLaw", "rank", "(Lcom/example/bagwise/bagwise/terms/Truth;)I"⟩ : MethodName)) hown (mvT hZ (hw _ (List.mem_of_getElem? (i := 18) rfl))) (mvT hZ (hw _ (List.mem_of_getElem? (i := 19) rfl))) (mvT hZ (hw _ (List.mem_of_getElem? (i := 3) rfl))) (mvT hZ (hw _ (List.mem_of_getElem? (i := 20) rfl))) (by decide) (backOf (W := 0) (rm3_1 l Z a0 hw [] w h0 n0 (Nat.le_trans Z0 (own_ext0 h0).1) hP) hZ (hw _ (List.mem_of_getElem? (i := 20) rfl)) (hw _ (List.mem_of_getElem? (i := 3) rfl)) (by decide) (by decide)) (g := (mkF m 47 #[.val (.int i0), .val (.int i1), .val (.ref (w 1)), .val (.ref (w 1)), .val (.ref (w 1)), .val (.int (0 : Int32))] [(.ref (w 1))])) rfl (by rw [hml]; rfl) (argsL := [(.ref (w 1))]) (rest := []) (lenOf pd_2 rfl) rfl (by show 2 * 0 + _ ≤ _; exact Nat.le_of_eq rfl) (hb hby at_47) (fun _ _ => ⟨rfl, e86, (by decide : 0 + 0 ≤ _), (by decide : 0 + 0 ≤ _)⟩)
      dsimp only [Pt.U, Pt.locs, Pt.cells, Pt.slots] at X87 l87 y87 z87 st87 hQ87
      subst l87 y87 z87
      obtain ⟨rfl, N87q, e87⟩ := hQ87
      have N87 := Fr.app N86 N87q
      refine Go.on (T' := T87) (g' := (mkF m 50 #[.val (.int i0), .val (.int i1), .val (.ref (w 1)), .val (.ref (w 1)), .val (.ref (w 1)), .val (.int (0 : Int32))] [(.int (0 : Int32))])) st87 ?_
      refine Go.on (T' := T87) (g' := (mkF m 52 #[.val (.int i0), .val (.int i1), .val (.ref (w 1)), .val (.ref (w 1)), .val (.ref (w 1)), .val (.int (0 : Int32))] [(.int (0 : Int32)), (.int (0 : Int32))])) (fun t k => XS.iload X87.here hx rfl (hb hby at_50) rfl k) ?_
      refine Go.on (T' := T87) (g' := (mkF m 55 #[.val (.int i0), .val (.int i1), .val (.ref (w 1)), .val (.ref (w 1)), .val (.ref (w 1)), .val (.int (0 : Int32))] [])) (fun t k => XS.icmpNo X87.here hx rfl (hb hby at_52) rfl (teq (by decide : (0 : Int32) = (0 : Int32))).2 k) ?_
      refine Go.on (T' := T87) (g' := (mkF m 56 #[.val (.int i0), .val (.int i1), .val (.ref (w 1)), .val (.ref (w 1)), .val (.ref (w 1)), .val (.int (0 : Int32))] [(.int (1 : Int32))])) (fun t k => XS.iconst X87.here hx rfl (hb hby at_55) k) ?_
      refine Go.on (T' := T87) (g' := (mkF m 60 #[.val (.int i0), .val (.int i1), .val (.ref (w 1)), .val (.ref (w 1)), .val (.ref (w 1)), .val (.int (0 : Int32))] [(.int (1 : Int32))])) (fun t k => XS.goto X87.here hx rfl (pc0 := 56) (pc' := 60) rfl (hb hby at_56) (by decide) (by decide) k) ?_
      obtain ⟨fs, hr, hrun, hended, hW, hsame⟩ := X87.leave (v := some (.int (1 : Int32))) (fun h => by rw [Bd.returns] at h; cases h)
      exact ⟨_, _, retN X87 hx (t := .boolean) Bd.returns (by simp) (hb hby at_60) hr, hrun, hended, _, _, rfl, ⟨rfl, N87⟩, ⟨_, rfl⟩, hW, hsame.mono (by decide) (by decide)⟩
    · skip
      rw [h67]
      obtain ⟨_, _, ⟨T88, L88, k88, n88⟩, -, X88, ⟨Lc88, hQ88, l88, y88, z88⟩, st88⟩ := Jvm.LawKit.callS X66 hx (y := (⟨"com/example/bagwise/bagwise/terms/TruthAndPinLaw", "pick", "(I)Lcom/example/bagwise/bagwise/terms/Truth;"⟩ : MethodName)) hown (mvT hZ (hw _ (List.mem_of_getElem? (i := 1) rfl))) (mvT hZ (hw _ (List.mem_of_getElem? (i := 2) rfl))) (mvT hZ (hw _ (List.mem_of_getElem? (i := 3) rfl))) (mvT hZ (hw _ (List.mem_of_getElem? (i := 4) rfl))) (by decide) (backOf (W := 0) (rm1_2 l Z a0 hw [] w h0 n0 (Nat.le_trans Z0 (own_ext0 h0).1) hP) hZ (hw _ (List.mem_of_getElem? (i := 4) rfl)) (hw _ (List.mem_of_getElem? (i := 3) rfl)) (by decide) (by decide)) (g := (mkF m 16 #[.val (.int i0), .val (.int i1), .val (.ref (w 1)), .unset, .unset, .unset] [(.int (2 : Int32))])) rfl (by rw [hml]; rfl) (argsL := [(.int (2 : Int32))]) (rest := []) (lenOf pd_0 rfl) rfl (by show 2 * 0 + _ ≤ _; exact Nat.le_of_eq rfl) (hb hby at_16) (fun _ _ => ⟨rfl, e66, (by decide : 0 + 0 ≤ _), (by decide : 0 + 0 ≤ _)⟩)
      dsimp only [Pt.U, Pt.locs, Pt.cells, Pt.slots] at X88 l88 y88 z88 st88 hQ88
      subst l88 y88 z88
      obtain ⟨rfl, N88q, e88⟩ := hQ88
      have N88 := Fr.app N66 N88q
      refine Go.on (T' := T88) (g' := (mkF m 19 #[.val (.int i0), .val (.int i1), .val (.ref (w 1)), .unset, .unset, .unset] [(.ref (w 2))])) st88 ?_
      refine Go.on (T' := T88) (g' := (mkF m 20 #[.val (.int i0), .val (.int i1), .val (.ref (w 1)), .val (.ref (w 2)), .unset, .unset] [])) (fun t k => XS.astoreN X88.here hx rfl (hb hby at_19) rfl rfl (l' := #[.val (.int i0), .val (.int i1), .val (.ref (w 1)), .val (.ref (w 2)), .unset, .unset]) rfl k) ?_
      refine Go.on (T' := T88) (g' := (mkF m 21 #[.val (.int i0), .val (.int i1), .val (.ref (w 1)), .val (.ref (w 2)), .unset, .unset] [(.ref (w 1))])) (fun t k => XS.aloadN X88.here hx rfl (hb hby at_20) rfl rfl k) ?_
      refine Go.on (T' := T88) (g' := (mkF m 22 #[.val (.int i0), .val (.int i1), .val (.ref (w 1)), .val (.ref (w 2)), .unset, .unset] [(.ref (w 2)), (.ref (w 1))])) (fun t k => XS.aloadN X88.here hx rfl (hb hby at_21) rfl rfl k) ?_
      obtain ⟨cq93, kq93, q93a, q93b, q93c⟩ := isOf hZ e88 (pin_4 hP)
      obtain ⟨_, _, ⟨T93, L93, k93, n93⟩, -, X93, ⟨Lc93, hQ93, l93, y93, z93⟩, st93⟩ := X88.virtualBack hx (y := (⟨"com/example/bagwise/bagwise/terms/Truth", "and", "(Lcom/example/bagwise/bagwise/terms/Truth;)Lcom/example/bagwise/bagwise/terms/Truth;"⟩ : MethodName)) (z := (⟨"com/example/bagwise/bagwise/terms/Truth", "and", "(Lcom/example/bagwise/bagwise/terms/Truth;)Lcom/example/bagwise/bagwise/terms/Truth;"⟩ : MethodName)) hown (mvT hZ (hw _ (List.mem_of_getElem? (i := 8) rfl))) (mvT hZ (hw _ (List.mem_of_getElem? (i := 9) rfl))) (notFace_of_selects (args := #[]) (mvT hZ (hw _ (List.mem_of_getElem? (i := 11) rfl)))) (mvT hZ (hw _ (List.mem_of_getElem? (i := 11) rfl))) (mvT hZ (hw _ (List.mem_of_getElem? (i := 10) rfl))) (by decide) (backOf (W := 0) (rm2_5 l Z a0 hw [] w h0 n0 (Nat.le_trans Z0 (own_ext0 h0).1) hP) hZ (hw _ (List.mem_of_getElem? (i := 12) rfl)) (hw _ (List.mem_of_getElem? (i := 6) rfl)) (by decide) (by decide)) q93a q93c (g := (mkF m 22 #[.val (.int i0), .val (.int i1), .val (.ref (w 1)), .val (.ref (w 2)), .unset, .unset] [(.ref (w 2)), (.ref (w 1))])) rfl (by rw [hml]; rfl) (Steps.refl _) (argsL := [(.ref (w 2))]) (rest := []) (lenOf pd_1 rfl) rfl (by show 2 * 0 + _ ≤ _; exact Nat.le_of_eq rfl) (hb hby at_22) (fun _ _ => ⟨rfl, e88, (by decide : 0 + 0 ≤ _), (by decide : 0 + 0 ≤ _)⟩)
      dsimp only [Pt.U, Pt.locs, Pt.cells, Pt.slots] at X93 l93 y93 z93 st93 hQ93
      subst l93 y93 z93
      obtain ⟨rfl, N93q, e93⟩ := hQ93
      have N93 := Fr.app N88 N93q
      refine Go.on (T' := T93) (g' := (mkF m 25 #[.val (.int i0), .val (.int i1), .val (.ref (w 1)), .val (.ref (w 2)), .unset, .unset] [(.ref (w 1))])) (fun t k => st93.trans k) ?_
      refine Go.on (T' := T93) (g' := (mkF m 27 #[.val (.int i0), .val (.int i1), .val (.ref (w 1)), .val (.ref (w 2)), .val (.ref (w 1)), .unset] [])) (fun t k => XS.astore X93.here hx rfl (hb hby at_25) rfl rfl (l' := #[.val (.int i0), .val (.int i1), .val (.ref (w 1)), .val (.ref (w 2)), .val (.ref (w 1)), .unset]) rfl k) ?_
      refine Go.on (T' := T93) (g' := (mkF m 28 #[.val (.int i0), .val (.int i1), .val (.ref (w 1)), .val (.ref (w 2)), .val (.ref (w 1)), .unset] [(.ref (w 1))])) (fun t k => XS.aloadN X93.here hx rfl (hb hby at_27) rfl rfl k) ?_
      obtain ⟨_, _, ⟨T94, L94, k94, n94⟩, -, X94, ⟨Lc94, hQ94, l94, y94, z94⟩, st94⟩ := Jvm.LawKit.callS X93 hx (y := (⟨"com/example/bagwise/bagwise/terms/TruthAndPinLaw", "rank", "(Lcom/example/bagwise/bagwise/terms/Truth;)I"⟩ : MethodName)) hown (mvT hZ (hw _ (List.mem_of_getElem? (i := 18) rfl))) (mvT hZ (hw _ (List.mem_of_getElem? (i := 19) rfl))) (mvT hZ (hw _ (List.mem_of_getElem? (i := 3) rfl))) (mvT hZ (hw _ (List.mem_of_getElem? (i := 20) rfl))) (by decide) (backOf (W := 0) (rm3_1 l Z a0 hw [] w h0 n0 (Nat.le_trans Z0 (own_ext0 h0).1) hP) hZ (hw _ (List.mem_of_getElem? (i := 20) rfl)) (hw _ (List.mem_of_getElem? (i := 3) rfl)) (by decide) (by decide)) (g := (mkF m 28 #[.val (.int i0), .val (.int i1), .val (.ref (w 1)), .val (.ref (w 2)), .val (.ref (w 1)), .unset] [(.ref (w 1))])) rfl (by rw [hml]; rfl) (argsL := [(.ref (w 1))]) (rest := []) (lenOf pd_2 rfl) rfl (by show 2 * 0 + _ ≤ _; exact Nat.le_of_eq rfl) (hb hby at_28) (fun _ _ => ⟨rfl, e93, (by decide : 0 + 0 ≤ _), (by decide : 0 + 0 ≤ _)⟩)
      dsimp only [Pt.U, Pt.locs, Pt.cells, Pt.slots] at X94 l94 y94 z94 st94 hQ94
      subst l94 y94 z94
      obtain ⟨rfl, N94q, e94⟩ := hQ94
      have N94 := Fr.app N93 N94q
      refine Go.on (T' := T94) (g' := (mkF m 31 #[.val (.int i0), .val (.int i1), .val (.ref (w 1)), .val (.ref (w 2)), .val (.ref (w 1)), .unset] [(.int (0 : Int32))])) st94 ?_
      refine Go.on (T' := T94) (g' := (mkF m 32 #[.val (.int i0), .val (.int i1), .val (.ref (w 1)), .val (.ref (w 2)), .val (.ref (w 1)), .unset] [(.ref (w 2)), (.int (0 : Int32))])) (fun t k => XS.aloadN X94.here hx rfl (hb hby at_31) rfl rfl k) ?_
      obtain ⟨_, _, ⟨T95, L95, k95, n95⟩, -, X95, ⟨Lc95, hQ95, l95, y95, z95⟩, st95⟩ := Jvm.LawKit.callS X94 hx (y := (⟨"com/example/bagwise/bagwise/terms/TruthAndPinLaw", "rank", "(Lcom/example/bagwise/bagwise/terms/Truth;)I"⟩ : MethodName)) hown (mvT hZ (hw _ (List.mem_of_getElem? (i := 18) rfl))) (mvT hZ (hw _ (List.mem_of_getElem? (i := 19) rfl))) (mvT hZ (hw _ (List.mem_of_getElem? (i := 3) rfl))) (mvT hZ (hw _ (List.mem_of_getElem? (i := 20) rfl))) (by decide) (backOf (W := 1) (rm3_2 l Z a0 hw [] w h0 n0 (Nat.le_trans Z0 (own_ext0 h0).1) hP) hZ (hw _ (List.mem_of_getElem? (i := 20) rfl)) (hw _ (List.mem_of_getElem? (i := 3) rfl)) (by decide) (by decide)) (g := (mkF m 32 #[.val (.int i0), .val (.int i1), .val (.ref (w 1)), .val (.ref (w 2)), .val (.ref (w 1)), .unset] [(.ref (w 2)), (.int (0 : Int32))])) rfl (by rw [hml]; rfl) (argsL := [(.ref (w 2))]) (rest := [(.int (0 : Int32))]) (lenOf pd_2 rfl) rfl (by show 2 * 0 + _ ≤ _; exact Nat.le_of_eq rfl) (hb hby at_32) (fun _ _ => ⟨rfl, e94, (by decide : 0 + 0 ≤ _), (by decide : 0 + 0 ≤ _)⟩)
      dsimp only [Pt.U, Pt.locs, Pt.cells, Pt.slots] at X95 l95 y95 z95 st95 hQ95
      subst l95 y95 z95
      obtain ⟨rfl, N95q, e95⟩ := hQ95
      have N95 := Fr.app N94 N95q
      refine Go.on (T' := T95) (g' := (mkF m 35 #[.val (.int i0), .val (.int i1), .val (.ref (w 1)), .val (.ref (w 2)), .val (.ref (w 1)), .unset] [(.int (1 : Int32)), (.int (0 : Int32))])) st95 ?_
      obtain ⟨_, _, ⟨T96, L96, k96, n96⟩, -, X96, ⟨Lc96, hQ96, l96, y96, z96⟩, st96⟩ := Jvm.LawKit.callS X95 hx (y := (⟨"java/lang/Math", "min", "(II)I"⟩ : MethodName)) hown (mvT hZ (hw _ (List.mem_of_getElem? (i := 23) rfl))) (mvT hZ (hw _ (List.mem_of_getElem? (i := 24) rfl))) (mvT hZ (hw _ (List.mem_of_getElem? (i := 25) rfl))) (mvT hZ (hw _ (List.mem_of_getElem? (i := 26) rfl))) (by decide) (backOf (W := 0) (rm4_5 l Z a0 hw [] w h0 n0 (Nat.le_trans Z0 (own_ext0 h0).1) hP) hZ (hw _ (List.mem_of_getElem? (i := 26) rfl)) (hw _ (List.mem_of_getElem? (i := 25) rfl)) (by decide) (by decide)) (g := (mkF m 35 #[.val (.int i0), .val (.int i1), .val (.ref (w 1)), .val (.ref (w 2)), .val (.ref (w 1)), .unset] [(.int (1 : Int32)), (.int (0 : Int32))])) rfl (by rw [hml]; rfl) (argsL := [(.int (0 : Int32)), (.int (1 : Int32))]) (rest := []) (lenOf pd_3 rfl) rfl (by show 2 * 0 + _ ≤ _; exact Nat.le_of_eq rfl) (hb hby at_35) (fun _ _ => ⟨rfl, e95, (by decide : 0 + 0 ≤ _), (by decide : 0 + 0 ≤ _)⟩)
      dsimp only [Pt.U, Pt.locs, Pt.cells, Pt.slots] at X96 l96 y96 z96 st96 hQ96
      subst l96 y96 z96
      obtain ⟨rfl, N96q, e96⟩ := hQ96
      have N96 := Fr.app N95 N96q
      refine Go.on (T' := T96) (g' := (mkF m 38 #[.val (.int i0), .val (.int i1), .val (.ref (w 1)), .val (.ref (w 2)), .val (.ref (w 1)), .unset] [(.int (0 : Int32))])) st96 ?_
      refine Go.on (T' := T96) (g' := (mkF m 40 #[.val (.int i0), .val (.int i1), .val (.ref (w 1)), .val (.ref (w 2)), .val (.ref (w 1)), .val (.int (0 : Int32))] [])) (fun t k => XS.istore X96.here hx rfl (hb hby at_38) rfl (l' := #[.val (.int i0), .val (.int i1), .val (.ref (w 1)), .val (.ref (w 2)), .val (.ref (w 1)), .val (.int (0 : Int32))]) rfl k) ?_
      refine Go.on (T' := T96) (g' := (mkF m 42 #[.val (.int i0), .val (.int i1), .val (.ref (w 1)), .val (.ref (w 2)), .val (.ref (w 1)), .val (.int (0 : Int32))] [(.ref (w 1))])) (fun t k => XS.aload X96.here hx rfl (hb hby at_40) rfl rfl k) ?_
      refine Go.on (T' := T96) (g' := (mkF m 45 #[.val (.int i0), .val (.int i1), .val (.ref (w 1)), .val (.ref (w 2)), .val (.ref (w 1)), .val (.int (0 : Int32))] [])) (fun t k => XS.ifnullNo X96.here hx rfl (hb hby at_42) rfl k) ?_
      refine Go.on (T' := T96) (g' := (mkF m 47 #[.val (.int i0), .val (.int i1), .val (.ref (w 1)), .val (.ref (w 2)), .val (.ref (w 1)), .val (.int (0 : Int32))] [(.ref (w 1))])) (fun t k => XS.aload X96.here hx rfl (hb hby at_45) rfl rfl k) ?_
      obtain ⟨_, _, ⟨T97, L97, k97, n97⟩, -, X97, ⟨Lc97, hQ97, l97, y97, z97⟩, st97⟩ := Jvm.LawKit.callS X96 hx (y := (⟨"com/example/bagwise/bagwise/terms/TruthAndPinLaw", "rank", "(Lcom/example/bagwise/bagwise/terms/Truth;)I"⟩ : MethodName)) hown (mvT hZ (hw _ (List.mem_of_getElem? (i := 18) rfl))) (mvT hZ (hw _ (List.mem_of_getElem? (i := 19) rfl))) (mvT hZ (hw _ (List.mem_of_getElem? (i := 3) rfl))) (mvT hZ (hw _ (List.mem_of_getElem? (i := 20) rfl))) (by decide) (backOf (W := 0) (rm3_1 l Z a0 hw [] w h0 n0 (Nat.le_trans Z0 (own_ext0 h0).1) hP) hZ (hw _ (List.mem_of_getElem? (i := 20) rfl)) (hw _ (List.mem_of_getElem? (i := 3) rfl)) (by decide) (by decide)) (g := (mkF m 47 #[.val (.int i0), .val (.int i1), .val (.ref (w 1)), .val (.ref (w 2)), .val (.ref (w 1)), .val (.int (0 : Int32))] [(.ref (w 1))])) rfl (by rw [hml]; rfl) (argsL := [(.ref (w 1))]) (rest := []) (lenOf pd_2 rfl) rfl (by show 2 * 0 + _ ≤ _; exact Nat.le_of_eq rfl) (hb hby at_47) (fun _ _ => ⟨rfl, e96, (by decide : 0 + 0 ≤ _), (by decide : 0 + 0 ≤ _)⟩)
      dsimp only [Pt.U, Pt.locs, Pt.cells, Pt.slots] at X97 l97 y97 z97 st97 hQ97
      subst l97 y97 z97
      obtain ⟨rfl, N97q, e97⟩ := hQ97
      have N97 := Fr.app N96 N97q
      refine Go.on (T' := T97) (g' := (mkF m 50 #[.val (.int i0), .val (.int i1), .val (.ref (w 1)), .val (.ref (w 2)), .val (.ref (w 1)), .val (.int (0 : Int32))] [(.int (0 : Int32))])) st97 ?_
      refine Go.on (T' := T97) (g' := (mkF m 52 #[.val (.int i0), .val (.int i1), .val (.ref (w 1)), .val (.ref (w 2)), .val (.ref (w 1)), .val (.int (0 : Int32))] [(.int (0 : Int32)), (.int (0 : Int32))])) (fun t k => XS.iload X97.here hx rfl (hb hby at_50) rfl k) ?_
      refine Go.on (T' := T97) (g' := (mkF m 55 #[.val (.int i0), .val (.int i1), .val (.ref (w 1)), .val (.ref (w 2)), .val (.ref (w 1)), .val (.int (0 : Int32))] [])) (fun t k => XS.icmpNo X97.here hx rfl (hb hby at_52) rfl (teq (by decide : (0 : Int32) = (0 : Int32))).2 k) ?_
      refine Go.on (T' := T97) (g' := (mkF m 56 #[.val (.int i0), .val (.int i1), .val (.ref (w 1)), .val (.ref (w 2)), .val (.ref (w 1)), .val (.int (0 : Int32))] [(.int (1 : Int32))])) (fun t k => XS.iconst X97.here hx rfl (hb hby at_55) k) ?_
      refine Go.on (T' := T97) (g' := (mkF m 60 #[.val (.int i0), .val (.int i1), .val (.ref (w 1)), .val (.ref (w 2)), .val (.ref (w 1)), .val (.int (0 : Int32))] [(.int (1 : Int32))])) (fun t k => XS.goto X97.here hx rfl (pc0 := 56) (pc' := 60) rfl (hb hby at_56) (by decide) (by decide) k) ?_
      obtain ⟨fs, hr, hrun, hended, hW, hsame⟩ := X97.leave (v := some (.int (1 : Int32))) (fun h => by rw [Bd.returns] at h; cases h)
      exact ⟨_, _, retN X97 hx (t := .boolean) Bd.returns (by simp) (hb hby at_60) hr, hrun, hended, _, _, rfl, ⟨rfl, N97⟩, ⟨_, rfl⟩, hW, hsame.mono (by decide) (by decide)⟩
  · skip
    rw [h1]
    obtain ⟨_, _, ⟨T98, L98, k98, n98⟩, -, X98, ⟨Lc98, hQ98, l98, y98, z98⟩, st98⟩ := Jvm.LawKit.callS X0 hx (y := (⟨"com/example/bagwise/bagwise/terms/TruthAndPinLaw", "pick", "(I)Lcom/example/bagwise/bagwise/terms/Truth;"⟩ : MethodName)) hown (mvT hZ (hw _ (List.mem_of_getElem? (i := 1) rfl))) (mvT hZ (hw _ (List.mem_of_getElem? (i := 2) rfl))) (mvT hZ (hw _ (List.mem_of_getElem? (i := 3) rfl))) (mvT hZ (hw _ (List.mem_of_getElem? (i := 4) rfl))) (by decide) (backOf (W := 0) (rm1_2 l Z a0 hw [] w h0 n0 (Nat.le_trans Z0 (own_ext0 h0).1) hP) hZ (hw _ (List.mem_of_getElem? (i := 4) rfl)) (hw _ (List.mem_of_getElem? (i := 3) rfl)) (by decide) (by decide)) (g := (mkF m 6 #[.val (.int i0), .val (.int i1), .unset, .unset, .unset, .unset] [(.int (2 : Int32))])) rfl (by rw [hml]; rfl) (argsL := [(.int (2 : Int32))]) (rest := []) (lenOf pd_0 rfl) rfl (by show 2 * 0 + _ ≤ _; exact Nat.le_of_eq rfl) (hb hby at_6) (fun _ _ => ⟨rfl, e0, (by decide : 0 + 0 ≤ _), (by decide : 0 + 0 ≤ _)⟩)
    dsimp only [Pt.U, Pt.locs, Pt.cells, Pt.slots] at X98 l98 y98 z98 st98 hQ98
    subst l98 y98 z98
    obtain ⟨rfl, N98q, e98⟩ := hQ98
    have N98 := Fr.app N0 N98q
    refine Go.on (T' := T98) (g' := (mkF m 9 #[.val (.int i0), .val (.int i1), .unset, .unset, .unset, .unset] [(.ref (w 2))])) st98 ?_
    refine Go.on (T' := T98) (g' := (mkF m 10 #[.val (.int i0), .val (.int i1), .val (.ref (w 2)), .unset, .unset, .unset] [])) (fun t k => XS.astoreN X98.here hx rfl (hb hby at_9) rfl rfl (l' := #[.val (.int i0), .val (.int i1), .val (.ref (w 2)), .unset, .unset, .unset]) rfl k) ?_
    refine Go.on (T' := T98) (g' := (mkF m 11 #[.val (.int i0), .val (.int i1), .val (.ref (w 2)), .unset, .unset, .unset] [(.int i1)])) (fun t k => XS.iloadN X98.here hx rfl (hb hby at_10) rfl k) ?_
    refine Go.on (T' := T98) (g' := (mkF m 13 #[.val (.int i0), .val (.int i1), .val (.ref (w 2)), .unset, .unset, .unset] [(.int (2147483647 : Int32)), (.int i1)])) (X98.ldcInt hx hown (mvT hZ (hw _ (List.mem_of_getElem? (i := 0) rfl))) (g := (mkF m 11 #[.val (.int i0), .val (.int i1), .val (.ref (w 2)), .unset, .unset, .unset] [(.int i1)])) rfl (hb hby at_11)) ?_
    refine Go.on (T' := T98) (g' := (mkF m 14 #[.val (.int i0), .val (.int i1), .val (.ref (w 2)), .unset, .unset, .unset] [(.int (i1 &&& (2147483647 : Int32)))])) (fun t k => XS.iand X98.here hx rfl (hb hby at_13) rfl k) ?_
    refine Go.on (T' := T98) (g' := (mkF m 15 #[.val (.int i0), .val (.int i1), .val (.ref (w 2)), .unset, .unset, .unset] [(.int (3 : Int32)), (.int (i1 &&& (2147483647 : Int32)))])) (fun t k => XS.iconst X98.here hx rfl (hb hby at_14) k) ?_
    refine Go.on (T' := T98) (g' := (mkF m 16 #[.val (.int i0), .val (.int i1), .val (.ref (w 2)), .unset, .unset, .unset] [(.int ((i1 &&& (2147483647 : Int32)) % (3 : Int32)))])) (fun t k => iremM X98 hx rfl (hb hby at_15) rfl (by decide) k) ?_
    rcases own_mod3 i1 with h99 | h99 | h99
    · skip
      rw [h99]
      obtain ⟨_, _, ⟨T100, L100, k100, n100⟩, -, X100, ⟨Lc100, hQ100, l100, y100, z100⟩, st100⟩ := Jvm.LawKit.callS X98 hx (y := (⟨"com/example/bagwise/bagwise/terms/TruthAndPinLaw", "pick", "(I)Lcom/example/bagwise/bagwise/terms/Truth;"⟩ : MethodName)) hown (mvT hZ (hw _ (List.mem_of_getElem? (i := 1) rfl))) (mvT hZ (hw _ (List.mem_of_getElem? (i := 2) rfl))) (mvT hZ (hw _ (List.mem_of_getElem? (i := 3) rfl))) (mvT hZ (hw _ (List.mem_of_getElem? (i := 4) rfl))) (by decide) (backOf (W := 0) (rm1_0 l Z a0 hw [] w h0 n0 (Nat.le_trans Z0 (own_ext0 h0).1) hP) hZ (hw _ (List.mem_of_getElem? (i := 4) rfl)) (hw _ (List.mem_of_getElem? (i := 3) rfl)) (by decide) (by decide)) (g := (mkF m 16 #[.val (.int i0), .val (.int i1), .val (.ref (w 2)), .unset, .unset, .unset] [(.int (0 : Int32))])) rfl (by rw [hml]; rfl) (argsL := [(.int (0 : Int32))]) (rest := []) (lenOf pd_0 rfl) rfl (by show 2 * 0 + _ ≤ _; exact Nat.le_of_eq rfl) (hb hby at_16) (fun _ _ => ⟨rfl, e98, (by decide : 0 + 0 ≤ _), (by decide : 0 + 0 ≤ _)⟩)
      dsimp only [Pt.U, Pt.locs, Pt.cells, Pt.slots] at X100 l100 y100 z100 st100 hQ100
      subst l100 y100 z100
      obtain ⟨rfl, N100q, e100⟩ := hQ100
      have N100 := Fr.app N98 N100q
      refine Go.on (T' := T100) (g' := (mkF m 19 #[.val (.int i0), .val (.int i1), .val (.ref (w 2)), .unset, .unset, .unset] [(.ref (w 0))])) st100 ?_
      refine Go.on (T' := T100) (g' := (mkF m 20 #[.val (.int i0), .val (.int i1), .val (.ref (w 2)), .val (.ref (w 0)), .unset, .unset] [])) (fun t k => XS.astoreN X100.here hx rfl (hb hby at_19) rfl rfl (l' := #[.val (.int i0), .val (.int i1), .val (.ref (w 2)), .val (.ref (w 0)), .unset, .unset]) rfl k) ?_
      refine Go.on (T' := T100) (g' := (mkF m 21 #[.val (.int i0), .val (.int i1), .val (.ref (w 2)), .val (.ref (w 0)), .unset, .unset] [(.ref (w 2))])) (fun t k => XS.aloadN X100.here hx rfl (hb hby at_20) rfl rfl k) ?_
      refine Go.on (T' := T100) (g' := (mkF m 22 #[.val (.int i0), .val (.int i1), .val (.ref (w 2)), .val (.ref (w 0)), .unset, .unset] [(.ref (w 0)), (.ref (w 2))])) (fun t k => XS.aloadN X100.here hx rfl (hb hby at_21) rfl rfl k) ?_
      obtain ⟨cq109, kq109, q109a, q109b, q109c⟩ := isOf hZ e100 (pin_5 hP)
      obtain ⟨_, _, ⟨T109, L109, k109, n109⟩, -, X109, ⟨Lc109, hQ109, l109, y109, z109⟩, st109⟩ := X100.virtualBack hx (y := (⟨"com/example/bagwise/bagwise/terms/Truth", "and", "(Lcom/example/bagwise/bagwise/terms/Truth;)Lcom/example/bagwise/bagwise/terms/Truth;"⟩ : MethodName)) (z := (⟨"com/example/bagwise/bagwise/terms/Truth", "and", "(Lcom/example/bagwise/bagwise/terms/Truth;)Lcom/example/bagwise/bagwise/terms/Truth;"⟩ : MethodName)) hown (mvT hZ (hw _ (List.mem_of_getElem? (i := 8) rfl))) (mvT hZ (hw _ (List.mem_of_getElem? (i := 9) rfl))) (notFace_of_selects (args := #[]) (mvT hZ (hw _ (List.mem_of_getElem? (i := 11) rfl)))) (mvT hZ (hw _ (List.mem_of_getElem? (i := 11) rfl))) (mvT hZ (hw _ (List.mem_of_getElem? (i := 10) rfl))) (by decide) (backOf (W := 0) (rm2_6 l Z a0 hw [] w h0 n0 (Nat.le_trans Z0 (own_ext0 h0).1) hP) hZ (hw _ (List.mem_of_getElem? (i := 12) rfl)) (hw _ (List.mem_of_getElem? (i := 6) rfl)) (by decide) (by decide)) q109a q109c (g := (mkF m 22 #[.val (.int i0), .val (.int i1), .val (.ref (w 2)), .val (.ref (w 0)), .unset, .unset] [(.ref (w 0)), (.ref (w 2))])) rfl (by rw [hml]; rfl) (Steps.refl _) (argsL := [(.ref (w 0))]) (rest := []) (lenOf pd_1 rfl) rfl (by show 2 * 0 + _ ≤ _; exact Nat.le_of_eq rfl) (hb hby at_22) (fun _ _ => ⟨rfl, e100, (by decide : 0 + 0 ≤ _), (by decide : 0 + 0 ≤ _)⟩)
      dsimp only [Pt.U, Pt.locs, Pt.cells, Pt.slots] at X109 l109 y109 z109 st109 hQ109
      subst l109 y109 z109
      obtain ⟨rfl, N109q, e109⟩ := hQ109
      have N109 := Fr.app N100 N109q
      refine Go.on (T' := T109) (g' := (mkF m 25 #[.val (.int i0), .val (.int i1), .val (.ref (w 2)), .val (.ref (w 0)), .unset, .unset] [(.ref (w 2))])) (fun t k => st109.trans k) ?_
      refine Go.on (T' := T109) (g' := (mkF m 27 #[.val (.int i0), .val (.int i1), .val (.ref (w 2)), .val (.ref (w 0)), .val (.ref (w 2)), .unset] [])) (fun t k => XS.astore X109.here hx rfl (hb hby at_25) rfl rfl (l' := #[.val (.int i0), .val (.int i1), .val (.ref (w 2)), .val (.ref (w 0)), .val (.ref (w 2)), .unset]) rfl k) ?_
      refine Go.on (T' := T109) (g' := (mkF m 28 #[.val (.int i0), .val (.int i1), .val (.ref (w 2)), .val (.ref (w 0)), .val (.ref (w 2)), .unset] [(.ref (w 2))])) (fun t k => XS.aloadN X109.here hx rfl (hb hby at_27) rfl rfl k) ?_
      obtain ⟨_, _, ⟨T110, L110, k110, n110⟩, -, X110, ⟨Lc110, hQ110, l110, y110, z110⟩, st110⟩ := Jvm.LawKit.callS X109 hx (y := (⟨"com/example/bagwise/bagwise/terms/TruthAndPinLaw", "rank", "(Lcom/example/bagwise/bagwise/terms/Truth;)I"⟩ : MethodName)) hown (mvT hZ (hw _ (List.mem_of_getElem? (i := 18) rfl))) (mvT hZ (hw _ (List.mem_of_getElem? (i := 19) rfl))) (mvT hZ (hw _ (List.mem_of_getElem? (i := 3) rfl))) (mvT hZ (hw _ (List.mem_of_getElem? (i := 20) rfl))) (by decide) (backOf (W := 0) (rm3_2 l Z a0 hw [] w h0 n0 (Nat.le_trans Z0 (own_ext0 h0).1) hP) hZ (hw _ (List.mem_of_getElem? (i := 20) rfl)) (hw _ (List.mem_of_getElem? (i := 3) rfl)) (by decide) (by decide)) (g := (mkF m 28 #[.val (.int i0), .val (.int i1), .val (.ref (w 2)), .val (.ref (w 0)), .val (.ref (w 2)), .unset] [(.ref (w 2))])) rfl (by rw [hml]; rfl) (argsL := [(.ref (w 2))]) (rest := []) (lenOf pd_2 rfl) rfl (by show 2 * 0 + _ ≤ _; exact Nat.le_of_eq rfl) (hb hby at_28) (fun _ _ => ⟨rfl, e109, (by decide : 0 + 0 ≤ _), (by decide : 0 + 0 ≤ _)⟩)
      dsimp only [Pt.U, Pt.locs, Pt.cells, Pt.slots] at X110 l110 y110 z110 st110 hQ110
      subst l110 y110 z110
      obtain ⟨rfl, N110q, e110⟩ := hQ110
      have N110 := Fr.app N109 N110q
      refine Go.on (T' := T110) (g' := (mkF m 31 #[.val (.int i0), .val (.int i1), .val (.ref (w 2)), .val (.ref (w 0)), .val (.ref (w 2)), .unset] [(.int (1 : Int32))])) st110 ?_
      refine Go.on (T' := T110) (g' := (mkF m 32 #[.val (.int i0), .val (.int i1), .val (.ref (w 2)), .val (.ref (w 0)), .val (.ref (w 2)), .unset] [(.ref (w 0)), (.int (1 : Int32))])) (fun t k => XS.aloadN X110.here hx rfl (hb hby at_31) rfl rfl k) ?_
      obtain ⟨_, _, ⟨T111, L111, k111, n111⟩, -, X111, ⟨Lc111, hQ111, l111, y111, z111⟩, st111⟩ := Jvm.LawKit.callS X110 hx (y := (⟨"com/example/bagwise/bagwise/terms/TruthAndPinLaw", "rank", "(Lcom/example/bagwise/bagwise/terms/Truth;)I"⟩ : MethodName)) hown (mvT hZ (hw _ (List.mem_of_getElem? (i := 18) rfl))) (mvT hZ (hw _ (List.mem_of_getElem? (i := 19) rfl))) (mvT hZ (hw _ (List.mem_of_getElem? (i := 3) rfl))) (mvT hZ (hw _ (List.mem_of_getElem? (i := 20) rfl))) (by decide) (backOf (W := 1) (rm3_0 l Z a0 hw [] w h0 n0 (Nat.le_trans Z0 (own_ext0 h0).1) hP) hZ (hw _ (List.mem_of_getElem? (i := 20) rfl)) (hw _ (List.mem_of_getElem? (i := 3) rfl)) (by decide) (by decide)) (g := (mkF m 32 #[.val (.int i0), .val (.int i1), .val (.ref (w 2)), .val (.ref (w 0)), .val (.ref (w 2)), .unset] [(.ref (w 0)), (.int (1 : Int32))])) rfl (by rw [hml]; rfl) (argsL := [(.ref (w 0))]) (rest := [(.int (1 : Int32))]) (lenOf pd_2 rfl) rfl (by show 2 * 0 + _ ≤ _; exact Nat.le_of_eq rfl) (hb hby at_32) (fun _ _ => ⟨rfl, e110, (by decide : 0 + 0 ≤ _), (by decide : 0 + 0 ≤ _)⟩)
      dsimp only [Pt.U, Pt.locs, Pt.cells, Pt.slots] at X111 l111 y111 z111 st111 hQ111
      subst l111 y111 z111
      obtain ⟨rfl, N111q, e111⟩ := hQ111
      have N111 := Fr.app N110 N111q
      refine Go.on (T' := T111) (g' := (mkF m 35 #[.val (.int i0), .val (.int i1), .val (.ref (w 2)), .val (.ref (w 0)), .val (.ref (w 2)), .unset] [(.int (2 : Int32)), (.int (1 : Int32))])) st111 ?_
      obtain ⟨_, _, ⟨T112, L112, k112, n112⟩, -, X112, ⟨Lc112, hQ112, l112, y112, z112⟩, st112⟩ := Jvm.LawKit.callS X111 hx (y := (⟨"java/lang/Math", "min", "(II)I"⟩ : MethodName)) hown (mvT hZ (hw _ (List.mem_of_getElem? (i := 23) rfl))) (mvT hZ (hw _ (List.mem_of_getElem? (i := 24) rfl))) (mvT hZ (hw _ (List.mem_of_getElem? (i := 25) rfl))) (mvT hZ (hw _ (List.mem_of_getElem? (i := 26) rfl))) (by decide) (backOf (W := 0) (rm4_6 l Z a0 hw [] w h0 n0 (Nat.le_trans Z0 (own_ext0 h0).1) hP) hZ (hw _ (List.mem_of_getElem? (i := 26) rfl)) (hw _ (List.mem_of_getElem? (i := 25) rfl)) (by decide) (by decide)) (g := (mkF m 35 #[.val (.int i0), .val (.int i1), .val (.ref (w 2)), .val (.ref (w 0)), .val (.ref (w 2)), .unset] [(.int (2 : Int32)), (.int (1 : Int32))])) rfl (by rw [hml]; rfl) (argsL := [(.int (1 : Int32)), (.int (2 : Int32))]) (rest := []) (lenOf pd_3 rfl) rfl (by show 2 * 0 + _ ≤ _; exact Nat.le_of_eq rfl) (hb hby at_35) (fun _ _ => ⟨rfl, e111, (by decide : 0 + 0 ≤ _), (by decide : 0 + 0 ≤ _)⟩)
      dsimp only [Pt.U, Pt.locs, Pt.cells, Pt.slots] at X112 l112 y112 z112 st112 hQ112
      subst l112 y112 z112
      obtain ⟨rfl, N112q, e112⟩ := hQ112
      have N112 := Fr.app N111 N112q
      refine Go.on (T' := T112) (g' := (mkF m 38 #[.val (.int i0), .val (.int i1), .val (.ref (w 2)), .val (.ref (w 0)), .val (.ref (w 2)), .unset] [(.int (1 : Int32))])) st112 ?_
      refine Go.on (T' := T112) (g' := (mkF m 40 #[.val (.int i0), .val (.int i1), .val (.ref (w 2)), .val (.ref (w 0)), .val (.ref (w 2)), .val (.int (1 : Int32))] [])) (fun t k => XS.istore X112.here hx rfl (hb hby at_38) rfl (l' := #[.val (.int i0), .val (.int i1), .val (.ref (w 2)), .val (.ref (w 0)), .val (.ref (w 2)), .val (.int (1 : Int32))]) rfl k) ?_
      refine Go.on (T' := T112) (g' := (mkF m 42 #[.val (.int i0), .val (.int i1), .val (.ref (w 2)), .val (.ref (w 0)), .val (.ref (w 2)), .val (.int (1 : Int32))] [(.ref (w 2))])) (fun t k => XS.aload X112.here hx rfl (hb hby at_40) rfl rfl k) ?_
      refine Go.on (T' := T112) (g' := (mkF m 45 #[.val (.int i0), .val (.int i1), .val (.ref (w 2)), .val (.ref (w 0)), .val (.ref (w 2)), .val (.int (1 : Int32))] [])) (fun t k => XS.ifnullNo X112.here hx rfl (hb hby at_42) rfl k) ?_
      refine Go.on (T' := T112) (g' := (mkF m 47 #[.val (.int i0), .val (.int i1), .val (.ref (w 2)), .val (.ref (w 0)), .val (.ref (w 2)), .val (.int (1 : Int32))] [(.ref (w 2))])) (fun t k => XS.aload X112.here hx rfl (hb hby at_45) rfl rfl k) ?_
      obtain ⟨_, _, ⟨T113, L113, k113, n113⟩, -, X113, ⟨Lc113, hQ113, l113, y113, z113⟩, st113⟩ := Jvm.LawKit.callS X112 hx (y := (⟨"com/example/bagwise/bagwise/terms/TruthAndPinLaw", "rank", "(Lcom/example/bagwise/bagwise/terms/Truth;)I"⟩ : MethodName)) hown (mvT hZ (hw _ (List.mem_of_getElem? (i := 18) rfl))) (mvT hZ (hw _ (List.mem_of_getElem? (i := 19) rfl))) (mvT hZ (hw _ (List.mem_of_getElem? (i := 3) rfl))) (mvT hZ (hw _ (List.mem_of_getElem? (i := 20) rfl))) (by decide) (backOf (W := 0) (rm3_2 l Z a0 hw [] w h0 n0 (Nat.le_trans Z0 (own_ext0 h0).1) hP) hZ (hw _ (List.mem_of_getElem? (i := 20) rfl)) (hw _ (List.mem_of_getElem? (i := 3) rfl)) (by decide) (by decide)) (g := (mkF m 47 #[.val (.int i0), .val (.int i1), .val (.ref (w 2)), .val (.ref (w 0)), .val (.ref (w 2)), .val (.int (1 : Int32))] [(.ref (w 2))])) rfl (by rw [hml]; rfl) (argsL := [(.ref (w 2))]) (rest := []) (lenOf pd_2 rfl) rfl (by show 2 * 0 + _ ≤ _; exact Nat.le_of_eq rfl) (hb hby at_47) (fun _ _ => ⟨rfl, e112, (by decide : 0 + 0 ≤ _), (by decide : 0 + 0 ≤ _)⟩)
      dsimp only [Pt.U, Pt.locs, Pt.cells, Pt.slots] at X113 l113 y113 z113 st113 hQ113
      subst l113 y113 z113
      obtain ⟨rfl, N113q, e113⟩ := hQ113
      have N113 := Fr.app N112 N113q
      refine Go.on (T' := T113) (g' := (mkF m 50 #[.val (.int i0), .val (.int i1), .val (.ref (w 2)), .val (.ref (w 0)), .val (.ref (w 2)), .val (.int (1 : Int32))] [(.int (1 : Int32))])) st113 ?_
      refine Go.on (T' := T113) (g' := (mkF m 52 #[.val (.int i0), .val (.int i1), .val (.ref (w 2)), .val (.ref (w 0)), .val (.ref (w 2)), .val (.int (1 : Int32))] [(.int (1 : Int32)), (.int (1 : Int32))])) (fun t k => XS.iload X113.here hx rfl (hb hby at_50) rfl k) ?_
      refine Go.on (T' := T113) (g' := (mkF m 55 #[.val (.int i0), .val (.int i1), .val (.ref (w 2)), .val (.ref (w 0)), .val (.ref (w 2)), .val (.int (1 : Int32))] [])) (fun t k => XS.icmpNo X113.here hx rfl (hb hby at_52) rfl (teq (by decide : (1 : Int32) = (1 : Int32))).2 k) ?_
      refine Go.on (T' := T113) (g' := (mkF m 56 #[.val (.int i0), .val (.int i1), .val (.ref (w 2)), .val (.ref (w 0)), .val (.ref (w 2)), .val (.int (1 : Int32))] [(.int (1 : Int32))])) (fun t k => XS.iconst X113.here hx rfl (hb hby at_55) k) ?_
      refine Go.on (T' := T113) (g' := (mkF m 60 #[.val (.int i0), .val (.int i1), .val (.ref (w 2)), .val (.ref (w 0)), .val (.ref (w 2)), .val (.int (1 : Int32))] [(.int (1 : Int32))])) (fun t k => XS.goto X113.here hx rfl (pc0 := 56) (pc' := 60) rfl (hb hby at_56) (by decide) (by decide) k) ?_
      obtain ⟨fs, hr, hrun, hended, hW, hsame⟩ := X113.leave (v := some (.int (1 : Int32))) (fun h => by rw [Bd.returns] at h; cases h)
      exact ⟨_, _, retN X113 hx (t := .boolean) Bd.returns (by simp) (hb hby at_60) hr, hrun, hended, _, _, rfl, ⟨rfl, N113⟩, ⟨_, rfl⟩, hW, hsame.mono (by decide) (by decide)⟩
    · skip
      rw [h99]
      obtain ⟨_, _, ⟨T114, L114, k114, n114⟩, -, X114, ⟨Lc114, hQ114, l114, y114, z114⟩, st114⟩ := Jvm.LawKit.callS X98 hx (y := (⟨"com/example/bagwise/bagwise/terms/TruthAndPinLaw", "pick", "(I)Lcom/example/bagwise/bagwise/terms/Truth;"⟩ : MethodName)) hown (mvT hZ (hw _ (List.mem_of_getElem? (i := 1) rfl))) (mvT hZ (hw _ (List.mem_of_getElem? (i := 2) rfl))) (mvT hZ (hw _ (List.mem_of_getElem? (i := 3) rfl))) (mvT hZ (hw _ (List.mem_of_getElem? (i := 4) rfl))) (by decide) (backOf (W := 0) (rm1_1 l Z a0 hw [] w h0 n0 (Nat.le_trans Z0 (own_ext0 h0).1) hP) hZ (hw _ (List.mem_of_getElem? (i := 4) rfl)) (hw _ (List.mem_of_getElem? (i := 3) rfl)) (by decide) (by decide)) (g := (mkF m 16 #[.val (.int i0), .val (.int i1), .val (.ref (w 2)), .unset, .unset, .unset] [(.int (1 : Int32))])) rfl (by rw [hml]; rfl) (argsL := [(.int (1 : Int32))]) (rest := []) (lenOf pd_0 rfl) rfl (by show 2 * 0 + _ ≤ _; exact Nat.le_of_eq rfl) (hb hby at_16) (fun _ _ => ⟨rfl, e98, (by decide : 0 + 0 ≤ _), (by decide : 0 + 0 ≤ _)⟩)
      dsimp only [Pt.U, Pt.locs, Pt.cells, Pt.slots] at X114 l114 y114 z114 st114 hQ114
      subst l114 y114 z114
      obtain ⟨rfl, N114q, e114⟩ := hQ114
      have N114 := Fr.app N98 N114q
      refine Go.on (T' := T114) (g' := (mkF m 19 #[.val (.int i0), .val (.int i1), .val (.ref (w 2)), .unset, .unset, .unset] [(.ref (w 1))])) st114 ?_
      refine Go.on (T' := T114) (g' := (mkF m 20 #[.val (.int i0), .val (.int i1), .val (.ref (w 2)), .val (.ref (w 1)), .unset, .unset] [])) (fun t k => XS.astoreN X114.here hx rfl (hb hby at_19) rfl rfl (l' := #[.val (.int i0), .val (.int i1), .val (.ref (w 2)), .val (.ref (w 1)), .unset, .unset]) rfl k) ?_
      refine Go.on (T' := T114) (g' := (mkF m 21 #[.val (.int i0), .val (.int i1), .val (.ref (w 2)), .val (.ref (w 1)), .unset, .unset] [(.ref (w 2))])) (fun t k => XS.aloadN X114.here hx rfl (hb hby at_20) rfl rfl k) ?_
      refine Go.on (T' := T114) (g' := (mkF m 22 #[.val (.int i0), .val (.int i1), .val (.ref (w 2)), .val (.ref (w 1)), .unset, .unset] [(.ref (w 1)), (.ref (w 2))])) (fun t k => XS.aloadN X114.here hx rfl (hb hby at_21) rfl rfl k) ?_
      obtain ⟨cq121, kq121, q121a, q121b, q121c⟩ := isOf hZ e114 (pin_5 hP)
      obtain ⟨_, _, ⟨T121, L121, k121, n121⟩, -, X121, ⟨Lc121, hQ121, l121, y121, z121⟩, st121⟩ := X114.virtualBack hx (y := (⟨"com/example/bagwise/bagwise/terms/Truth", "and", "(Lcom/example/bagwise/bagwise/terms/Truth;)Lcom/example/bagwise/bagwise/terms/Truth;"⟩ : MethodName)) (z := (⟨"com/example/bagwise/bagwise/terms/Truth", "and", "(Lcom/example/bagwise/bagwise/terms/Truth;)Lcom/example/bagwise/bagwise/terms/Truth;"⟩ : MethodName)) hown (mvT hZ (hw _ (List.mem_of_getElem? (i := 8) rfl))) (mvT hZ (hw _ (List.mem_of_getElem? (i := 9) rfl))) (notFace_of_selects (args := #[]) (mvT hZ (hw _ (List.mem_of_getElem? (i := 11) rfl)))) (mvT hZ (hw _ (List.mem_of_getElem? (i := 11) rfl))) (mvT hZ (hw _ (List.mem_of_getElem? (i := 10) rfl))) (by decide) (backOf (W := 0) (rm2_7 l Z a0 hw [] w h0 n0 (Nat.le_trans Z0 (own_ext0 h0).1) hP) hZ (hw _ (List.mem_of_getElem? (i := 12) rfl)) (hw _ (List.mem_of_getElem? (i := 6) rfl)) (by decide) (by decide)) q121a q121c (g := (mkF m 22 #[.val (.int i0), .val (.int i1), .val (.ref (w 2)), .val (.ref (w 1)), .unset, .unset] [(.ref (w 1)), (.ref (w 2))])) rfl (by rw [hml]; rfl) (Steps.refl _) (argsL := [(.ref (w 1))]) (rest := []) (lenOf pd_1 rfl) rfl (by show 2 * 0 + _ ≤ _; exact Nat.le_of_eq rfl) (hb hby at_22) (fun _ _ => ⟨rfl, e114, (by decide : 0 + 0 ≤ _), (by decide : 0 + 0 ≤ _)⟩)
      dsimp only [Pt.U, Pt.locs, Pt.cells, Pt.slots] at X121 l121 y121 z121 st121 hQ121
      subst l121 y121 z121
      obtain ⟨rfl, N121q, e121⟩ := hQ121
      have N121 := Fr.app N114 N121q
      refine Go.on (T' := T121) (g' := (mkF m 25 #[.val (.int i0), .val (.int i1), .val (.ref (w 2)), .val (.ref (w 1)), .unset, .unset] [(.ref (w 1))])) (fun t k => st121.trans k) ?_
      refine Go.on (T' := T121) (g' := (mkF m 27 #[.val (.int i0), .val (.int i1), .val (.ref (w 2)), .val (.ref (w 1)), .val (.ref (w 1)), .unset] [])) (fun t k => XS.astore X121.here hx rfl (hb hby at_25) rfl rfl (l' := #[.val (.int i0), .val (.int i1), .val (.ref (w 2)), .val (.ref (w 1)), .val (.ref (w 1)), .unset]) rfl k) ?_
      refine Go.on (T' := T121) (g' := (mkF m 28 #[.val (.int i0), .val (.int i1), .val (.ref (w 2)), .val (.ref (w 1)), .val (.ref (w 1)), .unset] [(.ref (w 2))])) (fun t k => XS.aloadN X121.here hx rfl (hb hby at_27) rfl rfl k) ?_
      obtain ⟨_, _, ⟨T122, L122, k122, n122⟩, -, X122, ⟨Lc122, hQ122, l122, y122, z122⟩, st122⟩ := Jvm.LawKit.callS X121 hx (y := (⟨"com/example/bagwise/bagwise/terms/TruthAndPinLaw", "rank", "(Lcom/example/bagwise/bagwise/terms/Truth;)I"⟩ : MethodName)) hown (mvT hZ (hw _ (List.mem_of_getElem? (i := 18) rfl))) (mvT hZ (hw _ (List.mem_of_getElem? (i := 19) rfl))) (mvT hZ (hw _ (List.mem_of_getElem? (i := 3) rfl))) (mvT hZ (hw _ (List.mem_of_getElem? (i := 20) rfl))) (by decide) (backOf (W := 0) (rm3_2 l Z a0 hw [] w h0 n0 (Nat.le_trans Z0 (own_ext0 h0).1) hP) hZ (hw _ (List.mem_of_getElem? (i := 20) rfl)) (hw _ (List.mem_of_getElem? (i := 3) rfl)) (by decide) (by decide)) (g := (mkF m 28 #[.val (.int i0), .val (.int i1), .val (.ref (w 2)), .val (.ref (w 1)), .val (.ref (w 1)), .unset] [(.ref (w 2))])) rfl (by rw [hml]; rfl) (argsL := [(.ref (w 2))]) (rest := []) (lenOf pd_2 rfl) rfl (by show 2 * 0 + _ ≤ _; exact Nat.le_of_eq rfl) (hb hby at_28) (fun _ _ => ⟨rfl, e121, (by decide : 0 + 0 ≤ _), (by decide : 0 + 0 ≤ _)⟩)
      dsimp only [Pt.U, Pt.locs, Pt.cells, Pt.slots] at X122 l122 y122 z122 st122 hQ122
      subst l122 y122 z122
      obtain ⟨rfl, N122q, e122⟩ := hQ122
      have N122 := Fr.app N121 N122q
      refine Go.on (T' := T122) (g' := (mkF m 31 #[.val (.int i0), .val (.int i1), .val (.ref (w 2)), .val (.ref (w 1)), .val (.ref (w 1)), .unset] [(.int (1 : Int32))])) st122 ?_
      refine Go.on (T' := T122) (g' := (mkF m 32 #[.val (.int i0), .val (.int i1), .val (.ref (w 2)), .val (.ref (w 1)), .val (.ref (w 1)), .unset] [(.ref (w 1)), (.int (1 : Int32))])) (fun t k => XS.aloadN X122.here hx rfl (hb hby at_31) rfl rfl k) ?_
      obtain ⟨_, _, ⟨T123, L123, k123, n123⟩, -, X123, ⟨Lc123, hQ123, l123, y123, z123⟩, st123⟩ := Jvm.LawKit.callS X122 hx (y := (⟨"com/example/bagwise/bagwise/terms/TruthAndPinLaw", "rank", "(Lcom/example/bagwise/bagwise/terms/Truth;)I"⟩ : MethodName)) hown (mvT hZ (hw _ (List.mem_of_getElem? (i := 18) rfl))) (mvT hZ (hw _ (List.mem_of_getElem? (i := 19) rfl))) (mvT hZ (hw _ (List.mem_of_getElem? (i := 3) rfl))) (mvT hZ (hw _ (List.mem_of_getElem? (i := 20) rfl))) (by decide) (backOf (W := 1) (rm3_1 l Z a0 hw [] w h0 n0 (Nat.le_trans Z0 (own_ext0 h0).1) hP) hZ (hw _ (List.mem_of_getElem? (i := 20) rfl)) (hw _ (List.mem_of_getElem? (i := 3) rfl)) (by decide) (by decide)) (g := (mkF m 32 #[.val (.int i0), .val (.int i1), .val (.ref (w 2)), .val (.ref (w 1)), .val (.ref (w 1)), .unset] [(.ref (w 1)), (.int (1 : Int32))])) rfl (by rw [hml]; rfl) (argsL := [(.ref (w 1))]) (rest := [(.int (1 : Int32))]) (lenOf pd_2 rfl) rfl (by show 2 * 0 + _ ≤ _; exact Nat.le_of_eq rfl) (hb hby at_32) (fun _ _ => ⟨rfl, e122, (by decide : 0 + 0 ≤ _), (by decide : 0 + 0 ≤ _)⟩)
      dsimp only [Pt.U, Pt.locs, Pt.cells, Pt.slots] at X123 l123 y123 z123 st123 hQ123
      subst l123 y123 z123
      obtain ⟨rfl, N123q, e123⟩ := hQ123
      have N123 := Fr.app N122 N123q
      refine Go.on (T' := T123) (g' := (mkF m 35 #[.val (.int i0), .val (.int i1), .val (.ref (w 2)), .val (.ref (w 1)), .val (.ref (w 1)), .unset] [(.int (0 : Int32)), (.int (1 : Int32))])) st123 ?_
      obtain ⟨_, _, ⟨T124, L124, k124, n124⟩, -, X124, ⟨Lc124, hQ124, l124, y124, z124⟩, st124⟩ := Jvm.LawKit.callS X123 hx (y := (⟨"java/lang/Math", "min", "(II)I"⟩ : MethodName)) hown (mvT hZ (hw _ (List.mem_of_getElem? (i := 23) rfl))) (mvT hZ (hw _ (List.mem_of_getElem? (i := 24) rfl))) (mvT hZ (hw _ (List.mem_of_getElem? (i := 25) rfl))) (mvT hZ (hw _ (List.mem_of_getElem? (i := 26) rfl))) (by decide) (backOf (W := 0) (rm4_7 l Z a0 hw [] w h0 n0 (Nat.le_trans Z0 (own_ext0 h0).1) hP) hZ (hw _ (List.mem_of_getElem? (i := 26) rfl)) (hw _ (List.mem_of_getElem? (i := 25) rfl)) (by decide) (by decide)) (g := (mkF m 35 #[.val (.int i0), .val (.int i1), .val (.ref (w 2)), .val (.ref (w 1)), .val (.ref (w 1)), .unset] [(.int (0 : Int32)), (.int (1 : Int32))])) rfl (by rw [hml]; rfl) (argsL := [(.int (1 : Int32)), (.int (0 : Int32))]) (rest := []) (lenOf pd_3 rfl) rfl (by show 2 * 0 + _ ≤ _; exact Nat.le_of_eq rfl) (hb hby at_35) (fun _ _ => ⟨rfl, e123, (by decide : 0 + 0 ≤ _), (by decide : 0 + 0 ≤ _)⟩)
      dsimp only [Pt.U, Pt.locs, Pt.cells, Pt.slots] at X124 l124 y124 z124 st124 hQ124
      subst l124 y124 z124
      obtain ⟨rfl, N124q, e124⟩ := hQ124
      have N124 := Fr.app N123 N124q
      refine Go.on (T' := T124) (g' := (mkF m 38 #[.val (.int i0), .val (.int i1), .val (.ref (w 2)), .val (.ref (w 1)), .val (.ref (w 1)), .unset] [(.int (0 : Int32))])) st124 ?_
      refine Go.on (T' := T124) (g' := (mkF m 40 #[.val (.int i0), .val (.int i1), .val (.ref (w 2)), .val (.ref (w 1)), .val (.ref (w 1)), .val (.int (0 : Int32))] [])) (fun t k => XS.istore X124.here hx rfl (hb hby at_38) rfl (l' := #[.val (.int i0), .val (.int i1), .val (.ref (w 2)), .val (.ref (w 1)), .val (.ref (w 1)), .val (.int (0 : Int32))]) rfl k) ?_
      refine Go.on (T' := T124) (g' := (mkF m 42 #[.val (.int i0), .val (.int i1), .val (.ref (w 2)), .val (.ref (w 1)), .val (.ref (w 1)), .val (.int (0 : Int32))] [(.ref (w 1))])) (fun t k => XS.aload X124.here hx rfl (hb hby at_40) rfl rfl k) ?_
      refine Go.on (T' := T124) (g' := (mkF m 45 #[.val (.int i0), .val (.int i1), .val (.ref (w 2)), .val (.ref (w 1)), .val (.ref (w 1)), .val (.int (0 : Int32))] [])) (fun t k => XS.ifnullNo X124.here hx rfl (hb hby at_42) rfl k) ?_
      refine Go.on (T' := T124) (g' := (mkF m 47 #[.val (.int i0), .val (.int i1), .val (.ref (w 2)), .val (.ref (w 1)), .val (.ref (w 1)), .val (.int (0 : Int32))] [(.ref (w 1))])) (fun t k => XS.aload X124.here hx rfl (hb hby at_45) rfl rfl k) ?_
      obtain ⟨_, _, ⟨T125, L125, k125, n125⟩, -, X125, ⟨Lc125, hQ125, l125, y125, z125⟩, st125⟩ := Jvm.LawKit.callS X124 hx (y := (⟨"com/example/bagwise/bagwise/terms/TruthAndPinLaw", "rank", "(Lcom/example/bagwise/bagwise/terms/Truth;)I"⟩ : MethodName)) hown (mvT hZ (hw _ (List.mem_of_getElem? (i := 18) rfl))) (mvT hZ (hw _ (List.mem_of_getElem? (i := 19) rfl))) (mvT hZ (hw _ (List.mem_of_getElem? (i := 3) rfl))) (mvT hZ (hw _ (List.mem_of_getElem? (i := 20) rfl))) (by decide) (backOf (W := 0) (rm3_1 l Z a0 hw [] w h0 n0 (Nat.le_trans Z0 (own_ext0 h0).1) hP) hZ (hw _ (List.mem_of_getElem? (i := 20) rfl)) (hw _ (List.mem_of_getElem? (i := 3) rfl)) (by decide) (by decide)) (g := (mkF m 47 #[.val (.int i0), .val (.int i1), .val (.ref (w 2)), .val (.ref (w 1)), .val (.ref (w 1)), .val (.int (0 : Int32))] [(.ref (w 1))])) rfl (by rw [hml]; rfl) (argsL := [(.ref (w 1))]) (rest := []) (lenOf pd_2 rfl) rfl (by show 2 * 0 + _ ≤ _; exact Nat.le_of_eq rfl) (hb hby at_47) (fun _ _ => ⟨rfl, e124, (by decide : 0 + 0 ≤ _), (by decide : 0 + 0 ≤ _)⟩)
      dsimp only [Pt.U, Pt.locs, Pt.cells, Pt.slots] at X125 l125 y125 z125 st125 hQ125
      subst l125 y125 z125
      obtain ⟨rfl, N125q, e125⟩ := hQ125
      have N125 := Fr.app N124 N125q
      refine Go.on (T' := T125) (g' := (mkF m 50 #[.val (.int i0), .val (.int i1), .val (.ref (w 2)), .val (.ref (w 1)), .val (.ref (w 1)), .val (.int (0 : Int32))] [(.int (0 : Int32))])) st125 ?_
      refine Go.on (T' := T125) (g' := (mkF m 52 #[.val (.int i0), .val (.int i1), .val (.ref (w 2)), .val (.ref (w 1)), .val (.ref (w 1)), .val (.int (0 : Int32))] [(.int (0 : Int32)), (.int (0 : Int32))])) (fun t k => XS.iload X125.here hx rfl (hb hby at_50) rfl k) ?_
      refine Go.on (T' := T125) (g' := (mkF m 55 #[.val (.int i0), .val (.int i1), .val (.ref (w 2)), .val (.ref (w 1)), .val (.ref (w 1)), .val (.int (0 : Int32))] [])) (fun t k => XS.icmpNo X125.here hx rfl (hb hby at_52) rfl (teq (by decide : (0 : Int32) = (0 : Int32))).2 k) ?_
      refine Go.on (T' := T125) (g' := (mkF m 56 #[.val (.int i0), .val (.int i1), .val (.ref (w 2)), .val (.ref (w 1)), .val (.ref (w 1)), .val (.int (0 : Int32))] [(.int (1 : Int32))])) (fun t k => XS.iconst X125.here hx rfl (hb hby at_55) k) ?_
      refine Go.on (T' := T125) (g' := (mkF m 60 #[.val (.int i0), .val (.int i1), .val (.ref (w 2)), .val (.ref (w 1)), .val (.ref (w 1)), .val (.int (0 : Int32))] [(.int (1 : Int32))])) (fun t k => XS.goto X125.here hx rfl (pc0 := 56) (pc' := 60) rfl (hb hby at_56) (by decide) (by decide) k) ?_
      obtain ⟨fs, hr, hrun, hended, hW, hsame⟩ := X125.leave (v := some (.int (1 : Int32))) (fun h => by rw [Bd.returns] at h; cases h)
      exact ⟨_, _, retN X125 hx (t := .boolean) Bd.returns (by simp) (hb hby at_60) hr, hrun, hended, _, _, rfl, ⟨rfl, N125⟩, ⟨_, rfl⟩, hW, hsame.mono (by decide) (by decide)⟩
    · skip
      rw [h99]
      obtain ⟨_, _, ⟨T126, L126, k126, n126⟩, -, X126, ⟨Lc126, hQ126, l126, y126, z126⟩, st126⟩ := Jvm.LawKit.callS X98 hx (y := (⟨"com/example/bagwise/bagwise/terms/TruthAndPinLaw", "pick", "(I)Lcom/example/bagwise/bagwise/terms/Truth;"⟩ : MethodName)) hown (mvT hZ (hw _ (List.mem_of_getElem? (i := 1) rfl))) (mvT hZ (hw _ (List.mem_of_getElem? (i := 2) rfl))) (mvT hZ (hw _ (List.mem_of_getElem? (i := 3) rfl))) (mvT hZ (hw _ (List.mem_of_getElem? (i := 4) rfl))) (by decide) (backOf (W := 0) (rm1_2 l Z a0 hw [] w h0 n0 (Nat.le_trans Z0 (own_ext0 h0).1) hP) hZ (hw _ (List.mem_of_getElem? (i := 4) rfl)) (hw _ (List.mem_of_getElem? (i := 3) rfl)) (by decide) (by decide)) (g := (mkF m 16 #[.val (.int i0), .val (.int i1), .val (.ref (w 2)), .unset, .unset, .unset] [(.int (2 : Int32))])) rfl (by rw [hml]; rfl) (argsL := [(.int (2 : Int32))]) (rest := []) (lenOf pd_0 rfl) rfl (by show 2 * 0 + _ ≤ _; exact Nat.le_of_eq rfl) (hb hby at_16) (fun _ _ => ⟨rfl, e98, (by decide : 0 + 0 ≤ _), (by decide : 0 + 0 ≤ _)⟩)
      dsimp only [Pt.U, Pt.locs, Pt.cells, Pt.slots] at X126 l126 y126 z126 st126 hQ126
      subst l126 y126 z126
      obtain ⟨rfl, N126q, e126⟩ := hQ126
      have N126 := Fr.app N98 N126q
      refine Go.on (T' := T126) (g' := (mkF m 19 #[.val (.int i0), .val (.int i1), .val (.ref (w 2)), .unset, .unset, .unset] [(.ref (w 2))])) st126 ?_
      refine Go.on (T' := T126) (g' := (mkF m 20 #[.val (.int i0), .val (.int i1), .val (.ref (w 2)), .val (.ref (w 2)), .unset, .unset] [])) (fun t k => XS.astoreN X126.here hx rfl (hb hby at_19) rfl rfl (l' := #[.val (.int i0), .val (.int i1), .val (.ref (w 2)), .val (.ref (w 2)), .unset, .unset]) rfl k) ?_
      refine Go.on (T' := T126) (g' := (mkF m 21 #[.val (.int i0), .val (.int i1), .val (.ref (w 2)), .val (.ref (w 2)), .unset, .unset] [(.ref (w 2))])) (fun t k => XS.aloadN X126.here hx rfl (hb hby at_20) rfl rfl k) ?_
      refine Go.on (T' := T126) (g' := (mkF m 22 #[.val (.int i0), .val (.int i1), .val (.ref (w 2)), .val (.ref (w 2)), .unset, .unset] [(.ref (w 2)), (.ref (w 2))])) (fun t k => XS.aloadN X126.here hx rfl (hb hby at_21) rfl rfl k) ?_
      obtain ⟨cq135, kq135, q135a, q135b, q135c⟩ := isOf hZ e126 (pin_5 hP)
      obtain ⟨_, _, ⟨T135, L135, k135, n135⟩, -, X135, ⟨Lc135, hQ135, l135, y135, z135⟩, st135⟩ := X126.virtualBack hx (y := (⟨"com/example/bagwise/bagwise/terms/Truth", "and", "(Lcom/example/bagwise/bagwise/terms/Truth;)Lcom/example/bagwise/bagwise/terms/Truth;"⟩ : MethodName)) (z := (⟨"com/example/bagwise/bagwise/terms/Truth", "and", "(Lcom/example/bagwise/bagwise/terms/Truth;)Lcom/example/bagwise/bagwise/terms/Truth;"⟩ : MethodName)) hown (mvT hZ (hw _ (List.mem_of_getElem? (i := 8) rfl))) (mvT hZ (hw _ (List.mem_of_getElem? (i := 9) rfl))) (notFace_of_selects (args := #[]) (mvT hZ (hw _ (List.mem_of_getElem? (i := 11) rfl)))) (mvT hZ (hw _ (List.mem_of_getElem? (i := 11) rfl))) (mvT hZ (hw _ (List.mem_of_getElem? (i := 10) rfl))) (by decide) (backOf (W := 0) (rm2_8 l Z a0 hw [] w h0 n0 (Nat.le_trans Z0 (own_ext0 h0).1) hP) hZ (hw _ (List.mem_of_getElem? (i := 12) rfl)) (hw _ (List.mem_of_getElem? (i := 6) rfl)) (by decide) (by decide)) q135a q135c (g := (mkF m 22 #[.val (.int i0), .val (.int i1), .val (.ref (w 2)), .val (.ref (w 2)), .unset, .unset] [(.ref (w 2)), (.ref (w 2))])) rfl (by rw [hml]; rfl) (Steps.refl _) (argsL := [(.ref (w 2))]) (rest := []) (lenOf pd_1 rfl) rfl (by show 2 * 0 + _ ≤ _; exact Nat.le_of_eq rfl) (hb hby at_22) (fun _ _ => ⟨rfl, e126, (by decide : 0 + 0 ≤ _), (by decide : 0 + 0 ≤ _)⟩)
      dsimp only [Pt.U, Pt.locs, Pt.cells, Pt.slots] at X135 l135 y135 z135 st135 hQ135
      subst l135 y135 z135
      obtain ⟨rfl, N135q, e135⟩ := hQ135
      have N135 := Fr.app N126 N135q
      refine Go.on (T' := T135) (g' := (mkF m 25 #[.val (.int i0), .val (.int i1), .val (.ref (w 2)), .val (.ref (w 2)), .unset, .unset] [(.ref (w 2))])) (fun t k => st135.trans k) ?_
      refine Go.on (T' := T135) (g' := (mkF m 27 #[.val (.int i0), .val (.int i1), .val (.ref (w 2)), .val (.ref (w 2)), .val (.ref (w 2)), .unset] [])) (fun t k => XS.astore X135.here hx rfl (hb hby at_25) rfl rfl (l' := #[.val (.int i0), .val (.int i1), .val (.ref (w 2)), .val (.ref (w 2)), .val (.ref (w 2)), .unset]) rfl k) ?_
      refine Go.on (T' := T135) (g' := (mkF m 28 #[.val (.int i0), .val (.int i1), .val (.ref (w 2)), .val (.ref (w 2)), .val (.ref (w 2)), .unset] [(.ref (w 2))])) (fun t k => XS.aloadN X135.here hx rfl (hb hby at_27) rfl rfl k) ?_
      obtain ⟨_, _, ⟨T136, L136, k136, n136⟩, -, X136, ⟨Lc136, hQ136, l136, y136, z136⟩, st136⟩ := Jvm.LawKit.callS X135 hx (y := (⟨"com/example/bagwise/bagwise/terms/TruthAndPinLaw", "rank", "(Lcom/example/bagwise/bagwise/terms/Truth;)I"⟩ : MethodName)) hown (mvT hZ (hw _ (List.mem_of_getElem? (i := 18) rfl))) (mvT hZ (hw _ (List.mem_of_getElem? (i := 19) rfl))) (mvT hZ (hw _ (List.mem_of_getElem? (i := 3) rfl))) (mvT hZ (hw _ (List.mem_of_getElem? (i := 20) rfl))) (by decide) (backOf (W := 0) (rm3_2 l Z a0 hw [] w h0 n0 (Nat.le_trans Z0 (own_ext0 h0).1) hP) hZ (hw _ (List.mem_of_getElem? (i := 20) rfl)) (hw _ (List.mem_of_getElem? (i := 3) rfl)) (by decide) (by decide)) (g := (mkF m 28 #[.val (.int i0), .val (.int i1), .val (.ref (w 2)), .val (.ref (w 2)), .val (.ref (w 2)), .unset] [(.ref (w 2))])) rfl (by rw [hml]; rfl) (argsL := [(.ref (w 2))]) (rest := []) (lenOf pd_2 rfl) rfl (by show 2 * 0 + _ ≤ _; exact Nat.le_of_eq rfl) (hb hby at_28) (fun _ _ => ⟨rfl, e135, (by decide : 0 + 0 ≤ _), (by decide : 0 + 0 ≤ _)⟩)
      dsimp only [Pt.U, Pt.locs, Pt.cells, Pt.slots] at X136 l136 y136 z136 st136 hQ136
      subst l136 y136 z136
      obtain ⟨rfl, N136q, e136⟩ := hQ136
      have N136 := Fr.app N135 N136q
      refine Go.on (T' := T136) (g' := (mkF m 31 #[.val (.int i0), .val (.int i1), .val (.ref (w 2)), .val (.ref (w 2)), .val (.ref (w 2)), .unset] [(.int (1 : Int32))])) st136 ?_
      refine Go.on (T' := T136) (g' := (mkF m 32 #[.val (.int i0), .val (.int i1), .val (.ref (w 2)), .val (.ref (w 2)), .val (.ref (w 2)), .unset] [(.ref (w 2)), (.int (1 : Int32))])) (fun t k => XS.aloadN X136.here hx rfl (hb hby at_31) rfl rfl k) ?_
      obtain ⟨_, _, ⟨T137, L137, k137, n137⟩, -, X137, ⟨Lc137, hQ137, l137, y137, z137⟩, st137⟩ := Jvm.LawKit.callS X136 hx (y := (⟨"com/example/bagwise/bagwise/terms/TruthAndPinLaw", "rank", "(Lcom/example/bagwise/bagwise/terms/Truth;)I"⟩ : MethodName)) hown (mvT hZ (hw _ (List.mem_of_getElem? (i := 18) rfl))) (mvT hZ (hw _ (List.mem_of_getElem? (i := 19) rfl))) (mvT hZ (hw _ (List.mem_of_getElem? (i := 3) rfl))) (mvT hZ (hw _ (List.mem_of_getElem? (i := 20) rfl))) (by decide) (backOf (W := 1) (rm3_2 l Z a0 hw [] w h0 n0 (Nat.le_trans Z0 (own_ext0 h0).1) hP) hZ (hw _ (List.mem_of_getElem? (i := 20) rfl)) (hw _ (List.mem_of_getElem? (i := 3) rfl)) (by decide) (by decide)) (g := (mkF m 32 #[.val (.int i0), .val (.int i1), .val (.ref (w 2)), .val (.ref (w 2)), .val (.ref (w 2)), .unset] [(.ref (w 2)), (.int (1 : Int32))])) rfl (by rw [hml]; rfl) (argsL := [(.ref (w 2))]) (rest := [(.int (1 : Int32))]) (lenOf pd_2 rfl) rfl (by show 2 * 0 + _ ≤ _; exact Nat.le_of_eq rfl) (hb hby at_32) (fun _ _ => ⟨rfl, e136, (by decide : 0 + 0 ≤ _), (by decide : 0 + 0 ≤ _)⟩)
      dsimp only [Pt.U, Pt.locs, Pt.cells, Pt.slots] at X137 l137 y137 z137 st137 hQ137
      subst l137 y137 z137
      obtain ⟨rfl, N137q, e137⟩ := hQ137
      have N137 := Fr.app N136 N137q
      refine Go.on (T' := T137) (g' := (mkF m 35 #[.val (.int i0), .val (.int i1), .val (.ref (w 2)), .val (.ref (w 2)), .val (.ref (w 2)), .unset] [(.int (1 : Int32)), (.int (1 : Int32))])) st137 ?_
      obtain ⟨_, _, ⟨T138, L138, k138, n138⟩, -, X138, ⟨Lc138, hQ138, l138, y138, z138⟩, st138⟩ := Jvm.LawKit.callS X137 hx (y := (⟨"java/lang/Math", "min", "(II)I"⟩ : MethodName)) hown (mvT hZ (hw _ (List.mem_of_getElem? (i := 23) rfl))) (mvT hZ (hw _ (List.mem_of_getElem? (i := 24) rfl))) (mvT hZ (hw _ (List.mem_of_getElem? (i := 25) rfl))) (mvT hZ (hw _ (List.mem_of_getElem? (i := 26) rfl))) (by decide) (backOf (W := 0) (rm4_8 l Z a0 hw [] w h0 n0 (Nat.le_trans Z0 (own_ext0 h0).1) hP) hZ (hw _ (List.mem_of_getElem? (i := 26) rfl)) (hw _ (List.mem_of_getElem? (i := 25) rfl)) (by decide) (by decide)) (g := (mkF m 35 #[.val (.int i0), .val (.int i1), .val (.ref (w 2)), .val (.ref (w 2)), .val (.ref (w 2)), .unset] [(.int (1 : Int32)), (.int (1 : Int32))])) rfl (by rw [hml]; rfl) (argsL := [(.int (1 : Int32)), (.int (1 : Int32))]) (rest := []) (lenOf pd_3 rfl) rfl (by show 2 * 0 + _ ≤ _; exact Nat.le_of_eq rfl) (hb hby at_35) (fun _ _ => ⟨rfl, e137, (by decide : 0 + 0 ≤ _), (by decide : 0 + 0 ≤ _)⟩)
      dsimp only [Pt.U, Pt.locs, Pt.cells, Pt.slots] at X138 l138 y138 z138 st138 hQ138
      subst l138 y138 z138
      obtain ⟨rfl, N138q, e138⟩ := hQ138
      have N138 := Fr.app N137 N138q
      refine Go.on (T' := T138) (g' := (mkF m 38 #[.val (.int i0), .val (.int i1), .val (.ref (w 2)), .val (.ref (w 2)), .val (.ref (w 2)), .unset] [(.int (1 : Int32))])) st138 ?_
      refine Go.on (T' := T138) (g' := (mkF m 40 #[.val (.int i0), .val (.int i1), .val (.ref (w 2)), .val (.ref (w 2)), .val (.ref (w 2)), .val (.int (1 : Int32))] [])) (fun t k => XS.istore X138.here hx rfl (hb hby at_38) rfl (l' := #[.val (.int i0), .val (.int i1), .val (.ref (w 2)), .val (.ref (w 2)), .val (.ref (w 2)), .val (.int (1 : Int32))]) rfl k) ?_
      refine Go.on (T' := T138) (g' := (mkF m 42 #[.val (.int i0), .val (.int i1), .val (.ref (w 2)), .val (.ref (w 2)), .val (.ref (w 2)), .val (.int (1 : Int32))] [(.ref (w 2))])) (fun t k => XS.aload X138.here hx rfl (hb hby at_40) rfl rfl k) ?_
      refine Go.on (T' := T138) (g' := (mkF m 45 #[.val (.int i0), .val (.int i1), .val (.ref (w 2)), .val (.ref (w 2)), .val (.ref (w 2)), .val (.int (1 : Int32))] [])) (fun t k => XS.ifnullNo X138.here hx rfl (hb hby at_42) rfl k) ?_
      refine Go.on (T' := T138) (g' := (mkF m 47 #[.val (.int i0), .val (.int i1), .val (.ref (w 2)), .val (.ref (w 2)), .val (.ref (w 2)), .val (.int (1 : Int32))] [(.ref (w 2))])) (fun t k => XS.aload X138.here hx rfl (hb hby at_45) rfl rfl k) ?_
      obtain ⟨_, _, ⟨T139, L139, k139, n139⟩, -, X139, ⟨Lc139, hQ139, l139, y139, z139⟩, st139⟩ := Jvm.LawKit.callS X138 hx (y := (⟨"com/example/bagwise/bagwise/terms/TruthAndPinLaw", "rank", "(Lcom/example/bagwise/bagwise/terms/Truth;)I"⟩ : MethodName)) hown (mvT hZ (hw _ (List.mem_of_getElem? (i := 18) rfl))) (mvT hZ (hw _ (List.mem_of_getElem? (i := 19) rfl))) (mvT hZ (hw _ (List.mem_of_getElem? (i := 3) rfl))) (mvT hZ (hw _ (List.mem_of_getElem? (i := 20) rfl))) (by decide) (backOf (W := 0) (rm3_2 l Z a0 hw [] w h0 n0 (Nat.le_trans Z0 (own_ext0 h0).1) hP) hZ (hw _ (List.mem_of_getElem? (i := 20) rfl)) (hw _ (List.mem_of_getElem? (i := 3) rfl)) (by decide) (by decide)) (g := (mkF m 47 #[.val (.int i0), .val (.int i1), .val (.ref (w 2)), .val (.ref (w 2)), .val (.ref (w 2)), .val (.int (1 : Int32))] [(.ref (w 2))])) rfl (by rw [hml]; rfl) (argsL := [(.ref (w 2))]) (rest := []) (lenOf pd_2 rfl) rfl (by show 2 * 0 + _ ≤ _; exact Nat.le_of_eq rfl) (hb hby at_47) (fun _ _ => ⟨rfl, e138, (by decide : 0 + 0 ≤ _), (by decide : 0 + 0 ≤ _)⟩)
      dsimp only [Pt.U, Pt.locs, Pt.cells, Pt.slots] at X139 l139 y139 z139 st139 hQ139
      subst l139 y139 z139
      obtain ⟨rfl, N139q, e139⟩ := hQ139
      have N139 := Fr.app N138 N139q
      refine Go.on (T' := T139) (g' := (mkF m 50 #[.val (.int i0), .val (.int i1), .val (.ref (w 2)), .val (.ref (w 2)), .val (.ref (w 2)), .val (.int (1 : Int32))] [(.int (1 : Int32))])) st139 ?_
      refine Go.on (T' := T139) (g' := (mkF m 52 #[.val (.int i0), .val (.int i1), .val (.ref (w 2)), .val (.ref (w 2)), .val (.ref (w 2)), .val (.int (1 : Int32))] [(.int (1 : Int32)), (.int (1 : Int32))])) (fun t k => XS.iload X139.here hx rfl (hb hby at_50) rfl k) ?_
      refine Go.on (T' := T139) (g' := (mkF m 55 #[.val (.int i0), .val (.int i1), .val (.ref (w 2)), .val (.ref (w 2)), .val (.ref (w 2)), .val (.int (1 : Int32))] [])) (fun t k => XS.icmpNo X139.here hx rfl (hb hby at_52) rfl (teq (by decide : (1 : Int32) = (1 : Int32))).2 k) ?_
      refine Go.on (T' := T139) (g' := (mkF m 56 #[.val (.int i0), .val (.int i1), .val (.ref (w 2)), .val (.ref (w 2)), .val (.ref (w 2)), .val (.int (1 : Int32))] [(.int (1 : Int32))])) (fun t k => XS.iconst X139.here hx rfl (hb hby at_55) k) ?_
      refine Go.on (T' := T139) (g' := (mkF m 60 #[.val (.int i0), .val (.int i1), .val (.ref (w 2)), .val (.ref (w 2)), .val (.ref (w 2)), .val (.int (1 : Int32))] [(.int (1 : Int32))])) (fun t k => XS.goto X139.here hx rfl (pc0 := 56) (pc' := 60) rfl (hb hby at_56) (by decide) (by decide) k) ?_
      obtain ⟨fs, hr, hrun, hended, hW, hsame⟩ := X139.leave (v := some (.int (1 : Int32))) (fun h => by rw [Bd.returns] at h; cases h)
      exact ⟨_, _, retN X139 hx (t := .boolean) Bd.returns (by simp) (hb hby at_60) hr, hrun, hended, _, _, rfl, ⟨rfl, N139⟩, ⟨_, rfl⟩, hW, hsame.mono (by decide) (by decide)⟩
set_option maxRecDepth 65536 in
set_option maxHeartbeats 40000000 in
theorem comes_1 {Post : Tables → Env → Array Value → State → Outcome → State → Prop} (hpost : ∀ tb e args s v u, (limb_1_1.after args s (.returned v) u = true ∧ limb_1_2.after args s (.returned v) u = true ∧ True) → FrameEnd s (.returned v) u (Jvm.fieldLocs frame_1_writes args s ++ Jvm.arrayLocs frame_1_arrays args s ++ Jvm.staticLocs frame_1_statics s) 0 0 → Post tb e args s (.returned v) u) :
    ArmFor flags0 classFile x code maxLocals ret World_1 tables_1 room_1 Calls_1 rest_1 Pre_1 Post := by
  intro l hfl _ _ p e ha hc hk s m args below hf hA hF happ hP
  obtain ⟨hcalls, hrest, hpre⟩ := hP
  obtain ⟨-, -, -, hnamed, -, -, -, hat⟩ := (Spec.applies_iff hf).mp happ
  obtain ⟨hg, hn⟩ := and_e (Cond.before_iff.mp (show (Jvm.Cond.and given_1 narrow_1).before args s = true from hpre))
  obtain ⟨u1, v1⟩ := and_e hg
  obtain ⟨u2, v2⟩ := and_e v1
  obtain ⟨w0, w1, rfl⟩ : ∃ w0 w1 : Value, args = #[w0, w1] := by
    have hs : args.size = 2 := by simpa [Cond.value, given_1] using u1
    obtain ⟨L⟩ := args
    match L, hs with
    | [w0, w1], _ => exact ⟨w0, w1, rfl⟩
  have hw := fun d (hd : d ∈ tables_1) => atoms_spec (ws := Jvm.Cond.code x code maxLocals ret :: tables_1) hat d (List.mem_cons_of_mem _ hd)
  have hfit : Fit s := fun {y c} hc i hi => by
    obtain ⟨ha, rfl⟩ := Array.getElem?_eq_some_iff.mp hc
    have q := List.all_eq_true.mp ((Array.all_eq_true_iff_forall_mem.mp hF) _ (Array.getElem_mem ha)) i (List.mem_range.mpr hi)
    simpa [Array.getElem?_eq_getElem hi] using q
  obtain ⟨i0, ei0⟩ := is_v u2
  obtain rfl : w0 = (.int i0) := Option.some.inj ei0
  obtain ⟨i1, ei1⟩ := is_v v2
  obtain rfl : w1 = (.int i1) := Option.some.inj ei1
  obtain ⟨u3, v3⟩ := and_e hn
  obtain ⟨u4, v4⟩ := and_e v3
  obtain ⟨u5, v5⟩ := and_e v4
  obtain ⟨u6, v6⟩ := and_e v5
  obtain ⟨u7, v7⟩ := and_e v6
  obtain ⟨x0, ev0⟩ := exa_v u3
  obtain ⟨x1, ev1⟩ := exa_v u4
  obtain ⟨x2, ev2⟩ := exa_v u7
  obtain ⟨w, hw_⟩ : ∃ w : Nat → Addr, w 0 = x0 ∧ w 1 = x1 ∧ w 2 = x2 ∧ True := ⟨fun k => [x0, x1, x2].getD k 0, rfl, rfl, rfl, trivial⟩
  obtain ⟨rfl, rfl, rfl, -⟩ := hw_
  have hPin : Pins s s.heap w := ⟨Sta.start ev0 (Or.inr ⟨(hw _ (List.mem_of_getElem? (i := 6) rfl)), (hw _ (List.mem_of_getElem? (i := 7) rfl))⟩),
    Sta.start ev1 (Or.inr ⟨(hw _ (List.mem_of_getElem? (i := 6) rfl)), (hw _ (List.mem_of_getElem? (i := 14) rfl))⟩),
    Sta.start ev2 (Or.inr ⟨(hw _ (List.mem_of_getElem? (i := 6) rfl)), (hw _ (List.mem_of_getElem? (i := 16) rfl))⟩),
    Exa.start ev0 u3,
    Exa.start ev1 u4,
    Exa.start ev2 u7,
    Fld.start ((fld_at ev0).symm.trans (own_eqI u5)),
    Fld.start ((fld_at ev1).symm.trans (own_eqI u6)),
    Fld.start ((fld_at ev2).symm.trans (own_eqI v7)),
    trivial⟩
  obtain ⟨n, o, h1, h2, h3, _, L, rfl, ⟨rfl, N⟩, hq⟩ := rm0 l s _ hw tables_1 w s.heap s.heap.size (Nat.le_refl _) hPin i0 i1 p e ha hc hk s m _ below hf ((Spec.applies_iff_loose hf).mp happ).1 ⟨rfl, State.Warmed39.refl s, rfl⟩ trivial
  refine ⟨n, _, h1, h2, h3, hpost _ _ _ _ _ _ ⟨Cond.after_iff.mpr rfl, Cond.after_iff.mpr (eq_i res_at (Term.int_eval (1)) rfl), trivial⟩ ⟨hq.1, hq.2.1, (hq.2.2.sift fun y hy => Or.inr (N y hy)).mono (by decide) (by decide)⟩⟩
theorem main_1_1 : Claimed_1_1 := comes_1 fun _ _ _ _ _ _ h hF => ⟨h.1, hF⟩
theorem main_1_2 : Claimed_1_2 := comes_1 fun _ _ _ _ _ _ h hF => ⟨h.2.1, hF⟩
end Jvm.Pilot.@@N@@
namespace Jvm.Pilot.@@N@@
open Jvm Jvm.ClassFile Sem Op Lib Jvm.Free Jvm.Stand Jvm.Pilot.@@N@@.Jvm.D
/-! MADE BY PROGRAM (witnessworld.py) out of the Statement's table words and the real class files: 13 classes; the members and pool entries that the words name. The judged class is class 1, her method 3. -/
namespace start1
open Jvm.ClassFile
def u (s : String) : CpInfo := .utf8 (stringToUtf16 s)
/-- a pool by its gaps: so many unusable entries, then the entry; so many at the end -/
def gap : Nat → List CpInfo → List CpInfo
  | 0, r => r
  | n + 1, r => .unusable :: gap n r
def poolList (es : List (Nat × CpInfo)) (last : Nat) : List CpInfo := es.foldr (fun e r => gap e.1 (e.2 :: r)) (gap last [])
def pool (es : List (Nat × CpInfo)) (last : Nat) : Array CpInfo := ⟨poolList es last⟩
def fileOf (pool : Array CpInfo) (this : Nat) (attrs : Array Attribute := #[]) (ms : Array MethodInfo := #[]) (fl : Nat := 33) (sup : Nat := 0) (ifs : Array Nat := #[]) (fds : Array FieldInfo := #[]) : ClassFile where
  minorVersion := 0
  majorVersion := 65
  constantPool := pool
  accessFlags := fl
  thisClass := this
  superClass := sup
  interfaces := ifs
  fields := fds
  methods := ms
  attributes := attrs
def plain (name : String) (sup : Option ClassId) : Class where
  name := name
  kind := .ordinary
  loader := none
  accessFlags := 33
  super := sup
  interfaces := #[]
  cf := none
  fields := #[]
  methods := #[]
  instanceTypes := #[]
  staticTypes := #[]
  resolved := #[]
  callSites := []
  init := .initialized
  statics := none
  mirror := none

def pool0 : Array CpInfo := pool [(5, u "<init>"), (0, u "()V"), (1, .class_ 10), (1, u "java/lang/Object")] 113

def k0m0 : Method := { name := "<init>", desc := "()V", sig := { parameters := [], returnType := none }, accessFlags := 1, code := none }
/-- java/lang/Object -/
def k0 : Class := { plain "java/lang/Object" none with
  accessFlags := 33
  interfaces := #[]
  cf := some (fileOf pool0 8 #[] #[{ accessFlags := 1, nameIndex := 5, descriptorIndex := 6, attributes := #[] }] 33 0 #[] #[])
  fields := #[]
  methods := #[k0m0]
  instanceTypes := #[]
  staticTypes := #[]
  resolved := Array.replicate 124 none
  statics := none }

def pool1 : Array CpInfo := pool [(2, .class_ 4), (1, u "java/lang/Object"), (0, u "<init>"), (0, u "()V"), (0, .fieldref 8 9), (0, .class_ 10), (0, .nameAndType 11 12), (0, u "com/example/bagwise/bagwise/terms/Truth"), (0, u "TRUE"), (0, u "Lcom/example/bagwise/bagwise/terms/Truth;"), (0, .fieldref 8 14), (0, .nameAndType 15 12), (0, u "FALSE"), (0, .fieldref 8 17), (0, .nameAndType 18 12), (0, u "ERROR"), (0, .integer 2147483647), (0, .methodref 21 22), (0, .class_ 23), (0, .nameAndType 24 25), (0, u "com/example/bagwise/bagwise/terms/TruthAndPinLaw"), (0, u "pick"), (0, u "(I)Lcom/example/bagwise/bagwise/terms/Truth;"), (0, .methodref 8 27), (0, .nameAndType 28 29), (0, u "and"), (0, u "(Lcom/example/bagwise/bagwise/terms/Truth;)Lcom/example/bagwise/bagwise/terms/Truth;"), (0, .methodref 21 31), (0, .nameAndType 32 33), (0, u "rank"), (0, u "(Lcom/example/bagwise/bagwise/terms/Truth;)I"), (0, .methodref 35 36), (0, .class_ 37), (0, .nameAndType 38 39), (0, u "java/lang/Math"), (0, u "min"), (0, u "(II)I"), (3, u "law"), (0, u "(II)Z")] 2

def k1m0 : Method := { name := "<init>", desc := "()V", sig := { parameters := [], returnType := none }, accessFlags := 2, code := none }
def k1c1 : Code := { maxStack := 2, maxLocals := 1, code := method_2_code, exceptionTable := #[], attributes := #[] }
def k1m1 : Method := { name := "pick", desc := "(I)Lcom/example/bagwise/bagwise/terms/Truth;", sig := { parameters := [.int], returnType := some (.object "com/example/bagwise/bagwise/terms/Truth") }, accessFlags := 10, code := some k1c1 }
def k1c2 : Code := { maxStack := 2, maxLocals := 1, code := method_3_code, exceptionTable := #[], attributes := #[] }
def k1m2 : Method := { name := "rank", desc := "(Lcom/example/bagwise/bagwise/terms/Truth;)I", sig := { parameters := [(.object "com/example/bagwise/bagwise/terms/Truth")], returnType := some .int }, accessFlags := 10, code := some k1c2 }
def k1c3 : Code := { maxStack := 2, maxLocals := 6, code := code, exceptionTable := #[], attributes := #[] }
def k1m3 : Method := { name := "law", desc := "(II)Z", sig := { parameters := [.int, .int], returnType := some .boolean }, accessFlags := 9, code := some k1c3 }
/-- com/example/bagwise/bagwise/terms/TruthAndPinLaw -/
def k1 : Class := { plain "com/example/bagwise/bagwise/terms/TruthAndPinLaw" (some 0) with
  accessFlags := 49
  interfaces := #[]
  cf := some (fileOf pool1 21 #[] #[{ accessFlags := 2, nameIndex := 5, descriptorIndex := 6, attributes := #[] }, { accessFlags := 10, nameIndex := 24, descriptorIndex := 25, attributes := #[] }, { accessFlags := 10, nameIndex := 32, descriptorIndex := 33, attributes := #[] }, { accessFlags := 9, nameIndex := 43, descriptorIndex := 44, attributes := #[] }] 49 2 #[] #[])
  fields := #[]
  methods := #[k1m0, k1m1, k1m2, k1m3]
  instanceTypes := #[]
  staticTypes := #[]
  resolved := Array.replicate 47 none
  statics := none }

def pool2 : Array CpInfo := pool [(1, .class_ 2), (0, u "java/lang/constant/Constable"), (0, .class_ 4), (0, u "java/lang/Object")] 6

/-- java/lang/constant/Constable -/
def k2 : Class := { plain "java/lang/constant/Constable" (some 0) with
  accessFlags := 1537
  interfaces := #[]
  cf := some (fileOf pool2 1 #[] #[] 1537 3 #[] #[])
  fields := #[]
  methods := #[]
  instanceTypes := #[]
  staticTypes := #[]
  resolved := Array.replicate 11 none
  statics := none }

def pool3 : Array CpInfo := pool [(1, .class_ 2), (0, u "java/lang/Comparable"), (0, .class_ 4), (0, u "java/lang/Object")] 7

/-- java/lang/Comparable -/
def k3 : Class := { plain "java/lang/Comparable" (some 0) with
  accessFlags := 1537
  interfaces := #[]
  cf := some (fileOf pool3 1 #[] #[] 1537 3 #[] #[])
  fields := #[]
  methods := #[]
  instanceTypes := #[]
  staticTypes := #[]
  resolved := Array.replicate 12 none
  statics := none }

def pool4 : Array CpInfo := pool [(1, .class_ 2), (0, u "java/io/Serializable"), (0, .class_ 4), (0, u "java/lang/Object")] 2

/-- java/io/Serializable -/
def k4 : Class := { plain "java/io/Serializable" (some 0) with
  accessFlags := 1537
  interfaces := #[]
  cf := some (fileOf pool4 1 #[] #[] 1537 3 #[] #[])
  fields := #[]
  methods := #[]
  instanceTypes := #[]
  staticTypes := #[]
  resolved := Array.replicate 7 none
  statics := none }

def pool5 : Array CpInfo := pool [(2, .class_ 4), (1, u "java/lang/Enum"), (0, u "name"), (0, u "Ljava/lang/String;"), (2, u "ordinal"), (0, u "I"), (1, .class_ 14), (1, u "java/lang/Object"), (4, u "hash"), (86, .class_ 108), (1, u "java/lang/Enum$EnumDesc"), (2, .class_ 112), (0, u "java/lang/constant/Constable"), (0, .class_ 114), (0, u "java/lang/Comparable"), (0, .class_ 116), (0, u "java/io/Serializable")] 87

/-- java/lang/Enum -/
def k5 : Class := { plain "java/lang/Enum" (some 0) with
  accessFlags := 1057
  interfaces := #[2, 3, 4]
  cf := some (fileOf pool5 2 #[.nestMembers #[106]] #[] 1057 12 #[111, 113, 115] #[{ accessFlags := 18, nameIndex := 5, descriptorIndex := 6, attributes := #[] }, { accessFlags := 18, nameIndex := 9, descriptorIndex := 10, attributes := #[] }, { accessFlags := 2, nameIndex := 19, descriptorIndex := 10, attributes := #[] }])
  fields := #[{ name := "name", type := (.object "java/lang/String"), accessFlags := 18, slot := 0, constantValue := 0 }, { name := "ordinal", type := .int, accessFlags := 18, slot := 1, constantValue := 0 }, { name := "hash", type := .int, accessFlags := 2, slot := 2, constantValue := 0 }]
  methods := #[]
  instanceTypes := #[(.object "java/lang/String"), .int, .int]
  staticTypes := #[]
  resolved := Array.replicate 204 none
  statics := none }

def pool6 : Array CpInfo := pool [(1, .class_ 2), (0, u "com/example/bagwise/bagwise/terms/Truth"), (0, .fieldref 1 4), (0, .nameAndType 5 6), (0, u "TRUE"), (0, u "Lcom/example/bagwise/bagwise/terms/Truth;"), (0, .fieldref 1 8), (0, .nameAndType 9 6), (0, u "FALSE"), (0, .fieldref 1 11), (0, .nameAndType 12 6), (0, u "ERROR"), (2, u "$VALUES"), (0, u "[Lcom/example/bagwise/bagwise/terms/Truth;"), (6, .class_ 25), (1, u "java/lang/Enum"), (33, u "TRUE_LITERAL"), (0, u "Lcom/example/bagwise/bagwise/terms/Literal;"), (2, u "FALSE_LITERAL"), (85, u "and"), (0, u "(Lcom/example/bagwise/bagwise/terms/Truth;)Lcom/example/bagwise/bagwise/terms/Truth;")] 10

def k6c0 : Code := { maxStack := 2, maxLocals := 2, code := prog_175_method_7_code, exceptionTable := #[], attributes := #[] }
def k6m0 : Method := { name := "and", desc := "(Lcom/example/bagwise/bagwise/terms/Truth;)Lcom/example/bagwise/bagwise/terms/Truth;", sig := { parameters := [(.object "com/example/bagwise/bagwise/terms/Truth")], returnType := some (.object "com/example/bagwise/bagwise/terms/Truth") }, accessFlags := 1, code := some k6c0 }
/-- com/example/bagwise/bagwise/terms/Truth -/
def k6 : Class := { plain "com/example/bagwise/bagwise/terms/Truth" (some 5) with
  accessFlags := 16433
  interfaces := #[]
  cf := some (fileOf pool6 1 #[] #[{ accessFlags := 1, nameIndex := 149, descriptorIndex := 150, attributes := #[] }] 16433 23 #[] #[{ accessFlags := 16409, nameIndex := 5, descriptorIndex := 6, attributes := #[] }, { accessFlags := 16409, nameIndex := 9, descriptorIndex := 6, attributes := #[] }, { accessFlags := 16409, nameIndex := 12, descriptorIndex := 6, attributes := #[] }, { accessFlags := 26, nameIndex := 59, descriptorIndex := 60, attributes := #[] }, { accessFlags := 26, nameIndex := 63, descriptorIndex := 60, attributes := #[] }, { accessFlags := 4122, nameIndex := 15, descriptorIndex := 16, attributes := #[] }])
  fields := #[{ name := "TRUE", type := (.object "com/example/bagwise/bagwise/terms/Truth"), accessFlags := 16409, slot := 0, constantValue := 0 }, { name := "FALSE", type := (.object "com/example/bagwise/bagwise/terms/Truth"), accessFlags := 16409, slot := 1, constantValue := 0 }, { name := "ERROR", type := (.object "com/example/bagwise/bagwise/terms/Truth"), accessFlags := 16409, slot := 2, constantValue := 0 }, { name := "TRUE_LITERAL", type := (.object "com/example/bagwise/bagwise/terms/Literal"), accessFlags := 26, slot := 3, constantValue := 0 }, { name := "FALSE_LITERAL", type := (.object "com/example/bagwise/bagwise/terms/Literal"), accessFlags := 26, slot := 4, constantValue := 0 }, { name := "$VALUES", type := (.array (.object "com/example/bagwise/bagwise/terms/Truth")), accessFlags := 4122, slot := 5, constantValue := 0 }]
  methods := #[k6m0]
  instanceTypes := #[(.object "java/lang/String"), .int, .int]
  staticTypes := #[(.object "com/example/bagwise/bagwise/terms/Truth"), (.object "com/example/bagwise/bagwise/terms/Truth"), (.object "com/example/bagwise/bagwise/terms/Truth"), (.object "com/example/bagwise/bagwise/terms/Literal"), (.object "com/example/bagwise/bagwise/terms/Literal"), (.array (.object "com/example/bagwise/bagwise/terms/Truth"))]
  resolved := Array.replicate 161 none
  statics := some 0 }

def pool7 : Array CpInfo := pool [(1, .class_ 2), (0, u "java/lang/Math"), (1, .class_ 6), (1, u "java/lang/Object"), (0, u "<init>"), (0, u "()V"), (89, .class_ 100), (1, u "java/lang/Math$RandomNumberGeneratorHolder"), (71, u "negativeZeroFloatBits"), (0, u "J"), (2, u "negativeZeroDoubleBits"), (24, u "min"), (43, u "$assertionsDisabled"), (0, u "Z"), (88, u "(II)I"), (2, u "twoToTheDoubleScaleDown"), (0, u "D"), (4, u "twoToTheDoubleScaleUp"), (9, u "E"), (3, u "PI"), (2, u "TAU"), (2, u "DEGREES_TO_RADIANS"), (0, u "RADIANS_TO_DEGREES")] 94

def k7m0 : Method := { name := "<init>", desc := "()V", sig := { parameters := [], returnType := none }, accessFlags := 2, code := none }
def k7c1 : Code := { maxStack := 2, maxLocals := 2, code := jdk_29_method_69_code, exceptionTable := #[], attributes := #[] }
def k7m1 : Method := { name := "min", desc := "(II)I", sig := { parameters := [.int, .int], returnType := some .int }, accessFlags := 9, code := some k7c1 }
/-- java/lang/Math -/
def k7 : Class := { plain "java/lang/Math" (some 0) with
  accessFlags := 49
  interfaces := #[]
  cf := some (fileOf pool7 1 #[.nestMembers #[98]] #[{ accessFlags := 2, nameIndex := 7, descriptorIndex := 8, attributes := #[] }, { accessFlags := 9, nameIndex := 201, descriptorIndex := 335, attributes := #[] }] 49 4 #[] #[{ accessFlags := 25, nameIndex := 354, descriptorIndex := 339, attributes := #[] }, { accessFlags := 25, nameIndex := 358, descriptorIndex := 339, attributes := #[] }, { accessFlags := 25, nameIndex := 361, descriptorIndex := 339, attributes := #[] }, { accessFlags := 26, nameIndex := 364, descriptorIndex := 339, attributes := #[] }, { accessFlags := 26, nameIndex := 365, descriptorIndex := 339, attributes := #[] }, { accessFlags := 26, nameIndex := 172, descriptorIndex := 173, attributes := #[] }, { accessFlags := 26, nameIndex := 176, descriptorIndex := 173, attributes := #[] }, { accessFlags := 8, nameIndex := 344, descriptorIndex := 339, attributes := #[] }, { accessFlags := 8, nameIndex := 338, descriptorIndex := 339, attributes := #[] }, { accessFlags := 4120, nameIndex := 245, descriptorIndex := 246, attributes := #[] }])
  fields := #[{ name := "E", type := .double, accessFlags := 25, slot := 0, constantValue := 0 }, { name := "PI", type := .double, accessFlags := 25, slot := 1, constantValue := 0 }, { name := "TAU", type := .double, accessFlags := 25, slot := 2, constantValue := 0 }, { name := "DEGREES_TO_RADIANS", type := .double, accessFlags := 26, slot := 3, constantValue := 0 }, { name := "RADIANS_TO_DEGREES", type := .double, accessFlags := 26, slot := 4, constantValue := 0 }, { name := "negativeZeroFloatBits", type := .long, accessFlags := 26, slot := 5, constantValue := 0 }, { name := "negativeZeroDoubleBits", type := .long, accessFlags := 26, slot := 6, constantValue := 0 }, { name := "twoToTheDoubleScaleUp", type := .double, accessFlags := 8, slot := 7, constantValue := 0 }, { name := "twoToTheDoubleScaleDown", type := .double, accessFlags := 8, slot := 8, constantValue := 0 }, { name := "$assertionsDisabled", type := .boolean, accessFlags := 4120, slot := 9, constantValue := 0 }]
  methods := #[k7m0, k7m1]
  instanceTypes := #[]
  staticTypes := #[.double, .double, .double, .double, .double, .long, .long, .double, .double, .boolean]
  resolved := Array.replicate 460 none
  statics := none }

def pool8 : Array CpInfo := pool [(1, u "java/lang/Cloneable"), (0, .class_ 1), (0, u "java/lang/Object"), (0, .class_ 3)] 3

/-- java/lang/Cloneable -/
def k8 : Class := { plain "java/lang/Cloneable" (some 0) with
  accessFlags := 1537
  interfaces := #[]
  cf := some (fileOf pool8 2 #[] #[] 1537 4 #[] #[])
  fields := #[]
  methods := #[]
  instanceTypes := #[]
  staticTypes := #[]
  resolved := Array.replicate 8 none
  statics := none }

/-- the primitive byte -/
def k9 : Class := { plain "byte" none with kind := .primitive 'B', accessFlags := 0x411 }
/-- [B -/
def k10 : Class := { plain "[B" (some 0) with kind := .array 9 .byte, interfaces := #[8, 4], accessFlags := 1041 }

/-- the primitive int -/
def k11 : Class := { plain "int" none with kind := .primitive 'I', accessFlags := 0x411 }
/-- [I -/
def k12 : Class := { plain "[I" (some 0) with kind := .array 11 .int, interfaces := #[8, 4], accessFlags := 1041 }

def heap : Heap := #[{ cls := 6, slots := #[.ref 1, .ref 2, .ref 3, .null, .null, .null], vm := .statics 6 },
  { cls := 6, slots := #[.null, .int 0, .int 0], vm := .none },
  { cls := 6, slots := #[.null, .int 1, .int 0], vm := .none },
  { cls := 6, slots := #[.null, .int 2, .int 0], vm := .none }]
def classes : Array Class := #[k0, k1, k2, k3, k4, k5, k6, k7, k8, k9, k10, k11, k12]
def interned : List (Array UInt16 × Addr) := []
def slotsUsed : Nat := 15
def theMethod : MethodId := ⟨1, 3⟩
def args0 : Array Value := #[.int 5, .int 8]
def aboutOver (below : List Frame) : State where
  vm := { classes := classes, interned := interned.toArray }
  heap := heap
  slotsUsed := slotsUsed
  threads := #[{ frames := .invoking theMethod args0 :: below }]
def below0 : List Frame := [.native { method := ⟨0, 0⟩, args := #[] }]
def about1 : State := aboutOver below0
def p0 : Program := .bare "" "" ""
def e0 : Env := launch0.env 0 0 0
theorem w_frames : about1.frames = Frame.invoking theMethod args0 :: below0 := rfl
set_option maxRecDepth 65536 in
theorem w_args : argsFit about1.vm theMethod args0 = true := by decide +kernel
set_option maxRecDepth 65536 in
theorem w_heap : heapFits about1 = true := by decide +kernel
set_option maxRecDepth 65536 in
theorem w_runnable : about1.curStatus? = some .runnable := by decide +kernel
set_option maxRecDepth 65536 in
theorem w_alone : about1.alone = true := by decide +kernel
set_option maxRecDepth 65536 in
theorem w_named : about1.methodNamed? x = some theMethod := by decide +kernel
set_option maxRecDepth 65536 in
theorem w_hears : about1.hears theMethod below0 = true := by decide +kernel
set_option maxRecDepth 65536 in
theorem w_ripe : about1.ripe theMethod args0 below0 = true := by decide +kernel
theorem w_running : about1.status = .running := rfl
set_option maxRecDepth 65536 in
theorem w_room : about1.hasRoom e0.platform room_1 = true :=
  launch0.hasRoom_least _ room_1 (by decide +kernel) (by decide +kernel) (by decide +kernel) (by decide +kernel) (by decide +kernel) (by decide +kernel)
theorem allAtoms_all (ts : List Jvm.Cond) (a : Array Jvm.Value) (st : Jvm.State) : (allAtoms ts).before a st = ts.all (fun c => c.before a st) := by
  induction ts with
  | nil => rfl
  | cons c t ih =>
    show (Jvm.Cond.and c (allAtoms t)).before a st = _
    rw [Jvm.Cond.before_and, ih, List.all_cons]
def words1 : List Jvm.Cond := Jvm.Cond.code x code maxLocals ret :: tables_1
/-- a 'code' word, met by the world's own term for the bytes: nothing is compared byte by byte -/
theorem code_word {y : MethodName} {bytes : ByteArray} {mx : Nat} {rt : Option FieldType} {a : Array Value} {s : State} {m : MethodId} {meth : Method} {c : Code} (h1 : s.methodNamed? y = some m) (h2 : s.vm.method? m = some meth) (h3 : meth.code = some c) (h4 : c.code = bytes)
    (h5 : (c.maxLocals == mx && c.exceptionTable.isEmpty && decide (c.maxStack ≤ mostOperands) && decide (meth.sig.returnType = rt) && !meth.locks && decide (parseMethodDescriptor y.desc = some meth.sig)) = true) : (Jvm.Cond.code y bytes mx rt).before a s = true := by
  simp only [Bool.and_eq_true, beq_iff_eq, Bool.not_eq_true', decide_eq_true_eq] at h5
  obtain ⟨⟨⟨⟨⟨g1, g2⟩, g3⟩, g4⟩, g5⟩, g6⟩ := h5
  simp [Cond.before, Cond.holds, Cond.value, h1, h2, h3, h4, g1, g2, g3, g4, g5, g6]
def isCode : Jvm.Cond → Bool
  | .code _ _ _ _ => true
  | _ => false
theorem all_split {L : List Jvm.Cond} {P : Jvm.Cond → Bool} (h1 : L.all (fun c => isCode c || P c) = true) (h2 : ∀ c ∈ L.filter isCode, P c = true) : L.all P = true := by
  refine List.all_eq_true.mpr fun c hc => ?_
  have h := List.all_eq_true.mp h1 c hc
  rcases Bool.eq_false_or_eq_true (isCode c) with hi | hi
  · exact h2 c (List.mem_filter.mpr ⟨hc, hi⟩)
  · simpa [hi] using h
set_option maxRecDepth 65536 in
theorem w_c0 : (Jvm.Cond.code x code maxLocals ret).before args0 about1 = true := code_word (m := ⟨1, 3⟩) (meth := k1m3) (c := k1c3) (by decide +kernel) rfl rfl rfl (by decide +kernel)
set_option maxRecDepth 65536 in
theorem w_c1 : (Jvm.Cond.code ({ cls := "com/example/bagwise/bagwise/terms/TruthAndPinLaw", name := "pick", desc := "(I)Lcom/example/bagwise/bagwise/terms/Truth;" } : Jvm.MethodName) method_2_code (1 : Nat) (Option.some (Jvm.ClassFile.FieldType.object "com/example/bagwise/bagwise/terms/Truth"))).before args0 about1 = true := code_word (m := ⟨1, 1⟩) (meth := k1m1) (c := k1c1) (by decide +kernel) rfl rfl rfl (by decide +kernel)
set_option maxRecDepth 65536 in
theorem w_c2 : (Jvm.Cond.code ({ cls := "com/example/bagwise/bagwise/terms/Truth", name := "and", desc := "(Lcom/example/bagwise/bagwise/terms/Truth;)Lcom/example/bagwise/bagwise/terms/Truth;" } : Jvm.MethodName) prog_175_method_7_code (2 : Nat) (Option.some (Jvm.ClassFile.FieldType.object "com/example/bagwise/bagwise/terms/Truth"))).before args0 about1 = true := code_word (m := ⟨6, 0⟩) (meth := k6m0) (c := k6c0) (by decide +kernel) rfl rfl rfl (by decide +kernel)
set_option maxRecDepth 65536 in
theorem w_c3 : (Jvm.Cond.code ({ cls := "com/example/bagwise/bagwise/terms/TruthAndPinLaw", name := "rank", desc := "(Lcom/example/bagwise/bagwise/terms/Truth;)I" } : Jvm.MethodName) method_3_code (1 : Nat) (Option.some Jvm.ClassFile.FieldType.int)).before args0 about1 = true := code_word (m := ⟨1, 2⟩) (meth := k1m2) (c := k1c2) (by decide +kernel) rfl rfl rfl (by decide +kernel)
set_option maxRecDepth 65536 in
theorem w_c4 : (Jvm.Cond.code ({ cls := "java/lang/Math", name := "min", desc := "(II)I" } : Jvm.MethodName) jdk_29_method_69_code (2 : Nat) (Option.some Jvm.ClassFile.FieldType.int)).before args0 about1 = true := code_word (m := ⟨7, 1⟩) (meth := k7m1) (c := k7c1) (by decide +kernel) rfl rfl rfl (by decide +kernel)
def codes1 : List Jvm.Cond := [Jvm.Cond.code x code maxLocals ret, Jvm.Cond.code ({ cls := "com/example/bagwise/bagwise/terms/TruthAndPinLaw", name := "pick", desc := "(I)Lcom/example/bagwise/bagwise/terms/Truth;" } : Jvm.MethodName) method_2_code (1 : Nat) (Option.some (Jvm.ClassFile.FieldType.object "com/example/bagwise/bagwise/terms/Truth")), Jvm.Cond.code ({ cls := "com/example/bagwise/bagwise/terms/Truth", name := "and", desc := "(Lcom/example/bagwise/bagwise/terms/Truth;)Lcom/example/bagwise/bagwise/terms/Truth;" } : Jvm.MethodName) prog_175_method_7_code (2 : Nat) (Option.some (Jvm.ClassFile.FieldType.object "com/example/bagwise/bagwise/terms/Truth")), Jvm.Cond.code ({ cls := "com/example/bagwise/bagwise/terms/TruthAndPinLaw", name := "rank", desc := "(Lcom/example/bagwise/bagwise/terms/Truth;)I" } : Jvm.MethodName) method_3_code (1 : Nat) (Option.some Jvm.ClassFile.FieldType.int), Jvm.Cond.code ({ cls := "java/lang/Math", name := "min", desc := "(II)I" } : Jvm.MethodName) jdk_29_method_69_code (2 : Nat) (Option.some Jvm.ClassFile.FieldType.int)]
set_option maxRecDepth 65536 in
theorem codes_eq : words1.filter isCode = codes1 := rfl
theorem w_codes : ∀ c ∈ words1.filter isCode, c.before args0 about1 = true := by
  rw [codes_eq]
  intro c hc
  simp only [codes1, List.mem_cons, List.not_mem_nil, or_false] at hc
  rcases hc with rfl | rfl | rfl | rfl | rfl
  · exact w_c0
  · exact w_c1
  · exact w_c2
  · exact w_c3
  · exact w_c4
set_option maxRecDepth 65536 in
theorem w_t1 : (words1.take 24).all (fun c => isCode c || c.before args0 about1) = true := by decide +kernel
set_option maxRecDepth 65536 in
theorem w_t2 : (words1.drop 24).all (fun c => isCode c || c.before args0 about1) = true := by decide +kernel
theorem w_tables : (allAtoms (Jvm.Cond.code x code maxLocals ret :: tables_1)).before args0 about1 = true := by
  rw [allAtoms_all]
  show words1.all (fun c => c.before args0 about1) = true
  refine all_split ?_ w_codes
  rw [← List.take_append_drop 24 words1, List.all_append, w_t1, w_t2]
  rfl
set_option maxRecDepth 65536 in
theorem w_case : (Jvm.Cond.and given_1 narrow_1).before args0 about1 = true := by decide +kernel
theorem w_applies : (headSpec (Jvm.Cond.code x code maxLocals ret :: tables_1) room_1).applies x e0.platform about1 = true :=
  (Spec.applies_iff w_frames).mpr ⟨w_running, w_runnable, w_alone, w_named, w_hears, w_ripe, w_room, w_tables⟩
theorem atStart : AtStart classFile x code maxLocals ret World_1 tables_1 room_1 Calls_1 rest_1 Pre_1 launch0 p0 e0 about1 theMethod args0 below0 :=
  ⟨lists_1, trivial, launch0.admits_env _ _ _, launch0.least_env, fairChoices_fair.cas, fairChoices_fair.clock, w_frames, w_args, w_heap, w_applies, trivial, trivial, w_case⟩
end start1
theorem witness_1 : WitnessClaimed_1 := ⟨start1.p0, start1.e0, start1.about1, start1.theMethod, start1.args0, start1.below0, start1.atStart⟩
end Jvm.Pilot.@@N@@
