import JvmDerived
import JvmDerived.Pilot.@@N@@Statement
import JvmDerived.Pilot.@@N@@Code
set_option linter.unusedVariables false
set_option linter.unusedSimpArgs false
@@BLOCK:NumsL.lean.txt@@
namespace Jvm.Pilot.@@N@@
open Jvm Jvm.ClassFile Sem Op Lib Jvm.Free Jvm.Stand Jvm.LawKit Jvm.RoadKit Bundle Jvm.Pilot.@@N@@.Jvm.D
/-- from here the run comes to its end, and G holds there -/
def Go (p : Program) (e : Env) (below : List Frame) (G : Outcome → State → Prop) (T : State) (g : JFrame) : Prop := ∃ s₂ o, Steps p.tables e below (T.setTop g) s₂ ∧ s₂.status = .running ∧ Ended s₂ below o ∧ G o s₂
theorem Go.on {p : Program} {e : Env} {below : List Frame} {G : Outcome → State → Prop} {T T' : State} {g g' : JFrame} (h : ∀ t, Steps p.tables e below (T'.setTop g') t → Steps p.tables e below (T.setTop g) t) (k : Go p e below G T' g') : Go p e below G T g := by
  obtain ⟨s2, o, k1, k2⟩ := k
  exact ⟨s2, o, h _ k1, k2⟩
/-- a body that writes nothing: what it returns; the heap as it was -/
def Qp (r : Option Value) (h0 : Heap) (n0 : Nat) (v : Option Value) (h : Heap) (L : List Loc) : Prop := v = r ∧ Fr n0 L ∧ h = h0
def Ql (r : Option Value) (n0 : Nat) (v : Option Value) (L : List Loc) : Prop := v = r ∧ Fr n0 L
/-- a body that only makes new cells -/
def Qx (r : Option Value) (F : Heap → Prop) (h0 : Heap) (n0 : Nat) (v : Option Value) (h : Heap) (L : List Loc) : Prop := v = r ∧ Fr n0 L ∧ Ext h0 h ∧ F h
theorem own_ext0 (h : Heap) : Ext h h := ⟨Nat.le_refl _, fun _ _ q => q⟩
theorem own_ext2 {a b c : Heap} (E : Ext a b) (F : Ext b c) : Ext a c := ⟨Nat.le_trans E.1 F.1, fun x y q => F.2 x y (E.2 x y q)⟩
theorem own_extw {h0 h h' : Heap} {a : Addr} {sl : Nat} {v : Value} (E : Ext h0 h) (W : Wr h h' a sl v) (q : h0.size ≤ a) : Ext h0 h' := by
  refine ⟨by rw [W.size]; exact E.1, fun x c hx => ?_⟩
  obtain ⟨c', g1, -, -, -, g5, -⟩ := wr_at W (E.2 x c hx)
  have hne : x ≠ a := Nat.ne_of_lt (Nat.lt_of_lt_of_le (Array.getElem?_eq_some_iff.mp hx).1 q)
  rw [g1, g5 hne]
theorem own_extE {h a b : Heap} (e : a = b) (X : Ext h b) : Ext h a := e ▸ X
theorem own_arrE {Z : State} {a b : Heap} {x : Addr} {c : Cell} {ty : FieldType} (e : a = b) (A : Arr Z b x c ty) : Arr Z a x c ty := e ▸ A
theorem own_ne {Z : State} {h : Heap} {a b : Addr} {C n d : String} {v v' : Value} (F : Fld Z h a C n d v) (G : Fld Z h b C n d v') (hv : v ≠ v') : ¬ (a = b) := by
  rintro rfl
  obtain ⟨cell, cf, k, i, f, h1, h2, -, -, -, -, h7⟩ := F
  obtain ⟨cell', cf', k', i', f', g1, g2, -, -, -, -, g7⟩ := G
  cases h1.symm.trans g1
  cases h2.symm.trans g2
  exact hv (Option.some.inj (h7.symm.trans g7))
theorem own_irrI (x : Int32) : ¬ (x < x) := by simp
theorem own_irrJ (x : Int64) : ¬ (x < x) := by simp
theorem own_eqI {args : Array Value} {s : State} {t : Term} {n : Int32} (h : (Jvm.Cond.eq t (.int n)).value args s none s [] = some true) : t.eval args s none [] s = some (.int n) := by
  exact eqv_i (Term.int_eval n) h
theorem own_len {args : Array Value} {s : State} {t : Term} {n : Int32} {a : Addr} {cl : Cell} {ty : FieldType} {k : Nat} (h : (Term.length t).eval args s none [] s = some (.int n)) (ht : t.eval args s none [] s = some (.ref a)) (A : Arr s s.heap a cl ty) (hk : n.toInt = k) : cl.slots.size = k := by
  have ha := A.fin (U := s) (Vm.Alike.refl _)
  by_cases hl : cl.slots.size < 2 ^ 31
  · have e := (len_f ht ha hl).symm.trans h
    have e2 : cl.slots.size.toInt32 = n := by simpa using e
    have e3 := len_toInt hl
    rw [e2, hk] at e3
    omega
  · simp [Term.eval, ht, ha, hl] at h
theorem own_slots {cl : Cell} {vs : List Value} (h1 : cl.slots.size = vs.length) (h2 : ∀ (i : Nat) (v : Value), vs[i]? = some v → cl.slots[i]? = some v) : cl.slots = vs.toArray := by
  apply Array.ext
  · simp [h1]
  · intro i hi hj
    have hj' : i < vs.length := by simpa using hj
    have q := h2 i vs[i] (by simp [hj'])
    rw [Array.getElem?_eq_getElem hi] at q
    simpa using q
theorem own_eqR {args : Array Value} {s : State} {t u : Term} {a : Addr} (h : (Jvm.Cond.eq t u).value args s none s [] = some true) (hu : u.eval args s none [] s = some (.ref a)) : t.eval args s none [] s = some (.ref a) := by
  obtain ⟨x, y, h1, h2, k1, k2⟩ := cmp_v (Or.inl h)
  cases h2.symm.trans hu
  have q := gotT (eq_R h1 h2 k2.2 rfl) h
  rw [h1, q]
def Pins (Z : State) (h : Heap) (w : Nat → Addr) : Prop :=
  Sta Z h "com/example/bagwise/bagwise/terms/Truth" "FALSE" "Lcom/example/bagwise/bagwise/terms/Truth;" (.ref (w 0)) ∧
  Sta Z h "com/example/bagwise/bagwise/terms/Truth" "TRUE" "Lcom/example/bagwise/bagwise/terms/Truth;" (.ref (w 1)) ∧
  Sta Z h "com/example/bagwise/bagwise/terms/Truth" "ERROR" "Lcom/example/bagwise/bagwise/terms/Truth;" (.ref (w 2)) ∧
  Exa Z h (w 0) "com/example/bagwise/bagwise/terms/Truth" ∧
  Exa Z h (w 1) "com/example/bagwise/bagwise/terms/Truth" ∧
  Exa Z h (w 2) "com/example/bagwise/bagwise/terms/Truth" ∧
  Fld Z h (w 0) "java/lang/Enum" "ordinal" "I" (.int (1 : Int32)) ∧
  Fld Z h (w 1) "java/lang/Enum" "ordinal" "I" (.int (0 : Int32)) ∧
  Fld Z h (w 2) "java/lang/Enum" "ordinal" "I" (.int (2 : Int32)) ∧
  True
theorem pin_0 {Z : State} {h : Heap} {w : Nat → Addr} (P : Pins Z h w) : Sta Z h "com/example/bagwise/bagwise/terms/Truth" "FALSE" "Lcom/example/bagwise/bagwise/terms/Truth;" (.ref (w 0)) := P.1
theorem pin_1 {Z : State} {h : Heap} {w : Nat → Addr} (P : Pins Z h w) : Sta Z h "com/example/bagwise/bagwise/terms/Truth" "TRUE" "Lcom/example/bagwise/bagwise/terms/Truth;" (.ref (w 1)) := P.2.1
theorem pin_2 {Z : State} {h : Heap} {w : Nat → Addr} (P : Pins Z h w) : Sta Z h "com/example/bagwise/bagwise/terms/Truth" "ERROR" "Lcom/example/bagwise/bagwise/terms/Truth;" (.ref (w 2)) := P.2.2.1
theorem pin_3 {Z : State} {h : Heap} {w : Nat → Addr} (P : Pins Z h w) : Exa Z h (w 0) "com/example/bagwise/bagwise/terms/Truth" := P.2.2.2.1
theorem pin_4 {Z : State} {h : Heap} {w : Nat → Addr} (P : Pins Z h w) : Exa Z h (w 1) "com/example/bagwise/bagwise/terms/Truth" := P.2.2.2.2.1
theorem pin_5 {Z : State} {h : Heap} {w : Nat → Addr} (P : Pins Z h w) : Exa Z h (w 2) "com/example/bagwise/bagwise/terms/Truth" := P.2.2.2.2.2.1
theorem pin_6 {Z : State} {h : Heap} {w : Nat → Addr} (P : Pins Z h w) : Fld Z h (w 0) "java/lang/Enum" "ordinal" "I" (.int (1 : Int32)) := P.2.2.2.2.2.2.1
theorem pin_7 {Z : State} {h : Heap} {w : Nat → Addr} (P : Pins Z h w) : Fld Z h (w 1) "java/lang/Enum" "ordinal" "I" (.int (0 : Int32)) := P.2.2.2.2.2.2.2.1
theorem pin_8 {Z : State} {h : Heap} {w : Nat → Addr} (P : Pins Z h w) : Fld Z h (w 2) "java/lang/Enum" "ordinal" "I" (.int (2 : Int32)) := P.2.2.2.2.2.2.2.2.1
theorem pins_ext {Z : State} {h h' : Heap} {w : Nat → Addr} (E : Ext h h') (P : Pins Z h w) : Pins Z h' w :=
  ⟨(pin_0 P).ext E, (pin_1 P).ext E, (pin_2 P).ext E, (pin_3 P).ext E, (pin_4 P).ext E, (pin_5 P).ext E, (pin_6 P).ext E, (pin_7 P).ext E, (pin_8 P).ext E, trivial⟩
theorem own_mod3 (x : Int32) : ((x &&& (2147483647 : Int32)) % (3 : Int32)) = (0 : Int32) ∨ ((x &&& (2147483647 : Int32)) % (3 : Int32)) = (1 : Int32) ∨ ((x &&& (2147483647 : Int32)) % (3 : Int32)) = (2 : Int32) := by
  have e := Jvm.Kit.i32_mask x 2147483647 (k := 31) (by decide) (by decide)
  have e2 : ((x &&& 2147483647) % (3 : Int32)).toInt = (x &&& 2147483647).toInt % (3 : Int32).toInt := Jvm.Kit.i32_rem_nonneg (by rw [e]; omega)
  have e3 : (3 : Int32).toInt = 3 := by decide
  rw [e3] at e2
  generalize ((x &&& 2147483647) % (3 : Int32)) = y at *
  simp only [← Int32.toInt_inj]
  show y.toInt = 0 ∨ y.toInt = 1 ∨ y.toInt = 2
  omega
theorem d1_0 : decode method_2_code 0 = .ok (.iload_n 0, 1) := by decide +kernel
theorem d1_1 : decode method_2_code 1 = .ok (.ifCond .ne 7, 3) := by decide +kernel
theorem d1_4 : decode method_2_code 4 = .ok (.getstatic 7, 3) := by decide +kernel
theorem d1_7 : decode method_2_code 7 = .ok (.areturn, 1) := by decide +kernel
theorem pn_0 : plainName "com/example/bagwise/bagwise/terms/TruthOrPinLaw" = true := by first | (simp [plainName, overriddenIn]; done) | decide +kernel
set_option maxRecDepth 65536 in
set_option maxHeartbeats 40000000 in
theorem rm1_0 (l : Launch) (Z : State) (a0 : Array Value) (hw : ∀ d ∈ tables_1, d.before a0 Z = true) (ws : List Jvm.Cond) (w : Nat → Addr) (h0 : Heap) (n0 : Nat) (Z0 : n0 ≤ h0.size) (hP : Pins Z h0 w) :
    MetFree l (⟨"com/example/bagwise/bagwise/terms/TruthOrPinLaw", "pick", "(I)Lcom/example/bagwise/bagwise/terms/Truth;"⟩ : MethodName) (head1 (Jvm.Cond.code (⟨"com/example/bagwise/bagwise/terms/TruthOrPinLaw", "pick", "(I)Lcom/example/bagwise/bagwise/terms/Truth;"⟩ : MethodName) method_2_code 1 (some (.object "com/example/bagwise/bagwise/terms/Truth")) :: ws) ({ frames := 0, cells := 0, slots := 0, locals := 0 } : Room)) (fun a U => a = #[(.int (0 : Int32))] ∧ Z.Warmed39 U.vm ∧ U.heap = h0) (fun _ _ _ _ _ => True) (fun _ U o U' => ∃ v L, o = .returned v ∧ Qp (some (.ref (w 0))) h0 n0 v U'.heap L ∧ FrameEnd U o U' L ({ frames := 0, cells := 0, slots := 0, locals := 0 } : Room).cells ({ frames := 0, cells := 0, slots := 0, locals := 0 } : Room).slots) := by
  refine MetFree.of_bodySF (plainFor_of_name pn_0) hisR ?_
  intro p e s m args below meth c s₁ Bd hml0 hP0 hK
  obtain ⟨rfl, hZ, hh⟩ := hP0
  have hx := Bd.exec
  have hby := Bd.bytes
  have hml : c.maxLocals = 1 := hml0
  have hown : s.vm.findClass "com/example/bagwise/bagwise/terms/TruthOrPinLaw" = some m.cls := findClass_of_methodNamed Bd.named
  have hnm := (name_of_methodNamed Bd.named Bd.method).1
  have X0 : Stand p l e ({ frames := 0, cells := 0, slots := 0, locals := 0 } : Room) s m #[(.int (0 : Int32))] below meth c s₁ [] 0 0 := Stand.of_body Bd
  have e0 : s₁.heap = h0 := by rw [← hh, Bd.state]; rfl
  have N0 := Fr.nil n0
  suffices hgo : Go p e below (fun o U' => ∃ v L, o = .returned v ∧ Qp (some (.ref (w 0))) h0 n0 v U'.heap L ∧ FrameEnd s o U' L ({ frames := 0, cells := 0, slots := 0, locals := 0 } : Room).cells ({ frames := 0, cells := 0, slots := 0, locals := 0 } : Room).slots) s₁ (mkF m 0 #[.val (.int (0 : Int32))] []) by
    obtain ⟨s2, o, g1, g2, g3, g4⟩ := hgo
    refine ⟨s2, o, castTop (?_ : entryFrame m #[(.int (0 : Int32))] 1 = _) g1, g2, g3, g4⟩
    first | (simp [entryFrame, mkF, argsToLocals, Value.category]; done) | rfl
  refine Go.on (T' := s₁) (g' := (mkF m 1 #[.val (.int (0 : Int32))] [(.int (0 : Int32))])) (fun t k => XS.iloadN X0.here hx rfl (hb hby d1_0) rfl k) ?_
  refine Go.on (T' := s₁) (g' := (mkF m 4 #[.val (.int (0 : Int32))] [])) (fun t k => XS.ifNo X0.here hx rfl (hb hby d1_1) rfl ((if0 _ _).trans (teq (by decide : (0 : Int32) = (0 : Int32))).2) k) ?_
  obtain ⟨T4, X4, e4, st4⟩ := getS2 X0 hx hZ hown (host := "") (Or.inl (hw _ (List.mem_of_getElem? (i := 5) rfl))) Via.refl e0 (pin_0 hP) (g := (mkF m 4 #[.val (.int (0 : Int32))] [])) rfl (hb hby d1_4)
  refine Go.on (T' := T4) (g' := (mkF m 7 #[.val (.int (0 : Int32))] [(.ref (w 0))])) st4 ?_
  obtain ⟨fs, hr, hrun, hended, hW, hsame⟩ := X4.leave (v := some (.ref (w 0))) (fun h => by rw [Bd.returns] at h; cases h)
  exact ⟨_, _, retOut X4 hx Bd.returns rfl (Or.inr (Or.inr (Or.inr (Or.inr ⟨rfl, rfl, rfl⟩)))) (hb hby d1_7) hr, hrun, hended, _, _, rfl, ⟨rfl, N0, e4⟩, ⟨_, rfl⟩, hW, hsame.mono (by decide) (by decide)⟩
theorem pd_0 : parseMethodDescriptor "(I)Lcom/example/bagwise/bagwise/terms/Truth;" = some ⟨[.int], some (.object "com/example/bagwise/bagwise/terms/Truth")⟩ := by decide +kernel
theorem d2_0 : decode prog_175_method_8_code 0 = .ok (.aload_n 0, 1) := by decide +kernel
theorem d2_1 : decode prog_175_method_8_code 1 = .ok (.getstatic 3, 3) := by decide +kernel
theorem d2_4 : decode prog_175_method_8_code 4 = .ok (.if_acmp .eq 10, 3) := by decide +kernel
theorem d2_7 : decode prog_175_method_8_code 7 = .ok (.aload_n 1, 1) := by decide +kernel
theorem d2_8 : decode prog_175_method_8_code 8 = .ok (.getstatic 3, 3) := by decide +kernel
theorem d2_11 : decode prog_175_method_8_code 11 = .ok (.if_acmp .ne 7, 3) := by decide +kernel
theorem d2_18 : decode prog_175_method_8_code 18 = .ok (.aload_n 0, 1) := by decide +kernel
theorem d2_19 : decode prog_175_method_8_code 19 = .ok (.getstatic 10, 3) := by decide +kernel
theorem d2_22 : decode prog_175_method_8_code 22 = .ok (.if_acmp .eq 10, 3) := by decide +kernel
theorem d2_25 : decode prog_175_method_8_code 25 = .ok (.aload_n 1, 1) := by decide +kernel
theorem d2_26 : decode prog_175_method_8_code 26 = .ok (.getstatic 10, 3) := by decide +kernel
theorem d2_29 : decode prog_175_method_8_code 29 = .ok (.if_acmp .ne 9, 3) := by decide +kernel
theorem d2_38 : decode prog_175_method_8_code 38 = .ok (.getstatic 7, 3) := by decide +kernel
theorem d2_41 : decode prog_175_method_8_code 41 = .ok (.areturn, 1) := by decide +kernel
theorem pn_1 : plainName "com/example/bagwise/bagwise/terms/Truth" = true := by first | (simp [plainName, overriddenIn]; done) | decide +kernel
set_option maxRecDepth 65536 in
set_option maxHeartbeats 40000000 in
theorem rm2_0 (l : Launch) (Z : State) (a0 : Array Value) (hw : ∀ d ∈ tables_1, d.before a0 Z = true) (ws : List Jvm.Cond) (w : Nat → Addr) (h0 : Heap) (n0 : Nat) (Z0 : n0 ≤ h0.size) (hP : Pins Z h0 w) :
    MetFree l (⟨"com/example/bagwise/bagwise/terms/Truth", "or", "(Lcom/example/bagwise/bagwise/terms/Truth;)Lcom/example/bagwise/bagwise/terms/Truth;"⟩ : MethodName) (head1 (Jvm.Cond.code (⟨"com/example/bagwise/bagwise/terms/Truth", "or", "(Lcom/example/bagwise/bagwise/terms/Truth;)Lcom/example/bagwise/bagwise/terms/Truth;"⟩ : MethodName) prog_175_method_8_code 2 (some (.object "com/example/bagwise/bagwise/terms/Truth")) :: ws) ({ frames := 0, cells := 0, slots := 0, locals := 0 } : Room)) (fun a U => a = #[(.ref (w 0)), (.ref (w 0))] ∧ Z.Warmed39 U.vm ∧ U.heap = h0) (fun _ _ _ _ _ => True) (fun _ U o U' => ∃ v L, o = .returned v ∧ Qp (some (.ref (w 0))) h0 n0 v U'.heap L ∧ FrameEnd U o U' L ({ frames := 0, cells := 0, slots := 0, locals := 0 } : Room).cells ({ frames := 0, cells := 0, slots := 0, locals := 0 } : Room).slots) := by
  refine MetFree.of_bodySF (plainFor_of_name pn_1) hisR ?_
  intro p e s m args below meth c s₁ Bd hml0 hP0 hK
  obtain ⟨rfl, hZ, hh⟩ := hP0
  have hx := Bd.exec
  have hby := Bd.bytes
  have hml : c.maxLocals = 2 := hml0
  have hown : s.vm.findClass "com/example/bagwise/bagwise/terms/Truth" = some m.cls := findClass_of_methodNamed Bd.named
  have hnm := (name_of_methodNamed Bd.named Bd.method).1
  have X0 : Stand p l e ({ frames := 0, cells := 0, slots := 0, locals := 0 } : Room) s m #[(.ref (w 0)), (.ref (w 0))] below meth c s₁ [] 0 0 := Stand.of_body Bd
  have e0 : s₁.heap = h0 := by rw [← hh, Bd.state]; rfl
  have N0 := Fr.nil n0
  suffices hgo : Go p e below (fun o U' => ∃ v L, o = .returned v ∧ Qp (some (.ref (w 0))) h0 n0 v U'.heap L ∧ FrameEnd s o U' L ({ frames := 0, cells := 0, slots := 0, locals := 0 } : Room).cells ({ frames := 0, cells := 0, slots := 0, locals := 0 } : Room).slots) s₁ (mkF m 0 #[.val (.ref (w 0)), .val (.ref (w 0))] []) by
    obtain ⟨s2, o, g1, g2, g3, g4⟩ := hgo
    refine ⟨s2, o, castTop (?_ : entryFrame m #[(.ref (w 0)), (.ref (w 0))] 2 = _) g1, g2, g3, g4⟩
    first | (simp [entryFrame, mkF, argsToLocals, Value.category]; done) | rfl
  refine Go.on (T' := s₁) (g' := (mkF m 1 #[.val (.ref (w 0)), .val (.ref (w 0))] [(.ref (w 0))])) (fun t k => XS.aloadN X0.here hx rfl (hb hby d2_0) rfl rfl k) ?_
  obtain ⟨T12, X12, e12, st12⟩ := getS2 X0 hx hZ hown (host := "") (Or.inl (hw _ (List.mem_of_getElem? (i := 13) rfl))) Via.refl e0 (pin_1 hP) (g := (mkF m 1 #[.val (.ref (w 0)), .val (.ref (w 0))] [(.ref (w 0))])) rfl (hb hby d2_1)
  refine Go.on (T' := T12) (g' := (mkF m 4 #[.val (.ref (w 0)), .val (.ref (w 0))] [(.ref (w 1)), (.ref (w 0))])) st12 ?_
  refine Go.on (T' := T12) (g' := (mkF m 7 #[.val (.ref (w 0)), .val (.ref (w 0))] [])) (fun t k => Jvm.RoadKit.acmp (g := (mkF m 4 #[.val (.ref (w 0)), .val (.ref (w 0))] [(.ref (w 1)), (.ref (w 0))])) X12 hx rfl rfl rfl (pc0 := 4) (pc' := 7) (same := false) rfl (hb hby d2_4) rfl (decide_eq_false fun q => (own_ne (pin_6 hP) (pin_7 hP) (by decide)) (Value.ref.inj q)) (by decide) (by decide) k) ?_
  refine Go.on (T' := T12) (g' := (mkF m 8 #[.val (.ref (w 0)), .val (.ref (w 0))] [(.ref (w 0))])) (fun t k => XS.aloadN X12.here hx rfl (hb hby d2_7) rfl rfl k) ?_
  obtain ⟨T13, X13, e13, st13⟩ := getS2 X12 hx hZ hown (host := "") (Or.inl (hw _ (List.mem_of_getElem? (i := 13) rfl))) Via.refl e12 (pin_1 hP) (g := (mkF m 8 #[.val (.ref (w 0)), .val (.ref (w 0))] [(.ref (w 0))])) rfl (hb hby d2_8)
  refine Go.on (T' := T13) (g' := (mkF m 11 #[.val (.ref (w 0)), .val (.ref (w 0))] [(.ref (w 1)), (.ref (w 0))])) st13 ?_
  refine Go.on (T' := T13) (g' := (mkF m 18 #[.val (.ref (w 0)), .val (.ref (w 0))] [])) (fun t k => Jvm.RoadKit.acmp (g := (mkF m 11 #[.val (.ref (w 0)), .val (.ref (w 0))] [(.ref (w 1)), (.ref (w 0))])) X13 hx rfl rfl rfl (pc0 := 11) (pc' := 18) (same := false) rfl (hb hby d2_11) rfl (decide_eq_false fun q => (own_ne (pin_6 hP) (pin_7 hP) (by decide)) (Value.ref.inj q)) (by decide) (by decide) k) ?_
  refine Go.on (T' := T13) (g' := (mkF m 19 #[.val (.ref (w 0)), .val (.ref (w 0))] [(.ref (w 0))])) (fun t k => XS.aloadN X13.here hx rfl (hb hby d2_18) rfl rfl k) ?_
  obtain ⟨T14, X14, e14, st14⟩ := getS2 X13 hx hZ hown (host := "") (Or.inl (hw _ (List.mem_of_getElem? (i := 15) rfl))) Via.refl e13 (pin_2 hP) (g := (mkF m 19 #[.val (.ref (w 0)), .val (.ref (w 0))] [(.ref (w 0))])) rfl (hb hby d2_19)
  refine Go.on (T' := T14) (g' := (mkF m 22 #[.val (.ref (w 0)), .val (.ref (w 0))] [(.ref (w 2)), (.ref (w 0))])) st14 ?_
  refine Go.on (T' := T14) (g' := (mkF m 25 #[.val (.ref (w 0)), .val (.ref (w 0))] [])) (fun t k => Jvm.RoadKit.acmp (g := (mkF m 22 #[.val (.ref (w 0)), .val (.ref (w 0))] [(.ref (w 2)), (.ref (w 0))])) X14 hx rfl rfl rfl (pc0 := 22) (pc' := 25) (same := false) rfl (hb hby d2_22) rfl (decide_eq_false fun q => (own_ne (pin_6 hP) (pin_8 hP) (by decide)) (Value.ref.inj q)) (by decide) (by decide) k) ?_
  refine Go.on (T' := T14) (g' := (mkF m 26 #[.val (.ref (w 0)), .val (.ref (w 0))] [(.ref (w 0))])) (fun t k => XS.aloadN X14.here hx rfl (hb hby d2_25) rfl rfl k) ?_
  obtain ⟨T15, X15, e15, st15⟩ := getS2 X14 hx hZ hown (host := "") (Or.inl (hw _ (List.mem_of_getElem? (i := 15) rfl))) Via.refl e14 (pin_2 hP) (g := (mkF m 26 #[.val (.ref (w 0)), .val (.ref (w 0))] [(.ref (w 0))])) rfl (hb hby d2_26)
  refine Go.on (T' := T15) (g' := (mkF m 29 #[.val (.ref (w 0)), .val (.ref (w 0))] [(.ref (w 2)), (.ref (w 0))])) st15 ?_
  refine Go.on (T' := T15) (g' := (mkF m 38 #[.val (.ref (w 0)), .val (.ref (w 0))] [])) (fun t k => Jvm.RoadKit.acmp (g := (mkF m 29 #[.val (.ref (w 0)), .val (.ref (w 0))] [(.ref (w 2)), (.ref (w 0))])) X15 hx rfl rfl rfl (pc0 := 29) (pc' := 38) (same := false) rfl (hb hby d2_29) rfl (decide_eq_false fun q => (own_ne (pin_6 hP) (pin_8 hP) (by decide)) (Value.ref.inj q)) (by decide) (by decide) k) ?_
  obtain ⟨T16, X16, e16, st16⟩ := getS2 X15 hx hZ hown (host := "") (Or.inl (hw _ (List.mem_of_getElem? (i := 17) rfl))) Via.refl e15 (pin_0 hP) (g := (mkF m 38 #[.val (.ref (w 0)), .val (.ref (w 0))] [])) rfl (hb hby d2_38)
  refine Go.on (T' := T16) (g' := (mkF m 41 #[.val (.ref (w 0)), .val (.ref (w 0))] [(.ref (w 0))])) st16 ?_
  obtain ⟨fs, hr, hrun, hended, hW, hsame⟩ := X16.leave (v := some (.ref (w 0))) (fun h => by rw [Bd.returns] at h; cases h)
  exact ⟨_, _, retOut X16 hx Bd.returns rfl (Or.inr (Or.inr (Or.inr (Or.inr ⟨rfl, rfl, rfl⟩)))) (hb hby d2_41) hr, hrun, hended, _, _, rfl, ⟨rfl, N0, e16⟩, ⟨_, rfl⟩, hW, hsame.mono (by decide) (by decide)⟩
theorem pd_1 : parseMethodDescriptor "(Lcom/example/bagwise/bagwise/terms/Truth;)Lcom/example/bagwise/bagwise/terms/Truth;" = some ⟨[(.object "com/example/bagwise/bagwise/terms/Truth")], some (.object "com/example/bagwise/bagwise/terms/Truth")⟩ := by decide +kernel
theorem d3_0 : decode method_3_code 0 = .ok (.aload_n 0, 1) := by decide +kernel
theorem d3_1 : decode method_3_code 1 = .ok (.getstatic 7, 3) := by decide +kernel
theorem d3_4 : decode method_3_code 4 = .ok (.if_acmp .ne 5, 3) := by decide +kernel
theorem d3_7 : decode method_3_code 7 = .ok (.iconst 0, 1) := by decide +kernel
theorem d3_8 : decode method_3_code 8 = .ok (.ireturn, 1) := by decide +kernel
set_option maxRecDepth 65536 in
set_option maxHeartbeats 40000000 in
theorem rm3_0 (l : Launch) (Z : State) (a0 : Array Value) (hw : ∀ d ∈ tables_1, d.before a0 Z = true) (ws : List Jvm.Cond) (w : Nat → Addr) (h0 : Heap) (n0 : Nat) (Z0 : n0 ≤ h0.size) (hP : Pins Z h0 w) :
    MetFree l (⟨"com/example/bagwise/bagwise/terms/TruthOrPinLaw", "rank", "(Lcom/example/bagwise/bagwise/terms/Truth;)I"⟩ : MethodName) (head1 (Jvm.Cond.code (⟨"com/example/bagwise/bagwise/terms/TruthOrPinLaw", "rank", "(Lcom/example/bagwise/bagwise/terms/Truth;)I"⟩ : MethodName) method_3_code 1 (some .int) :: ws) ({ frames := 0, cells := 0, slots := 0, locals := 0 } : Room)) (fun a U => a = #[(.ref (w 0))] ∧ Z.Warmed39 U.vm ∧ U.heap = h0) (fun _ _ _ _ _ => True) (fun _ U o U' => ∃ v L, o = .returned v ∧ Qp (some (.int (0 : Int32))) h0 n0 v U'.heap L ∧ FrameEnd U o U' L ({ frames := 0, cells := 0, slots := 0, locals := 0 } : Room).cells ({ frames := 0, cells := 0, slots := 0, locals := 0 } : Room).slots) := by
  refine MetFree.of_bodySF (plainFor_of_name pn_0) hisR ?_
  intro p e s m args below meth c s₁ Bd hml0 hP0 hK
  obtain ⟨rfl, hZ, hh⟩ := hP0
  have hx := Bd.exec
  have hby := Bd.bytes
  have hml : c.maxLocals = 1 := hml0
  have hown : s.vm.findClass "com/example/bagwise/bagwise/terms/TruthOrPinLaw" = some m.cls := findClass_of_methodNamed Bd.named
  have hnm := (name_of_methodNamed Bd.named Bd.method).1
  have X0 : Stand p l e ({ frames := 0, cells := 0, slots := 0, locals := 0 } : Room) s m #[(.ref (w 0))] below meth c s₁ [] 0 0 := Stand.of_body Bd
  have e0 : s₁.heap = h0 := by rw [← hh, Bd.state]; rfl
  have N0 := Fr.nil n0
  suffices hgo : Go p e below (fun o U' => ∃ v L, o = .returned v ∧ Qp (some (.int (0 : Int32))) h0 n0 v U'.heap L ∧ FrameEnd s o U' L ({ frames := 0, cells := 0, slots := 0, locals := 0 } : Room).cells ({ frames := 0, cells := 0, slots := 0, locals := 0 } : Room).slots) s₁ (mkF m 0 #[.val (.ref (w 0))] []) by
    obtain ⟨s2, o, g1, g2, g3, g4⟩ := hgo
    refine ⟨s2, o, castTop (?_ : entryFrame m #[(.ref (w 0))] 1 = _) g1, g2, g3, g4⟩
    first | (simp [entryFrame, mkF, argsToLocals, Value.category]; done) | rfl
  refine Go.on (T' := s₁) (g' := (mkF m 1 #[.val (.ref (w 0))] [(.ref (w 0))])) (fun t k => XS.aloadN X0.here hx rfl (hb hby d3_0) rfl rfl k) ?_
  obtain ⟨T19, X19, e19, st19⟩ := getS2 X0 hx hZ hown (host := "") (Or.inl (hw _ (List.mem_of_getElem? (i := 5) rfl))) Via.refl e0 (pin_0 hP) (g := (mkF m 1 #[.val (.ref (w 0))] [(.ref (w 0))])) rfl (hb hby d3_1)
  refine Go.on (T' := T19) (g' := (mkF m 4 #[.val (.ref (w 0))] [(.ref (w 0)), (.ref (w 0))])) st19 ?_
  refine Go.on (T' := T19) (g' := (mkF m 7 #[.val (.ref (w 0))] [])) (fun t k => Jvm.RoadKit.acmp (g := (mkF m 4 #[.val (.ref (w 0))] [(.ref (w 0)), (.ref (w 0))])) X19 hx rfl rfl rfl (pc0 := 4) (pc' := 7) (same := true) rfl (hb hby d3_4) rfl (decide_eq_true rfl) (by decide) (by decide) k) ?_
  refine Go.on (T' := T19) (g' := (mkF m 8 #[.val (.ref (w 0))] [(.int (0 : Int32))])) (fun t k => XS.iconst X19.here hx rfl (hb hby d3_7) k) ?_
  obtain ⟨fs, hr, hrun, hended, hW, hsame⟩ := X19.leave (v := some (.int (0 : Int32))) (fun h => by rw [Bd.returns] at h; cases h)
  exact ⟨_, _, retOut X19 hx Bd.returns rfl (Or.inl ⟨rfl, Or.inl rfl, _, rfl⟩) (hb hby d3_8) hr, hrun, hended, _, _, rfl, ⟨rfl, N0, e19⟩, ⟨_, rfl⟩, hW, hsame.mono (by decide) (by decide)⟩
theorem pd_2 : parseMethodDescriptor "(Lcom/example/bagwise/bagwise/terms/Truth;)I" = some ⟨[(.object "com/example/bagwise/bagwise/terms/Truth")], some .int⟩ := by decide +kernel
theorem d4_0 : decode jdk_29_method_65_code 0 = .ok (.iload_n 0, 1) := by decide +kernel
theorem d4_1 : decode jdk_29_method_65_code 1 = .ok (.iload_n 1, 1) := by decide +kernel
theorem d4_2 : decode jdk_29_method_65_code 2 = .ok (.if_icmp .lt 7, 3) := by decide +kernel
theorem d4_5 : decode jdk_29_method_65_code 5 = .ok (.iload_n 0, 1) := by decide +kernel
theorem d4_6 : decode jdk_29_method_65_code 6 = .ok (.goto 4, 3) := by decide +kernel
theorem d4_10 : decode jdk_29_method_65_code 10 = .ok (.ireturn, 1) := by decide +kernel
set_option maxRecDepth 65536 in
set_option maxHeartbeats 40000000 in
theorem rm4_0 (l : Launch) (Z : State) (a0 : Array Value) (hw : ∀ d ∈ tables_1, d.before a0 Z = true) (ws : List Jvm.Cond) (w : Nat → Addr) (h0 : Heap) (n0 : Nat) (Z0 : n0 ≤ h0.size) (hP : Pins Z h0 w) :
    MetFree l (⟨"java/lang/Math", "max", "(II)I"⟩ : MethodName) (head1 (Jvm.Cond.code (⟨"java/lang/Math", "max", "(II)I"⟩ : MethodName) jdk_29_method_65_code 2 (some .int) :: ws) ({ frames := 0, cells := 0, slots := 0, locals := 0 } : Room)) (fun a U => a = #[(.int (0 : Int32)), (.int (0 : Int32))] ∧ Z.Warmed39 U.vm ∧ U.heap = h0) (fun _ _ _ _ _ => True) (fun _ U o U' => ∃ v L, o = .returned v ∧ Qp (some (.int (0 : Int32))) h0 n0 v U'.heap L ∧ FrameEnd U o U' L ({ frames := 0, cells := 0, slots := 0, locals := 0 } : Room).cells ({ frames := 0, cells := 0, slots := 0, locals := 0 } : Room).slots) := by
  refine MetFree.of_bodySF (Jvm.Free.JP.mathPlain rfl (by decide +kernel)) hisR ?_
  intro p e s m args below meth c s₁ Bd hml0 hP0 hK
  obtain ⟨rfl, hZ, hh⟩ := hP0
  have hx := Bd.exec
  have hby := Bd.bytes
  have hml : c.maxLocals = 2 := hml0
  have hown : s.vm.findClass "java/lang/Math" = some m.cls := findClass_of_methodNamed Bd.named
  have hnm := (name_of_methodNamed Bd.named Bd.method).1
  have X0 : Stand p l e ({ frames := 0, cells := 0, slots := 0, locals := 0 } : Room) s m #[(.int (0 : Int32)), (.int (0 : Int32))] below meth c s₁ [] 0 0 := Stand.of_body Bd
  have e0 : s₁.heap = h0 := by rw [← hh, Bd.state]; rfl
  have N0 := Fr.nil n0
  suffices hgo : Go p e below (fun o U' => ∃ v L, o = .returned v ∧ Qp (some (.int (0 : Int32))) h0 n0 v U'.heap L ∧ FrameEnd s o U' L ({ frames := 0, cells := 0, slots := 0, locals := 0 } : Room).cells ({ frames := 0, cells := 0, slots := 0, locals := 0 } : Room).slots) s₁ (mkF m 0 #[.val (.int (0 : Int32)), .val (.int (0 : Int32))] []) by
    obtain ⟨s2, o, g1, g2, g3, g4⟩ := hgo
    refine ⟨s2, o, castTop (?_ : entryFrame m #[(.int (0 : Int32)), (.int (0 : Int32))] 2 = _) g1, g2, g3, g4⟩
    first | (simp [entryFrame, mkF, argsToLocals, Value.category]; done) | rfl
  refine Go.on (T' := s₁) (g' := (mkF m 1 #[.val (.int (0 : Int32)), .val (.int (0 : Int32))] [(.int (0 : Int32))])) (fun t k => XS.iloadN X0.here hx rfl (hb hby d4_0) rfl k) ?_
  refine Go.on (T' := s₁) (g' := (mkF m 2 #[.val (.int (0 : Int32)), .val (.int (0 : Int32))] [(.int (0 : Int32)), (.int (0 : Int32))])) (fun t k => XS.iloadN X0.here hx rfl (hb hby d4_1) rfl k) ?_
  refine Go.on (T' := s₁) (g' := (mkF m 5 #[.val (.int (0 : Int32)), .val (.int (0 : Int32))] [])) (fun t k => XS.icmpNo X0.here hx rfl (hb hby d4_2) rfl (flt (by decide : ¬ ((0 : Int32) < (0 : Int32)))).1 k) ?_
  refine Go.on (T' := s₁) (g' := (mkF m 6 #[.val (.int (0 : Int32)), .val (.int (0 : Int32))] [(.int (0 : Int32))])) (fun t k => XS.iloadN X0.here hx rfl (hb hby d4_5) rfl k) ?_
  refine Go.on (T' := s₁) (g' := (mkF m 10 #[.val (.int (0 : Int32)), .val (.int (0 : Int32))] [(.int (0 : Int32))])) (fun t k => XS.goto X0.here hx rfl (pc0 := 6) (pc' := 10) rfl (hb hby d4_6) (by decide) (by decide) k) ?_
  obtain ⟨fs, hr, hrun, hended, hW, hsame⟩ := X0.leave (v := some (.int (0 : Int32))) (fun h => by rw [Bd.returns] at h; cases h)
  exact ⟨_, _, retOut X0 hx Bd.returns rfl (Or.inl ⟨rfl, Or.inl rfl, _, rfl⟩) (hb hby d4_10) hr, hrun, hended, _, _, rfl, ⟨rfl, N0, e0⟩, ⟨_, rfl⟩, hW, hsame.mono (by decide) (by decide)⟩
theorem pd_3 : parseMethodDescriptor "(II)I" = some ⟨[.int, .int], some .int⟩ := by decide +kernel
theorem d1_8 : decode method_2_code 8 = .ok (.iload_n 0, 1) := by decide +kernel
theorem d1_9 : decode method_2_code 9 = .ok (.iconst 1, 1) := by decide +kernel
theorem d1_10 : decode method_2_code 10 = .ok (.if_icmp .ne 7, 3) := by decide +kernel
theorem d1_13 : decode method_2_code 13 = .ok (.getstatic 13, 3) := by decide +kernel
theorem d1_16 : decode method_2_code 16 = .ok (.areturn, 1) := by decide +kernel
set_option maxRecDepth 65536 in
set_option maxHeartbeats 40000000 in
theorem rm1_1 (l : Launch) (Z : State) (a0 : Array Value) (hw : ∀ d ∈ tables_1, d.before a0 Z = true) (ws : List Jvm.Cond) (w : Nat → Addr) (h0 : Heap) (n0 : Nat) (Z0 : n0 ≤ h0.size) (hP : Pins Z h0 w) :
    MetFree l (⟨"com/example/bagwise/bagwise/terms/TruthOrPinLaw", "pick", "(I)Lcom/example/bagwise/bagwise/terms/Truth;"⟩ : MethodName) (head1 (Jvm.Cond.code (⟨"com/example/bagwise/bagwise/terms/TruthOrPinLaw", "pick", "(I)Lcom/example/bagwise/bagwise/terms/Truth;"⟩ : MethodName) method_2_code 1 (some (.object "com/example/bagwise/bagwise/terms/Truth")) :: ws) ({ frames := 0, cells := 0, slots := 0, locals := 0 } : Room)) (fun a U => a = #[(.int (1 : Int32))] ∧ Z.Warmed39 U.vm ∧ U.heap = h0) (fun _ _ _ _ _ => True) (fun _ U o U' => ∃ v L, o = .returned v ∧ Qp (some (.ref (w 2))) h0 n0 v U'.heap L ∧ FrameEnd U o U' L ({ frames := 0, cells := 0, slots := 0, locals := 0 } : Room).cells ({ frames := 0, cells := 0, slots := 0, locals := 0 } : Room).slots) := by
  refine MetFree.of_bodySF (plainFor_of_name pn_0) hisR ?_
  intro p e s m args below meth c s₁ Bd hml0 hP0 hK
  obtain ⟨rfl, hZ, hh⟩ := hP0
  have hx := Bd.exec
  have hby := Bd.bytes
  have hml : c.maxLocals = 1 := hml0
  have hown : s.vm.findClass "com/example/bagwise/bagwise/terms/TruthOrPinLaw" = some m.cls := findClass_of_methodNamed Bd.named
  have hnm := (name_of_methodNamed Bd.named Bd.method).1
  have X0 : Stand p l e ({ frames := 0, cells := 0, slots := 0, locals := 0 } : Room) s m #[(.int (1 : Int32))] below meth c s₁ [] 0 0 := Stand.of_body Bd
  have e0 : s₁.heap = h0 := by rw [← hh, Bd.state]; rfl
  have N0 := Fr.nil n0
  suffices hgo : Go p e below (fun o U' => ∃ v L, o = .returned v ∧ Qp (some (.ref (w 2))) h0 n0 v U'.heap L ∧ FrameEnd s o U' L ({ frames := 0, cells := 0, slots := 0, locals := 0 } : Room).cells ({ frames := 0, cells := 0, slots := 0, locals := 0 } : Room).slots) s₁ (mkF m 0 #[.val (.int (1 : Int32))] []) by
    obtain ⟨s2, o, g1, g2, g3, g4⟩ := hgo
    refine ⟨s2, o, castTop (?_ : entryFrame m #[(.int (1 : Int32))] 1 = _) g1, g2, g3, g4⟩
    first | (simp [entryFrame, mkF, argsToLocals, Value.category]; done) | rfl
  refine Go.on (T' := s₁) (g' := (mkF m 1 #[.val (.int (1 : Int32))] [(.int (1 : Int32))])) (fun t k => XS.iloadN X0.here hx rfl (hb hby d1_0) rfl k) ?_
  refine Go.on (T' := s₁) (g' := (mkF m 8 #[.val (.int (1 : Int32))] [])) (fun t k => XS.ifYes X0.here hx rfl (pc0 := 1) (pc' := 8) rfl (hb hby d1_1) rfl ((if0 _ _).trans (feq (by decide : ¬ ((1 : Int32) = (0 : Int32)))).2) (by decide) (by decide) k) ?_
  refine Go.on (T' := s₁) (g' := (mkF m 9 #[.val (.int (1 : Int32))] [(.int (1 : Int32))])) (fun t k => XS.iloadN X0.here hx rfl (hb hby d1_8) rfl k) ?_
  refine Go.on (T' := s₁) (g' := (mkF m 10 #[.val (.int (1 : Int32))] [(.int (1 : Int32)), (.int (1 : Int32))])) (fun t k => XS.iconst X0.here hx rfl (hb hby d1_9) k) ?_
  refine Go.on (T' := s₁) (g' := (mkF m 13 #[.val (.int (1 : Int32))] [])) (fun t k => XS.icmpNo X0.here hx rfl (hb hby d1_10) rfl (teq (by decide : (1 : Int32) = (1 : Int32))).2 k) ?_
  obtain ⟨T24, X24, e24, st24⟩ := getS2 X0 hx hZ hown (host := "") (Or.inl (hw _ (List.mem_of_getElem? (i := 26) rfl))) Via.refl e0 (pin_2 hP) (g := (mkF m 13 #[.val (.int (1 : Int32))] [])) rfl (hb hby d1_13)
  refine Go.on (T' := T24) (g' := (mkF m 16 #[.val (.int (1 : Int32))] [(.ref (w 2))])) st24 ?_
  obtain ⟨fs, hr, hrun, hended, hW, hsame⟩ := X24.leave (v := some (.ref (w 2))) (fun h => by rw [Bd.returns] at h; cases h)
  exact ⟨_, _, retOut X24 hx Bd.returns rfl (Or.inr (Or.inr (Or.inr (Or.inr ⟨rfl, rfl, rfl⟩)))) (hb hby d1_16) hr, hrun, hended, _, _, rfl, ⟨rfl, N0, e24⟩, ⟨_, rfl⟩, hW, hsame.mono (by decide) (by decide)⟩
theorem d2_32 : decode prog_175_method_8_code 32 = .ok (.getstatic 10, 3) := by decide +kernel
theorem d2_35 : decode prog_175_method_8_code 35 = .ok (.goto 6, 3) := by decide +kernel
set_option maxRecDepth 65536 in
set_option maxHeartbeats 40000000 in
theorem rm2_1 (l : Launch) (Z : State) (a0 : Array Value) (hw : ∀ d ∈ tables_1, d.before a0 Z = true) (ws : List Jvm.Cond) (w : Nat → Addr) (h0 : Heap) (n0 : Nat) (Z0 : n0 ≤ h0.size) (hP : Pins Z h0 w) :
    MetFree l (⟨"com/example/bagwise/bagwise/terms/Truth", "or", "(Lcom/example/bagwise/bagwise/terms/Truth;)Lcom/example/bagwise/bagwise/terms/Truth;"⟩ : MethodName) (head1 (Jvm.Cond.code (⟨"com/example/bagwise/bagwise/terms/Truth", "or", "(Lcom/example/bagwise/bagwise/terms/Truth;)Lcom/example/bagwise/bagwise/terms/Truth;"⟩ : MethodName) prog_175_method_8_code 2 (some (.object "com/example/bagwise/bagwise/terms/Truth")) :: ws) ({ frames := 0, cells := 0, slots := 0, locals := 0 } : Room)) (fun a U => a = #[(.ref (w 0)), (.ref (w 2))] ∧ Z.Warmed39 U.vm ∧ U.heap = h0) (fun _ _ _ _ _ => True) (fun _ U o U' => ∃ v L, o = .returned v ∧ Qp (some (.ref (w 2))) h0 n0 v U'.heap L ∧ FrameEnd U o U' L ({ frames := 0, cells := 0, slots := 0, locals := 0 } : Room).cells ({ frames := 0, cells := 0, slots := 0, locals := 0 } : Room).slots) := by
  refine MetFree.of_bodySF (plainFor_of_name pn_1) hisR ?_
  intro p e s m args below meth c s₁ Bd hml0 hP0 hK
  obtain ⟨rfl, hZ, hh⟩ := hP0
  have hx := Bd.exec
  have hby := Bd.bytes
  have hml : c.maxLocals = 2 := hml0
  have hown : s.vm.findClass "com/example/bagwise/bagwise/terms/Truth" = some m.cls := findClass_of_methodNamed Bd.named
  have hnm := (name_of_methodNamed Bd.named Bd.method).1
  have X0 : Stand p l e ({ frames := 0, cells := 0, slots := 0, locals := 0 } : Room) s m #[(.ref (w 0)), (.ref (w 2))] below meth c s₁ [] 0 0 := Stand.of_body Bd
  have e0 : s₁.heap = h0 := by rw [← hh, Bd.state]; rfl
  have N0 := Fr.nil n0
  suffices hgo : Go p e below (fun o U' => ∃ v L, o = .returned v ∧ Qp (some (.ref (w 2))) h0 n0 v U'.heap L ∧ FrameEnd s o U' L ({ frames := 0, cells := 0, slots := 0, locals := 0 } : Room).cells ({ frames := 0, cells := 0, slots := 0, locals := 0 } : Room).slots) s₁ (mkF m 0 #[.val (.ref (w 0)), .val (.ref (w 2))] []) by
    obtain ⟨s2, o, g1, g2, g3, g4⟩ := hgo
    refine ⟨s2, o, castTop (?_ : entryFrame m #[(.ref (w 0)), (.ref (w 2))] 2 = _) g1, g2, g3, g4⟩
    first | (simp [entryFrame, mkF, argsToLocals, Value.category]; done) | rfl
  refine Go.on (T' := s₁) (g' := (mkF m 1 #[.val (.ref (w 0)), .val (.ref (w 2))] [(.ref (w 0))])) (fun t k => XS.aloadN X0.here hx rfl (hb hby d2_0) rfl rfl k) ?_
  obtain ⟨T31, X31, e31, st31⟩ := getS2 X0 hx hZ hown (host := "") (Or.inl (hw _ (List.mem_of_getElem? (i := 13) rfl))) Via.refl e0 (pin_1 hP) (g := (mkF m 1 #[.val (.ref (w 0)), .val (.ref (w 2))] [(.ref (w 0))])) rfl (hb hby d2_1)
  refine Go.on (T' := T31) (g' := (mkF m 4 #[.val (.ref (w 0)), .val (.ref (w 2))] [(.ref (w 1)), (.ref (w 0))])) st31 ?_
  refine Go.on (T' := T31) (g' := (mkF m 7 #[.val (.ref (w 0)), .val (.ref (w 2))] [])) (fun t k => Jvm.RoadKit.acmp (g := (mkF m 4 #[.val (.ref (w 0)), .val (.ref (w 2))] [(.ref (w 1)), (.ref (w 0))])) X31 hx rfl rfl rfl (pc0 := 4) (pc' := 7) (same := false) rfl (hb hby d2_4) rfl (decide_eq_false fun q => (own_ne (pin_6 hP) (pin_7 hP) (by decide)) (Value.ref.inj q)) (by decide) (by decide) k) ?_
  refine Go.on (T' := T31) (g' := (mkF m 8 #[.val (.ref (w 0)), .val (.ref (w 2))] [(.ref (w 2))])) (fun t k => XS.aloadN X31.here hx rfl (hb hby d2_7) rfl rfl k) ?_
  obtain ⟨T32, X32, e32, st32⟩ := getS2 X31 hx hZ hown (host := "") (Or.inl (hw _ (List.mem_of_getElem? (i := 13) rfl))) Via.refl e31 (pin_1 hP) (g := (mkF m 8 #[.val (.ref (w 0)), .val (.ref (w 2))] [(.ref (w 2))])) rfl (hb hby d2_8)
  refine Go.on (T' := T32) (g' := (mkF m 11 #[.val (.ref (w 0)), .val (.ref (w 2))] [(.ref (w 1)), (.ref (w 2))])) st32 ?_
  refine Go.on (T' := T32) (g' := (mkF m 18 #[.val (.ref (w 0)), .val (.ref (w 2))] [])) (fun t k => Jvm.RoadKit.acmp (g := (mkF m 11 #[.val (.ref (w 0)), .val (.ref (w 2))] [(.ref (w 1)), (.ref (w 2))])) X32 hx rfl rfl rfl (pc0 := 11) (pc' := 18) (same := false) rfl (hb hby d2_11) rfl (decide_eq_false fun q => (own_ne (pin_8 hP) (pin_7 hP) (by decide)) (Value.ref.inj q)) (by decide) (by decide) k) ?_
  refine Go.on (T' := T32) (g' := (mkF m 19 #[.val (.ref (w 0)), .val (.ref (w 2))] [(.ref (w 0))])) (fun t k => XS.aloadN X32.here hx rfl (hb hby d2_18) rfl rfl k) ?_
  obtain ⟨T33, X33, e33, st33⟩ := getS2 X32 hx hZ hown (host := "") (Or.inl (hw _ (List.mem_of_getElem? (i := 15) rfl))) Via.refl e32 (pin_2 hP) (g := (mkF m 19 #[.val (.ref (w 0)), .val (.ref (w 2))] [(.ref (w 0))])) rfl (hb hby d2_19)
  refine Go.on (T' := T33) (g' := (mkF m 22 #[.val (.ref (w 0)), .val (.ref (w 2))] [(.ref (w 2)), (.ref (w 0))])) st33 ?_
  refine Go.on (T' := T33) (g' := (mkF m 25 #[.val (.ref (w 0)), .val (.ref (w 2))] [])) (fun t k => Jvm.RoadKit.acmp (g := (mkF m 22 #[.val (.ref (w 0)), .val (.ref (w 2))] [(.ref (w 2)), (.ref (w 0))])) X33 hx rfl rfl rfl (pc0 := 22) (pc' := 25) (same := false) rfl (hb hby d2_22) rfl (decide_eq_false fun q => (own_ne (pin_6 hP) (pin_8 hP) (by decide)) (Value.ref.inj q)) (by decide) (by decide) k) ?_
  refine Go.on (T' := T33) (g' := (mkF m 26 #[.val (.ref (w 0)), .val (.ref (w 2))] [(.ref (w 2))])) (fun t k => XS.aloadN X33.here hx rfl (hb hby d2_25) rfl rfl k) ?_
  obtain ⟨T34, X34, e34, st34⟩ := getS2 X33 hx hZ hown (host := "") (Or.inl (hw _ (List.mem_of_getElem? (i := 15) rfl))) Via.refl e33 (pin_2 hP) (g := (mkF m 26 #[.val (.ref (w 0)), .val (.ref (w 2))] [(.ref (w 2))])) rfl (hb hby d2_26)
  refine Go.on (T' := T34) (g' := (mkF m 29 #[.val (.ref (w 0)), .val (.ref (w 2))] [(.ref (w 2)), (.ref (w 2))])) st34 ?_
  refine Go.on (T' := T34) (g' := (mkF m 32 #[.val (.ref (w 0)), .val (.ref (w 2))] [])) (fun t k => Jvm.RoadKit.acmp (g := (mkF m 29 #[.val (.ref (w 0)), .val (.ref (w 2))] [(.ref (w 2)), (.ref (w 2))])) X34 hx rfl rfl rfl (pc0 := 29) (pc' := 32) (same := true) rfl (hb hby d2_29) rfl (decide_eq_true rfl) (by decide) (by decide) k) ?_
  obtain ⟨T35, X35, e35, st35⟩ := getS2 X34 hx hZ hown (host := "") (Or.inl (hw _ (List.mem_of_getElem? (i := 15) rfl))) Via.refl e34 (pin_2 hP) (g := (mkF m 32 #[.val (.ref (w 0)), .val (.ref (w 2))] [])) rfl (hb hby d2_32)
  refine Go.on (T' := T35) (g' := (mkF m 35 #[.val (.ref (w 0)), .val (.ref (w 2))] [(.ref (w 2))])) st35 ?_
  refine Go.on (T' := T35) (g' := (mkF m 41 #[.val (.ref (w 0)), .val (.ref (w 2))] [(.ref (w 2))])) (fun t k => XS.goto X35.here hx rfl (pc0 := 35) (pc' := 41) rfl (hb hby d2_35) (by decide) (by decide) k) ?_
  obtain ⟨fs, hr, hrun, hended, hW, hsame⟩ := X35.leave (v := some (.ref (w 2))) (fun h => by rw [Bd.returns] at h; cases h)
  exact ⟨_, _, retOut X35 hx Bd.returns rfl (Or.inr (Or.inr (Or.inr (Or.inr ⟨rfl, rfl, rfl⟩)))) (hb hby d2_41) hr, hrun, hended, _, _, rfl, ⟨rfl, N0, e35⟩, ⟨_, rfl⟩, hW, hsame.mono (by decide) (by decide)⟩
theorem d3_9 : decode method_3_code 9 = .ok (.aload_n 0, 1) := by decide +kernel
theorem d3_10 : decode method_3_code 10 = .ok (.getstatic 13, 3) := by decide +kernel
theorem d3_13 : decode method_3_code 13 = .ok (.if_acmp .ne 5, 3) := by decide +kernel
theorem d3_16 : decode method_3_code 16 = .ok (.iconst 1, 1) := by decide +kernel
theorem d3_17 : decode method_3_code 17 = .ok (.ireturn, 1) := by decide +kernel
set_option maxRecDepth 65536 in
set_option maxHeartbeats 40000000 in
theorem rm3_1 (l : Launch) (Z : State) (a0 : Array Value) (hw : ∀ d ∈ tables_1, d.before a0 Z = true) (ws : List Jvm.Cond) (w : Nat → Addr) (h0 : Heap) (n0 : Nat) (Z0 : n0 ≤ h0.size) (hP : Pins Z h0 w) :
    MetFree l (⟨"com/example/bagwise/bagwise/terms/TruthOrPinLaw", "rank", "(Lcom/example/bagwise/bagwise/terms/Truth;)I"⟩ : MethodName) (head1 (Jvm.Cond.code (⟨"com/example/bagwise/bagwise/terms/TruthOrPinLaw", "rank", "(Lcom/example/bagwise/bagwise/terms/Truth;)I"⟩ : MethodName) method_3_code 1 (some .int) :: ws) ({ frames := 0, cells := 0, slots := 0, locals := 0 } : Room)) (fun a U => a = #[(.ref (w 2))] ∧ Z.Warmed39 U.vm ∧ U.heap = h0) (fun _ _ _ _ _ => True) (fun _ U o U' => ∃ v L, o = .returned v ∧ Qp (some (.int (1 : Int32))) h0 n0 v U'.heap L ∧ FrameEnd U o U' L ({ frames := 0, cells := 0, slots := 0, locals := 0 } : Room).cells ({ frames := 0, cells := 0, slots := 0, locals := 0 } : Room).slots) := by
  refine MetFree.of_bodySF (plainFor_of_name pn_0) hisR ?_
  intro p e s m args below meth c s₁ Bd hml0 hP0 hK
  obtain ⟨rfl, hZ, hh⟩ := hP0
  have hx := Bd.exec
  have hby := Bd.bytes
  have hml : c.maxLocals = 1 := hml0
  have hown : s.vm.findClass "com/example/bagwise/bagwise/terms/TruthOrPinLaw" = some m.cls := findClass_of_methodNamed Bd.named
  have hnm := (name_of_methodNamed Bd.named Bd.method).1
  have X0 : Stand p l e ({ frames := 0, cells := 0, slots := 0, locals := 0 } : Room) s m #[(.ref (w 2))] below meth c s₁ [] 0 0 := Stand.of_body Bd
  have e0 : s₁.heap = h0 := by rw [← hh, Bd.state]; rfl
  have N0 := Fr.nil n0
  suffices hgo : Go p e below (fun o U' => ∃ v L, o = .returned v ∧ Qp (some (.int (1 : Int32))) h0 n0 v U'.heap L ∧ FrameEnd s o U' L ({ frames := 0, cells := 0, slots := 0, locals := 0 } : Room).cells ({ frames := 0, cells := 0, slots := 0, locals := 0 } : Room).slots) s₁ (mkF m 0 #[.val (.ref (w 2))] []) by
    obtain ⟨s2, o, g1, g2, g3, g4⟩ := hgo
    refine ⟨s2, o, castTop (?_ : entryFrame m #[(.ref (w 2))] 1 = _) g1, g2, g3, g4⟩
    first | (simp [entryFrame, mkF, argsToLocals, Value.category]; done) | rfl
  refine Go.on (T' := s₁) (g' := (mkF m 1 #[.val (.ref (w 2))] [(.ref (w 2))])) (fun t k => XS.aloadN X0.here hx rfl (hb hby d3_0) rfl rfl k) ?_
  obtain ⟨T39, X39, e39, st39⟩ := getS2 X0 hx hZ hown (host := "") (Or.inl (hw _ (List.mem_of_getElem? (i := 5) rfl))) Via.refl e0 (pin_0 hP) (g := (mkF m 1 #[.val (.ref (w 2))] [(.ref (w 2))])) rfl (hb hby d3_1)
  refine Go.on (T' := T39) (g' := (mkF m 4 #[.val (.ref (w 2))] [(.ref (w 0)), (.ref (w 2))])) st39 ?_
  refine Go.on (T' := T39) (g' := (mkF m 9 #[.val (.ref (w 2))] [])) (fun t k => Jvm.RoadKit.acmp (g := (mkF m 4 #[.val (.ref (w 2))] [(.ref (w 0)), (.ref (w 2))])) X39 hx rfl rfl rfl (pc0 := 4) (pc' := 9) (same := false) rfl (hb hby d3_4) rfl (decide_eq_false fun q => (own_ne (pin_8 hP) (pin_6 hP) (by decide)) (Value.ref.inj q)) (by decide) (by decide) k) ?_
  refine Go.on (T' := T39) (g' := (mkF m 10 #[.val (.ref (w 2))] [(.ref (w 2))])) (fun t k => XS.aloadN X39.here hx rfl (hb hby d3_9) rfl rfl k) ?_
  obtain ⟨T40, X40, e40, st40⟩ := getS2 X39 hx hZ hown (host := "") (Or.inl (hw _ (List.mem_of_getElem? (i := 26) rfl))) Via.refl e39 (pin_2 hP) (g := (mkF m 10 #[.val (.ref (w 2))] [(.ref (w 2))])) rfl (hb hby d3_10)
  refine Go.on (T' := T40) (g' := (mkF m 13 #[.val (.ref (w 2))] [(.ref (w 2)), (.ref (w 2))])) st40 ?_
  refine Go.on (T' := T40) (g' := (mkF m 16 #[.val (.ref (w 2))] [])) (fun t k => Jvm.RoadKit.acmp (g := (mkF m 13 #[.val (.ref (w 2))] [(.ref (w 2)), (.ref (w 2))])) X40 hx rfl rfl rfl (pc0 := 13) (pc' := 16) (same := true) rfl (hb hby d3_13) rfl (decide_eq_true rfl) (by decide) (by decide) k) ?_
  refine Go.on (T' := T40) (g' := (mkF m 17 #[.val (.ref (w 2))] [(.int (1 : Int32))])) (fun t k => XS.iconst X40.here hx rfl (hb hby d3_16) k) ?_
  obtain ⟨fs, hr, hrun, hended, hW, hsame⟩ := X40.leave (v := some (.int (1 : Int32))) (fun h => by rw [Bd.returns] at h; cases h)
  exact ⟨_, _, retOut X40 hx Bd.returns rfl (Or.inl ⟨rfl, Or.inl rfl, _, rfl⟩) (hb hby d3_17) hr, hrun, hended, _, _, rfl, ⟨rfl, N0, e40⟩, ⟨_, rfl⟩, hW, hsame.mono (by decide) (by decide)⟩
theorem d4_9 : decode jdk_29_method_65_code 9 = .ok (.iload_n 1, 1) := by decide +kernel
set_option maxRecDepth 65536 in
set_option maxHeartbeats 40000000 in
theorem rm4_1 (l : Launch) (Z : State) (a0 : Array Value) (hw : ∀ d ∈ tables_1, d.before a0 Z = true) (ws : List Jvm.Cond) (w : Nat → Addr) (h0 : Heap) (n0 : Nat) (Z0 : n0 ≤ h0.size) (hP : Pins Z h0 w) :
    MetFree l (⟨"java/lang/Math", "max", "(II)I"⟩ : MethodName) (head1 (Jvm.Cond.code (⟨"java/lang/Math", "max", "(II)I"⟩ : MethodName) jdk_29_method_65_code 2 (some .int) :: ws) ({ frames := 0, cells := 0, slots := 0, locals := 0 } : Room)) (fun a U => a = #[(.int (0 : Int32)), (.int (1 : Int32))] ∧ Z.Warmed39 U.vm ∧ U.heap = h0) (fun _ _ _ _ _ => True) (fun _ U o U' => ∃ v L, o = .returned v ∧ Qp (some (.int (1 : Int32))) h0 n0 v U'.heap L ∧ FrameEnd U o U' L ({ frames := 0, cells := 0, slots := 0, locals := 0 } : Room).cells ({ frames := 0, cells := 0, slots := 0, locals := 0 } : Room).slots) := by
  refine MetFree.of_bodySF (Jvm.Free.JP.mathPlain rfl (by decide +kernel)) hisR ?_
  intro p e s m args below meth c s₁ Bd hml0 hP0 hK
  obtain ⟨rfl, hZ, hh⟩ := hP0
  have hx := Bd.exec
  have hby := Bd.bytes
  have hml : c.maxLocals = 2 := hml0
  have hown : s.vm.findClass "java/lang/Math" = some m.cls := findClass_of_methodNamed Bd.named
  have hnm := (name_of_methodNamed Bd.named Bd.method).1
  have X0 : Stand p l e ({ frames := 0, cells := 0, slots := 0, locals := 0 } : Room) s m #[(.int (0 : Int32)), (.int (1 : Int32))] below meth c s₁ [] 0 0 := Stand.of_body Bd
  have e0 : s₁.heap = h0 := by rw [← hh, Bd.state]; rfl
  have N0 := Fr.nil n0
  suffices hgo : Go p e below (fun o U' => ∃ v L, o = .returned v ∧ Qp (some (.int (1 : Int32))) h0 n0 v U'.heap L ∧ FrameEnd s o U' L ({ frames := 0, cells := 0, slots := 0, locals := 0 } : Room).cells ({ frames := 0, cells := 0, slots := 0, locals := 0 } : Room).slots) s₁ (mkF m 0 #[.val (.int (0 : Int32)), .val (.int (1 : Int32))] []) by
    obtain ⟨s2, o, g1, g2, g3, g4⟩ := hgo
    refine ⟨s2, o, castTop (?_ : entryFrame m #[(.int (0 : Int32)), (.int (1 : Int32))] 2 = _) g1, g2, g3, g4⟩
    first | (simp [entryFrame, mkF, argsToLocals, Value.category]; done) | rfl
  refine Go.on (T' := s₁) (g' := (mkF m 1 #[.val (.int (0 : Int32)), .val (.int (1 : Int32))] [(.int (0 : Int32))])) (fun t k => XS.iloadN X0.here hx rfl (hb hby d4_0) rfl k) ?_
  refine Go.on (T' := s₁) (g' := (mkF m 2 #[.val (.int (0 : Int32)), .val (.int (1 : Int32))] [(.int (1 : Int32)), (.int (0 : Int32))])) (fun t k => XS.iloadN X0.here hx rfl (hb hby d4_1) rfl k) ?_
  refine Go.on (T' := s₁) (g' := (mkF m 9 #[.val (.int (0 : Int32)), .val (.int (1 : Int32))] [])) (fun t k => XS.icmpYes X0.here hx rfl (pc0 := 2) (pc' := 9) rfl (hb hby d4_2) rfl (tlt (by decide : (0 : Int32) < (1 : Int32))).1 (by decide) (by decide) k) ?_
  refine Go.on (T' := s₁) (g' := (mkF m 10 #[.val (.int (0 : Int32)), .val (.int (1 : Int32))] [(.int (1 : Int32))])) (fun t k => XS.iloadN X0.here hx rfl (hb hby d4_9) rfl k) ?_
  obtain ⟨fs, hr, hrun, hended, hW, hsame⟩ := X0.leave (v := some (.int (1 : Int32))) (fun h => by rw [Bd.returns] at h; cases h)
  exact ⟨_, _, retOut X0 hx Bd.returns rfl (Or.inl ⟨rfl, Or.inl rfl, _, rfl⟩) (hb hby d4_10) hr, hrun, hended, _, _, rfl, ⟨rfl, N0, e0⟩, ⟨_, rfl⟩, hW, hsame.mono (by decide) (by decide)⟩
theorem d1_17 : decode method_2_code 17 = .ok (.getstatic 16, 3) := by decide +kernel
theorem d1_20 : decode method_2_code 20 = .ok (.areturn, 1) := by decide +kernel
set_option maxRecDepth 65536 in
set_option maxHeartbeats 40000000 in
theorem rm1_2 (l : Launch) (Z : State) (a0 : Array Value) (hw : ∀ d ∈ tables_1, d.before a0 Z = true) (ws : List Jvm.Cond) (w : Nat → Addr) (h0 : Heap) (n0 : Nat) (Z0 : n0 ≤ h0.size) (hP : Pins Z h0 w) :
    MetFree l (⟨"com/example/bagwise/bagwise/terms/TruthOrPinLaw", "pick", "(I)Lcom/example/bagwise/bagwise/terms/Truth;"⟩ : MethodName) (head1 (Jvm.Cond.code (⟨"com/example/bagwise/bagwise/terms/TruthOrPinLaw", "pick", "(I)Lcom/example/bagwise/bagwise/terms/Truth;"⟩ : MethodName) method_2_code 1 (some (.object "com/example/bagwise/bagwise/terms/Truth")) :: ws) ({ frames := 0, cells := 0, slots := 0, locals := 0 } : Room)) (fun a U => a = #[(.int (2 : Int32))] ∧ Z.Warmed39 U.vm ∧ U.heap = h0) (fun _ _ _ _ _ => True) (fun _ U o U' => ∃ v L, o = .returned v ∧ Qp (some (.ref (w 1))) h0 n0 v U'.heap L ∧ FrameEnd U o U' L ({ frames := 0, cells := 0, slots := 0, locals := 0 } : Room).cells ({ frames := 0, cells := 0, slots := 0, locals := 0 } : Room).slots) := by
  refine MetFree.of_bodySF (plainFor_of_name pn_0) hisR ?_
  intro p e s m args below meth c s₁ Bd hml0 hP0 hK
  obtain ⟨rfl, hZ, hh⟩ := hP0
  have hx := Bd.exec
  have hby := Bd.bytes
  have hml : c.maxLocals = 1 := hml0
  have hown : s.vm.findClass "com/example/bagwise/bagwise/terms/TruthOrPinLaw" = some m.cls := findClass_of_methodNamed Bd.named
  have hnm := (name_of_methodNamed Bd.named Bd.method).1
  have X0 : Stand p l e ({ frames := 0, cells := 0, slots := 0, locals := 0 } : Room) s m #[(.int (2 : Int32))] below meth c s₁ [] 0 0 := Stand.of_body Bd
  have e0 : s₁.heap = h0 := by rw [← hh, Bd.state]; rfl
  have N0 := Fr.nil n0
  suffices hgo : Go p e below (fun o U' => ∃ v L, o = .returned v ∧ Qp (some (.ref (w 1))) h0 n0 v U'.heap L ∧ FrameEnd s o U' L ({ frames := 0, cells := 0, slots := 0, locals := 0 } : Room).cells ({ frames := 0, cells := 0, slots := 0, locals := 0 } : Room).slots) s₁ (mkF m 0 #[.val (.int (2 : Int32))] []) by
    obtain ⟨s2, o, g1, g2, g3, g4⟩ := hgo
    refine ⟨s2, o, castTop (?_ : entryFrame m #[(.int (2 : Int32))] 1 = _) g1, g2, g3, g4⟩
    first | (simp [entryFrame, mkF, argsToLocals, Value.category]; done) | rfl
  refine Go.on (T' := s₁) (g' := (mkF m 1 #[.val (.int (2 : Int32))] [(.int (2 : Int32))])) (fun t k => XS.iloadN X0.here hx rfl (hb hby d1_0) rfl k) ?_
  refine Go.on (T' := s₁) (g' := (mkF m 8 #[.val (.int (2 : Int32))] [])) (fun t k => XS.ifYes X0.here hx rfl (pc0 := 1) (pc' := 8) rfl (hb hby d1_1) rfl ((if0 _ _).trans (feq (by decide : ¬ ((2 : Int32) = (0 : Int32)))).2) (by decide) (by decide) k) ?_
  refine Go.on (T' := s₁) (g' := (mkF m 9 #[.val (.int (2 : Int32))] [(.int (2 : Int32))])) (fun t k => XS.iloadN X0.here hx rfl (hb hby d1_8) rfl k) ?_
  refine Go.on (T' := s₁) (g' := (mkF m 10 #[.val (.int (2 : Int32))] [(.int (1 : Int32)), (.int (2 : Int32))])) (fun t k => XS.iconst X0.here hx rfl (hb hby d1_9) k) ?_
  refine Go.on (T' := s₁) (g' := (mkF m 17 #[.val (.int (2 : Int32))] [])) (fun t k => XS.icmpYes X0.here hx rfl (pc0 := 10) (pc' := 17) rfl (hb hby d1_10) rfl (feq (by decide : ¬ ((2 : Int32) = (1 : Int32)))).2 (by decide) (by decide) k) ?_
  obtain ⟨T45, X45, e45, st45⟩ := getS2 X0 hx hZ hown (host := "") (Or.inl (hw _ (List.mem_of_getElem? (i := 25) rfl))) Via.refl e0 (pin_1 hP) (g := (mkF m 17 #[.val (.int (2 : Int32))] [])) rfl (hb hby d1_17)
  refine Go.on (T' := T45) (g' := (mkF m 20 #[.val (.int (2 : Int32))] [(.ref (w 1))])) st45 ?_
  obtain ⟨fs, hr, hrun, hended, hW, hsame⟩ := X45.leave (v := some (.ref (w 1))) (fun h => by rw [Bd.returns] at h; cases h)
  exact ⟨_, _, retOut X45 hx Bd.returns rfl (Or.inr (Or.inr (Or.inr (Or.inr ⟨rfl, rfl, rfl⟩)))) (hb hby d1_20) hr, hrun, hended, _, _, rfl, ⟨rfl, N0, e45⟩, ⟨_, rfl⟩, hW, hsame.mono (by decide) (by decide)⟩
theorem d2_14 : decode prog_175_method_8_code 14 = .ok (.getstatic 3, 3) := by decide +kernel
theorem d2_17 : decode prog_175_method_8_code 17 = .ok (.areturn, 1) := by decide +kernel
set_option maxRecDepth 65536 in
set_option maxHeartbeats 40000000 in
theorem rm2_2 (l : Launch) (Z : State) (a0 : Array Value) (hw : ∀ d ∈ tables_1, d.before a0 Z = true) (ws : List Jvm.Cond) (w : Nat → Addr) (h0 : Heap) (n0 : Nat) (Z0 : n0 ≤ h0.size) (hP : Pins Z h0 w) :
    MetFree l (⟨"com/example/bagwise/bagwise/terms/Truth", "or", "(Lcom/example/bagwise/bagwise/terms/Truth;)Lcom/example/bagwise/bagwise/terms/Truth;"⟩ : MethodName) (head1 (Jvm.Cond.code (⟨"com/example/bagwise/bagwise/terms/Truth", "or", "(Lcom/example/bagwise/bagwise/terms/Truth;)Lcom/example/bagwise/bagwise/terms/Truth;"⟩ : MethodName) prog_175_method_8_code 2 (some (.object "com/example/bagwise/bagwise/terms/Truth")) :: ws) ({ frames := 0, cells := 0, slots := 0, locals := 0 } : Room)) (fun a U => a = #[(.ref (w 0)), (.ref (w 1))] ∧ Z.Warmed39 U.vm ∧ U.heap = h0) (fun _ _ _ _ _ => True) (fun _ U o U' => ∃ v L, o = .returned v ∧ Qp (some (.ref (w 1))) h0 n0 v U'.heap L ∧ FrameEnd U o U' L ({ frames := 0, cells := 0, slots := 0, locals := 0 } : Room).cells ({ frames := 0, cells := 0, slots := 0, locals := 0 } : Room).slots) := by
  refine MetFree.of_bodySF (plainFor_of_name pn_1) hisR ?_
  intro p e s m args below meth c s₁ Bd hml0 hP0 hK
  obtain ⟨rfl, hZ, hh⟩ := hP0
  have hx := Bd.exec
  have hby := Bd.bytes
  have hml : c.maxLocals = 2 := hml0
  have hown : s.vm.findClass "com/example/bagwise/bagwise/terms/Truth" = some m.cls := findClass_of_methodNamed Bd.named
  have hnm := (name_of_methodNamed Bd.named Bd.method).1
  have X0 : Stand p l e ({ frames := 0, cells := 0, slots := 0, locals := 0 } : Room) s m #[(.ref (w 0)), (.ref (w 1))] below meth c s₁ [] 0 0 := Stand.of_body Bd
  have e0 : s₁.heap = h0 := by rw [← hh, Bd.state]; rfl
  have N0 := Fr.nil n0
  suffices hgo : Go p e below (fun o U' => ∃ v L, o = .returned v ∧ Qp (some (.ref (w 1))) h0 n0 v U'.heap L ∧ FrameEnd s o U' L ({ frames := 0, cells := 0, slots := 0, locals := 0 } : Room).cells ({ frames := 0, cells := 0, slots := 0, locals := 0 } : Room).slots) s₁ (mkF m 0 #[.val (.ref (w 0)), .val (.ref (w 1))] []) by
    obtain ⟨s2, o, g1, g2, g3, g4⟩ := hgo
    refine ⟨s2, o, castTop (?_ : entryFrame m #[(.ref (w 0)), (.ref (w 1))] 2 = _) g1, g2, g3, g4⟩
    first | (simp [entryFrame, mkF, argsToLocals, Value.category]; done) | rfl
  refine Go.on (T' := s₁) (g' := (mkF m 1 #[.val (.ref (w 0)), .val (.ref (w 1))] [(.ref (w 0))])) (fun t k => XS.aloadN X0.here hx rfl (hb hby d2_0) rfl rfl k) ?_
  obtain ⟨T50, X50, e50, st50⟩ := getS2 X0 hx hZ hown (host := "") (Or.inl (hw _ (List.mem_of_getElem? (i := 13) rfl))) Via.refl e0 (pin_1 hP) (g := (mkF m 1 #[.val (.ref (w 0)), .val (.ref (w 1))] [(.ref (w 0))])) rfl (hb hby d2_1)
  refine Go.on (T' := T50) (g' := (mkF m 4 #[.val (.ref (w 0)), .val (.ref (w 1))] [(.ref (w 1)), (.ref (w 0))])) st50 ?_
  refine Go.on (T' := T50) (g' := (mkF m 7 #[.val (.ref (w 0)), .val (.ref (w 1))] [])) (fun t k => Jvm.RoadKit.acmp (g := (mkF m 4 #[.val (.ref (w 0)), .val (.ref (w 1))] [(.ref (w 1)), (.ref (w 0))])) X50 hx rfl rfl rfl (pc0 := 4) (pc' := 7) (same := false) rfl (hb hby d2_4) rfl (decide_eq_false fun q => (own_ne (pin_6 hP) (pin_7 hP) (by decide)) (Value.ref.inj q)) (by decide) (by decide) k) ?_
  refine Go.on (T' := T50) (g' := (mkF m 8 #[.val (.ref (w 0)), .val (.ref (w 1))] [(.ref (w 1))])) (fun t k => XS.aloadN X50.here hx rfl (hb hby d2_7) rfl rfl k) ?_
  obtain ⟨T51, X51, e51, st51⟩ := getS2 X50 hx hZ hown (host := "") (Or.inl (hw _ (List.mem_of_getElem? (i := 13) rfl))) Via.refl e50 (pin_1 hP) (g := (mkF m 8 #[.val (.ref (w 0)), .val (.ref (w 1))] [(.ref (w 1))])) rfl (hb hby d2_8)
  refine Go.on (T' := T51) (g' := (mkF m 11 #[.val (.ref (w 0)), .val (.ref (w 1))] [(.ref (w 1)), (.ref (w 1))])) st51 ?_
  refine Go.on (T' := T51) (g' := (mkF m 14 #[.val (.ref (w 0)), .val (.ref (w 1))] [])) (fun t k => Jvm.RoadKit.acmp (g := (mkF m 11 #[.val (.ref (w 0)), .val (.ref (w 1))] [(.ref (w 1)), (.ref (w 1))])) X51 hx rfl rfl rfl (pc0 := 11) (pc' := 14) (same := true) rfl (hb hby d2_11) rfl (decide_eq_true rfl) (by decide) (by decide) k) ?_
  obtain ⟨T52, X52, e52, st52⟩ := getS2 X51 hx hZ hown (host := "") (Or.inl (hw _ (List.mem_of_getElem? (i := 13) rfl))) Via.refl e51 (pin_1 hP) (g := (mkF m 14 #[.val (.ref (w 0)), .val (.ref (w 1))] [])) rfl (hb hby d2_14)
  refine Go.on (T' := T52) (g' := (mkF m 17 #[.val (.ref (w 0)), .val (.ref (w 1))] [(.ref (w 1))])) st52 ?_
  obtain ⟨fs, hr, hrun, hended, hW, hsame⟩ := X52.leave (v := some (.ref (w 1))) (fun h => by rw [Bd.returns] at h; cases h)
  exact ⟨_, _, retOut X52 hx Bd.returns rfl (Or.inr (Or.inr (Or.inr (Or.inr ⟨rfl, rfl, rfl⟩)))) (hb hby d2_17) hr, hrun, hended, _, _, rfl, ⟨rfl, N0, e52⟩, ⟨_, rfl⟩, hW, hsame.mono (by decide) (by decide)⟩
theorem d3_18 : decode method_3_code 18 = .ok (.aload_n 0, 1) := by decide +kernel
theorem d3_19 : decode method_3_code 19 = .ok (.getstatic 16, 3) := by decide +kernel
theorem d3_22 : decode method_3_code 22 = .ok (.if_acmp .ne 5, 3) := by decide +kernel
theorem d3_25 : decode method_3_code 25 = .ok (.iconst 2, 1) := by decide +kernel
theorem d3_26 : decode method_3_code 26 = .ok (.ireturn, 1) := by decide +kernel
set_option maxRecDepth 65536 in
set_option maxHeartbeats 40000000 in
theorem rm3_2 (l : Launch) (Z : State) (a0 : Array Value) (hw : ∀ d ∈ tables_1, d.before a0 Z = true) (ws : List Jvm.Cond) (w : Nat → Addr) (h0 : Heap) (n0 : Nat) (Z0 : n0 ≤ h0.size) (hP : Pins Z h0 w) :
    MetFree l (⟨"com/example/bagwise/bagwise/terms/TruthOrPinLaw", "rank", "(Lcom/example/bagwise/bagwise/terms/Truth;)I"⟩ : MethodName) (head1 (Jvm.Cond.code (⟨"com/example/bagwise/bagwise/terms/TruthOrPinLaw", "rank", "(Lcom/example/bagwise/bagwise/terms/Truth;)I"⟩ : MethodName) method_3_code 1 (some .int) :: ws) ({ frames := 0, cells := 0, slots := 0, locals := 0 } : Room)) (fun a U => a = #[(.ref (w 1))] ∧ Z.Warmed39 U.vm ∧ U.heap = h0) (fun _ _ _ _ _ => True) (fun _ U o U' => ∃ v L, o = .returned v ∧ Qp (some (.int (2 : Int32))) h0 n0 v U'.heap L ∧ FrameEnd U o U' L ({ frames := 0, cells := 0, slots := 0, locals := 0 } : Room).cells ({ frames := 0, cells := 0, slots := 0, locals := 0 } : Room).slots) := by
  refine MetFree.of_bodySF (plainFor_of_name pn_0) hisR ?_
  intro p e s m args below meth c s₁ Bd hml0 hP0 hK
  obtain ⟨rfl, hZ, hh⟩ := hP0
  have hx := Bd.exec
  have hby := Bd.bytes
  have hml : c.maxLocals = 1 := hml0
  have hown : s.vm.findClass "com/example/bagwise/bagwise/terms/TruthOrPinLaw" = some m.cls := findClass_of_methodNamed Bd.named
  have hnm := (name_of_methodNamed Bd.named Bd.method).1
  have X0 : Stand p l e ({ frames := 0, cells := 0, slots := 0, locals := 0 } : Room) s m #[(.ref (w 1))] below meth c s₁ [] 0 0 := Stand.of_body Bd
  have e0 : s₁.heap = h0 := by rw [← hh, Bd.state]; rfl
  have N0 := Fr.nil n0
  suffices hgo : Go p e below (fun o U' => ∃ v L, o = .returned v ∧ Qp (some (.int (2 : Int32))) h0 n0 v U'.heap L ∧ FrameEnd s o U' L ({ frames := 0, cells := 0, slots := 0, locals := 0 } : Room).cells ({ frames := 0, cells := 0, slots := 0, locals := 0 } : Room).slots) s₁ (mkF m 0 #[.val (.ref (w 1))] []) by
    obtain ⟨s2, o, g1, g2, g3, g4⟩ := hgo
    refine ⟨s2, o, castTop (?_ : entryFrame m #[(.ref (w 1))] 1 = _) g1, g2, g3, g4⟩
    first | (simp [entryFrame, mkF, argsToLocals, Value.category]; done) | rfl
  refine Go.on (T' := s₁) (g' := (mkF m 1 #[.val (.ref (w 1))] [(.ref (w 1))])) (fun t k => XS.aloadN X0.here hx rfl (hb hby d3_0) rfl rfl k) ?_
  obtain ⟨T57, X57, e57, st57⟩ := getS2 X0 hx hZ hown (host := "") (Or.inl (hw _ (List.mem_of_getElem? (i := 5) rfl))) Via.refl e0 (pin_0 hP) (g := (mkF m 1 #[.val (.ref (w 1))] [(.ref (w 1))])) rfl (hb hby d3_1)
  refine Go.on (T' := T57) (g' := (mkF m 4 #[.val (.ref (w 1))] [(.ref (w 0)), (.ref (w 1))])) st57 ?_
  refine Go.on (T' := T57) (g' := (mkF m 9 #[.val (.ref (w 1))] [])) (fun t k => Jvm.RoadKit.acmp (g := (mkF m 4 #[.val (.ref (w 1))] [(.ref (w 0)), (.ref (w 1))])) X57 hx rfl rfl rfl (pc0 := 4) (pc' := 9) (same := false) rfl (hb hby d3_4) rfl (decide_eq_false fun q => (own_ne (pin_7 hP) (pin_6 hP) (by decide)) (Value.ref.inj q)) (by decide) (by decide) k) ?_
  refine Go.on (T' := T57) (g' := (mkF m 10 #[.val (.ref (w 1))] [(.ref (w 1))])) (fun t k => XS.aloadN X57.here hx rfl (hb hby d3_9) rfl rfl k) ?_
  obtain ⟨T58, X58, e58, st58⟩ := getS2 X57 hx hZ hown (host := "") (Or.inl (hw _ (List.mem_of_getElem? (i := 26) rfl))) Via.refl e57 (pin_2 hP) (g := (mkF m 10 #[.val (.ref (w 1))] [(.ref (w 1))])) rfl (hb hby d3_10)
  refine Go.on (T' := T58) (g' := (mkF m 13 #[.val (.ref (w 1))] [(.ref (w 2)), (.ref (w 1))])) st58 ?_
  refine Go.on (T' := T58) (g' := (mkF m 18 #[.val (.ref (w 1))] [])) (fun t k => Jvm.RoadKit.acmp (g := (mkF m 13 #[.val (.ref (w 1))] [(.ref (w 2)), (.ref (w 1))])) X58 hx rfl rfl rfl (pc0 := 13) (pc' := 18) (same := false) rfl (hb hby d3_13) rfl (decide_eq_false fun q => (own_ne (pin_7 hP) (pin_8 hP) (by decide)) (Value.ref.inj q)) (by decide) (by decide) k) ?_
  refine Go.on (T' := T58) (g' := (mkF m 19 #[.val (.ref (w 1))] [(.ref (w 1))])) (fun t k => XS.aloadN X58.here hx rfl (hb hby d3_18) rfl rfl k) ?_
  obtain ⟨T59, X59, e59, st59⟩ := getS2 X58 hx hZ hown (host := "") (Or.inl (hw _ (List.mem_of_getElem? (i := 25) rfl))) Via.refl e58 (pin_1 hP) (g := (mkF m 19 #[.val (.ref (w 1))] [(.ref (w 1))])) rfl (hb hby d3_19)
  refine Go.on (T' := T59) (g' := (mkF m 22 #[.val (.ref (w 1))] [(.ref (w 1)), (.ref (w 1))])) st59 ?_
  refine Go.on (T' := T59) (g' := (mkF m 25 #[.val (.ref (w 1))] [])) (fun t k => Jvm.RoadKit.acmp (g := (mkF m 22 #[.val (.ref (w 1))] [(.ref (w 1)), (.ref (w 1))])) X59 hx rfl rfl rfl (pc0 := 22) (pc' := 25) (same := true) rfl (hb hby d3_22) rfl (decide_eq_true rfl) (by decide) (by decide) k) ?_
  refine Go.on (T' := T59) (g' := (mkF m 26 #[.val (.ref (w 1))] [(.int (2 : Int32))])) (fun t k => XS.iconst X59.here hx rfl (hb hby d3_25) k) ?_
  obtain ⟨fs, hr, hrun, hended, hW, hsame⟩ := X59.leave (v := some (.int (2 : Int32))) (fun h => by rw [Bd.returns] at h; cases h)
  exact ⟨_, _, retOut X59 hx Bd.returns rfl (Or.inl ⟨rfl, Or.inl rfl, _, rfl⟩) (hb hby d3_26) hr, hrun, hended, _, _, rfl, ⟨rfl, N0, e59⟩, ⟨_, rfl⟩, hW, hsame.mono (by decide) (by decide)⟩
set_option maxRecDepth 65536 in
set_option maxHeartbeats 40000000 in
theorem rm4_2 (l : Launch) (Z : State) (a0 : Array Value) (hw : ∀ d ∈ tables_1, d.before a0 Z = true) (ws : List Jvm.Cond) (w : Nat → Addr) (h0 : Heap) (n0 : Nat) (Z0 : n0 ≤ h0.size) (hP : Pins Z h0 w) :
    MetFree l (⟨"java/lang/Math", "max", "(II)I"⟩ : MethodName) (head1 (Jvm.Cond.code (⟨"java/lang/Math", "max", "(II)I"⟩ : MethodName) jdk_29_method_65_code 2 (some .int) :: ws) ({ frames := 0, cells := 0, slots := 0, locals := 0 } : Room)) (fun a U => a = #[(.int (0 : Int32)), (.int (2 : Int32))] ∧ Z.Warmed39 U.vm ∧ U.heap = h0) (fun _ _ _ _ _ => True) (fun _ U o U' => ∃ v L, o = .returned v ∧ Qp (some (.int (2 : Int32))) h0 n0 v U'.heap L ∧ FrameEnd U o U' L ({ frames := 0, cells := 0, slots := 0, locals := 0 } : Room).cells ({ frames := 0, cells := 0, slots := 0, locals := 0 } : Room).slots) := by
  refine MetFree.of_bodySF (Jvm.Free.JP.mathPlain rfl (by decide +kernel)) hisR ?_
  intro p e s m args below meth c s₁ Bd hml0 hP0 hK
  obtain ⟨rfl, hZ, hh⟩ := hP0
  have hx := Bd.exec
  have hby := Bd.bytes
  have hml : c.maxLocals = 2 := hml0
  have hown : s.vm.findClass "java/lang/Math" = some m.cls := findClass_of_methodNamed Bd.named
  have hnm := (name_of_methodNamed Bd.named Bd.method).1
  have X0 : Stand p l e ({ frames := 0, cells := 0, slots := 0, locals := 0 } : Room) s m #[(.int (0 : Int32)), (.int (2 : Int32))] below meth c s₁ [] 0 0 := Stand.of_body Bd
  have e0 : s₁.heap = h0 := by rw [← hh, Bd.state]; rfl
  have N0 := Fr.nil n0
  suffices hgo : Go p e below (fun o U' => ∃ v L, o = .returned v ∧ Qp (some (.int (2 : Int32))) h0 n0 v U'.heap L ∧ FrameEnd s o U' L ({ frames := 0, cells := 0, slots := 0, locals := 0 } : Room).cells ({ frames := 0, cells := 0, slots := 0, locals := 0 } : Room).slots) s₁ (mkF m 0 #[.val (.int (0 : Int32)), .val (.int (2 : Int32))] []) by
    obtain ⟨s2, o, g1, g2, g3, g4⟩ := hgo
    refine ⟨s2, o, castTop (?_ : entryFrame m #[(.int (0 : Int32)), (.int (2 : Int32))] 2 = _) g1, g2, g3, g4⟩
    first | (simp [entryFrame, mkF, argsToLocals, Value.category]; done) | rfl
  refine Go.on (T' := s₁) (g' := (mkF m 1 #[.val (.int (0 : Int32)), .val (.int (2 : Int32))] [(.int (0 : Int32))])) (fun t k => XS.iloadN X0.here hx rfl (hb hby d4_0) rfl k) ?_
  refine Go.on (T' := s₁) (g' := (mkF m 2 #[.val (.int (0 : Int32)), .val (.int (2 : Int32))] [(.int (2 : Int32)), (.int (0 : Int32))])) (fun t k => XS.iloadN X0.here hx rfl (hb hby d4_1) rfl k) ?_
  refine Go.on (T' := s₁) (g' := (mkF m 9 #[.val (.int (0 : Int32)), .val (.int (2 : Int32))] [])) (fun t k => XS.icmpYes X0.here hx rfl (pc0 := 2) (pc' := 9) rfl (hb hby d4_2) rfl (tlt (by decide : (0 : Int32) < (2 : Int32))).1 (by decide) (by decide) k) ?_
  refine Go.on (T' := s₁) (g' := (mkF m 10 #[.val (.int (0 : Int32)), .val (.int (2 : Int32))] [(.int (2 : Int32))])) (fun t k => XS.iloadN X0.here hx rfl (hb hby d4_9) rfl k) ?_
  obtain ⟨fs, hr, hrun, hended, hW, hsame⟩ := X0.leave (v := some (.int (2 : Int32))) (fun h => by rw [Bd.returns] at h; cases h)
  exact ⟨_, _, retOut X0 hx Bd.returns rfl (Or.inl ⟨rfl, Or.inl rfl, _, rfl⟩) (hb hby d4_10) hr, hrun, hended, _, _, rfl, ⟨rfl, N0, e0⟩, ⟨_, rfl⟩, hW, hsame.mono (by decide) (by decide)⟩
set_option maxRecDepth 65536 in
set_option maxHeartbeats 40000000 in
theorem rm2_3 (l : Launch) (Z : State) (a0 : Array Value) (hw : ∀ d ∈ tables_1, d.before a0 Z = true) (ws : List Jvm.Cond) (w : Nat → Addr) (h0 : Heap) (n0 : Nat) (Z0 : n0 ≤ h0.size) (hP : Pins Z h0 w) :
    MetFree l (⟨"com/example/bagwise/bagwise/terms/Truth", "or", "(Lcom/example/bagwise/bagwise/terms/Truth;)Lcom/example/bagwise/bagwise/terms/Truth;"⟩ : MethodName) (head1 (Jvm.Cond.code (⟨"com/example/bagwise/bagwise/terms/Truth", "or", "(Lcom/example/bagwise/bagwise/terms/Truth;)Lcom/example/bagwise/bagwise/terms/Truth;"⟩ : MethodName) prog_175_method_8_code 2 (some (.object "com/example/bagwise/bagwise/terms/Truth")) :: ws) ({ frames := 0, cells := 0, slots := 0, locals := 0 } : Room)) (fun a U => a = #[(.ref (w 2)), (.ref (w 0))] ∧ Z.Warmed39 U.vm ∧ U.heap = h0) (fun _ _ _ _ _ => True) (fun _ U o U' => ∃ v L, o = .returned v ∧ Qp (some (.ref (w 2))) h0 n0 v U'.heap L ∧ FrameEnd U o U' L ({ frames := 0, cells := 0, slots := 0, locals := 0 } : Room).cells ({ frames := 0, cells := 0, slots := 0, locals := 0 } : Room).slots) := by
  refine MetFree.of_bodySF (plainFor_of_name pn_1) hisR ?_
  intro p e s m args below meth c s₁ Bd hml0 hP0 hK
  obtain ⟨rfl, hZ, hh⟩ := hP0
  have hx := Bd.exec
  have hby := Bd.bytes
  have hml : c.maxLocals = 2 := hml0
  have hown : s.vm.findClass "com/example/bagwise/bagwise/terms/Truth" = some m.cls := findClass_of_methodNamed Bd.named
  have hnm := (name_of_methodNamed Bd.named Bd.method).1
  have X0 : Stand p l e ({ frames := 0, cells := 0, slots := 0, locals := 0 } : Room) s m #[(.ref (w 2)), (.ref (w 0))] below meth c s₁ [] 0 0 := Stand.of_body Bd
  have e0 : s₁.heap = h0 := by rw [← hh, Bd.state]; rfl
  have N0 := Fr.nil n0
  suffices hgo : Go p e below (fun o U' => ∃ v L, o = .returned v ∧ Qp (some (.ref (w 2))) h0 n0 v U'.heap L ∧ FrameEnd s o U' L ({ frames := 0, cells := 0, slots := 0, locals := 0 } : Room).cells ({ frames := 0, cells := 0, slots := 0, locals := 0 } : Room).slots) s₁ (mkF m 0 #[.val (.ref (w 2)), .val (.ref (w 0))] []) by
    obtain ⟨s2, o, g1, g2, g3, g4⟩ := hgo
    refine ⟨s2, o, castTop (?_ : entryFrame m #[(.ref (w 2)), (.ref (w 0))] 2 = _) g1, g2, g3, g4⟩
    first | (simp [entryFrame, mkF, argsToLocals, Value.category]; done) | rfl
  refine Go.on (T' := s₁) (g' := (mkF m 1 #[.val (.ref (w 2)), .val (.ref (w 0))] [(.ref (w 2))])) (fun t k => XS.aloadN X0.here hx rfl (hb hby d2_0) rfl rfl k) ?_
  obtain ⟨T69, X69, e69, st69⟩ := getS2 X0 hx hZ hown (host := "") (Or.inl (hw _ (List.mem_of_getElem? (i := 13) rfl))) Via.refl e0 (pin_1 hP) (g := (mkF m 1 #[.val (.ref (w 2)), .val (.ref (w 0))] [(.ref (w 2))])) rfl (hb hby d2_1)
  refine Go.on (T' := T69) (g' := (mkF m 4 #[.val (.ref (w 2)), .val (.ref (w 0))] [(.ref (w 1)), (.ref (w 2))])) st69 ?_
  refine Go.on (T' := T69) (g' := (mkF m 7 #[.val (.ref (w 2)), .val (.ref (w 0))] [])) (fun t k => Jvm.RoadKit.acmp (g := (mkF m 4 #[.val (.ref (w 2)), .val (.ref (w 0))] [(.ref (w 1)), (.ref (w 2))])) X69 hx rfl rfl rfl (pc0 := 4) (pc' := 7) (same := false) rfl (hb hby d2_4) rfl (decide_eq_false fun q => (own_ne (pin_8 hP) (pin_7 hP) (by decide)) (Value.ref.inj q)) (by decide) (by decide) k) ?_
  refine Go.on (T' := T69) (g' := (mkF m 8 #[.val (.ref (w 2)), .val (.ref (w 0))] [(.ref (w 0))])) (fun t k => XS.aloadN X69.here hx rfl (hb hby d2_7) rfl rfl k) ?_
  obtain ⟨T70, X70, e70, st70⟩ := getS2 X69 hx hZ hown (host := "") (Or.inl (hw _ (List.mem_of_getElem? (i := 13) rfl))) Via.refl e69 (pin_1 hP) (g := (mkF m 8 #[.val (.ref (w 2)), .val (.ref (w 0))] [(.ref (w 0))])) rfl (hb hby d2_8)
  refine Go.on (T' := T70) (g' := (mkF m 11 #[.val (.ref (w 2)), .val (.ref (w 0))] [(.ref (w 1)), (.ref (w 0))])) st70 ?_
  refine Go.on (T' := T70) (g' := (mkF m 18 #[.val (.ref (w 2)), .val (.ref (w 0))] [])) (fun t k => Jvm.RoadKit.acmp (g := (mkF m 11 #[.val (.ref (w 2)), .val (.ref (w 0))] [(.ref (w 1)), (.ref (w 0))])) X70 hx rfl rfl rfl (pc0 := 11) (pc' := 18) (same := false) rfl (hb hby d2_11) rfl (decide_eq_false fun q => (own_ne (pin_6 hP) (pin_7 hP) (by decide)) (Value.ref.inj q)) (by decide) (by decide) k) ?_
  refine Go.on (T' := T70) (g' := (mkF m 19 #[.val (.ref (w 2)), .val (.ref (w 0))] [(.ref (w 2))])) (fun t k => XS.aloadN X70.here hx rfl (hb hby d2_18) rfl rfl k) ?_
  obtain ⟨T71, X71, e71, st71⟩ := getS2 X70 hx hZ hown (host := "") (Or.inl (hw _ (List.mem_of_getElem? (i := 15) rfl))) Via.refl e70 (pin_2 hP) (g := (mkF m 19 #[.val (.ref (w 2)), .val (.ref (w 0))] [(.ref (w 2))])) rfl (hb hby d2_19)
  refine Go.on (T' := T71) (g' := (mkF m 22 #[.val (.ref (w 2)), .val (.ref (w 0))] [(.ref (w 2)), (.ref (w 2))])) st71 ?_
  refine Go.on (T' := T71) (g' := (mkF m 32 #[.val (.ref (w 2)), .val (.ref (w 0))] [])) (fun t k => Jvm.RoadKit.acmp (g := (mkF m 22 #[.val (.ref (w 2)), .val (.ref (w 0))] [(.ref (w 2)), (.ref (w 2))])) X71 hx rfl rfl rfl (pc0 := 22) (pc' := 32) (same := true) rfl (hb hby d2_22) rfl (decide_eq_true rfl) (by decide) (by decide) k) ?_
  obtain ⟨T72, X72, e72, st72⟩ := getS2 X71 hx hZ hown (host := "") (Or.inl (hw _ (List.mem_of_getElem? (i := 15) rfl))) Via.refl e71 (pin_2 hP) (g := (mkF m 32 #[.val (.ref (w 2)), .val (.ref (w 0))] [])) rfl (hb hby d2_32)
  refine Go.on (T' := T72) (g' := (mkF m 35 #[.val (.ref (w 2)), .val (.ref (w 0))] [(.ref (w 2))])) st72 ?_
  refine Go.on (T' := T72) (g' := (mkF m 41 #[.val (.ref (w 2)), .val (.ref (w 0))] [(.ref (w 2))])) (fun t k => XS.goto X72.here hx rfl (pc0 := 35) (pc' := 41) rfl (hb hby d2_35) (by decide) (by decide) k) ?_
  obtain ⟨fs, hr, hrun, hended, hW, hsame⟩ := X72.leave (v := some (.ref (w 2))) (fun h => by rw [Bd.returns] at h; cases h)
  exact ⟨_, _, retOut X72 hx Bd.returns rfl (Or.inr (Or.inr (Or.inr (Or.inr ⟨rfl, rfl, rfl⟩)))) (hb hby d2_41) hr, hrun, hended, _, _, rfl, ⟨rfl, N0, e72⟩, ⟨_, rfl⟩, hW, hsame.mono (by decide) (by decide)⟩
set_option maxRecDepth 65536 in
set_option maxHeartbeats 40000000 in
theorem rm4_3 (l : Launch) (Z : State) (a0 : Array Value) (hw : ∀ d ∈ tables_1, d.before a0 Z = true) (ws : List Jvm.Cond) (w : Nat → Addr) (h0 : Heap) (n0 : Nat) (Z0 : n0 ≤ h0.size) (hP : Pins Z h0 w) :
    MetFree l (⟨"java/lang/Math", "max", "(II)I"⟩ : MethodName) (head1 (Jvm.Cond.code (⟨"java/lang/Math", "max", "(II)I"⟩ : MethodName) jdk_29_method_65_code 2 (some .int) :: ws) ({ frames := 0, cells := 0, slots := 0, locals := 0 } : Room)) (fun a U => a = #[(.int (1 : Int32)), (.int (0 : Int32))] ∧ Z.Warmed39 U.vm ∧ U.heap = h0) (fun _ _ _ _ _ => True) (fun _ U o U' => ∃ v L, o = .returned v ∧ Qp (some (.int (1 : Int32))) h0 n0 v U'.heap L ∧ FrameEnd U o U' L ({ frames := 0, cells := 0, slots := 0, locals := 0 } : Room).cells ({ frames := 0, cells := 0, slots := 0, locals := 0 } : Room).slots) := by
  refine MetFree.of_bodySF (Jvm.Free.JP.mathPlain rfl (by decide +kernel)) hisR ?_
  intro p e s m args below meth c s₁ Bd hml0 hP0 hK
  obtain ⟨rfl, hZ, hh⟩ := hP0
  have hx := Bd.exec
  have hby := Bd.bytes
  have hml : c.maxLocals = 2 := hml0
  have hown : s.vm.findClass "java/lang/Math" = some m.cls := findClass_of_methodNamed Bd.named
  have hnm := (name_of_methodNamed Bd.named Bd.method).1
  have X0 : Stand p l e ({ frames := 0, cells := 0, slots := 0, locals := 0 } : Room) s m #[(.int (1 : Int32)), (.int (0 : Int32))] below meth c s₁ [] 0 0 := Stand.of_body Bd
  have e0 : s₁.heap = h0 := by rw [← hh, Bd.state]; rfl
  have N0 := Fr.nil n0
  suffices hgo : Go p e below (fun o U' => ∃ v L, o = .returned v ∧ Qp (some (.int (1 : Int32))) h0 n0 v U'.heap L ∧ FrameEnd s o U' L ({ frames := 0, cells := 0, slots := 0, locals := 0 } : Room).cells ({ frames := 0, cells := 0, slots := 0, locals := 0 } : Room).slots) s₁ (mkF m 0 #[.val (.int (1 : Int32)), .val (.int (0 : Int32))] []) by
    obtain ⟨s2, o, g1, g2, g3, g4⟩ := hgo
    refine ⟨s2, o, castTop (?_ : entryFrame m #[(.int (1 : Int32)), (.int (0 : Int32))] 2 = _) g1, g2, g3, g4⟩
    first | (simp [entryFrame, mkF, argsToLocals, Value.category]; done) | rfl
  refine Go.on (T' := s₁) (g' := (mkF m 1 #[.val (.int (1 : Int32)), .val (.int (0 : Int32))] [(.int (1 : Int32))])) (fun t k => XS.iloadN X0.here hx rfl (hb hby d4_0) rfl k) ?_
  refine Go.on (T' := s₁) (g' := (mkF m 2 #[.val (.int (1 : Int32)), .val (.int (0 : Int32))] [(.int (0 : Int32)), (.int (1 : Int32))])) (fun t k => XS.iloadN X0.here hx rfl (hb hby d4_1) rfl k) ?_
  refine Go.on (T' := s₁) (g' := (mkF m 5 #[.val (.int (1 : Int32)), .val (.int (0 : Int32))] [])) (fun t k => XS.icmpNo X0.here hx rfl (hb hby d4_2) rfl (flt (by decide : ¬ ((1 : Int32) < (0 : Int32)))).1 k) ?_
  refine Go.on (T' := s₁) (g' := (mkF m 6 #[.val (.int (1 : Int32)), .val (.int (0 : Int32))] [(.int (1 : Int32))])) (fun t k => XS.iloadN X0.here hx rfl (hb hby d4_5) rfl k) ?_
  refine Go.on (T' := s₁) (g' := (mkF m 10 #[.val (.int (1 : Int32)), .val (.int (0 : Int32))] [(.int (1 : Int32))])) (fun t k => XS.goto X0.here hx rfl (pc0 := 6) (pc' := 10) rfl (hb hby d4_6) (by decide) (by decide) k) ?_
  obtain ⟨fs, hr, hrun, hended, hW, hsame⟩ := X0.leave (v := some (.int (1 : Int32))) (fun h => by rw [Bd.returns] at h; cases h)
  exact ⟨_, _, retOut X0 hx Bd.returns rfl (Or.inl ⟨rfl, Or.inl rfl, _, rfl⟩) (hb hby d4_10) hr, hrun, hended, _, _, rfl, ⟨rfl, N0, e0⟩, ⟨_, rfl⟩, hW, hsame.mono (by decide) (by decide)⟩
set_option maxRecDepth 65536 in
set_option maxHeartbeats 40000000 in
theorem rm2_4 (l : Launch) (Z : State) (a0 : Array Value) (hw : ∀ d ∈ tables_1, d.before a0 Z = true) (ws : List Jvm.Cond) (w : Nat → Addr) (h0 : Heap) (n0 : Nat) (Z0 : n0 ≤ h0.size) (hP : Pins Z h0 w) :
    MetFree l (⟨"com/example/bagwise/bagwise/terms/Truth", "or", "(Lcom/example/bagwise/bagwise/terms/Truth;)Lcom/example/bagwise/bagwise/terms/Truth;"⟩ : MethodName) (head1 (Jvm.Cond.code (⟨"com/example/bagwise/bagwise/terms/Truth", "or", "(Lcom/example/bagwise/bagwise/terms/Truth;)Lcom/example/bagwise/bagwise/terms/Truth;"⟩ : MethodName) prog_175_method_8_code 2 (some (.object "com/example/bagwise/bagwise/terms/Truth")) :: ws) ({ frames := 0, cells := 0, slots := 0, locals := 0 } : Room)) (fun a U => a = #[(.ref (w 2)), (.ref (w 2))] ∧ Z.Warmed39 U.vm ∧ U.heap = h0) (fun _ _ _ _ _ => True) (fun _ U o U' => ∃ v L, o = .returned v ∧ Qp (some (.ref (w 2))) h0 n0 v U'.heap L ∧ FrameEnd U o U' L ({ frames := 0, cells := 0, slots := 0, locals := 0 } : Room).cells ({ frames := 0, cells := 0, slots := 0, locals := 0 } : Room).slots) := by
  refine MetFree.of_bodySF (plainFor_of_name pn_1) hisR ?_
  intro p e s m args below meth c s₁ Bd hml0 hP0 hK
  obtain ⟨rfl, hZ, hh⟩ := hP0
  have hx := Bd.exec
  have hby := Bd.bytes
  have hml : c.maxLocals = 2 := hml0
  have hown : s.vm.findClass "com/example/bagwise/bagwise/terms/Truth" = some m.cls := findClass_of_methodNamed Bd.named
  have hnm := (name_of_methodNamed Bd.named Bd.method).1
  have X0 : Stand p l e ({ frames := 0, cells := 0, slots := 0, locals := 0 } : Room) s m #[(.ref (w 2)), (.ref (w 2))] below meth c s₁ [] 0 0 := Stand.of_body Bd
  have e0 : s₁.heap = h0 := by rw [← hh, Bd.state]; rfl
  have N0 := Fr.nil n0
  suffices hgo : Go p e below (fun o U' => ∃ v L, o = .returned v ∧ Qp (some (.ref (w 2))) h0 n0 v U'.heap L ∧ FrameEnd s o U' L ({ frames := 0, cells := 0, slots := 0, locals := 0 } : Room).cells ({ frames := 0, cells := 0, slots := 0, locals := 0 } : Room).slots) s₁ (mkF m 0 #[.val (.ref (w 2)), .val (.ref (w 2))] []) by
    obtain ⟨s2, o, g1, g2, g3, g4⟩ := hgo
    refine ⟨s2, o, castTop (?_ : entryFrame m #[(.ref (w 2)), (.ref (w 2))] 2 = _) g1, g2, g3, g4⟩
    first | (simp [entryFrame, mkF, argsToLocals, Value.category]; done) | rfl
  refine Go.on (T' := s₁) (g' := (mkF m 1 #[.val (.ref (w 2)), .val (.ref (w 2))] [(.ref (w 2))])) (fun t k => XS.aloadN X0.here hx rfl (hb hby d2_0) rfl rfl k) ?_
  obtain ⟨T82, X82, e82, st82⟩ := getS2 X0 hx hZ hown (host := "") (Or.inl (hw _ (List.mem_of_getElem? (i := 13) rfl))) Via.refl e0 (pin_1 hP) (g := (mkF m 1 #[.val (.ref (w 2)), .val (.ref (w 2))] [(.ref (w 2))])) rfl (hb hby d2_1)
  refine Go.on (T' := T82) (g' := (mkF m 4 #[.val (.ref (w 2)), .val (.ref (w 2))] [(.ref (w 1)), (.ref (w 2))])) st82 ?_
  refine Go.on (T' := T82) (g' := (mkF m 7 #[.val (.ref (w 2)), .val (.ref (w 2))] [])) (fun t k => Jvm.RoadKit.acmp (g := (mkF m 4 #[.val (.ref (w 2)), .val (.ref (w 2))] [(.ref (w 1)), (.ref (w 2))])) X82 hx rfl rfl rfl (pc0 := 4) (pc' := 7) (same := false) rfl (hb hby d2_4) rfl (decide_eq_false fun q => (own_ne (pin_8 hP) (pin_7 hP) (by decide)) (Value.ref.inj q)) (by decide) (by decide) k) ?_
  refine Go.on (T' := T82) (g' := (mkF m 8 #[.val (.ref (w 2)), .val (.ref (w 2))] [(.ref (w 2))])) (fun t k => XS.aloadN X82.here hx rfl (hb hby d2_7) rfl rfl k) ?_
  obtain ⟨T83, X83, e83, st83⟩ := getS2 X82 hx hZ hown (host := "") (Or.inl (hw _ (List.mem_of_getElem? (i := 13) rfl))) Via.refl e82 (pin_1 hP) (g := (mkF m 8 #[.val (.ref (w 2)), .val (.ref (w 2))] [(.ref (w 2))])) rfl (hb hby d2_8)
  refine Go.on (T' := T83) (g' := (mkF m 11 #[.val (.ref (w 2)), .val (.ref (w 2))] [(.ref (w 1)), (.ref (w 2))])) st83 ?_
  refine Go.on (T' := T83) (g' := (mkF m 18 #[.val (.ref (w 2)), .val (.ref (w 2))] [])) (fun t k => Jvm.RoadKit.acmp (g := (mkF m 11 #[.val (.ref (w 2)), .val (.ref (w 2))] [(.ref (w 1)), (.ref (w 2))])) X83 hx rfl rfl rfl (pc0 := 11) (pc' := 18) (same := false) rfl (hb hby d2_11) rfl (decide_eq_false fun q => (own_ne (pin_8 hP) (pin_7 hP) (by decide)) (Value.ref.inj q)) (by decide) (by decide) k) ?_
  refine Go.on (T' := T83) (g' := (mkF m 19 #[.val (.ref (w 2)), .val (.ref (w 2))] [(.ref (w 2))])) (fun t k => XS.aloadN X83.here hx rfl (hb hby d2_18) rfl rfl k) ?_
  obtain ⟨T84, X84, e84, st84⟩ := getS2 X83 hx hZ hown (host := "") (Or.inl (hw _ (List.mem_of_getElem? (i := 15) rfl))) Via.refl e83 (pin_2 hP) (g := (mkF m 19 #[.val (.ref (w 2)), .val (.ref (w 2))] [(.ref (w 2))])) rfl (hb hby d2_19)
  refine Go.on (T' := T84) (g' := (mkF m 22 #[.val (.ref (w 2)), .val (.ref (w 2))] [(.ref (w 2)), (.ref (w 2))])) st84 ?_
  refine Go.on (T' := T84) (g' := (mkF m 32 #[.val (.ref (w 2)), .val (.ref (w 2))] [])) (fun t k => Jvm.RoadKit.acmp (g := (mkF m 22 #[.val (.ref (w 2)), .val (.ref (w 2))] [(.ref (w 2)), (.ref (w 2))])) X84 hx rfl rfl rfl (pc0 := 22) (pc' := 32) (same := true) rfl (hb hby d2_22) rfl (decide_eq_true rfl) (by decide) (by decide) k) ?_
  obtain ⟨T85, X85, e85, st85⟩ := getS2 X84 hx hZ hown (host := "") (Or.inl (hw _ (List.mem_of_getElem? (i := 15) rfl))) Via.refl e84 (pin_2 hP) (g := (mkF m 32 #[.val (.ref (w 2)), .val (.ref (w 2))] [])) rfl (hb hby d2_32)
  refine Go.on (T' := T85) (g' := (mkF m 35 #[.val (.ref (w 2)), .val (.ref (w 2))] [(.ref (w 2))])) st85 ?_
  refine Go.on (T' := T85) (g' := (mkF m 41 #[.val (.ref (w 2)), .val (.ref (w 2))] [(.ref (w 2))])) (fun t k => XS.goto X85.here hx rfl (pc0 := 35) (pc' := 41) rfl (hb hby d2_35) (by decide) (by decide) k) ?_
  obtain ⟨fs, hr, hrun, hended, hW, hsame⟩ := X85.leave (v := some (.ref (w 2))) (fun h => by rw [Bd.returns] at h; cases h)
  exact ⟨_, _, retOut X85 hx Bd.returns rfl (Or.inr (Or.inr (Or.inr (Or.inr ⟨rfl, rfl, rfl⟩)))) (hb hby d2_41) hr, hrun, hended, _, _, rfl, ⟨rfl, N0, e85⟩, ⟨_, rfl⟩, hW, hsame.mono (by decide) (by decide)⟩
set_option maxRecDepth 65536 in
set_option maxHeartbeats 40000000 in
theorem rm4_4 (l : Launch) (Z : State) (a0 : Array Value) (hw : ∀ d ∈ tables_1, d.before a0 Z = true) (ws : List Jvm.Cond) (w : Nat → Addr) (h0 : Heap) (n0 : Nat) (Z0 : n0 ≤ h0.size) (hP : Pins Z h0 w) :
    MetFree l (⟨"java/lang/Math", "max", "(II)I"⟩ : MethodName) (head1 (Jvm.Cond.code (⟨"java/lang/Math", "max", "(II)I"⟩ : MethodName) jdk_29_method_65_code 2 (some .int) :: ws) ({ frames := 0, cells := 0, slots := 0, locals := 0 } : Room)) (fun a U => a = #[(.int (1 : Int32)), (.int (1 : Int32))] ∧ Z.Warmed39 U.vm ∧ U.heap = h0) (fun _ _ _ _ _ => True) (fun _ U o U' => ∃ v L, o = .returned v ∧ Qp (some (.int (1 : Int32))) h0 n0 v U'.heap L ∧ FrameEnd U o U' L ({ frames := 0, cells := 0, slots := 0, locals := 0 } : Room).cells ({ frames := 0, cells := 0, slots := 0, locals := 0 } : Room).slots) := by
  refine MetFree.of_bodySF (Jvm.Free.JP.mathPlain rfl (by decide +kernel)) hisR ?_
  intro p e s m args below meth c s₁ Bd hml0 hP0 hK
  obtain ⟨rfl, hZ, hh⟩ := hP0
  have hx := Bd.exec
  have hby := Bd.bytes
  have hml : c.maxLocals = 2 := hml0
  have hown : s.vm.findClass "java/lang/Math" = some m.cls := findClass_of_methodNamed Bd.named
  have hnm := (name_of_methodNamed Bd.named Bd.method).1
  have X0 : Stand p l e ({ frames := 0, cells := 0, slots := 0, locals := 0 } : Room) s m #[(.int (1 : Int32)), (.int (1 : Int32))] below meth c s₁ [] 0 0 := Stand.of_body Bd
  have e0 : s₁.heap = h0 := by rw [← hh, Bd.state]; rfl
  have N0 := Fr.nil n0
  suffices hgo : Go p e below (fun o U' => ∃ v L, o = .returned v ∧ Qp (some (.int (1 : Int32))) h0 n0 v U'.heap L ∧ FrameEnd s o U' L ({ frames := 0, cells := 0, slots := 0, locals := 0 } : Room).cells ({ frames := 0, cells := 0, slots := 0, locals := 0 } : Room).slots) s₁ (mkF m 0 #[.val (.int (1 : Int32)), .val (.int (1 : Int32))] []) by
    obtain ⟨s2, o, g1, g2, g3, g4⟩ := hgo
    refine ⟨s2, o, castTop (?_ : entryFrame m #[(.int (1 : Int32)), (.int (1 : Int32))] 2 = _) g1, g2, g3, g4⟩
    first | (simp [entryFrame, mkF, argsToLocals, Value.category]; done) | rfl
  refine Go.on (T' := s₁) (g' := (mkF m 1 #[.val (.int (1 : Int32)), .val (.int (1 : Int32))] [(.int (1 : Int32))])) (fun t k => XS.iloadN X0.here hx rfl (hb hby d4_0) rfl k) ?_
  refine Go.on (T' := s₁) (g' := (mkF m 2 #[.val (.int (1 : Int32)), .val (.int (1 : Int32))] [(.int (1 : Int32)), (.int (1 : Int32))])) (fun t k => XS.iloadN X0.here hx rfl (hb hby d4_1) rfl k) ?_
  refine Go.on (T' := s₁) (g' := (mkF m 5 #[.val (.int (1 : Int32)), .val (.int (1 : Int32))] [])) (fun t k => XS.icmpNo X0.here hx rfl (hb hby d4_2) rfl (flt (by decide : ¬ ((1 : Int32) < (1 : Int32)))).1 k) ?_
  refine Go.on (T' := s₁) (g' := (mkF m 6 #[.val (.int (1 : Int32)), .val (.int (1 : Int32))] [(.int (1 : Int32))])) (fun t k => XS.iloadN X0.here hx rfl (hb hby d4_5) rfl k) ?_
  refine Go.on (T' := s₁) (g' := (mkF m 10 #[.val (.int (1 : Int32)), .val (.int (1 : Int32))] [(.int (1 : Int32))])) (fun t k => XS.goto X0.here hx rfl (pc0 := 6) (pc' := 10) rfl (hb hby d4_6) (by decide) (by decide) k) ?_
  obtain ⟨fs, hr, hrun, hended, hW, hsame⟩ := X0.leave (v := some (.int (1 : Int32))) (fun h => by rw [Bd.returns] at h; cases h)
  exact ⟨_, _, retOut X0 hx Bd.returns rfl (Or.inl ⟨rfl, Or.inl rfl, _, rfl⟩) (hb hby d4_10) hr, hrun, hended, _, _, rfl, ⟨rfl, N0, e0⟩, ⟨_, rfl⟩, hW, hsame.mono (by decide) (by decide)⟩
set_option maxRecDepth 65536 in
set_option maxHeartbeats 40000000 in
theorem rm2_5 (l : Launch) (Z : State) (a0 : Array Value) (hw : ∀ d ∈ tables_1, d.before a0 Z = true) (ws : List Jvm.Cond) (w : Nat → Addr) (h0 : Heap) (n0 : Nat) (Z0 : n0 ≤ h0.size) (hP : Pins Z h0 w) :
    MetFree l (⟨"com/example/bagwise/bagwise/terms/Truth", "or", "(Lcom/example/bagwise/bagwise/terms/Truth;)Lcom/example/bagwise/bagwise/terms/Truth;"⟩ : MethodName) (head1 (Jvm.Cond.code (⟨"com/example/bagwise/bagwise/terms/Truth", "or", "(Lcom/example/bagwise/bagwise/terms/Truth;)Lcom/example/bagwise/bagwise/terms/Truth;"⟩ : MethodName) prog_175_method_8_code 2 (some (.object "com/example/bagwise/bagwise/terms/Truth")) :: ws) ({ frames := 0, cells := 0, slots := 0, locals := 0 } : Room)) (fun a U => a = #[(.ref (w 2)), (.ref (w 1))] ∧ Z.Warmed39 U.vm ∧ U.heap = h0) (fun _ _ _ _ _ => True) (fun _ U o U' => ∃ v L, o = .returned v ∧ Qp (some (.ref (w 1))) h0 n0 v U'.heap L ∧ FrameEnd U o U' L ({ frames := 0, cells := 0, slots := 0, locals := 0 } : Room).cells ({ frames := 0, cells := 0, slots := 0, locals := 0 } : Room).slots) := by
  refine MetFree.of_bodySF (plainFor_of_name pn_1) hisR ?_
  intro p e s m args below meth c s₁ Bd hml0 hP0 hK
  obtain ⟨rfl, hZ, hh⟩ := hP0
  have hx := Bd.exec
  have hby := Bd.bytes
  have hml : c.maxLocals = 2 := hml0
  have hown : s.vm.findClass "com/example/bagwise/bagwise/terms/Truth" = some m.cls := findClass_of_methodNamed Bd.named
  have hnm := (name_of_methodNamed Bd.named Bd.method).1
  have X0 : Stand p l e ({ frames := 0, cells := 0, slots := 0, locals := 0 } : Room) s m #[(.ref (w 2)), (.ref (w 1))] below meth c s₁ [] 0 0 := Stand.of_body Bd
  have e0 : s₁.heap = h0 := by rw [← hh, Bd.state]; rfl
  have N0 := Fr.nil n0
  suffices hgo : Go p e below (fun o U' => ∃ v L, o = .returned v ∧ Qp (some (.ref (w 1))) h0 n0 v U'.heap L ∧ FrameEnd s o U' L ({ frames := 0, cells := 0, slots := 0, locals := 0 } : Room).cells ({ frames := 0, cells := 0, slots := 0, locals := 0 } : Room).slots) s₁ (mkF m 0 #[.val (.ref (w 2)), .val (.ref (w 1))] []) by
    obtain ⟨s2, o, g1, g2, g3, g4⟩ := hgo
    refine ⟨s2, o, castTop (?_ : entryFrame m #[(.ref (w 2)), (.ref (w 1))] 2 = _) g1, g2, g3, g4⟩
    first | (simp [entryFrame, mkF, argsToLocals, Value.category]; done) | rfl
  refine Go.on (T' := s₁) (g' := (mkF m 1 #[.val (.ref (w 2)), .val (.ref (w 1))] [(.ref (w 2))])) (fun t k => XS.aloadN X0.here hx rfl (hb hby d2_0) rfl rfl k) ?_
  obtain ⟨T94, X94, e94, st94⟩ := getS2 X0 hx hZ hown (host := "") (Or.inl (hw _ (List.mem_of_getElem? (i := 13) rfl))) Via.refl e0 (pin_1 hP) (g := (mkF m 1 #[.val (.ref (w 2)), .val (.ref (w 1))] [(.ref (w 2))])) rfl (hb hby d2_1)
  refine Go.on (T' := T94) (g' := (mkF m 4 #[.val (.ref (w 2)), .val (.ref (w 1))] [(.ref (w 1)), (.ref (w 2))])) st94 ?_
  refine Go.on (T' := T94) (g' := (mkF m 7 #[.val (.ref (w 2)), .val (.ref (w 1))] [])) (fun t k => Jvm.RoadKit.acmp (g := (mkF m 4 #[.val (.ref (w 2)), .val (.ref (w 1))] [(.ref (w 1)), (.ref (w 2))])) X94 hx rfl rfl rfl (pc0 := 4) (pc' := 7) (same := false) rfl (hb hby d2_4) rfl (decide_eq_false fun q => (own_ne (pin_8 hP) (pin_7 hP) (by decide)) (Value.ref.inj q)) (by decide) (by decide) k) ?_
  refine Go.on (T' := T94) (g' := (mkF m 8 #[.val (.ref (w 2)), .val (.ref (w 1))] [(.ref (w 1))])) (fun t k => XS.aloadN X94.here hx rfl (hb hby d2_7) rfl rfl k) ?_
  obtain ⟨T95, X95, e95, st95⟩ := getS2 X94 hx hZ hown (host := "") (Or.inl (hw _ (List.mem_of_getElem? (i := 13) rfl))) Via.refl e94 (pin_1 hP) (g := (mkF m 8 #[.val (.ref (w 2)), .val (.ref (w 1))] [(.ref (w 1))])) rfl (hb hby d2_8)
  refine Go.on (T' := T95) (g' := (mkF m 11 #[.val (.ref (w 2)), .val (.ref (w 1))] [(.ref (w 1)), (.ref (w 1))])) st95 ?_
  refine Go.on (T' := T95) (g' := (mkF m 14 #[.val (.ref (w 2)), .val (.ref (w 1))] [])) (fun t k => Jvm.RoadKit.acmp (g := (mkF m 11 #[.val (.ref (w 2)), .val (.ref (w 1))] [(.ref (w 1)), (.ref (w 1))])) X95 hx rfl rfl rfl (pc0 := 11) (pc' := 14) (same := true) rfl (hb hby d2_11) rfl (decide_eq_true rfl) (by decide) (by decide) k) ?_
  obtain ⟨T96, X96, e96, st96⟩ := getS2 X95 hx hZ hown (host := "") (Or.inl (hw _ (List.mem_of_getElem? (i := 13) rfl))) Via.refl e95 (pin_1 hP) (g := (mkF m 14 #[.val (.ref (w 2)), .val (.ref (w 1))] [])) rfl (hb hby d2_14)
  refine Go.on (T' := T96) (g' := (mkF m 17 #[.val (.ref (w 2)), .val (.ref (w 1))] [(.ref (w 1))])) st96 ?_
  obtain ⟨fs, hr, hrun, hended, hW, hsame⟩ := X96.leave (v := some (.ref (w 1))) (fun h => by rw [Bd.returns] at h; cases h)
  exact ⟨_, _, retOut X96 hx Bd.returns rfl (Or.inr (Or.inr (Or.inr (Or.inr ⟨rfl, rfl, rfl⟩)))) (hb hby d2_17) hr, hrun, hended, _, _, rfl, ⟨rfl, N0, e96⟩, ⟨_, rfl⟩, hW, hsame.mono (by decide) (by decide)⟩
set_option maxRecDepth 65536 in
set_option maxHeartbeats 40000000 in
theorem rm4_5 (l : Launch) (Z : State) (a0 : Array Value) (hw : ∀ d ∈ tables_1, d.before a0 Z = true) (ws : List Jvm.Cond) (w : Nat → Addr) (h0 : Heap) (n0 : Nat) (Z0 : n0 ≤ h0.size) (hP : Pins Z h0 w) :
    MetFree l (⟨"java/lang/Math", "max", "(II)I"⟩ : MethodName) (head1 (Jvm.Cond.code (⟨"java/lang/Math", "max", "(II)I"⟩ : MethodName) jdk_29_method_65_code 2 (some .int) :: ws) ({ frames := 0, cells := 0, slots := 0, locals := 0 } : Room)) (fun a U => a = #[(.int (1 : Int32)), (.int (2 : Int32))] ∧ Z.Warmed39 U.vm ∧ U.heap = h0) (fun _ _ _ _ _ => True) (fun _ U o U' => ∃ v L, o = .returned v ∧ Qp (some (.int (2 : Int32))) h0 n0 v U'.heap L ∧ FrameEnd U o U' L ({ frames := 0, cells := 0, slots := 0, locals := 0 } : Room).cells ({ frames := 0, cells := 0, slots := 0, locals := 0 } : Room).slots) := by
  refine MetFree.of_bodySF (Jvm.Free.JP.mathPlain rfl (by decide +kernel)) hisR ?_
  intro p e s m args below meth c s₁ Bd hml0 hP0 hK
  obtain ⟨rfl, hZ, hh⟩ := hP0
  have hx := Bd.exec
  have hby := Bd.bytes
  have hml : c.maxLocals = 2 := hml0
  have hown : s.vm.findClass "java/lang/Math" = some m.cls := findClass_of_methodNamed Bd.named
  have hnm := (name_of_methodNamed Bd.named Bd.method).1
  have X0 : Stand p l e ({ frames := 0, cells := 0, slots := 0, locals := 0 } : Room) s m #[(.int (1 : Int32)), (.int (2 : Int32))] below meth c s₁ [] 0 0 := Stand.of_body Bd
  have e0 : s₁.heap = h0 := by rw [← hh, Bd.state]; rfl
  have N0 := Fr.nil n0
  suffices hgo : Go p e below (fun o U' => ∃ v L, o = .returned v ∧ Qp (some (.int (2 : Int32))) h0 n0 v U'.heap L ∧ FrameEnd s o U' L ({ frames := 0, cells := 0, slots := 0, locals := 0 } : Room).cells ({ frames := 0, cells := 0, slots := 0, locals := 0 } : Room).slots) s₁ (mkF m 0 #[.val (.int (1 : Int32)), .val (.int (2 : Int32))] []) by
    obtain ⟨s2, o, g1, g2, g3, g4⟩ := hgo
    refine ⟨s2, o, castTop (?_ : entryFrame m #[(.int (1 : Int32)), (.int (2 : Int32))] 2 = _) g1, g2, g3, g4⟩
    first | (simp [entryFrame, mkF, argsToLocals, Value.category]; done) | rfl
  refine Go.on (T' := s₁) (g' := (mkF m 1 #[.val (.int (1 : Int32)), .val (.int (2 : Int32))] [(.int (1 : Int32))])) (fun t k => XS.iloadN X0.here hx rfl (hb hby d4_0) rfl k) ?_
  refine Go.on (T' := s₁) (g' := (mkF m 2 #[.val (.int (1 : Int32)), .val (.int (2 : Int32))] [(.int (2 : Int32)), (.int (1 : Int32))])) (fun t k => XS.iloadN X0.here hx rfl (hb hby d4_1) rfl k) ?_
  refine Go.on (T' := s₁) (g' := (mkF m 9 #[.val (.int (1 : Int32)), .val (.int (2 : Int32))] [])) (fun t k => XS.icmpYes X0.here hx rfl (pc0 := 2) (pc' := 9) rfl (hb hby d4_2) rfl (tlt (by decide : (1 : Int32) < (2 : Int32))).1 (by decide) (by decide) k) ?_
  refine Go.on (T' := s₁) (g' := (mkF m 10 #[.val (.int (1 : Int32)), .val (.int (2 : Int32))] [(.int (2 : Int32))])) (fun t k => XS.iloadN X0.here hx rfl (hb hby d4_9) rfl k) ?_
  obtain ⟨fs, hr, hrun, hended, hW, hsame⟩ := X0.leave (v := some (.int (2 : Int32))) (fun h => by rw [Bd.returns] at h; cases h)
  exact ⟨_, _, retOut X0 hx Bd.returns rfl (Or.inl ⟨rfl, Or.inl rfl, _, rfl⟩) (hb hby d4_10) hr, hrun, hended, _, _, rfl, ⟨rfl, N0, e0⟩, ⟨_, rfl⟩, hW, hsame.mono (by decide) (by decide)⟩
set_option maxRecDepth 65536 in
set_option maxHeartbeats 40000000 in
theorem rm2_6 (l : Launch) (Z : State) (a0 : Array Value) (hw : ∀ d ∈ tables_1, d.before a0 Z = true) (ws : List Jvm.Cond) (w : Nat → Addr) (h0 : Heap) (n0 : Nat) (Z0 : n0 ≤ h0.size) (hP : Pins Z h0 w) :
    MetFree l (⟨"com/example/bagwise/bagwise/terms/Truth", "or", "(Lcom/example/bagwise/bagwise/terms/Truth;)Lcom/example/bagwise/bagwise/terms/Truth;"⟩ : MethodName) (head1 (Jvm.Cond.code (⟨"com/example/bagwise/bagwise/terms/Truth", "or", "(Lcom/example/bagwise/bagwise/terms/Truth;)Lcom/example/bagwise/bagwise/terms/Truth;"⟩ : MethodName) prog_175_method_8_code 2 (some (.object "com/example/bagwise/bagwise/terms/Truth")) :: ws) ({ frames := 0, cells := 0, slots := 0, locals := 0 } : Room)) (fun a U => a = #[(.ref (w 1)), (.ref (w 0))] ∧ Z.Warmed39 U.vm ∧ U.heap = h0) (fun _ _ _ _ _ => True) (fun _ U o U' => ∃ v L, o = .returned v ∧ Qp (some (.ref (w 1))) h0 n0 v U'.heap L ∧ FrameEnd U o U' L ({ frames := 0, cells := 0, slots := 0, locals := 0 } : Room).cells ({ frames := 0, cells := 0, slots := 0, locals := 0 } : Room).slots) := by
  refine MetFree.of_bodySF (plainFor_of_name pn_1) hisR ?_
  intro p e s m args below meth c s₁ Bd hml0 hP0 hK
  obtain ⟨rfl, hZ, hh⟩ := hP0
  have hx := Bd.exec
  have hby := Bd.bytes
  have hml : c.maxLocals = 2 := hml0
  have hown : s.vm.findClass "com/example/bagwise/bagwise/terms/Truth" = some m.cls := findClass_of_methodNamed Bd.named
  have hnm := (name_of_methodNamed Bd.named Bd.method).1
  have X0 : Stand p l e ({ frames := 0, cells := 0, slots := 0, locals := 0 } : Room) s m #[(.ref (w 1)), (.ref (w 0))] below meth c s₁ [] 0 0 := Stand.of_body Bd
  have e0 : s₁.heap = h0 := by rw [← hh, Bd.state]; rfl
  have N0 := Fr.nil n0
  suffices hgo : Go p e below (fun o U' => ∃ v L, o = .returned v ∧ Qp (some (.ref (w 1))) h0 n0 v U'.heap L ∧ FrameEnd s o U' L ({ frames := 0, cells := 0, slots := 0, locals := 0 } : Room).cells ({ frames := 0, cells := 0, slots := 0, locals := 0 } : Room).slots) s₁ (mkF m 0 #[.val (.ref (w 1)), .val (.ref (w 0))] []) by
    obtain ⟨s2, o, g1, g2, g3, g4⟩ := hgo
    refine ⟨s2, o, castTop (?_ : entryFrame m #[(.ref (w 1)), (.ref (w 0))] 2 = _) g1, g2, g3, g4⟩
    first | (simp [entryFrame, mkF, argsToLocals, Value.category]; done) | rfl
  refine Go.on (T' := s₁) (g' := (mkF m 1 #[.val (.ref (w 1)), .val (.ref (w 0))] [(.ref (w 1))])) (fun t k => XS.aloadN X0.here hx rfl (hb hby d2_0) rfl rfl k) ?_
  obtain ⟨T105, X105, e105, st105⟩ := getS2 X0 hx hZ hown (host := "") (Or.inl (hw _ (List.mem_of_getElem? (i := 13) rfl))) Via.refl e0 (pin_1 hP) (g := (mkF m 1 #[.val (.ref (w 1)), .val (.ref (w 0))] [(.ref (w 1))])) rfl (hb hby d2_1)
  refine Go.on (T' := T105) (g' := (mkF m 4 #[.val (.ref (w 1)), .val (.ref (w 0))] [(.ref (w 1)), (.ref (w 1))])) st105 ?_
  refine Go.on (T' := T105) (g' := (mkF m 14 #[.val (.ref (w 1)), .val (.ref (w 0))] [])) (fun t k => Jvm.RoadKit.acmp (g := (mkF m 4 #[.val (.ref (w 1)), .val (.ref (w 0))] [(.ref (w 1)), (.ref (w 1))])) X105 hx rfl rfl rfl (pc0 := 4) (pc' := 14) (same := true) rfl (hb hby d2_4) rfl (decide_eq_true rfl) (by decide) (by decide) k) ?_
  obtain ⟨T106, X106, e106, st106⟩ := getS2 X105 hx hZ hown (host := "") (Or.inl (hw _ (List.mem_of_getElem? (i := 13) rfl))) Via.refl e105 (pin_1 hP) (g := (mkF m 14 #[.val (.ref (w 1)), .val (.ref (w 0))] [])) rfl (hb hby d2_14)
  refine Go.on (T' := T106) (g' := (mkF m 17 #[.val (.ref (w 1)), .val (.ref (w 0))] [(.ref (w 1))])) st106 ?_
  obtain ⟨fs, hr, hrun, hended, hW, hsame⟩ := X106.leave (v := some (.ref (w 1))) (fun h => by rw [Bd.returns] at h; cases h)
  exact ⟨_, _, retOut X106 hx Bd.returns rfl (Or.inr (Or.inr (Or.inr (Or.inr ⟨rfl, rfl, rfl⟩)))) (hb hby d2_17) hr, hrun, hended, _, _, rfl, ⟨rfl, N0, e106⟩, ⟨_, rfl⟩, hW, hsame.mono (by decide) (by decide)⟩
set_option maxRecDepth 65536 in
set_option maxHeartbeats 40000000 in
theorem rm4_6 (l : Launch) (Z : State) (a0 : Array Value) (hw : ∀ d ∈ tables_1, d.before a0 Z = true) (ws : List Jvm.Cond) (w : Nat → Addr) (h0 : Heap) (n0 : Nat) (Z0 : n0 ≤ h0.size) (hP : Pins Z h0 w) :
    MetFree l (⟨"java/lang/Math", "max", "(II)I"⟩ : MethodName) (head1 (Jvm.Cond.code (⟨"java/lang/Math", "max", "(II)I"⟩ : MethodName) jdk_29_method_65_code 2 (some .int) :: ws) ({ frames := 0, cells := 0, slots := 0, locals := 0 } : Room)) (fun a U => a = #[(.int (2 : Int32)), (.int (0 : Int32))] ∧ Z.Warmed39 U.vm ∧ U.heap = h0) (fun _ _ _ _ _ => True) (fun _ U o U' => ∃ v L, o = .returned v ∧ Qp (some (.int (2 : Int32))) h0 n0 v U'.heap L ∧ FrameEnd U o U' L ({ frames := 0, cells := 0, slots := 0, locals := 0 } : Room).cells ({ frames := 0, cells := 0, slots := 0, locals := 0 } : Room).slots) := by
  refine MetFree.of_bodySF (Jvm.Free.JP.mathPlain rfl (by decide +kernel)) hisR ?_
  intro p e s m args below meth c s₁ Bd hml0 hP0 hK
  obtain ⟨rfl, hZ, hh⟩ := hP0
  have hx := Bd.exec
  have hby := Bd.bytes
  have hml : c.maxLocals = 2 := hml0
  have hown : s.vm.findClass "java/lang/Math" = some m.cls := findClass_of_methodNamed Bd.named
  have hnm := (name_of_methodNamed Bd.named Bd.method).1
  have X0 : Stand p l e ({ frames := 0, cells := 0, slots := 0, locals := 0 } : Room) s m #[(.int (2 : Int32)), (.int (0 : Int32))] below meth c s₁ [] 0 0 := Stand.of_body Bd
  have e0 : s₁.heap = h0 := by rw [← hh, Bd.state]; rfl
  have N0 := Fr.nil n0
  suffices hgo : Go p e below (fun o U' => ∃ v L, o = .returned v ∧ Qp (some (.int (2 : Int32))) h0 n0 v U'.heap L ∧ FrameEnd s o U' L ({ frames := 0, cells := 0, slots := 0, locals := 0 } : Room).cells ({ frames := 0, cells := 0, slots := 0, locals := 0 } : Room).slots) s₁ (mkF m 0 #[.val (.int (2 : Int32)), .val (.int (0 : Int32))] []) by
    obtain ⟨s2, o, g1, g2, g3, g4⟩ := hgo
    refine ⟨s2, o, castTop (?_ : entryFrame m #[(.int (2 : Int32)), (.int (0 : Int32))] 2 = _) g1, g2, g3, g4⟩
    first | (simp [entryFrame, mkF, argsToLocals, Value.category]; done) | rfl
  refine Go.on (T' := s₁) (g' := (mkF m 1 #[.val (.int (2 : Int32)), .val (.int (0 : Int32))] [(.int (2 : Int32))])) (fun t k => XS.iloadN X0.here hx rfl (hb hby d4_0) rfl k) ?_
  refine Go.on (T' := s₁) (g' := (mkF m 2 #[.val (.int (2 : Int32)), .val (.int (0 : Int32))] [(.int (0 : Int32)), (.int (2 : Int32))])) (fun t k => XS.iloadN X0.here hx rfl (hb hby d4_1) rfl k) ?_
  refine Go.on (T' := s₁) (g' := (mkF m 5 #[.val (.int (2 : Int32)), .val (.int (0 : Int32))] [])) (fun t k => XS.icmpNo X0.here hx rfl (hb hby d4_2) rfl (flt (by decide : ¬ ((2 : Int32) < (0 : Int32)))).1 k) ?_
  refine Go.on (T' := s₁) (g' := (mkF m 6 #[.val (.int (2 : Int32)), .val (.int (0 : Int32))] [(.int (2 : Int32))])) (fun t k => XS.iloadN X0.here hx rfl (hb hby d4_5) rfl k) ?_
  refine Go.on (T' := s₁) (g' := (mkF m 10 #[.val (.int (2 : Int32)), .val (.int (0 : Int32))] [(.int (2 : Int32))])) (fun t k => XS.goto X0.here hx rfl (pc0 := 6) (pc' := 10) rfl (hb hby d4_6) (by decide) (by decide) k) ?_
  obtain ⟨fs, hr, hrun, hended, hW, hsame⟩ := X0.leave (v := some (.int (2 : Int32))) (fun h => by rw [Bd.returns] at h; cases h)
  exact ⟨_, _, retOut X0 hx Bd.returns rfl (Or.inl ⟨rfl, Or.inl rfl, _, rfl⟩) (hb hby d4_10) hr, hrun, hended, _, _, rfl, ⟨rfl, N0, e0⟩, ⟨_, rfl⟩, hW, hsame.mono (by decide) (by decide)⟩
set_option maxRecDepth 65536 in
set_option maxHeartbeats 40000000 in
theorem rm2_7 (l : Launch) (Z : State) (a0 : Array Value) (hw : ∀ d ∈ tables_1, d.before a0 Z = true) (ws : List Jvm.Cond) (w : Nat → Addr) (h0 : Heap) (n0 : Nat) (Z0 : n0 ≤ h0.size) (hP : Pins Z h0 w) :
    MetFree l (⟨"com/example/bagwise/bagwise/terms/Truth", "or", "(Lcom/example/bagwise/bagwise/terms/Truth;)Lcom/example/bagwise/bagwise/terms/Truth;"⟩ : MethodName) (head1 (Jvm.Cond.code (⟨"com/example/bagwise/bagwise/terms/Truth", "or", "(Lcom/example/bagwise/bagwise/terms/Truth;)Lcom/example/bagwise/bagwise/terms/Truth;"⟩ : MethodName) prog_175_method_8_code 2 (some (.object "com/example/bagwise/bagwise/terms/Truth")) :: ws) ({ frames := 0, cells := 0, slots := 0, locals := 0 } : Room)) (fun a U => a = #[(.ref (w 1)), (.ref (w 2))] ∧ Z.Warmed39 U.vm ∧ U.heap = h0) (fun _ _ _ _ _ => True) (fun _ U o U' => ∃ v L, o = .returned v ∧ Qp (some (.ref (w 1))) h0 n0 v U'.heap L ∧ FrameEnd U o U' L ({ frames := 0, cells := 0, slots := 0, locals := 0 } : Room).cells ({ frames := 0, cells := 0, slots := 0, locals := 0 } : Room).slots) := by
  refine MetFree.of_bodySF (plainFor_of_name pn_1) hisR ?_
  intro p e s m args below meth c s₁ Bd hml0 hP0 hK
  obtain ⟨rfl, hZ, hh⟩ := hP0
  have hx := Bd.exec
  have hby := Bd.bytes
  have hml : c.maxLocals = 2 := hml0
  have hown : s.vm.findClass "com/example/bagwise/bagwise/terms/Truth" = some m.cls := findClass_of_methodNamed Bd.named
  have hnm := (name_of_methodNamed Bd.named Bd.method).1
  have X0 : Stand p l e ({ frames := 0, cells := 0, slots := 0, locals := 0 } : Room) s m #[(.ref (w 1)), (.ref (w 2))] below meth c s₁ [] 0 0 := Stand.of_body Bd
  have e0 : s₁.heap = h0 := by rw [← hh, Bd.state]; rfl
  have N0 := Fr.nil n0
  suffices hgo : Go p e below (fun o U' => ∃ v L, o = .returned v ∧ Qp (some (.ref (w 1))) h0 n0 v U'.heap L ∧ FrameEnd s o U' L ({ frames := 0, cells := 0, slots := 0, locals := 0 } : Room).cells ({ frames := 0, cells := 0, slots := 0, locals := 0 } : Room).slots) s₁ (mkF m 0 #[.val (.ref (w 1)), .val (.ref (w 2))] []) by
    obtain ⟨s2, o, g1, g2, g3, g4⟩ := hgo
    refine ⟨s2, o, castTop (?_ : entryFrame m #[(.ref (w 1)), (.ref (w 2))] 2 = _) g1, g2, g3, g4⟩
    first | (simp [entryFrame, mkF, argsToLocals, Value.category]; done) | rfl
  refine Go.on (T' := s₁) (g' := (mkF m 1 #[.val (.ref (w 1)), .val (.ref (w 2))] [(.ref (w 1))])) (fun t k => XS.aloadN X0.here hx rfl (hb hby d2_0) rfl rfl k) ?_
  obtain ⟨T114, X114, e114, st114⟩ := getS2 X0 hx hZ hown (host := "") (Or.inl (hw _ (List.mem_of_getElem? (i := 13) rfl))) Via.refl e0 (pin_1 hP) (g := (mkF m 1 #[.val (.ref (w 1)), .val (.ref (w 2))] [(.ref (w 1))])) rfl (hb hby d2_1)
  refine Go.on (T' := T114) (g' := (mkF m 4 #[.val (.ref (w 1)), .val (.ref (w 2))] [(.ref (w 1)), (.ref (w 1))])) st114 ?_
  refine Go.on (T' := T114) (g' := (mkF m 14 #[.val (.ref (w 1)), .val (.ref (w 2))] [])) (fun t k => Jvm.RoadKit.acmp (g := (mkF m 4 #[.val (.ref (w 1)), .val (.ref (w 2))] [(.ref (w 1)), (.ref (w 1))])) X114 hx rfl rfl rfl (pc0 := 4) (pc' := 14) (same := true) rfl (hb hby d2_4) rfl (decide_eq_true rfl) (by decide) (by decide) k) ?_
  obtain ⟨T115, X115, e115, st115⟩ := getS2 X114 hx hZ hown (host := "") (Or.inl (hw _ (List.mem_of_getElem? (i := 13) rfl))) Via.refl e114 (pin_1 hP) (g := (mkF m 14 #[.val (.ref (w 1)), .val (.ref (w 2))] [])) rfl (hb hby d2_14)
  refine Go.on (T' := T115) (g' := (mkF m 17 #[.val (.ref (w 1)), .val (.ref (w 2))] [(.ref (w 1))])) st115 ?_
  obtain ⟨fs, hr, hrun, hended, hW, hsame⟩ := X115.leave (v := some (.ref (w 1))) (fun h => by rw [Bd.returns] at h; cases h)
  exact ⟨_, _, retOut X115 hx Bd.returns rfl (Or.inr (Or.inr (Or.inr (Or.inr ⟨rfl, rfl, rfl⟩)))) (hb hby d2_17) hr, hrun, hended, _, _, rfl, ⟨rfl, N0, e115⟩, ⟨_, rfl⟩, hW, hsame.mono (by decide) (by decide)⟩
set_option maxRecDepth 65536 in
set_option maxHeartbeats 40000000 in
theorem rm4_7 (l : Launch) (Z : State) (a0 : Array Value) (hw : ∀ d ∈ tables_1, d.before a0 Z = true) (ws : List Jvm.Cond) (w : Nat → Addr) (h0 : Heap) (n0 : Nat) (Z0 : n0 ≤ h0.size) (hP : Pins Z h0 w) :
    MetFree l (⟨"java/lang/Math", "max", "(II)I"⟩ : MethodName) (head1 (Jvm.Cond.code (⟨"java/lang/Math", "max", "(II)I"⟩ : MethodName) jdk_29_method_65_code 2 (some .int) :: ws) ({ frames := 0, cells := 0, slots := 0, locals := 0 } : Room)) (fun a U => a = #[(.int (2 : Int32)), (.int (1 : Int32))] ∧ Z.Warmed39 U.vm ∧ U.heap = h0) (fun _ _ _ _ _ => True) (fun _ U o U' => ∃ v L, o = .returned v ∧ Qp (some (.int (2 : Int32))) h0 n0 v U'.heap L ∧ FrameEnd U o U' L ({ frames := 0, cells := 0, slots := 0, locals := 0 } : Room).cells ({ frames := 0, cells := 0, slots := 0, locals := 0 } : Room).slots) := by
  refine MetFree.of_bodySF (Jvm.Free.JP.mathPlain rfl (by decide +kernel)) hisR ?_
  intro p e s m args below meth c s₁ Bd hml0 hP0 hK
  obtain ⟨rfl, hZ, hh⟩ := hP0
  have hx := Bd.exec
  have hby := Bd.bytes
  have hml : c.maxLocals = 2 := hml0
  have hown : s.vm.findClass "java/lang/Math" = some m.cls := findClass_of_methodNamed Bd.named
  have hnm := (name_of_methodNamed Bd.named Bd.method).1
  have X0 : Stand p l e ({ frames := 0, cells := 0, slots := 0, locals := 0 } : Room) s m #[(.int (2 : Int32)), (.int (1 : Int32))] below meth c s₁ [] 0 0 := Stand.of_body Bd
  have e0 : s₁.heap = h0 := by rw [← hh, Bd.state]; rfl
  have N0 := Fr.nil n0
  suffices hgo : Go p e below (fun o U' => ∃ v L, o = .returned v ∧ Qp (some (.int (2 : Int32))) h0 n0 v U'.heap L ∧ FrameEnd s o U' L ({ frames := 0, cells := 0, slots := 0, locals := 0 } : Room).cells ({ frames := 0, cells := 0, slots := 0, locals := 0 } : Room).slots) s₁ (mkF m 0 #[.val (.int (2 : Int32)), .val (.int (1 : Int32))] []) by
    obtain ⟨s2, o, g1, g2, g3, g4⟩ := hgo
    refine ⟨s2, o, castTop (?_ : entryFrame m #[(.int (2 : Int32)), (.int (1 : Int32))] 2 = _) g1, g2, g3, g4⟩
    first | (simp [entryFrame, mkF, argsToLocals, Value.category]; done) | rfl
  refine Go.on (T' := s₁) (g' := (mkF m 1 #[.val (.int (2 : Int32)), .val (.int (1 : Int32))] [(.int (2 : Int32))])) (fun t k => XS.iloadN X0.here hx rfl (hb hby d4_0) rfl k) ?_
  refine Go.on (T' := s₁) (g' := (mkF m 2 #[.val (.int (2 : Int32)), .val (.int (1 : Int32))] [(.int (1 : Int32)), (.int (2 : Int32))])) (fun t k => XS.iloadN X0.here hx rfl (hb hby d4_1) rfl k) ?_
  refine Go.on (T' := s₁) (g' := (mkF m 5 #[.val (.int (2 : Int32)), .val (.int (1 : Int32))] [])) (fun t k => XS.icmpNo X0.here hx rfl (hb hby d4_2) rfl (flt (by decide : ¬ ((2 : Int32) < (1 : Int32)))).1 k) ?_
  refine Go.on (T' := s₁) (g' := (mkF m 6 #[.val (.int (2 : Int32)), .val (.int (1 : Int32))] [(.int (2 : Int32))])) (fun t k => XS.iloadN X0.here hx rfl (hb hby d4_5) rfl k) ?_
  refine Go.on (T' := s₁) (g' := (mkF m 10 #[.val (.int (2 : Int32)), .val (.int (1 : Int32))] [(.int (2 : Int32))])) (fun t k => XS.goto X0.here hx rfl (pc0 := 6) (pc' := 10) rfl (hb hby d4_6) (by decide) (by decide) k) ?_
  obtain ⟨fs, hr, hrun, hended, hW, hsame⟩ := X0.leave (v := some (.int (2 : Int32))) (fun h => by rw [Bd.returns] at h; cases h)
  exact ⟨_, _, retOut X0 hx Bd.returns rfl (Or.inl ⟨rfl, Or.inl rfl, _, rfl⟩) (hb hby d4_10) hr, hrun, hended, _, _, rfl, ⟨rfl, N0, e0⟩, ⟨_, rfl⟩, hW, hsame.mono (by decide) (by decide)⟩
set_option maxRecDepth 65536 in
set_option maxHeartbeats 40000000 in
theorem rm2_8 (l : Launch) (Z : State) (a0 : Array Value) (hw : ∀ d ∈ tables_1, d.before a0 Z = true) (ws : List Jvm.Cond) (w : Nat → Addr) (h0 : Heap) (n0 : Nat) (Z0 : n0 ≤ h0.size) (hP : Pins Z h0 w) :
    MetFree l (⟨"com/example/bagwise/bagwise/terms/Truth", "or", "(Lcom/example/bagwise/bagwise/terms/Truth;)Lcom/example/bagwise/bagwise/terms/Truth;"⟩ : MethodName) (head1 (Jvm.Cond.code (⟨"com/example/bagwise/bagwise/terms/Truth", "or", "(Lcom/example/bagwise/bagwise/terms/Truth;)Lcom/example/bagwise/bagwise/terms/Truth;"⟩ : MethodName) prog_175_method_8_code 2 (some (.object "com/example/bagwise/bagwise/terms/Truth")) :: ws) ({ frames := 0, cells := 0, slots := 0, locals := 0 } : Room)) (fun a U => a = #[(.ref (w 1)), (.ref (w 1))] ∧ Z.Warmed39 U.vm ∧ U.heap = h0) (fun _ _ _ _ _ => True) (fun _ U o U' => ∃ v L, o = .returned v ∧ Qp (some (.ref (w 1))) h0 n0 v U'.heap L ∧ FrameEnd U o U' L ({ frames := 0, cells := 0, slots := 0, locals := 0 } : Room).cells ({ frames := 0, cells := 0, slots := 0, locals := 0 } : Room).slots) := by
  refine MetFree.of_bodySF (plainFor_of_name pn_1) hisR ?_
  intro p e s m args below meth c s₁ Bd hml0 hP0 hK
  obtain ⟨rfl, hZ, hh⟩ := hP0
  have hx := Bd.exec
  have hby := Bd.bytes
  have hml : c.maxLocals = 2 := hml0
  have hown : s.vm.findClass "com/example/bagwise/bagwise/terms/Truth" = some m.cls := findClass_of_methodNamed Bd.named
  have hnm := (name_of_methodNamed Bd.named Bd.method).1
  have X0 : Stand p l e ({ frames := 0, cells := 0, slots := 0, locals := 0 } : Room) s m #[(.ref (w 1)), (.ref (w 1))] below meth c s₁ [] 0 0 := Stand.of_body Bd
  have e0 : s₁.heap = h0 := by rw [← hh, Bd.state]; rfl
  have N0 := Fr.nil n0
  suffices hgo : Go p e below (fun o U' => ∃ v L, o = .returned v ∧ Qp (some (.ref (w 1))) h0 n0 v U'.heap L ∧ FrameEnd s o U' L ({ frames := 0, cells := 0, slots := 0, locals := 0 } : Room).cells ({ frames := 0, cells := 0, slots := 0, locals := 0 } : Room).slots) s₁ (mkF m 0 #[.val (.ref (w 1)), .val (.ref (w 1))] []) by
    obtain ⟨s2, o, g1, g2, g3, g4⟩ := hgo
    refine ⟨s2, o, castTop (?_ : entryFrame m #[(.ref (w 1)), (.ref (w 1))] 2 = _) g1, g2, g3, g4⟩
    first | (simp [entryFrame, mkF, argsToLocals, Value.category]; done) | rfl
  refine Go.on (T' := s₁) (g' := (mkF m 1 #[.val (.ref (w 1)), .val (.ref (w 1))] [(.ref (w 1))])) (fun t k => XS.aloadN X0.here hx rfl (hb hby d2_0) rfl rfl k) ?_
  obtain ⟨T123, X123, e123, st123⟩ := getS2 X0 hx hZ hown (host := "") (Or.inl (hw _ (List.mem_of_getElem? (i := 13) rfl))) Via.refl e0 (pin_1 hP) (g := (mkF m 1 #[.val (.ref (w 1)), .val (.ref (w 1))] [(.ref (w 1))])) rfl (hb hby d2_1)
  refine Go.on (T' := T123) (g' := (mkF m 4 #[.val (.ref (w 1)), .val (.ref (w 1))] [(.ref (w 1)), (.ref (w 1))])) st123 ?_
  refine Go.on (T' := T123) (g' := (mkF m 14 #[.val (.ref (w 1)), .val (.ref (w 1))] [])) (fun t k => Jvm.RoadKit.acmp (g := (mkF m 4 #[.val (.ref (w 1)), .val (.ref (w 1))] [(.ref (w 1)), (.ref (w 1))])) X123 hx rfl rfl rfl (pc0 := 4) (pc' := 14) (same := true) rfl (hb hby d2_4) rfl (decide_eq_true rfl) (by decide) (by decide) k) ?_
  obtain ⟨T124, X124, e124, st124⟩ := getS2 X123 hx hZ hown (host := "") (Or.inl (hw _ (List.mem_of_getElem? (i := 13) rfl))) Via.refl e123 (pin_1 hP) (g := (mkF m 14 #[.val (.ref (w 1)), .val (.ref (w 1))] [])) rfl (hb hby d2_14)
  refine Go.on (T' := T124) (g' := (mkF m 17 #[.val (.ref (w 1)), .val (.ref (w 1))] [(.ref (w 1))])) st124 ?_
  obtain ⟨fs, hr, hrun, hended, hW, hsame⟩ := X124.leave (v := some (.ref (w 1))) (fun h => by rw [Bd.returns] at h; cases h)
  exact ⟨_, _, retOut X124 hx Bd.returns rfl (Or.inr (Or.inr (Or.inr (Or.inr ⟨rfl, rfl, rfl⟩)))) (hb hby d2_17) hr, hrun, hended, _, _, rfl, ⟨rfl, N0, e124⟩, ⟨_, rfl⟩, hW, hsame.mono (by decide) (by decide)⟩
set_option maxRecDepth 65536 in
set_option maxHeartbeats 40000000 in
theorem rm4_8 (l : Launch) (Z : State) (a0 : Array Value) (hw : ∀ d ∈ tables_1, d.before a0 Z = true) (ws : List Jvm.Cond) (w : Nat → Addr) (h0 : Heap) (n0 : Nat) (Z0 : n0 ≤ h0.size) (hP : Pins Z h0 w) :
    MetFree l (⟨"java/lang/Math", "max", "(II)I"⟩ : MethodName) (head1 (Jvm.Cond.code (⟨"java/lang/Math", "max", "(II)I"⟩ : MethodName) jdk_29_method_65_code 2 (some .int) :: ws) ({ frames := 0, cells := 0, slots := 0, locals := 0 } : Room)) (fun a U => a = #[(.int (2 : Int32)), (.int (2 : Int32))] ∧ Z.Warmed39 U.vm ∧ U.heap = h0) (fun _ _ _ _ _ => True) (fun _ U o U' => ∃ v L, o = .returned v ∧ Qp (some (.int (2 : Int32))) h0 n0 v U'.heap L ∧ FrameEnd U o U' L ({ frames := 0, cells := 0, slots := 0, locals := 0 } : Room).cells ({ frames := 0, cells := 0, slots := 0, locals := 0 } : Room).slots) := by
  refine MetFree.of_bodySF (Jvm.Free.JP.mathPlain rfl (by decide +kernel)) hisR ?_
  intro p e s m args below meth c s₁ Bd hml0 hP0 hK
  obtain ⟨rfl, hZ, hh⟩ := hP0
  have hx := Bd.exec
  have hby := Bd.bytes
  have hml : c.maxLocals = 2 := hml0
  have hown : s.vm.findClass "java/lang/Math" = some m.cls := findClass_of_methodNamed Bd.named
  have hnm := (name_of_methodNamed Bd.named Bd.method).1
  have X0 : Stand p l e ({ frames := 0, cells := 0, slots := 0, locals := 0 } : Room) s m #[(.int (2 : Int32)), (.int (2 : Int32))] below meth c s₁ [] 0 0 := Stand.of_body Bd
  have e0 : s₁.heap = h0 := by rw [← hh, Bd.state]; rfl
  have N0 := Fr.nil n0
  suffices hgo : Go p e below (fun o U' => ∃ v L, o = .returned v ∧ Qp (some (.int (2 : Int32))) h0 n0 v U'.heap L ∧ FrameEnd s o U' L ({ frames := 0, cells := 0, slots := 0, locals := 0 } : Room).cells ({ frames := 0, cells := 0, slots := 0, locals := 0 } : Room).slots) s₁ (mkF m 0 #[.val (.int (2 : Int32)), .val (.int (2 : Int32))] []) by
    obtain ⟨s2, o, g1, g2, g3, g4⟩ := hgo
    refine ⟨s2, o, castTop (?_ : entryFrame m #[(.int (2 : Int32)), (.int (2 : Int32))] 2 = _) g1, g2, g3, g4⟩
    first | (simp [entryFrame, mkF, argsToLocals, Value.category]; done) | rfl
  refine Go.on (T' := s₁) (g' := (mkF m 1 #[.val (.int (2 : Int32)), .val (.int (2 : Int32))] [(.int (2 : Int32))])) (fun t k => XS.iloadN X0.here hx rfl (hb hby d4_0) rfl k) ?_
  refine Go.on (T' := s₁) (g' := (mkF m 2 #[.val (.int (2 : Int32)), .val (.int (2 : Int32))] [(.int (2 : Int32)), (.int (2 : Int32))])) (fun t k => XS.iloadN X0.here hx rfl (hb hby d4_1) rfl k) ?_
  refine Go.on (T' := s₁) (g' := (mkF m 5 #[.val (.int (2 : Int32)), .val (.int (2 : Int32))] [])) (fun t k => XS.icmpNo X0.here hx rfl (hb hby d4_2) rfl (flt (by decide : ¬ ((2 : Int32) < (2 : Int32)))).1 k) ?_
  refine Go.on (T' := s₁) (g' := (mkF m 6 #[.val (.int (2 : Int32)), .val (.int (2 : Int32))] [(.int (2 : Int32))])) (fun t k => XS.iloadN X0.here hx rfl (hb hby d4_5) rfl k) ?_
  refine Go.on (T' := s₁) (g' := (mkF m 10 #[.val (.int (2 : Int32)), .val (.int (2 : Int32))] [(.int (2 : Int32))])) (fun t k => XS.goto X0.here hx rfl (pc0 := 6) (pc' := 10) rfl (hb hby d4_6) (by decide) (by decide) k) ?_
  obtain ⟨fs, hr, hrun, hended, hW, hsame⟩ := X0.leave (v := some (.int (2 : Int32))) (fun h => by rw [Bd.returns] at h; cases h)
  exact ⟨_, _, retOut X0 hx Bd.returns rfl (Or.inl ⟨rfl, Or.inl rfl, _, rfl⟩) (hb hby d4_10) hr, hrun, hended, _, _, rfl, ⟨rfl, N0, e0⟩, ⟨_, rfl⟩, hW, hsame.mono (by decide) (by decide)⟩
set_option maxRecDepth 65536 in
set_option maxHeartbeats 40000000 in
theorem rm0 (l : Launch) (Z : State) (a0 : Array Value) (hw : ∀ d ∈ tables_1, d.before a0 Z = true) (ws : List Jvm.Cond) (w : Nat → Addr) (h0 : Heap) (n0 : Nat) (Z0 : n0 ≤ h0.size) (hP : Pins Z h0 w) (i0 : Int32) (i1 : Int32) :
    MetFree l x (head1 (Jvm.Cond.code x code maxLocals ret :: ws) room_1) (fun a U => a = #[(.int i0), (.int i1)] ∧ Z.Warmed39 U.vm ∧ U.heap = h0) (fun _ _ _ _ _ => True) (fun _ U o U' => ∃ v L, o = .returned v ∧ Ql (some (.int (1 : Int32))) n0 v L ∧ FrameEnd U o U' L 0 0) := by
  refine MetFree.of_bodySF (plainFor_of_name pn_0) hisR ?_
  intro p e s m args below meth c s₁ Bd hml0 hP0 hK
  obtain ⟨rfl, hZ, hh⟩ := hP0
  have hx := Bd.exec
  have hby := Bd.bytes
  have hml : c.maxLocals = 7 := hml0
  have hown : s.vm.findClass "com/example/bagwise/bagwise/terms/TruthOrPinLaw" = some m.cls := findClass_of_methodNamed Bd.named
  have hnm := (name_of_methodNamed Bd.named Bd.method).1
  have X0 : Stand p l e room_1 s m #[(.int i0), (.int i1)] below meth c s₁ [] 0 0 := Stand.of_body Bd
  have e0 : s₁.heap = h0 := by rw [← hh, Bd.state]; rfl
  have N0 := Fr.nil n0
  suffices hgo : Go p e below (fun o U' => ∃ v L, o = .returned v ∧ Ql (some (.int (1 : Int32))) n0 v L ∧ FrameEnd s o U' L 0 0) s₁ (mkF m 0 #[.val (.int i0), .val (.int i1), .unset, .unset, .unset, .unset, .unset] []) by
    obtain ⟨s2, o, g1, g2, g3, g4⟩ := hgo
    refine ⟨s2, o, castTop (?_ : entryFrame m #[(.int i0), (.int i1)] maxLocals = _) g1, g2, g3, g4⟩
    first | (simp [entryFrame, mkF, argsToLocals, Value.category, maxLocals]; done) | rfl
  refine Go.on (T' := s₁) (g' := (mkF m 1 #[.val (.int i0), .val (.int i1), .unset, .unset, .unset, .unset, .unset] [(.int i0)])) (fun t k => XS.iloadN X0.here hx rfl (hb hby at_0) rfl k) ?_
  refine Go.on (T' := s₁) (g' := (mkF m 3 #[.val (.int i0), .val (.int i1), .unset, .unset, .unset, .unset, .unset] [(.int (2147483647 : Int32)), (.int i0)])) (X0.ldcInt hx hown (mvT hZ (hw _ (List.mem_of_getElem? (i := 0) rfl))) (g := (mkF m 1 #[.val (.int i0), .val (.int i1), .unset, .unset, .unset, .unset, .unset] [(.int i0)])) rfl (hb hby at_1)) ?_
  refine Go.on (T' := s₁) (g' := (mkF m 4 #[.val (.int i0), .val (.int i1), .unset, .unset, .unset, .unset, .unset] [(.int (i0 &&& (2147483647 : Int32)))])) (fun t k => XS.iand X0.here hx rfl (hb hby at_3) rfl k) ?_
  refine Go.on (T' := s₁) (g' := (mkF m 5 #[.val (.int i0), .val (.int i1), .unset, .unset, .unset, .unset, .unset] [(.int (3 : Int32)), (.int (i0 &&& (2147483647 : Int32)))])) (fun t k => XS.iconst X0.here hx rfl (hb hby at_4) k) ?_
  refine Go.on (T' := s₁) (g' := (mkF m 6 #[.val (.int i0), .val (.int i1), .unset, .unset, .unset, .unset, .unset] [(.int ((i0 &&& (2147483647 : Int32)) % (3 : Int32)))])) (fun t k => iremM X0 hx rfl (hb hby at_5) rfl (by decide) k) ?_
  rcases own_mod3 i0 with h1 | h1 | h1
  · skip
    rw [h1]
    refine Go.on (T' := s₁) (g' := (mkF m 7 #[.val (.int i0), .val (.int i1), .val (.int (0 : Int32)), .unset, .unset, .unset, .unset] [])) (fun t k => XS.istoreN X0.here hx rfl (hb hby at_6) rfl (l' := #[.val (.int i0), .val (.int i1), .val (.int (0 : Int32)), .unset, .unset, .unset, .unset]) rfl k) ?_
    refine Go.on (T' := s₁) (g' := (mkF m 8 #[.val (.int i0), .val (.int i1), .val (.int (0 : Int32)), .unset, .unset, .unset, .unset] [(.int i1)])) (fun t k => XS.iloadN X0.here hx rfl (hb hby at_7) rfl k) ?_
    refine Go.on (T' := s₁) (g' := (mkF m 10 #[.val (.int i0), .val (.int i1), .val (.int (0 : Int32)), .unset, .unset, .unset, .unset] [(.int (2147483647 : Int32)), (.int i1)])) (X0.ldcInt hx hown (mvT hZ (hw _ (List.mem_of_getElem? (i := 0) rfl))) (g := (mkF m 8 #[.val (.int i0), .val (.int i1), .val (.int (0 : Int32)), .unset, .unset, .unset, .unset] [(.int i1)])) rfl (hb hby at_8)) ?_
    refine Go.on (T' := s₁) (g' := (mkF m 11 #[.val (.int i0), .val (.int i1), .val (.int (0 : Int32)), .unset, .unset, .unset, .unset] [(.int (i1 &&& (2147483647 : Int32)))])) (fun t k => XS.iand X0.here hx rfl (hb hby at_10) rfl k) ?_
    refine Go.on (T' := s₁) (g' := (mkF m 12 #[.val (.int i0), .val (.int i1), .val (.int (0 : Int32)), .unset, .unset, .unset, .unset] [(.int (3 : Int32)), (.int (i1 &&& (2147483647 : Int32)))])) (fun t k => XS.iconst X0.here hx rfl (hb hby at_11) k) ?_
    refine Go.on (T' := s₁) (g' := (mkF m 13 #[.val (.int i0), .val (.int i1), .val (.int (0 : Int32)), .unset, .unset, .unset, .unset] [(.int ((i1 &&& (2147483647 : Int32)) % (3 : Int32)))])) (fun t k => iremM X0 hx rfl (hb hby at_12) rfl (by decide) k) ?_
    rcases own_mod3 i1 with h2 | h2 | h2
    · skip
      rw [h2]
      refine Go.on (T' := s₁) (g' := (mkF m 14 #[.val (.int i0), .val (.int i1), .val (.int (0 : Int32)), .val (.int (0 : Int32)), .unset, .unset, .unset] [])) (fun t k => XS.istoreN X0.here hx rfl (hb hby at_13) rfl (l' := #[.val (.int i0), .val (.int i1), .val (.int (0 : Int32)), .val (.int (0 : Int32)), .unset, .unset, .unset]) rfl k) ?_
      refine Go.on (T' := s₁) (g' := (mkF m 15 #[.val (.int i0), .val (.int i1), .val (.int (0 : Int32)), .val (.int (0 : Int32)), .unset, .unset, .unset] [(.int (0 : Int32))])) (fun t k => XS.iloadN X0.here hx rfl (hb hby at_14) rfl k) ?_
      obtain ⟨_, _, ⟨T5, L5, k5, n5⟩, -, X5, ⟨Lc5, hQ5, l5, y5, z5⟩, st5⟩ := Jvm.LawKit.callS X0 hx (y := (⟨"com/example/bagwise/bagwise/terms/TruthOrPinLaw", "pick", "(I)Lcom/example/bagwise/bagwise/terms/Truth;"⟩ : MethodName)) hown (mvT hZ (hw _ (List.mem_of_getElem? (i := 1) rfl))) (mvT hZ (hw _ (List.mem_of_getElem? (i := 2) rfl))) (mvT hZ (hw _ (List.mem_of_getElem? (i := 3) rfl))) (mvT hZ (hw _ (List.mem_of_getElem? (i := 4) rfl))) (by decide) (backOf (W := 0) (rm1_0 l Z a0 hw [] w h0 n0 (Nat.le_trans Z0 (own_ext0 h0).1) hP) hZ (hw _ (List.mem_of_getElem? (i := 4) rfl)) (hw _ (List.mem_of_getElem? (i := 3) rfl)) (by decide) (by decide)) (g := (mkF m 15 #[.val (.int i0), .val (.int i1), .val (.int (0 : Int32)), .val (.int (0 : Int32)), .unset, .unset, .unset] [(.int (0 : Int32))])) rfl (by rw [hml]; rfl) (argsL := [(.int (0 : Int32))]) (rest := []) (lenOf pd_0 rfl) rfl (by show 2 * 0 + _ ≤ _; exact Nat.le_of_eq rfl) (hb hby at_15) (fun _ _ => ⟨rfl, e0, (by decide : 0 + 0 ≤ _), (by decide : 0 + 0 ≤ _)⟩)
      dsimp only [Pt.U, Pt.locs, Pt.cells, Pt.slots] at X5 l5 y5 z5 st5 hQ5
      subst l5 y5 z5
      obtain ⟨rfl, N5q, e5⟩ := hQ5
      have N5 := Fr.app N0 N5q
      refine Go.on (T' := T5) (g' := (mkF m 18 #[.val (.int i0), .val (.int i1), .val (.int (0 : Int32)), .val (.int (0 : Int32)), .unset, .unset, .unset] [(.ref (w 0))])) st5 ?_
      refine Go.on (T' := T5) (g' := (mkF m 20 #[.val (.int i0), .val (.int i1), .val (.int (0 : Int32)), .val (.int (0 : Int32)), .val (.ref (w 0)), .unset, .unset] [])) (fun t k => XS.astore X5.here hx rfl (hb hby at_18) rfl rfl (l' := #[.val (.int i0), .val (.int i1), .val (.int (0 : Int32)), .val (.int (0 : Int32)), .val (.ref (w 0)), .unset, .unset]) rfl k) ?_
      refine Go.on (T' := T5) (g' := (mkF m 21 #[.val (.int i0), .val (.int i1), .val (.int (0 : Int32)), .val (.int (0 : Int32)), .val (.ref (w 0)), .unset, .unset] [(.int (0 : Int32))])) (fun t k => XS.iloadN X5.here hx rfl (hb hby at_20) rfl k) ?_
      obtain ⟨_, _, ⟨T6, L6, k6, n6⟩, -, X6, ⟨Lc6, hQ6, l6, y6, z6⟩, st6⟩ := Jvm.LawKit.callS X5 hx (y := (⟨"com/example/bagwise/bagwise/terms/TruthOrPinLaw", "pick", "(I)Lcom/example/bagwise/bagwise/terms/Truth;"⟩ : MethodName)) hown (mvT hZ (hw _ (List.mem_of_getElem? (i := 1) rfl))) (mvT hZ (hw _ (List.mem_of_getElem? (i := 2) rfl))) (mvT hZ (hw _ (List.mem_of_getElem? (i := 3) rfl))) (mvT hZ (hw _ (List.mem_of_getElem? (i := 4) rfl))) (by decide) (backOf (W := 0) (rm1_0 l Z a0 hw [] w h0 n0 (Nat.le_trans Z0 (own_ext0 h0).1) hP) hZ (hw _ (List.mem_of_getElem? (i := 4) rfl)) (hw _ (List.mem_of_getElem? (i := 3) rfl)) (by decide) (by decide)) (g := (mkF m 21 #[.val (.int i0), .val (.int i1), .val (.int (0 : Int32)), .val (.int (0 : Int32)), .val (.ref (w 0)), .unset, .unset] [(.int (0 : Int32))])) rfl (by rw [hml]; rfl) (argsL := [(.int (0 : Int32))]) (rest := []) (lenOf pd_0 rfl) rfl (by show 2 * 0 + _ ≤ _; exact Nat.le_of_eq rfl) (hb hby at_21) (fun _ _ => ⟨rfl, e5, (by decide : 0 + 0 ≤ _), (by decide : 0 + 0 ≤ _)⟩)
      dsimp only [Pt.U, Pt.locs, Pt.cells, Pt.slots] at X6 l6 y6 z6 st6 hQ6
      subst l6 y6 z6
      obtain ⟨rfl, N6q, e6⟩ := hQ6
      have N6 := Fr.app N5 N6q
      refine Go.on (T' := T6) (g' := (mkF m 24 #[.val (.int i0), .val (.int i1), .val (.int (0 : Int32)), .val (.int (0 : Int32)), .val (.ref (w 0)), .unset, .unset] [(.ref (w 0))])) st6 ?_
      refine Go.on (T' := T6) (g' := (mkF m 26 #[.val (.int i0), .val (.int i1), .val (.int (0 : Int32)), .val (.int (0 : Int32)), .val (.ref (w 0)), .val (.ref (w 0)), .unset] [])) (fun t k => XS.astore X6.here hx rfl (hb hby at_24) rfl rfl (l' := #[.val (.int i0), .val (.int i1), .val (.int (0 : Int32)), .val (.int (0 : Int32)), .val (.ref (w 0)), .val (.ref (w 0)), .unset]) rfl k) ?_
      refine Go.on (T' := T6) (g' := (mkF m 28 #[.val (.int i0), .val (.int i1), .val (.int (0 : Int32)), .val (.int (0 : Int32)), .val (.ref (w 0)), .val (.ref (w 0)), .unset] [(.ref (w 0))])) (fun t k => XS.aload X6.here hx rfl (hb hby at_26) rfl rfl k) ?_
      refine Go.on (T' := T6) (g' := (mkF m 30 #[.val (.int i0), .val (.int i1), .val (.int (0 : Int32)), .val (.int (0 : Int32)), .val (.ref (w 0)), .val (.ref (w 0)), .unset] [(.ref (w 0)), (.ref (w 0))])) (fun t k => XS.aload X6.here hx rfl (hb hby at_28) rfl rfl k) ?_
      obtain ⟨cq17, kq17, q17a, q17b, q17c⟩ := isOf hZ e6 (pin_3 hP)
      obtain ⟨_, _, ⟨T17, L17, k17, n17⟩, -, X17, ⟨Lc17, hQ17, l17, y17, z17⟩, st17⟩ := X6.virtualBack hx (y := (⟨"com/example/bagwise/bagwise/terms/Truth", "or", "(Lcom/example/bagwise/bagwise/terms/Truth;)Lcom/example/bagwise/bagwise/terms/Truth;"⟩ : MethodName)) (z := (⟨"com/example/bagwise/bagwise/terms/Truth", "or", "(Lcom/example/bagwise/bagwise/terms/Truth;)Lcom/example/bagwise/bagwise/terms/Truth;"⟩ : MethodName)) hown (mvT hZ (hw _ (List.mem_of_getElem? (i := 8) rfl))) (mvT hZ (hw _ (List.mem_of_getElem? (i := 9) rfl))) (notFace_of_selects (args := #[]) (mvT hZ (hw _ (List.mem_of_getElem? (i := 11) rfl)))) (mvT hZ (hw _ (List.mem_of_getElem? (i := 11) rfl))) (mvT hZ (hw _ (List.mem_of_getElem? (i := 10) rfl))) (by decide) (backOf (W := 0) (rm2_0 l Z a0 hw [] w h0 n0 (Nat.le_trans Z0 (own_ext0 h0).1) hP) hZ (hw _ (List.mem_of_getElem? (i := 12) rfl)) (hw _ (List.mem_of_getElem? (i := 6) rfl)) (by decide) (by decide)) q17a q17c (g := (mkF m 30 #[.val (.int i0), .val (.int i1), .val (.int (0 : Int32)), .val (.int (0 : Int32)), .val (.ref (w 0)), .val (.ref (w 0)), .unset] [(.ref (w 0)), (.ref (w 0))])) rfl (by rw [hml]; rfl) (Steps.refl _) (argsL := [(.ref (w 0))]) (rest := []) (lenOf pd_1 rfl) rfl (by show 2 * 0 + _ ≤ _; exact Nat.le_of_eq rfl) (hb hby at_30) (fun _ _ => ⟨rfl, e6, (by decide : 0 + 0 ≤ _), (by decide : 0 + 0 ≤ _)⟩)
      dsimp only [Pt.U, Pt.locs, Pt.cells, Pt.slots] at X17 l17 y17 z17 st17 hQ17
      subst l17 y17 z17
      obtain ⟨rfl, N17q, e17⟩ := hQ17
      have N17 := Fr.app N6 N17q
      refine Go.on (T' := T17) (g' := (mkF m 33 #[.val (.int i0), .val (.int i1), .val (.int (0 : Int32)), .val (.int (0 : Int32)), .val (.ref (w 0)), .val (.ref (w 0)), .unset] [(.ref (w 0))])) (fun t k => st17.trans k) ?_
      refine Go.on (T' := T17) (g' := (mkF m 35 #[.val (.int i0), .val (.int i1), .val (.int (0 : Int32)), .val (.int (0 : Int32)), .val (.ref (w 0)), .val (.ref (w 0)), .val (.ref (w 0))] [])) (fun t k => XS.astore X17.here hx rfl (hb hby at_33) rfl rfl (l' := #[.val (.int i0), .val (.int i1), .val (.int (0 : Int32)), .val (.int (0 : Int32)), .val (.ref (w 0)), .val (.ref (w 0)), .val (.ref (w 0))]) rfl k) ?_
      refine Go.on (T' := T17) (g' := (mkF m 37 #[.val (.int i0), .val (.int i1), .val (.int (0 : Int32)), .val (.int (0 : Int32)), .val (.ref (w 0)), .val (.ref (w 0)), .val (.ref (w 0))] [(.ref (w 0))])) (fun t k => XS.aload X17.here hx rfl (hb hby at_35) rfl rfl k) ?_
      obtain ⟨_, _, ⟨T20, L20, k20, n20⟩, -, X20, ⟨Lc20, hQ20, l20, y20, z20⟩, st20⟩ := Jvm.LawKit.callS X17 hx (y := (⟨"com/example/bagwise/bagwise/terms/TruthOrPinLaw", "rank", "(Lcom/example/bagwise/bagwise/terms/Truth;)I"⟩ : MethodName)) hown (mvT hZ (hw _ (List.mem_of_getElem? (i := 18) rfl))) (mvT hZ (hw _ (List.mem_of_getElem? (i := 19) rfl))) (mvT hZ (hw _ (List.mem_of_getElem? (i := 3) rfl))) (mvT hZ (hw _ (List.mem_of_getElem? (i := 20) rfl))) (by decide) (backOf (W := 0) (rm3_0 l Z a0 hw [] w h0 n0 (Nat.le_trans Z0 (own_ext0 h0).1) hP) hZ (hw _ (List.mem_of_getElem? (i := 20) rfl)) (hw _ (List.mem_of_getElem? (i := 3) rfl)) (by decide) (by decide)) (g := (mkF m 37 #[.val (.int i0), .val (.int i1), .val (.int (0 : Int32)), .val (.int (0 : Int32)), .val (.ref (w 0)), .val (.ref (w 0)), .val (.ref (w 0))] [(.ref (w 0))])) rfl (by rw [hml]; rfl) (argsL := [(.ref (w 0))]) (rest := []) (lenOf pd_2 rfl) rfl (by show 2 * 0 + _ ≤ _; exact Nat.le_of_eq rfl) (hb hby at_37) (fun _ _ => ⟨rfl, e17, (by decide : 0 + 0 ≤ _), (by decide : 0 + 0 ≤ _)⟩)
      dsimp only [Pt.U, Pt.locs, Pt.cells, Pt.slots] at X20 l20 y20 z20 st20 hQ20
      subst l20 y20 z20
      obtain ⟨rfl, N20q, e20⟩ := hQ20
      have N20 := Fr.app N17 N20q
      refine Go.on (T' := T20) (g' := (mkF m 40 #[.val (.int i0), .val (.int i1), .val (.int (0 : Int32)), .val (.int (0 : Int32)), .val (.ref (w 0)), .val (.ref (w 0)), .val (.ref (w 0))] [(.int (0 : Int32))])) st20 ?_
      refine Go.on (T' := T20) (g' := (mkF m 41 #[.val (.int i0), .val (.int i1), .val (.int (0 : Int32)), .val (.int (0 : Int32)), .val (.ref (w 0)), .val (.ref (w 0)), .val (.ref (w 0))] [(.int (0 : Int32)), (.int (0 : Int32))])) (fun t k => XS.iloadN X20.here hx rfl (hb hby at_40) rfl k) ?_
      refine Go.on (T' := T20) (g' := (mkF m 42 #[.val (.int i0), .val (.int i1), .val (.int (0 : Int32)), .val (.int (0 : Int32)), .val (.ref (w 0)), .val (.ref (w 0)), .val (.ref (w 0))] [(.int (0 : Int32)), (.int (0 : Int32)), (.int (0 : Int32))])) (fun t k => XS.iloadN X20.here hx rfl (hb hby at_41) rfl k) ?_
      obtain ⟨_, _, ⟨T21, L21, k21, n21⟩, -, X21, ⟨Lc21, hQ21, l21, y21, z21⟩, st21⟩ := Jvm.LawKit.callS X20 hx (y := (⟨"java/lang/Math", "max", "(II)I"⟩ : MethodName)) hown (mvT hZ (hw _ (List.mem_of_getElem? (i := 21) rfl))) (mvT hZ (hw _ (List.mem_of_getElem? (i := 22) rfl))) (mvT hZ (hw _ (List.mem_of_getElem? (i := 23) rfl))) (mvT hZ (hw _ (List.mem_of_getElem? (i := 24) rfl))) (by decide) (backOf (W := 1) (rm4_0 l Z a0 hw [] w h0 n0 (Nat.le_trans Z0 (own_ext0 h0).1) hP) hZ (hw _ (List.mem_of_getElem? (i := 24) rfl)) (hw _ (List.mem_of_getElem? (i := 23) rfl)) (by decide) (by decide)) (g := (mkF m 42 #[.val (.int i0), .val (.int i1), .val (.int (0 : Int32)), .val (.int (0 : Int32)), .val (.ref (w 0)), .val (.ref (w 0)), .val (.ref (w 0))] [(.int (0 : Int32)), (.int (0 : Int32)), (.int (0 : Int32))])) rfl (by rw [hml]; rfl) (argsL := [(.int (0 : Int32)), (.int (0 : Int32))]) (rest := [(.int (0 : Int32))]) (lenOf pd_3 rfl) rfl (by show 2 * 0 + _ ≤ _; exact Nat.le_of_eq rfl) (hb hby at_42) (fun _ _ => ⟨rfl, e20, (by decide : 0 + 0 ≤ _), (by decide : 0 + 0 ≤ _)⟩)
      dsimp only [Pt.U, Pt.locs, Pt.cells, Pt.slots] at X21 l21 y21 z21 st21 hQ21
      subst l21 y21 z21
      obtain ⟨rfl, N21q, e21⟩ := hQ21
      have N21 := Fr.app N20 N21q
      refine Go.on (T' := T21) (g' := (mkF m 45 #[.val (.int i0), .val (.int i1), .val (.int (0 : Int32)), .val (.int (0 : Int32)), .val (.ref (w 0)), .val (.ref (w 0)), .val (.ref (w 0))] [(.int (0 : Int32)), (.int (0 : Int32))])) st21 ?_
      refine Go.on (T' := T21) (g' := (mkF m 48 #[.val (.int i0), .val (.int i1), .val (.int (0 : Int32)), .val (.int (0 : Int32)), .val (.ref (w 0)), .val (.ref (w 0)), .val (.ref (w 0))] [])) (fun t k => XS.icmpNo X21.here hx rfl (hb hby at_45) rfl (teq (by decide : (0 : Int32) = (0 : Int32))).2 k) ?_
      refine Go.on (T' := T21) (g' := (mkF m 49 #[.val (.int i0), .val (.int i1), .val (.int (0 : Int32)), .val (.int (0 : Int32)), .val (.ref (w 0)), .val (.ref (w 0)), .val (.ref (w 0))] [(.int (1 : Int32))])) (fun t k => XS.iconst X21.here hx rfl (hb hby at_48) k) ?_
      refine Go.on (T' := T21) (g' := (mkF m 53 #[.val (.int i0), .val (.int i1), .val (.int (0 : Int32)), .val (.int (0 : Int32)), .val (.ref (w 0)), .val (.ref (w 0)), .val (.ref (w 0))] [(.int (1 : Int32))])) (fun t k => XS.goto X21.here hx rfl (pc0 := 49) (pc' := 53) rfl (hb hby at_49) (by decide) (by decide) k) ?_
      obtain ⟨fs, hr, hrun, hended, hW, hsame⟩ := X21.leave (v := some (.int (1 : Int32))) (fun h => by rw [Bd.returns] at h; cases h)
      exact ⟨_, _, retN X21 hx (t := .boolean) Bd.returns (by simp) (hb hby at_53) hr, hrun, hended, _, _, rfl, ⟨rfl, N21⟩, ⟨_, rfl⟩, hW, hsame.mono (by decide) (by decide)⟩
    · skip
      rw [h2]
      refine Go.on (T' := s₁) (g' := (mkF m 14 #[.val (.int i0), .val (.int i1), .val (.int (0 : Int32)), .val (.int (1 : Int32)), .unset, .unset, .unset] [])) (fun t k => XS.istoreN X0.here hx rfl (hb hby at_13) rfl (l' := #[.val (.int i0), .val (.int i1), .val (.int (0 : Int32)), .val (.int (1 : Int32)), .unset, .unset, .unset]) rfl k) ?_
      refine Go.on (T' := s₁) (g' := (mkF m 15 #[.val (.int i0), .val (.int i1), .val (.int (0 : Int32)), .val (.int (1 : Int32)), .unset, .unset, .unset] [(.int (0 : Int32))])) (fun t k => XS.iloadN X0.here hx rfl (hb hby at_14) rfl k) ?_
      obtain ⟨_, _, ⟨T22, L22, k22, n22⟩, -, X22, ⟨Lc22, hQ22, l22, y22, z22⟩, st22⟩ := Jvm.LawKit.callS X0 hx (y := (⟨"com/example/bagwise/bagwise/terms/TruthOrPinLaw", "pick", "(I)Lcom/example/bagwise/bagwise/terms/Truth;"⟩ : MethodName)) hown (mvT hZ (hw _ (List.mem_of_getElem? (i := 1) rfl))) (mvT hZ (hw _ (List.mem_of_getElem? (i := 2) rfl))) (mvT hZ (hw _ (List.mem_of_getElem? (i := 3) rfl))) (mvT hZ (hw _ (List.mem_of_getElem? (i := 4) rfl))) (by decide) (backOf (W := 0) (rm1_0 l Z a0 hw [] w h0 n0 (Nat.le_trans Z0 (own_ext0 h0).1) hP) hZ (hw _ (List.mem_of_getElem? (i := 4) rfl)) (hw _ (List.mem_of_getElem? (i := 3) rfl)) (by decide) (by decide)) (g := (mkF m 15 #[.val (.int i0), .val (.int i1), .val (.int (0 : Int32)), .val (.int (1 : Int32)), .unset, .unset, .unset] [(.int (0 : Int32))])) rfl (by rw [hml]; rfl) (argsL := [(.int (0 : Int32))]) (rest := []) (lenOf pd_0 rfl) rfl (by show 2 * 0 + _ ≤ _; exact Nat.le_of_eq rfl) (hb hby at_15) (fun _ _ => ⟨rfl, e0, (by decide : 0 + 0 ≤ _), (by decide : 0 + 0 ≤ _)⟩)
      dsimp only [Pt.U, Pt.locs, Pt.cells, Pt.slots] at X22 l22 y22 z22 st22 hQ22
      subst l22 y22 z22
      obtain ⟨rfl, N22q, e22⟩ := hQ22
      have N22 := Fr.app N0 N22q
      refine Go.on (T' := T22) (g' := (mkF m 18 #[.val (.int i0), .val (.int i1), .val (.int (0 : Int32)), .val (.int (1 : Int32)), .unset, .unset, .unset] [(.ref (w 0))])) st22 ?_
      refine Go.on (T' := T22) (g' := (mkF m 20 #[.val (.int i0), .val (.int i1), .val (.int (0 : Int32)), .val (.int (1 : Int32)), .val (.ref (w 0)), .unset, .unset] [])) (fun t k => XS.astore X22.here hx rfl (hb hby at_18) rfl rfl (l' := #[.val (.int i0), .val (.int i1), .val (.int (0 : Int32)), .val (.int (1 : Int32)), .val (.ref (w 0)), .unset, .unset]) rfl k) ?_
      refine Go.on (T' := T22) (g' := (mkF m 21 #[.val (.int i0), .val (.int i1), .val (.int (0 : Int32)), .val (.int (1 : Int32)), .val (.ref (w 0)), .unset, .unset] [(.int (1 : Int32))])) (fun t k => XS.iloadN X22.here hx rfl (hb hby at_20) rfl k) ?_
      obtain ⟨_, _, ⟨T25, L25, k25, n25⟩, -, X25, ⟨Lc25, hQ25, l25, y25, z25⟩, st25⟩ := Jvm.LawKit.callS X22 hx (y := (⟨"com/example/bagwise/bagwise/terms/TruthOrPinLaw", "pick", "(I)Lcom/example/bagwise/bagwise/terms/Truth;"⟩ : MethodName)) hown (mvT hZ (hw _ (List.mem_of_getElem? (i := 1) rfl))) (mvT hZ (hw _ (List.mem_of_getElem? (i := 2) rfl))) (mvT hZ (hw _ (List.mem_of_getElem? (i := 3) rfl))) (mvT hZ (hw _ (List.mem_of_getElem? (i := 4) rfl))) (by decide) (backOf (W := 0) (rm1_1 l Z a0 hw [] w h0 n0 (Nat.le_trans Z0 (own_ext0 h0).1) hP) hZ (hw _ (List.mem_of_getElem? (i := 4) rfl)) (hw _ (List.mem_of_getElem? (i := 3) rfl)) (by decide) (by decide)) (g := (mkF m 21 #[.val (.int i0), .val (.int i1), .val (.int (0 : Int32)), .val (.int (1 : Int32)), .val (.ref (w 0)), .unset, .unset] [(.int (1 : Int32))])) rfl (by rw [hml]; rfl) (argsL := [(.int (1 : Int32))]) (rest := []) (lenOf pd_0 rfl) rfl (by show 2 * 0 + _ ≤ _; exact Nat.le_of_eq rfl) (hb hby at_21) (fun _ _ => ⟨rfl, e22, (by decide : 0 + 0 ≤ _), (by decide : 0 + 0 ≤ _)⟩)
      dsimp only [Pt.U, Pt.locs, Pt.cells, Pt.slots] at X25 l25 y25 z25 st25 hQ25
      subst l25 y25 z25
      obtain ⟨rfl, N25q, e25⟩ := hQ25
      have N25 := Fr.app N22 N25q
      refine Go.on (T' := T25) (g' := (mkF m 24 #[.val (.int i0), .val (.int i1), .val (.int (0 : Int32)), .val (.int (1 : Int32)), .val (.ref (w 0)), .unset, .unset] [(.ref (w 2))])) st25 ?_
      refine Go.on (T' := T25) (g' := (mkF m 26 #[.val (.int i0), .val (.int i1), .val (.int (0 : Int32)), .val (.int (1 : Int32)), .val (.ref (w 0)), .val (.ref (w 2)), .unset] [])) (fun t k => XS.astore X25.here hx rfl (hb hby at_24) rfl rfl (l' := #[.val (.int i0), .val (.int i1), .val (.int (0 : Int32)), .val (.int (1 : Int32)), .val (.ref (w 0)), .val (.ref (w 2)), .unset]) rfl k) ?_
      refine Go.on (T' := T25) (g' := (mkF m 28 #[.val (.int i0), .val (.int i1), .val (.int (0 : Int32)), .val (.int (1 : Int32)), .val (.ref (w 0)), .val (.ref (w 2)), .unset] [(.ref (w 0))])) (fun t k => XS.aload X25.here hx rfl (hb hby at_26) rfl rfl k) ?_
      refine Go.on (T' := T25) (g' := (mkF m 30 #[.val (.int i0), .val (.int i1), .val (.int (0 : Int32)), .val (.int (1 : Int32)), .val (.ref (w 0)), .val (.ref (w 2)), .unset] [(.ref (w 2)), (.ref (w 0))])) (fun t k => XS.aload X25.here hx rfl (hb hby at_28) rfl rfl k) ?_
      obtain ⟨cq36, kq36, q36a, q36b, q36c⟩ := isOf hZ e25 (pin_3 hP)
      obtain ⟨_, _, ⟨T36, L36, k36, n36⟩, -, X36, ⟨Lc36, hQ36, l36, y36, z36⟩, st36⟩ := X25.virtualBack hx (y := (⟨"com/example/bagwise/bagwise/terms/Truth", "or", "(Lcom/example/bagwise/bagwise/terms/Truth;)Lcom/example/bagwise/bagwise/terms/Truth;"⟩ : MethodName)) (z := (⟨"com/example/bagwise/bagwise/terms/Truth", "or", "(Lcom/example/bagwise/bagwise/terms/Truth;)Lcom/example/bagwise/bagwise/terms/Truth;"⟩ : MethodName)) hown (mvT hZ (hw _ (List.mem_of_getElem? (i := 8) rfl))) (mvT hZ (hw _ (List.mem_of_getElem? (i := 9) rfl))) (notFace_of_selects (args := #[]) (mvT hZ (hw _ (List.mem_of_getElem? (i := 11) rfl)))) (mvT hZ (hw _ (List.mem_of_getElem? (i := 11) rfl))) (mvT hZ (hw _ (List.mem_of_getElem? (i := 10) rfl))) (by decide) (backOf (W := 0) (rm2_1 l Z a0 hw [] w h0 n0 (Nat.le_trans Z0 (own_ext0 h0).1) hP) hZ (hw _ (List.mem_of_getElem? (i := 12) rfl)) (hw _ (List.mem_of_getElem? (i := 6) rfl)) (by decide) (by decide)) q36a q36c (g := (mkF m 30 #[.val (.int i0), .val (.int i1), .val (.int (0 : Int32)), .val (.int (1 : Int32)), .val (.ref (w 0)), .val (.ref (w 2)), .unset] [(.ref (w 2)), (.ref (w 0))])) rfl (by rw [hml]; rfl) (Steps.refl _) (argsL := [(.ref (w 2))]) (rest := []) (lenOf pd_1 rfl) rfl (by show 2 * 0 + _ ≤ _; exact Nat.le_of_eq rfl) (hb hby at_30) (fun _ _ => ⟨rfl, e25, (by decide : 0 + 0 ≤ _), (by decide : 0 + 0 ≤ _)⟩)
      dsimp only [Pt.U, Pt.locs, Pt.cells, Pt.slots] at X36 l36 y36 z36 st36 hQ36
      subst l36 y36 z36
      obtain ⟨rfl, N36q, e36⟩ := hQ36
      have N36 := Fr.app N25 N36q
      refine Go.on (T' := T36) (g' := (mkF m 33 #[.val (.int i0), .val (.int i1), .val (.int (0 : Int32)), .val (.int (1 : Int32)), .val (.ref (w 0)), .val (.ref (w 2)), .unset] [(.ref (w 2))])) (fun t k => st36.trans k) ?_
      refine Go.on (T' := T36) (g' := (mkF m 35 #[.val (.int i0), .val (.int i1), .val (.int (0 : Int32)), .val (.int (1 : Int32)), .val (.ref (w 0)), .val (.ref (w 2)), .val (.ref (w 2))] [])) (fun t k => XS.astore X36.here hx rfl (hb hby at_33) rfl rfl (l' := #[.val (.int i0), .val (.int i1), .val (.int (0 : Int32)), .val (.int (1 : Int32)), .val (.ref (w 0)), .val (.ref (w 2)), .val (.ref (w 2))]) rfl k) ?_
      refine Go.on (T' := T36) (g' := (mkF m 37 #[.val (.int i0), .val (.int i1), .val (.int (0 : Int32)), .val (.int (1 : Int32)), .val (.ref (w 0)), .val (.ref (w 2)), .val (.ref (w 2))] [(.ref (w 2))])) (fun t k => XS.aload X36.here hx rfl (hb hby at_35) rfl rfl k) ?_
      obtain ⟨_, _, ⟨T41, L41, k41, n41⟩, -, X41, ⟨Lc41, hQ41, l41, y41, z41⟩, st41⟩ := Jvm.LawKit.callS X36 hx (y := (⟨"com/example/bagwise/bagwise/terms/TruthOrPinLaw", "rank", "(Lcom/example/bagwise/bagwise/terms/Truth;)I"⟩ : MethodName)) hown (mvT hZ (hw _ (List.mem_of_getElem? (i := 18) rfl))) (mvT hZ (hw _ (List.mem_of_getElem? (i := 19) rfl))) (mvT hZ (hw _ (List.mem_of_getElem? (i := 3) rfl))) (mvT hZ (hw _ (List.mem_of_getElem? (i := 20) rfl))) (by decide) (backOf (W := 0) (rm3_1 l Z a0 hw [] w h0 n0 (Nat.le_trans Z0 (own_ext0 h0).1) hP) hZ (hw _ (List.mem_of_getElem? (i := 20) rfl)) (hw _ (List.mem_of_getElem? (i := 3) rfl)) (by decide) (by decide)) (g := (mkF m 37 #[.val (.int i0), .val (.int i1), .val (.int (0 : Int32)), .val (.int (1 : Int32)), .val (.ref (w 0)), .val (.ref (w 2)), .val (.ref (w 2))] [(.ref (w 2))])) rfl (by rw [hml]; rfl) (argsL := [(.ref (w 2))]) (rest := []) (lenOf pd_2 rfl) rfl (by show 2 * 0 + _ ≤ _; exact Nat.le_of_eq rfl) (hb hby at_37) (fun _ _ => ⟨rfl, e36, (by decide : 0 + 0 ≤ _), (by decide : 0 + 0 ≤ _)⟩)
      dsimp only [Pt.U, Pt.locs, Pt.cells, Pt.slots] at X41 l41 y41 z41 st41 hQ41
      subst l41 y41 z41
      obtain ⟨rfl, N41q, e41⟩ := hQ41
      have N41 := Fr.app N36 N41q
      refine Go.on (T' := T41) (g' := (mkF m 40 #[.val (.int i0), .val (.int i1), .val (.int (0 : Int32)), .val (.int (1 : Int32)), .val (.ref (w 0)), .val (.ref (w 2)), .val (.ref (w 2))] [(.int (1 : Int32))])) st41 ?_
      refine Go.on (T' := T41) (g' := (mkF m 41 #[.val (.int i0), .val (.int i1), .val (.int (0 : Int32)), .val (.int (1 : Int32)), .val (.ref (w 0)), .val (.ref (w 2)), .val (.ref (w 2))] [(.int (0 : Int32)), (.int (1 : Int32))])) (fun t k => XS.iloadN X41.here hx rfl (hb hby at_40) rfl k) ?_
      refine Go.on (T' := T41) (g' := (mkF m 42 #[.val (.int i0), .val (.int i1), .val (.int (0 : Int32)), .val (.int (1 : Int32)), .val (.ref (w 0)), .val (.ref (w 2)), .val (.ref (w 2))] [(.int (1 : Int32)), (.int (0 : Int32)), (.int (1 : Int32))])) (fun t k => XS.iloadN X41.here hx rfl (hb hby at_41) rfl k) ?_
      obtain ⟨_, _, ⟨T42, L42, k42, n42⟩, -, X42, ⟨Lc42, hQ42, l42, y42, z42⟩, st42⟩ := Jvm.LawKit.callS X41 hx (y := (⟨"java/lang/Math", "max", "(II)I"⟩ : MethodName)) hown (mvT hZ (hw _ (List.mem_of_getElem? (i := 21) rfl))) (mvT hZ (hw _ (List.mem_of_getElem? (i := 22) rfl))) (mvT hZ (hw _ (List.mem_of_getElem? (i := 23) rfl))) (mvT hZ (hw _ (List.mem_of_getElem? (i := 24) rfl))) (by decide) (backOf (W := 1) (rm4_1 l Z a0 hw [] w h0 n0 (Nat.le_trans Z0 (own_ext0 h0).1) hP) hZ (hw _ (List.mem_of_getElem? (i := 24) rfl)) (hw _ (List.mem_of_getElem? (i := 23) rfl)) (by decide) (by decide)) (g := (mkF m 42 #[.val (.int i0), .val (.int i1), .val (.int (0 : Int32)), .val (.int (1 : Int32)), .val (.ref (w 0)), .val (.ref (w 2)), .val (.ref (w 2))] [(.int (1 : Int32)), (.int (0 : Int32)), (.int (1 : Int32))])) rfl (by rw [hml]; rfl) (argsL := [(.int (0 : Int32)), (.int (1 : Int32))]) (rest := [(.int (1 : Int32))]) (lenOf pd_3 rfl) rfl (by show 2 * 0 + _ ≤ _; exact Nat.le_of_eq rfl) (hb hby at_42) (fun _ _ => ⟨rfl, e41, (by decide : 0 + 0 ≤ _), (by decide : 0 + 0 ≤ _)⟩)
      dsimp only [Pt.U, Pt.locs, Pt.cells, Pt.slots] at X42 l42 y42 z42 st42 hQ42
      subst l42 y42 z42
      obtain ⟨rfl, N42q, e42⟩ := hQ42
      have N42 := Fr.app N41 N42q
      refine Go.on (T' := T42) (g' := (mkF m 45 #[.val (.int i0), .val (.int i1), .val (.int (0 : Int32)), .val (.int (1 : Int32)), .val (.ref (w 0)), .val (.ref (w 2)), .val (.ref (w 2))] [(.int (1 : Int32)), (.int (1 : Int32))])) st42 ?_
      refine Go.on (T' := T42) (g' := (mkF m 48 #[.val (.int i0), .val (.int i1), .val (.int (0 : Int32)), .val (.int (1 : Int32)), .val (.ref (w 0)), .val (.ref (w 2)), .val (.ref (w 2))] [])) (fun t k => XS.icmpNo X42.here hx rfl (hb hby at_45) rfl (teq (by decide : (1 : Int32) = (1 : Int32))).2 k) ?_
      refine Go.on (T' := T42) (g' := (mkF m 49 #[.val (.int i0), .val (.int i1), .val (.int (0 : Int32)), .val (.int (1 : Int32)), .val (.ref (w 0)), .val (.ref (w 2)), .val (.ref (w 2))] [(.int (1 : Int32))])) (fun t k => XS.iconst X42.here hx rfl (hb hby at_48) k) ?_
      refine Go.on (T' := T42) (g' := (mkF m 53 #[.val (.int i0), .val (.int i1), .val (.int (0 : Int32)), .val (.int (1 : Int32)), .val (.ref (w 0)), .val (.ref (w 2)), .val (.ref (w 2))] [(.int (1 : Int32))])) (fun t k => XS.goto X42.here hx rfl (pc0 := 49) (pc' := 53) rfl (hb hby at_49) (by decide) (by decide) k) ?_
      obtain ⟨fs, hr, hrun, hended, hW, hsame⟩ := X42.leave (v := some (.int (1 : Int32))) (fun h => by rw [Bd.returns] at h; cases h)
      exact ⟨_, _, retN X42 hx (t := .boolean) Bd.returns (by simp) (hb hby at_53) hr, hrun, hended, _, _, rfl, ⟨rfl, N42⟩, ⟨_, rfl⟩, hW, hsame.mono (by decide) (by decide)⟩
    · skip
      rw [h2]
      refine Go.on (T' := s₁) (g' := (mkF m 14 #[.val (.int i0), .val (.int i1), .val (.int (0 : Int32)), .val (.int (2 : Int32)), .unset, .unset, .unset] [])) (fun t k => XS.istoreN X0.here hx rfl (hb hby at_13) rfl (l' := #[.val (.int i0), .val (.int i1), .val (.int (0 : Int32)), .val (.int (2 : Int32)), .unset, .unset, .unset]) rfl k) ?_
      refine Go.on (T' := s₁) (g' := (mkF m 15 #[.val (.int i0), .val (.int i1), .val (.int (0 : Int32)), .val (.int (2 : Int32)), .unset, .unset, .unset] [(.int (0 : Int32))])) (fun t k => XS.iloadN X0.here hx rfl (hb hby at_14) rfl k) ?_
      obtain ⟨_, _, ⟨T43, L43, k43, n43⟩, -, X43, ⟨Lc43, hQ43, l43, y43, z43⟩, st43⟩ := Jvm.LawKit.callS X0 hx (y := (⟨"com/example/bagwise/bagwise/terms/TruthOrPinLaw", "pick", "(I)Lcom/example/bagwise/bagwise/terms/Truth;"⟩ : MethodName)) hown (mvT hZ (hw _ (List.mem_of_getElem? (i := 1) rfl))) (mvT hZ (hw _ (List.mem_of_getElem? (i := 2) rfl))) (mvT hZ (hw _ (List.mem_of_getElem? (i := 3) rfl))) (mvT hZ (hw _ (List.mem_of_getElem? (i := 4) rfl))) (by decide) (backOf (W := 0) (rm1_0 l Z a0 hw [] w h0 n0 (Nat.le_trans Z0 (own_ext0 h0).1) hP) hZ (hw _ (List.mem_of_getElem? (i := 4) rfl)) (hw _ (List.mem_of_getElem? (i := 3) rfl)) (by decide) (by decide)) (g := (mkF m 15 #[.val (.int i0), .val (.int i1), .val (.int (0 : Int32)), .val (.int (2 : Int32)), .unset, .unset, .unset] [(.int (0 : Int32))])) rfl (by rw [hml]; rfl) (argsL := [(.int (0 : Int32))]) (rest := []) (lenOf pd_0 rfl) rfl (by show 2 * 0 + _ ≤ _; exact Nat.le_of_eq rfl) (hb hby at_15) (fun _ _ => ⟨rfl, e0, (by decide : 0 + 0 ≤ _), (by decide : 0 + 0 ≤ _)⟩)
      dsimp only [Pt.U, Pt.locs, Pt.cells, Pt.slots] at X43 l43 y43 z43 st43 hQ43
      subst l43 y43 z43
      obtain ⟨rfl, N43q, e43⟩ := hQ43
      have N43 := Fr.app N0 N43q
      refine Go.on (T' := T43) (g' := (mkF m 18 #[.val (.int i0), .val (.int i1), .val (.int (0 : Int32)), .val (.int (2 : Int32)), .unset, .unset, .unset] [(.ref (w 0))])) st43 ?_
      refine Go.on (T' := T43) (g' := (mkF m 20 #[.val (.int i0), .val (.int i1), .val (.int (0 : Int32)), .val (.int (2 : Int32)), .val (.ref (w 0)), .unset, .unset] [])) (fun t k => XS.astore X43.here hx rfl (hb hby at_18) rfl rfl (l' := #[.val (.int i0), .val (.int i1), .val (.int (0 : Int32)), .val (.int (2 : Int32)), .val (.ref (w 0)), .unset, .unset]) rfl k) ?_
      refine Go.on (T' := T43) (g' := (mkF m 21 #[.val (.int i0), .val (.int i1), .val (.int (0 : Int32)), .val (.int (2 : Int32)), .val (.ref (w 0)), .unset, .unset] [(.int (2 : Int32))])) (fun t k => XS.iloadN X43.here hx rfl (hb hby at_20) rfl k) ?_
      obtain ⟨_, _, ⟨T46, L46, k46, n46⟩, -, X46, ⟨Lc46, hQ46, l46, y46, z46⟩, st46⟩ := Jvm.LawKit.callS X43 hx (y := (⟨"com/example/bagwise/bagwise/terms/TruthOrPinLaw", "pick", "(I)Lcom/example/bagwise/bagwise/terms/Truth;"⟩ : MethodName)) hown (mvT hZ (hw _ (List.mem_of_getElem? (i := 1) rfl))) (mvT hZ (hw _ (List.mem_of_getElem? (i := 2) rfl))) (mvT hZ (hw _ (List.mem_of_getElem? (i := 3) rfl))) (mvT hZ (hw _ (List.mem_of_getElem? (i := 4) rfl))) (by decide) (backOf (W := 0) (rm1_2 l Z a0 hw [] w h0 n0 (Nat.le_trans Z0 (own_ext0 h0).1) hP) hZ (hw _ (List.mem_of_getElem? (i := 4) rfl)) (hw _ (List.mem_of_getElem? (i := 3) rfl)) (by decide) (by decide)) (g := (mkF m 21 #[.val (.int i0), .val (.int i1), .val (.int (0 : Int32)), .val (.int (2 : Int32)), .val (.ref (w 0)), .unset, .unset] [(.int (2 : Int32))])) rfl (by rw [hml]; rfl) (argsL := [(.int (2 : Int32))]) (rest := []) (lenOf pd_0 rfl) rfl (by show 2 * 0 + _ ≤ _; exact Nat.le_of_eq rfl) (hb hby at_21) (fun _ _ => ⟨rfl, e43, (by decide : 0 + 0 ≤ _), (by decide : 0 + 0 ≤ _)⟩)
      dsimp only [Pt.U, Pt.locs, Pt.cells, Pt.slots] at X46 l46 y46 z46 st46 hQ46
      subst l46 y46 z46
      obtain ⟨rfl, N46q, e46⟩ := hQ46
      have N46 := Fr.app N43 N46q
      refine Go.on (T' := T46) (g' := (mkF m 24 #[.val (.int i0), .val (.int i1), .val (.int (0 : Int32)), .val (.int (2 : Int32)), .val (.ref (w 0)), .unset, .unset] [(.ref (w 1))])) st46 ?_
      refine Go.on (T' := T46) (g' := (mkF m 26 #[.val (.int i0), .val (.int i1), .val (.int (0 : Int32)), .val (.int (2 : Int32)), .val (.ref (w 0)), .val (.ref (w 1)), .unset] [])) (fun t k => XS.astore X46.here hx rfl (hb hby at_24) rfl rfl (l' := #[.val (.int i0), .val (.int i1), .val (.int (0 : Int32)), .val (.int (2 : Int32)), .val (.ref (w 0)), .val (.ref (w 1)), .unset]) rfl k) ?_
      refine Go.on (T' := T46) (g' := (mkF m 28 #[.val (.int i0), .val (.int i1), .val (.int (0 : Int32)), .val (.int (2 : Int32)), .val (.ref (w 0)), .val (.ref (w 1)), .unset] [(.ref (w 0))])) (fun t k => XS.aload X46.here hx rfl (hb hby at_26) rfl rfl k) ?_
      refine Go.on (T' := T46) (g' := (mkF m 30 #[.val (.int i0), .val (.int i1), .val (.int (0 : Int32)), .val (.int (2 : Int32)), .val (.ref (w 0)), .val (.ref (w 1)), .unset] [(.ref (w 1)), (.ref (w 0))])) (fun t k => XS.aload X46.here hx rfl (hb hby at_28) rfl rfl k) ?_
      obtain ⟨cq53, kq53, q53a, q53b, q53c⟩ := isOf hZ e46 (pin_3 hP)
      obtain ⟨_, _, ⟨T53, L53, k53, n53⟩, -, X53, ⟨Lc53, hQ53, l53, y53, z53⟩, st53⟩ := X46.virtualBack hx (y := (⟨"com/example/bagwise/bagwise/terms/Truth", "or", "(Lcom/example/bagwise/bagwise/terms/Truth;)Lcom/example/bagwise/bagwise/terms/Truth;"⟩ : MethodName)) (z := (⟨"com/example/bagwise/bagwise/terms/Truth", "or", "(Lcom/example/bagwise/bagwise/terms/Truth;)Lcom/example/bagwise/bagwise/terms/Truth;"⟩ : MethodName)) hown (mvT hZ (hw _ (List.mem_of_getElem? (i := 8) rfl))) (mvT hZ (hw _ (List.mem_of_getElem? (i := 9) rfl))) (notFace_of_selects (args := #[]) (mvT hZ (hw _ (List.mem_of_getElem? (i := 11) rfl)))) (mvT hZ (hw _ (List.mem_of_getElem? (i := 11) rfl))) (mvT hZ (hw _ (List.mem_of_getElem? (i := 10) rfl))) (by decide) (backOf (W := 0) (rm2_2 l Z a0 hw [] w h0 n0 (Nat.le_trans Z0 (own_ext0 h0).1) hP) hZ (hw _ (List.mem_of_getElem? (i := 12) rfl)) (hw _ (List.mem_of_getElem? (i := 6) rfl)) (by decide) (by decide)) q53a q53c (g := (mkF m 30 #[.val (.int i0), .val (.int i1), .val (.int (0 : Int32)), .val (.int (2 : Int32)), .val (.ref (w 0)), .val (.ref (w 1)), .unset] [(.ref (w 1)), (.ref (w 0))])) rfl (by rw [hml]; rfl) (Steps.refl _) (argsL := [(.ref (w 1))]) (rest := []) (lenOf pd_1 rfl) rfl (by show 2 * 0 + _ ≤ _; exact Nat.le_of_eq rfl) (hb hby at_30) (fun _ _ => ⟨rfl, e46, (by decide : 0 + 0 ≤ _), (by decide : 0 + 0 ≤ _)⟩)
      dsimp only [Pt.U, Pt.locs, Pt.cells, Pt.slots] at X53 l53 y53 z53 st53 hQ53
      subst l53 y53 z53
      obtain ⟨rfl, N53q, e53⟩ := hQ53
      have N53 := Fr.app N46 N53q
      refine Go.on (T' := T53) (g' := (mkF m 33 #[.val (.int i0), .val (.int i1), .val (.int (0 : Int32)), .val (.int (2 : Int32)), .val (.ref (w 0)), .val (.ref (w 1)), .unset] [(.ref (w 1))])) (fun t k => st53.trans k) ?_
      refine Go.on (T' := T53) (g' := (mkF m 35 #[.val (.int i0), .val (.int i1), .val (.int (0 : Int32)), .val (.int (2 : Int32)), .val (.ref (w 0)), .val (.ref (w 1)), .val (.ref (w 1))] [])) (fun t k => XS.astore X53.here hx rfl (hb hby at_33) rfl rfl (l' := #[.val (.int i0), .val (.int i1), .val (.int (0 : Int32)), .val (.int (2 : Int32)), .val (.ref (w 0)), .val (.ref (w 1)), .val (.ref (w 1))]) rfl k) ?_
      refine Go.on (T' := T53) (g' := (mkF m 37 #[.val (.int i0), .val (.int i1), .val (.int (0 : Int32)), .val (.int (2 : Int32)), .val (.ref (w 0)), .val (.ref (w 1)), .val (.ref (w 1))] [(.ref (w 1))])) (fun t k => XS.aload X53.here hx rfl (hb hby at_35) rfl rfl k) ?_
      obtain ⟨_, _, ⟨T60, L60, k60, n60⟩, -, X60, ⟨Lc60, hQ60, l60, y60, z60⟩, st60⟩ := Jvm.LawKit.callS X53 hx (y := (⟨"com/example/bagwise/bagwise/terms/TruthOrPinLaw", "rank", "(Lcom/example/bagwise/bagwise/terms/Truth;)I"⟩ : MethodName)) hown (mvT hZ (hw _ (List.mem_of_getElem? (i := 18) rfl))) (mvT hZ (hw _ (List.mem_of_getElem? (i := 19) rfl))) (mvT hZ (hw _ (List.mem_of_getElem? (i := 3) rfl))) (mvT hZ (hw _ (List.mem_of_getElem? (i := 20) rfl))) (by decide) (backOf (W := 0) (rm3_2 l Z a0 hw [] w h0 n0 (Nat.le_trans Z0 (own_ext0 h0).1) hP) hZ (hw _ (List.mem_of_getElem? (i := 20) rfl)) (hw _ (List.mem_of_getElem? (i := 3) rfl)) (by decide) (by decide)) (g := (mkF m 37 #[.val (.int i0), .val (.int i1), .val (.int (0 : Int32)), .val (.int (2 : Int32)), .val (.ref (w 0)), .val (.ref (w 1)), .val (.ref (w 1))] [(.ref (w 1))])) rfl (by rw [hml]; rfl) (argsL := [(.ref (w 1))]) (rest := []) (lenOf pd_2 rfl) rfl (by show 2 * 0 + _ ≤ _; exact Nat.le_of_eq rfl) (hb hby at_37) (fun _ _ => ⟨rfl, e53, (by decide : 0 + 0 ≤ _), (by decide : 0 + 0 ≤ _)⟩)
      dsimp only [Pt.U, Pt.locs, Pt.cells, Pt.slots] at X60 l60 y60 z60 st60 hQ60
      subst l60 y60 z60
      obtain ⟨rfl, N60q, e60⟩ := hQ60
      have N60 := Fr.app N53 N60q
      refine Go.on (T' := T60) (g' := (mkF m 40 #[.val (.int i0), .val (.int i1), .val (.int (0 : Int32)), .val (.int (2 : Int32)), .val (.ref (w 0)), .val (.ref (w 1)), .val (.ref (w 1))] [(.int (2 : Int32))])) st60 ?_
      refine Go.on (T' := T60) (g' := (mkF m 41 #[.val (.int i0), .val (.int i1), .val (.int (0 : Int32)), .val (.int (2 : Int32)), .val (.ref (w 0)), .val (.ref (w 1)), .val (.ref (w 1))] [(.int (0 : Int32)), (.int (2 : Int32))])) (fun t k => XS.iloadN X60.here hx rfl (hb hby at_40) rfl k) ?_
      refine Go.on (T' := T60) (g' := (mkF m 42 #[.val (.int i0), .val (.int i1), .val (.int (0 : Int32)), .val (.int (2 : Int32)), .val (.ref (w 0)), .val (.ref (w 1)), .val (.ref (w 1))] [(.int (2 : Int32)), (.int (0 : Int32)), (.int (2 : Int32))])) (fun t k => XS.iloadN X60.here hx rfl (hb hby at_41) rfl k) ?_
      obtain ⟨_, _, ⟨T61, L61, k61, n61⟩, -, X61, ⟨Lc61, hQ61, l61, y61, z61⟩, st61⟩ := Jvm.LawKit.callS X60 hx (y := (⟨"java/lang/Math", "max", "(II)I"⟩ : MethodName)) hown (mvT hZ (hw _ (List.mem_of_getElem? (i := 21) rfl))) (mvT hZ (hw _ (List.mem_of_getElem? (i := 22) rfl))) (mvT hZ (hw _ (List.mem_of_getElem? (i := 23) rfl))) (mvT hZ (hw _ (List.mem_of_getElem? (i := 24) rfl))) (by decide) (backOf (W := 1) (rm4_2 l Z a0 hw [] w h0 n0 (Nat.le_trans Z0 (own_ext0 h0).1) hP) hZ (hw _ (List.mem_of_getElem? (i := 24) rfl)) (hw _ (List.mem_of_getElem? (i := 23) rfl)) (by decide) (by decide)) (g := (mkF m 42 #[.val (.int i0), .val (.int i1), .val (.int (0 : Int32)), .val (.int (2 : Int32)), .val (.ref (w 0)), .val (.ref (w 1)), .val (.ref (w 1))] [(.int (2 : Int32)), (.int (0 : Int32)), (.int (2 : Int32))])) rfl (by rw [hml]; rfl) (argsL := [(.int (0 : Int32)), (.int (2 : Int32))]) (rest := [(.int (2 : Int32))]) (lenOf pd_3 rfl) rfl (by show 2 * 0 + _ ≤ _; exact Nat.le_of_eq rfl) (hb hby at_42) (fun _ _ => ⟨rfl, e60, (by decide : 0 + 0 ≤ _), (by decide : 0 + 0 ≤ _)⟩)
      dsimp only [Pt.U, Pt.locs, Pt.cells, Pt.slots] at X61 l61 y61 z61 st61 hQ61
      subst l61 y61 z61
      obtain ⟨rfl, N61q, e61⟩ := hQ61
      have N61 := Fr.app N60 N61q
      refine Go.on (T' := T61) (g' := (mkF m 45 #[.val (.int i0), .val (.int i1), .val (.int (0 : Int32)), .val (.int (2 : Int32)), .val (.ref (w 0)), .val (.ref (w 1)), .val (.ref (w 1))] [(.int (2 : Int32)), (.int (2 : Int32))])) st61 ?_
      refine Go.on (T' := T61) (g' := (mkF m 48 #[.val (.int i0), .val (.int i1), .val (.int (0 : Int32)), .val (.int (2 : Int32)), .val (.ref (w 0)), .val (.ref (w 1)), .val (.ref (w 1))] [])) (fun t k => XS.icmpNo X61.here hx rfl (hb hby at_45) rfl (teq (by decide : (2 : Int32) = (2 : Int32))).2 k) ?_
      refine Go.on (T' := T61) (g' := (mkF m 49 #[.val (.int i0), .val (.int i1), .val (.int (0 : Int32)), .val (.int (2 : Int32)), .val (.ref (w 0)), .val (.ref (w 1)), .val (.ref (w 1))] [(.int (1 : Int32))])) (fun t k => XS.iconst X61.here hx rfl (hb hby at_48) k) ?_
      refine Go.on (T' := T61) (g' := (mkF m 53 #[.val (.int i0), .val (.int i1), .val (.int (0 : Int32)), .val (.int (2 : Int32)), .val (.ref (w 0)), .val (.ref (w 1)), .val (.ref (w 1))] [(.int (1 : Int32))])) (fun t k => XS.goto X61.here hx rfl (pc0 := 49) (pc' := 53) rfl (hb hby at_49) (by decide) (by decide) k) ?_
      obtain ⟨fs, hr, hrun, hended, hW, hsame⟩ := X61.leave (v := some (.int (1 : Int32))) (fun h => by rw [Bd.returns] at h; cases h)
      exact ⟨_, _, retN X61 hx (t := .boolean) Bd.returns (by simp) (hb hby at_53) hr, hrun, hended, _, _, rfl, ⟨rfl, N61⟩, ⟨_, rfl⟩, hW, hsame.mono (by decide) (by decide)⟩
  · skip
    rw [h1]
    refine Go.on (T' := s₁) (g' := (mkF m 7 #[.val (.int i0), .val (.int i1), .val (.int (1 : Int32)), .unset, .unset, .unset, .unset] [])) (fun t k => XS.istoreN X0.here hx rfl (hb hby at_6) rfl (l' := #[.val (.int i0), .val (.int i1), .val (.int (1 : Int32)), .unset, .unset, .unset, .unset]) rfl k) ?_
    refine Go.on (T' := s₁) (g' := (mkF m 8 #[.val (.int i0), .val (.int i1), .val (.int (1 : Int32)), .unset, .unset, .unset, .unset] [(.int i1)])) (fun t k => XS.iloadN X0.here hx rfl (hb hby at_7) rfl k) ?_
    refine Go.on (T' := s₁) (g' := (mkF m 10 #[.val (.int i0), .val (.int i1), .val (.int (1 : Int32)), .unset, .unset, .unset, .unset] [(.int (2147483647 : Int32)), (.int i1)])) (X0.ldcInt hx hown (mvT hZ (hw _ (List.mem_of_getElem? (i := 0) rfl))) (g := (mkF m 8 #[.val (.int i0), .val (.int i1), .val (.int (1 : Int32)), .unset, .unset, .unset, .unset] [(.int i1)])) rfl (hb hby at_8)) ?_
    refine Go.on (T' := s₁) (g' := (mkF m 11 #[.val (.int i0), .val (.int i1), .val (.int (1 : Int32)), .unset, .unset, .unset, .unset] [(.int (i1 &&& (2147483647 : Int32)))])) (fun t k => XS.iand X0.here hx rfl (hb hby at_10) rfl k) ?_
    refine Go.on (T' := s₁) (g' := (mkF m 12 #[.val (.int i0), .val (.int i1), .val (.int (1 : Int32)), .unset, .unset, .unset, .unset] [(.int (3 : Int32)), (.int (i1 &&& (2147483647 : Int32)))])) (fun t k => XS.iconst X0.here hx rfl (hb hby at_11) k) ?_
    refine Go.on (T' := s₁) (g' := (mkF m 13 #[.val (.int i0), .val (.int i1), .val (.int (1 : Int32)), .unset, .unset, .unset, .unset] [(.int ((i1 &&& (2147483647 : Int32)) % (3 : Int32)))])) (fun t k => iremM X0 hx rfl (hb hby at_12) rfl (by decide) k) ?_
    rcases own_mod3 i1 with h62 | h62 | h62
    · skip
      rw [h62]
      refine Go.on (T' := s₁) (g' := (mkF m 14 #[.val (.int i0), .val (.int i1), .val (.int (1 : Int32)), .val (.int (0 : Int32)), .unset, .unset, .unset] [])) (fun t k => XS.istoreN X0.here hx rfl (hb hby at_13) rfl (l' := #[.val (.int i0), .val (.int i1), .val (.int (1 : Int32)), .val (.int (0 : Int32)), .unset, .unset, .unset]) rfl k) ?_
      refine Go.on (T' := s₁) (g' := (mkF m 15 #[.val (.int i0), .val (.int i1), .val (.int (1 : Int32)), .val (.int (0 : Int32)), .unset, .unset, .unset] [(.int (1 : Int32))])) (fun t k => XS.iloadN X0.here hx rfl (hb hby at_14) rfl k) ?_
      obtain ⟨_, _, ⟨T63, L63, k63, n63⟩, -, X63, ⟨Lc63, hQ63, l63, y63, z63⟩, st63⟩ := Jvm.LawKit.callS X0 hx (y := (⟨"com/example/bagwise/bagwise/terms/TruthOrPinLaw", "pick", "(I)Lcom/example/bagwise/bagwise/terms/Truth;"⟩ : MethodName)) hown (mvT hZ (hw _ (List.mem_of_getElem? (i := 1) rfl))) (mvT hZ (hw _ (List.mem_of_getElem? (i := 2) rfl))) (mvT hZ (hw _ (List.mem_of_getElem? (i := 3) rfl))) (mvT hZ (hw _ (List.mem_of_getElem? (i := 4) rfl))) (by decide) (backOf (W := 0) (rm1_1 l Z a0 hw [] w h0 n0 (Nat.le_trans Z0 (own_ext0 h0).1) hP) hZ (hw _ (List.mem_of_getElem? (i := 4) rfl)) (hw _ (List.mem_of_getElem? (i := 3) rfl)) (by decide) (by decide)) (g := (mkF m 15 #[.val (.int i0), .val (.int i1), .val (.int (1 : Int32)), .val (.int (0 : Int32)), .unset, .unset, .unset] [(.int (1 : Int32))])) rfl (by rw [hml]; rfl) (argsL := [(.int (1 : Int32))]) (rest := []) (lenOf pd_0 rfl) rfl (by show 2 * 0 + _ ≤ _; exact Nat.le_of_eq rfl) (hb hby at_15) (fun _ _ => ⟨rfl, e0, (by decide : 0 + 0 ≤ _), (by decide : 0 + 0 ≤ _)⟩)
      dsimp only [Pt.U, Pt.locs, Pt.cells, Pt.slots] at X63 l63 y63 z63 st63 hQ63
      subst l63 y63 z63
      obtain ⟨rfl, N63q, e63⟩ := hQ63
      have N63 := Fr.app N0 N63q
      refine Go.on (T' := T63) (g' := (mkF m 18 #[.val (.int i0), .val (.int i1), .val (.int (1 : Int32)), .val (.int (0 : Int32)), .unset, .unset, .unset] [(.ref (w 2))])) st63 ?_
      refine Go.on (T' := T63) (g' := (mkF m 20 #[.val (.int i0), .val (.int i1), .val (.int (1 : Int32)), .val (.int (0 : Int32)), .val (.ref (w 2)), .unset, .unset] [])) (fun t k => XS.astore X63.here hx rfl (hb hby at_18) rfl rfl (l' := #[.val (.int i0), .val (.int i1), .val (.int (1 : Int32)), .val (.int (0 : Int32)), .val (.ref (w 2)), .unset, .unset]) rfl k) ?_
      refine Go.on (T' := T63) (g' := (mkF m 21 #[.val (.int i0), .val (.int i1), .val (.int (1 : Int32)), .val (.int (0 : Int32)), .val (.ref (w 2)), .unset, .unset] [(.int (0 : Int32))])) (fun t k => XS.iloadN X63.here hx rfl (hb hby at_20) rfl k) ?_
      obtain ⟨_, _, ⟨T64, L64, k64, n64⟩, -, X64, ⟨Lc64, hQ64, l64, y64, z64⟩, st64⟩ := Jvm.LawKit.callS X63 hx (y := (⟨"com/example/bagwise/bagwise/terms/TruthOrPinLaw", "pick", "(I)Lcom/example/bagwise/bagwise/terms/Truth;"⟩ : MethodName)) hown (mvT hZ (hw _ (List.mem_of_getElem? (i := 1) rfl))) (mvT hZ (hw _ (List.mem_of_getElem? (i := 2) rfl))) (mvT hZ (hw _ (List.mem_of_getElem? (i := 3) rfl))) (mvT hZ (hw _ (List.mem_of_getElem? (i := 4) rfl))) (by decide) (backOf (W := 0) (rm1_0 l Z a0 hw [] w h0 n0 (Nat.le_trans Z0 (own_ext0 h0).1) hP) hZ (hw _ (List.mem_of_getElem? (i := 4) rfl)) (hw _ (List.mem_of_getElem? (i := 3) rfl)) (by decide) (by decide)) (g := (mkF m 21 #[.val (.int i0), .val (.int i1), .val (.int (1 : Int32)), .val (.int (0 : Int32)), .val (.ref (w 2)), .unset, .unset] [(.int (0 : Int32))])) rfl (by rw [hml]; rfl) (argsL := [(.int (0 : Int32))]) (rest := []) (lenOf pd_0 rfl) rfl (by show 2 * 0 + _ ≤ _; exact Nat.le_of_eq rfl) (hb hby at_21) (fun _ _ => ⟨rfl, e63, (by decide : 0 + 0 ≤ _), (by decide : 0 + 0 ≤ _)⟩)
      dsimp only [Pt.U, Pt.locs, Pt.cells, Pt.slots] at X64 l64 y64 z64 st64 hQ64
      subst l64 y64 z64
      obtain ⟨rfl, N64q, e64⟩ := hQ64
      have N64 := Fr.app N63 N64q
      refine Go.on (T' := T64) (g' := (mkF m 24 #[.val (.int i0), .val (.int i1), .val (.int (1 : Int32)), .val (.int (0 : Int32)), .val (.ref (w 2)), .unset, .unset] [(.ref (w 0))])) st64 ?_
      refine Go.on (T' := T64) (g' := (mkF m 26 #[.val (.int i0), .val (.int i1), .val (.int (1 : Int32)), .val (.int (0 : Int32)), .val (.ref (w 2)), .val (.ref (w 0)), .unset] [])) (fun t k => XS.astore X64.here hx rfl (hb hby at_24) rfl rfl (l' := #[.val (.int i0), .val (.int i1), .val (.int (1 : Int32)), .val (.int (0 : Int32)), .val (.ref (w 2)), .val (.ref (w 0)), .unset]) rfl k) ?_
      refine Go.on (T' := T64) (g' := (mkF m 28 #[.val (.int i0), .val (.int i1), .val (.int (1 : Int32)), .val (.int (0 : Int32)), .val (.ref (w 2)), .val (.ref (w 0)), .unset] [(.ref (w 2))])) (fun t k => XS.aload X64.here hx rfl (hb hby at_26) rfl rfl k) ?_
      refine Go.on (T' := T64) (g' := (mkF m 30 #[.val (.int i0), .val (.int i1), .val (.int (1 : Int32)), .val (.int (0 : Int32)), .val (.ref (w 2)), .val (.ref (w 0)), .unset] [(.ref (w 0)), (.ref (w 2))])) (fun t k => XS.aload X64.here hx rfl (hb hby at_28) rfl rfl k) ?_
      obtain ⟨cq73, kq73, q73a, q73b, q73c⟩ := isOf hZ e64 (pin_5 hP)
      obtain ⟨_, _, ⟨T73, L73, k73, n73⟩, -, X73, ⟨Lc73, hQ73, l73, y73, z73⟩, st73⟩ := X64.virtualBack hx (y := (⟨"com/example/bagwise/bagwise/terms/Truth", "or", "(Lcom/example/bagwise/bagwise/terms/Truth;)Lcom/example/bagwise/bagwise/terms/Truth;"⟩ : MethodName)) (z := (⟨"com/example/bagwise/bagwise/terms/Truth", "or", "(Lcom/example/bagwise/bagwise/terms/Truth;)Lcom/example/bagwise/bagwise/terms/Truth;"⟩ : MethodName)) hown (mvT hZ (hw _ (List.mem_of_getElem? (i := 8) rfl))) (mvT hZ (hw _ (List.mem_of_getElem? (i := 9) rfl))) (notFace_of_selects (args := #[]) (mvT hZ (hw _ (List.mem_of_getElem? (i := 11) rfl)))) (mvT hZ (hw _ (List.mem_of_getElem? (i := 11) rfl))) (mvT hZ (hw _ (List.mem_of_getElem? (i := 10) rfl))) (by decide) (backOf (W := 0) (rm2_3 l Z a0 hw [] w h0 n0 (Nat.le_trans Z0 (own_ext0 h0).1) hP) hZ (hw _ (List.mem_of_getElem? (i := 12) rfl)) (hw _ (List.mem_of_getElem? (i := 6) rfl)) (by decide) (by decide)) q73a q73c (g := (mkF m 30 #[.val (.int i0), .val (.int i1), .val (.int (1 : Int32)), .val (.int (0 : Int32)), .val (.ref (w 2)), .val (.ref (w 0)), .unset] [(.ref (w 0)), (.ref (w 2))])) rfl (by rw [hml]; rfl) (Steps.refl _) (argsL := [(.ref (w 0))]) (rest := []) (lenOf pd_1 rfl) rfl (by show 2 * 0 + _ ≤ _; exact Nat.le_of_eq rfl) (hb hby at_30) (fun _ _ => ⟨rfl, e64, (by decide : 0 + 0 ≤ _), (by decide : 0 + 0 ≤ _)⟩)
      dsimp only [Pt.U, Pt.locs, Pt.cells, Pt.slots] at X73 l73 y73 z73 st73 hQ73
      subst l73 y73 z73
      obtain ⟨rfl, N73q, e73⟩ := hQ73
      have N73 := Fr.app N64 N73q
      refine Go.on (T' := T73) (g' := (mkF m 33 #[.val (.int i0), .val (.int i1), .val (.int (1 : Int32)), .val (.int (0 : Int32)), .val (.ref (w 2)), .val (.ref (w 0)), .unset] [(.ref (w 2))])) (fun t k => st73.trans k) ?_
      refine Go.on (T' := T73) (g' := (mkF m 35 #[.val (.int i0), .val (.int i1), .val (.int (1 : Int32)), .val (.int (0 : Int32)), .val (.ref (w 2)), .val (.ref (w 0)), .val (.ref (w 2))] [])) (fun t k => XS.astore X73.here hx rfl (hb hby at_33) rfl rfl (l' := #[.val (.int i0), .val (.int i1), .val (.int (1 : Int32)), .val (.int (0 : Int32)), .val (.ref (w 2)), .val (.ref (w 0)), .val (.ref (w 2))]) rfl k) ?_
      refine Go.on (T' := T73) (g' := (mkF m 37 #[.val (.int i0), .val (.int i1), .val (.int (1 : Int32)), .val (.int (0 : Int32)), .val (.ref (w 2)), .val (.ref (w 0)), .val (.ref (w 2))] [(.ref (w 2))])) (fun t k => XS.aload X73.here hx rfl (hb hby at_35) rfl rfl k) ?_
      obtain ⟨_, _, ⟨T74, L74, k74, n74⟩, -, X74, ⟨Lc74, hQ74, l74, y74, z74⟩, st74⟩ := Jvm.LawKit.callS X73 hx (y := (⟨"com/example/bagwise/bagwise/terms/TruthOrPinLaw", "rank", "(Lcom/example/bagwise/bagwise/terms/Truth;)I"⟩ : MethodName)) hown (mvT hZ (hw _ (List.mem_of_getElem? (i := 18) rfl))) (mvT hZ (hw _ (List.mem_of_getElem? (i := 19) rfl))) (mvT hZ (hw _ (List.mem_of_getElem? (i := 3) rfl))) (mvT hZ (hw _ (List.mem_of_getElem? (i := 20) rfl))) (by decide) (backOf (W := 0) (rm3_1 l Z a0 hw [] w h0 n0 (Nat.le_trans Z0 (own_ext0 h0).1) hP) hZ (hw _ (List.mem_of_getElem? (i := 20) rfl)) (hw _ (List.mem_of_getElem? (i := 3) rfl)) (by decide) (by decide)) (g := (mkF m 37 #[.val (.int i0), .val (.int i1), .val (.int (1 : Int32)), .val (.int (0 : Int32)), .val (.ref (w 2)), .val (.ref (w 0)), .val (.ref (w 2))] [(.ref (w 2))])) rfl (by rw [hml]; rfl) (argsL := [(.ref (w 2))]) (rest := []) (lenOf pd_2 rfl) rfl (by show 2 * 0 + _ ≤ _; exact Nat.le_of_eq rfl) (hb hby at_37) (fun _ _ => ⟨rfl, e73, (by decide : 0 + 0 ≤ _), (by decide : 0 + 0 ≤ _)⟩)
      dsimp only [Pt.U, Pt.locs, Pt.cells, Pt.slots] at X74 l74 y74 z74 st74 hQ74
      subst l74 y74 z74
      obtain ⟨rfl, N74q, e74⟩ := hQ74
      have N74 := Fr.app N73 N74q
      refine Go.on (T' := T74) (g' := (mkF m 40 #[.val (.int i0), .val (.int i1), .val (.int (1 : Int32)), .val (.int (0 : Int32)), .val (.ref (w 2)), .val (.ref (w 0)), .val (.ref (w 2))] [(.int (1 : Int32))])) st74 ?_
      refine Go.on (T' := T74) (g' := (mkF m 41 #[.val (.int i0), .val (.int i1), .val (.int (1 : Int32)), .val (.int (0 : Int32)), .val (.ref (w 2)), .val (.ref (w 0)), .val (.ref (w 2))] [(.int (1 : Int32)), (.int (1 : Int32))])) (fun t k => XS.iloadN X74.here hx rfl (hb hby at_40) rfl k) ?_
      refine Go.on (T' := T74) (g' := (mkF m 42 #[.val (.int i0), .val (.int i1), .val (.int (1 : Int32)), .val (.int (0 : Int32)), .val (.ref (w 2)), .val (.ref (w 0)), .val (.ref (w 2))] [(.int (0 : Int32)), (.int (1 : Int32)), (.int (1 : Int32))])) (fun t k => XS.iloadN X74.here hx rfl (hb hby at_41) rfl k) ?_
      obtain ⟨_, _, ⟨T75, L75, k75, n75⟩, -, X75, ⟨Lc75, hQ75, l75, y75, z75⟩, st75⟩ := Jvm.LawKit.callS X74 hx (y := (⟨"java/lang/Math", "max", "(II)I"⟩ : MethodName)) hown (mvT hZ (hw _ (List.mem_of_getElem? (i := 21) rfl))) (mvT hZ (hw _ (List.mem_of_getElem? (i := 22) rfl))) (mvT hZ (hw _ (List.mem_of_getElem? (i := 23) rfl))) (mvT hZ (hw _ (List.mem_of_getElem? (i := 24) rfl))) (by decide) (backOf (W := 1) (rm4_3 l Z a0 hw [] w h0 n0 (Nat.le_trans Z0 (own_ext0 h0).1) hP) hZ (hw _ (List.mem_of_getElem? (i := 24) rfl)) (hw _ (List.mem_of_getElem? (i := 23) rfl)) (by decide) (by decide)) (g := (mkF m 42 #[.val (.int i0), .val (.int i1), .val (.int (1 : Int32)), .val (.int (0 : Int32)), .val (.ref (w 2)), .val (.ref (w 0)), .val (.ref (w 2))] [(.int (0 : Int32)), (.int (1 : Int32)), (.int (1 : Int32))])) rfl (by rw [hml]; rfl) (argsL := [(.int (1 : Int32)), (.int (0 : Int32))]) (rest := [(.int (1 : Int32))]) (lenOf pd_3 rfl) rfl (by show 2 * 0 + _ ≤ _; exact Nat.le_of_eq rfl) (hb hby at_42) (fun _ _ => ⟨rfl, e74, (by decide : 0 + 0 ≤ _), (by decide : 0 + 0 ≤ _)⟩)
      dsimp only [Pt.U, Pt.locs, Pt.cells, Pt.slots] at X75 l75 y75 z75 st75 hQ75
      subst l75 y75 z75
      obtain ⟨rfl, N75q, e75⟩ := hQ75
      have N75 := Fr.app N74 N75q
      refine Go.on (T' := T75) (g' := (mkF m 45 #[.val (.int i0), .val (.int i1), .val (.int (1 : Int32)), .val (.int (0 : Int32)), .val (.ref (w 2)), .val (.ref (w 0)), .val (.ref (w 2))] [(.int (1 : Int32)), (.int (1 : Int32))])) st75 ?_
      refine Go.on (T' := T75) (g' := (mkF m 48 #[.val (.int i0), .val (.int i1), .val (.int (1 : Int32)), .val (.int (0 : Int32)), .val (.ref (w 2)), .val (.ref (w 0)), .val (.ref (w 2))] [])) (fun t k => XS.icmpNo X75.here hx rfl (hb hby at_45) rfl (teq (by decide : (1 : Int32) = (1 : Int32))).2 k) ?_
      refine Go.on (T' := T75) (g' := (mkF m 49 #[.val (.int i0), .val (.int i1), .val (.int (1 : Int32)), .val (.int (0 : Int32)), .val (.ref (w 2)), .val (.ref (w 0)), .val (.ref (w 2))] [(.int (1 : Int32))])) (fun t k => XS.iconst X75.here hx rfl (hb hby at_48) k) ?_
      refine Go.on (T' := T75) (g' := (mkF m 53 #[.val (.int i0), .val (.int i1), .val (.int (1 : Int32)), .val (.int (0 : Int32)), .val (.ref (w 2)), .val (.ref (w 0)), .val (.ref (w 2))] [(.int (1 : Int32))])) (fun t k => XS.goto X75.here hx rfl (pc0 := 49) (pc' := 53) rfl (hb hby at_49) (by decide) (by decide) k) ?_
      obtain ⟨fs, hr, hrun, hended, hW, hsame⟩ := X75.leave (v := some (.int (1 : Int32))) (fun h => by rw [Bd.returns] at h; cases h)
      exact ⟨_, _, retN X75 hx (t := .boolean) Bd.returns (by simp) (hb hby at_53) hr, hrun, hended, _, _, rfl, ⟨rfl, N75⟩, ⟨_, rfl⟩, hW, hsame.mono (by decide) (by decide)⟩
    · skip
      rw [h62]
      refine Go.on (T' := s₁) (g' := (mkF m 14 #[.val (.int i0), .val (.int i1), .val (.int (1 : Int32)), .val (.int (1 : Int32)), .unset, .unset, .unset] [])) (fun t k => XS.istoreN X0.here hx rfl (hb hby at_13) rfl (l' := #[.val (.int i0), .val (.int i1), .val (.int (1 : Int32)), .val (.int (1 : Int32)), .unset, .unset, .unset]) rfl k) ?_
      refine Go.on (T' := s₁) (g' := (mkF m 15 #[.val (.int i0), .val (.int i1), .val (.int (1 : Int32)), .val (.int (1 : Int32)), .unset, .unset, .unset] [(.int (1 : Int32))])) (fun t k => XS.iloadN X0.here hx rfl (hb hby at_14) rfl k) ?_
      obtain ⟨_, _, ⟨T76, L76, k76, n76⟩, -, X76, ⟨Lc76, hQ76, l76, y76, z76⟩, st76⟩ := Jvm.LawKit.callS X0 hx (y := (⟨"com/example/bagwise/bagwise/terms/TruthOrPinLaw", "pick", "(I)Lcom/example/bagwise/bagwise/terms/Truth;"⟩ : MethodName)) hown (mvT hZ (hw _ (List.mem_of_getElem? (i := 1) rfl))) (mvT hZ (hw _ (List.mem_of_getElem? (i := 2) rfl))) (mvT hZ (hw _ (List.mem_of_getElem? (i := 3) rfl))) (mvT hZ (hw _ (List.mem_of_getElem? (i := 4) rfl))) (by decide) (backOf (W := 0) (rm1_1 l Z a0 hw [] w h0 n0 (Nat.le_trans Z0 (own_ext0 h0).1) hP) hZ (hw _ (List.mem_of_getElem? (i := 4) rfl)) (hw _ (List.mem_of_getElem? (i := 3) rfl)) (by decide) (by decide)) (g := (mkF m 15 #[.val (.int i0), .val (.int i1), .val (.int (1 : Int32)), .val (.int (1 : Int32)), .unset, .unset, .unset] [(.int (1 : Int32))])) rfl (by rw [hml]; rfl) (argsL := [(.int (1 : Int32))]) (rest := []) (lenOf pd_0 rfl) rfl (by show 2 * 0 + _ ≤ _; exact Nat.le_of_eq rfl) (hb hby at_15) (fun _ _ => ⟨rfl, e0, (by decide : 0 + 0 ≤ _), (by decide : 0 + 0 ≤ _)⟩)
      dsimp only [Pt.U, Pt.locs, Pt.cells, Pt.slots] at X76 l76 y76 z76 st76 hQ76
      subst l76 y76 z76
      obtain ⟨rfl, N76q, e76⟩ := hQ76
      have N76 := Fr.app N0 N76q
      refine Go.on (T' := T76) (g' := (mkF m 18 #[.val (.int i0), .val (.int i1), .val (.int (1 : Int32)), .val (.int (1 : Int32)), .unset, .unset, .unset] [(.ref (w 2))])) st76 ?_
      refine Go.on (T' := T76) (g' := (mkF m 20 #[.val (.int i0), .val (.int i1), .val (.int (1 : Int32)), .val (.int (1 : Int32)), .val (.ref (w 2)), .unset, .unset] [])) (fun t k => XS.astore X76.here hx rfl (hb hby at_18) rfl rfl (l' := #[.val (.int i0), .val (.int i1), .val (.int (1 : Int32)), .val (.int (1 : Int32)), .val (.ref (w 2)), .unset, .unset]) rfl k) ?_
      refine Go.on (T' := T76) (g' := (mkF m 21 #[.val (.int i0), .val (.int i1), .val (.int (1 : Int32)), .val (.int (1 : Int32)), .val (.ref (w 2)), .unset, .unset] [(.int (1 : Int32))])) (fun t k => XS.iloadN X76.here hx rfl (hb hby at_20) rfl k) ?_
      obtain ⟨_, _, ⟨T77, L77, k77, n77⟩, -, X77, ⟨Lc77, hQ77, l77, y77, z77⟩, st77⟩ := Jvm.LawKit.callS X76 hx (y := (⟨"com/example/bagwise/bagwise/terms/TruthOrPinLaw", "pick", "(I)Lcom/example/bagwise/bagwise/terms/Truth;"⟩ : MethodName)) hown (mvT hZ (hw _ (List.mem_of_getElem? (i := 1) rfl))) (mvT hZ (hw _ (List.mem_of_getElem? (i := 2) rfl))) (mvT hZ (hw _ (List.mem_of_getElem? (i := 3) rfl))) (mvT hZ (hw _ (List.mem_of_getElem? (i := 4) rfl))) (by decide) (backOf (W := 0) (rm1_1 l Z a0 hw [] w h0 n0 (Nat.le_trans Z0 (own_ext0 h0).1) hP) hZ (hw _ (List.mem_of_getElem? (i := 4) rfl)) (hw _ (List.mem_of_getElem? (i := 3) rfl)) (by decide) (by decide)) (g := (mkF m 21 #[.val (.int i0), .val (.int i1), .val (.int (1 : Int32)), .val (.int (1 : Int32)), .val (.ref (w 2)), .unset, .unset] [(.int (1 : Int32))])) rfl (by rw [hml]; rfl) (argsL := [(.int (1 : Int32))]) (rest := []) (lenOf pd_0 rfl) rfl (by show 2 * 0 + _ ≤ _; exact Nat.le_of_eq rfl) (hb hby at_21) (fun _ _ => ⟨rfl, e76, (by decide : 0 + 0 ≤ _), (by decide : 0 + 0 ≤ _)⟩)
      dsimp only [Pt.U, Pt.locs, Pt.cells, Pt.slots] at X77 l77 y77 z77 st77 hQ77
      subst l77 y77 z77
      obtain ⟨rfl, N77q, e77⟩ := hQ77
      have N77 := Fr.app N76 N77q
      refine Go.on (T' := T77) (g' := (mkF m 24 #[.val (.int i0), .val (.int i1), .val (.int (1 : Int32)), .val (.int (1 : Int32)), .val (.ref (w 2)), .unset, .unset] [(.ref (w 2))])) st77 ?_
      refine Go.on (T' := T77) (g' := (mkF m 26 #[.val (.int i0), .val (.int i1), .val (.int (1 : Int32)), .val (.int (1 : Int32)), .val (.ref (w 2)), .val (.ref (w 2)), .unset] [])) (fun t k => XS.astore X77.here hx rfl (hb hby at_24) rfl rfl (l' := #[.val (.int i0), .val (.int i1), .val (.int (1 : Int32)), .val (.int (1 : Int32)), .val (.ref (w 2)), .val (.ref (w 2)), .unset]) rfl k) ?_
      refine Go.on (T' := T77) (g' := (mkF m 28 #[.val (.int i0), .val (.int i1), .val (.int (1 : Int32)), .val (.int (1 : Int32)), .val (.ref (w 2)), .val (.ref (w 2)), .unset] [(.ref (w 2))])) (fun t k => XS.aload X77.here hx rfl (hb hby at_26) rfl rfl k) ?_
      refine Go.on (T' := T77) (g' := (mkF m 30 #[.val (.int i0), .val (.int i1), .val (.int (1 : Int32)), .val (.int (1 : Int32)), .val (.ref (w 2)), .val (.ref (w 2)), .unset] [(.ref (w 2)), (.ref (w 2))])) (fun t k => XS.aload X77.here hx rfl (hb hby at_28) rfl rfl k) ?_
      obtain ⟨cq86, kq86, q86a, q86b, q86c⟩ := isOf hZ e77 (pin_5 hP)
      obtain ⟨_, _, ⟨T86, L86, k86, n86⟩, -, X86, ⟨Lc86, hQ86, l86, y86, z86⟩, st86⟩ := X77.virtualBack hx (y := (⟨"com/example/bagwise/bagwise/terms/Truth", "or", "(Lcom/example/bagwise/bagwise/terms/Truth;)Lcom/example/bagwise/bagwise/terms/Truth;"⟩ : MethodName)) (z := (⟨"com/example/bagwise/bagwise/terms/Truth", "or", "(Lcom/example/bagwise/bagwise/terms/Truth;)Lcom/example/bagwise/bagwise/terms/Truth;"⟩ : MethodName)) hown (mvT hZ (hw _ (List.mem_of_getElem? (i := 8) rfl))) (mvT hZ (hw _ (List.mem_of_getElem? (i := 9) rfl))) (notFace_of_selects (args := #[]) (mvT hZ (hw _ (List.mem_of_getElem? (i := 11) rfl)))) (mvT hZ (hw _ (List.mem_of_getElem? (i := 11) rfl))) (mvT hZ (hw _ (List.mem_of_getElem? (i := 10) rfl))) (by decide) (backOf (W := 0) (rm2_4 l Z a0 hw [] w h0 n0 (Nat.le_trans Z0 (own_ext0 h0).1) hP) hZ (hw _ (List.mem_of_getElem? (i := 12) rfl)) (hw _ (List.mem_of_getElem? (i := 6) rfl)) (by decide) (by decide)) q86a q86c (g := (mkF m 30 #[.val (.int i0), .val (.int i1), .val (.int (1 : Int32)), .val (.int (1 : Int32)), .val (.ref (w 2)), .val (.ref (w 2)), .unset] [(.ref (w 2)), (.ref (w 2))])) rfl (by rw [hml]; rfl) (Steps.refl _) (argsL := [(.ref (w 2))]) (rest := []) (lenOf pd_1 rfl) rfl (by show 2 * 0 + _ ≤ _; exact Nat.le_of_eq rfl) (hb hby at_30) (fun _ _ => ⟨rfl, e77, (by decide : 0 + 0 ≤ _), (by decide : 0 + 0 ≤ _)⟩)
      dsimp only [Pt.U, Pt.locs, Pt.cells, Pt.slots] at X86 l86 y86 z86 st86 hQ86
      subst l86 y86 z86
      obtain ⟨rfl, N86q, e86⟩ := hQ86
      have N86 := Fr.app N77 N86q
      refine Go.on (T' := T86) (g' := (mkF m 33 #[.val (.int i0), .val (.int i1), .val (.int (1 : Int32)), .val (.int (1 : Int32)), .val (.ref (w 2)), .val (.ref (w 2)), .unset] [(.ref (w 2))])) (fun t k => st86.trans k) ?_
      refine Go.on (T' := T86) (g' := (mkF m 35 #[.val (.int i0), .val (.int i1), .val (.int (1 : Int32)), .val (.int (1 : Int32)), .val (.ref (w 2)), .val (.ref (w 2)), .val (.ref (w 2))] [])) (fun t k => XS.astore X86.here hx rfl (hb hby at_33) rfl rfl (l' := #[.val (.int i0), .val (.int i1), .val (.int (1 : Int32)), .val (.int (1 : Int32)), .val (.ref (w 2)), .val (.ref (w 2)), .val (.ref (w 2))]) rfl k) ?_
      refine Go.on (T' := T86) (g' := (mkF m 37 #[.val (.int i0), .val (.int i1), .val (.int (1 : Int32)), .val (.int (1 : Int32)), .val (.ref (w 2)), .val (.ref (w 2)), .val (.ref (w 2))] [(.ref (w 2))])) (fun t k => XS.aload X86.here hx rfl (hb hby at_35) rfl rfl k) ?_
      obtain ⟨_, _, ⟨T87, L87, k87, n87⟩, -, X87, ⟨Lc87, hQ87, l87, y87, z87⟩, st87⟩ := Jvm.LawKit.callS X86 hx (y := (⟨"com/example/bagwise/bagwise/terms/TruthOrPinLaw", "rank", "(Lcom/example/bagwise/bagwise/terms/Truth;)I"⟩ : MethodName)) hown (mvT hZ (hw _ (List.mem_of_getElem? (i := 18) rfl))) (mvT hZ (hw _ (List.mem_of_getElem? (i := 19) rfl))) (mvT hZ (hw _ (List.mem_of_getElem? (i := 3) rfl))) (mvT hZ (hw _ (List.mem_of_getElem? (i := 20) rfl))) (by decide) (backOf (W := 0) (rm3_1 l Z a0 hw [] w h0 n0 (Nat.le_trans Z0 (own_ext0 h0).1) hP) hZ (hw _ (List.mem_of_getElem? (i := 20) rfl)) (hw _ (List.mem_of_getElem? (i := 3) rfl)) (by decide) (by decide)) (g := (mkF m 37 #[.val (.int i0), .val (.int i1), .val (.int (1 : Int32)), .val (.int (1 : Int32)), .val (.ref (w 2)), .val (.ref (w 2)), .val (.ref (w 2))] [(.ref (w 2))])) rfl (by rw [hml]; rfl) (argsL := [(.ref (w 2))]) (rest := []) (lenOf pd_2 rfl) rfl (by show 2 * 0 + _ ≤ _; exact Nat.le_of_eq rfl) (hb hby at_37) (fun _ _ => ⟨rfl, e86, (by decide : 0 + 0 ≤ _), (by decide : 0 + 0 ≤ _)⟩)
      dsimp only [Pt.U, Pt.locs, Pt.cells, Pt.slots] at X87 l87 y87 z87 st87 hQ87
      subst l87 y87 z87
      obtain ⟨rfl, N87q, e87⟩ := hQ87
      have N87 := Fr.app N86 N87q
      refine Go.on (T' := T87) (g' := (mkF m 40 #[.val (.int i0), .val (.int i1), .val (.int (1 : Int32)), .val (.int (1 : Int32)), .val (.ref (w 2)), .val (.ref (w 2)), .val (.ref (w 2))] [(.int (1 : Int32))])) st87 ?_
      refine Go.on (T' := T87) (g' := (mkF m 41 #[.val (.int i0), .val (.int i1), .val (.int (1 : Int32)), .val (.int (1 : Int32)), .val (.ref (w 2)), .val (.ref (w 2)), .val (.ref (w 2))] [(.int (1 : Int32)), (.int (1 : Int32))])) (fun t k => XS.iloadN X87.here hx rfl (hb hby at_40) rfl k) ?_
      refine Go.on (T' := T87) (g' := (mkF m 42 #[.val (.int i0), .val (.int i1), .val (.int (1 : Int32)), .val (.int (1 : Int32)), .val (.ref (w 2)), .val (.ref (w 2)), .val (.ref (w 2))] [(.int (1 : Int32)), (.int (1 : Int32)), (.int (1 : Int32))])) (fun t k => XS.iloadN X87.here hx rfl (hb hby at_41) rfl k) ?_
      obtain ⟨_, _, ⟨T88, L88, k88, n88⟩, -, X88, ⟨Lc88, hQ88, l88, y88, z88⟩, st88⟩ := Jvm.LawKit.callS X87 hx (y := (⟨"java/lang/Math", "max", "(II)I"⟩ : MethodName)) hown (mvT hZ (hw _ (List.mem_of_getElem? (i := 21) rfl))) (mvT hZ (hw _ (List.mem_of_getElem? (i := 22) rfl))) (mvT hZ (hw _ (List.mem_of_getElem? (i := 23) rfl))) (mvT hZ (hw _ (List.mem_of_getElem? (i := 24) rfl))) (by decide) (backOf (W := 1) (rm4_4 l Z a0 hw [] w h0 n0 (Nat.le_trans Z0 (own_ext0 h0).1) hP) hZ (hw _ (List.mem_of_getElem? (i := 24) rfl)) (hw _ (List.mem_of_getElem? (i := 23) rfl)) (by decide) (by decide)) (g := (mkF m 42 #[.val (.int i0), .val (.int i1), .val (.int (1 : Int32)), .val (.int (1 : Int32)), .val (.ref (w 2)), .val (.ref (w 2)), .val (.ref (w 2))] [(.int (1 : Int32)), (.int (1 : Int32)), (.int (1 : Int32))])) rfl (by rw [hml]; rfl) (argsL := [(.int (1 : Int32)), (.int (1 : Int32))]) (rest := [(.int (1 : Int32))]) (lenOf pd_3 rfl) rfl (by show 2 * 0 + _ ≤ _; exact Nat.le_of_eq rfl) (hb hby at_42) (fun _ _ => ⟨rfl, e87, (by decide : 0 + 0 ≤ _), (by decide : 0 + 0 ≤ _)⟩)
      dsimp only [Pt.U, Pt.locs, Pt.cells, Pt.slots] at X88 l88 y88 z88 st88 hQ88
      subst l88 y88 z88
      obtain ⟨rfl, N88q, e88⟩ := hQ88
      have N88 := Fr.app N87 N88q
      refine Go.on (T' := T88) (g' := (mkF m 45 #[.val (.int i0), .val (.int i1), .val (.int (1 : Int32)), .val (.int (1 : Int32)), .val (.ref (w 2)), .val (.ref (w 2)), .val (.ref (w 2))] [(.int (1 : Int32)), (.int (1 : Int32))])) st88 ?_
      refine Go.on (T' := T88) (g' := (mkF m 48 #[.val (.int i0), .val (.int i1), .val (.int (1 : Int32)), .val (.int (1 : Int32)), .val (.ref (w 2)), .val (.ref (w 2)), .val (.ref (w 2))] [])) (fun t k => XS.icmpNo X88.here hx rfl (hb hby at_45) rfl (teq (by decide : (1 : Int32) = (1 : Int32))).2 k) ?_
      refine Go.on (T' := T88) (g' := (mkF m 49 #[.val (.int i0), .val (.int i1), .val (.int (1 : Int32)), .val (.int (1 : Int32)), .val (.ref (w 2)), .val (.ref (w 2)), .val (.ref (w 2))] [(.int (1 : Int32))])) (fun t k => XS.iconst X88.here hx rfl (hb hby at_48) k) ?_
      refine Go.on (T' := T88) (g' := (mkF m 53 #[.val (.int i0), .val (.int i1), .val (.int (1 : Int32)), .val (.int (1 : Int32)), .val (.ref (w 2)), .val (.ref (w 2)), .val (.ref (w 2))] [(.int (1 : Int32))])) (fun t k => XS.goto X88.here hx rfl (pc0 := 49) (pc' := 53) rfl (hb hby at_49) (by decide) (by decide) k) ?_
      obtain ⟨fs, hr, hrun, hended, hW, hsame⟩ := X88.leave (v := some (.int (1 : Int32))) (fun h => by rw [Bd.returns] at h; cases h)
      exact ⟨_, _, retN X88 hx (t := .boolean) Bd.returns (by simp) (hb hby at_53) hr, hrun, hended, _, _, rfl, ⟨rfl, N88⟩, ⟨_, rfl⟩, hW, hsame.mono (by decide) (by decide)⟩
    · skip
      rw [h62]
      refine Go.on (T' := s₁) (g' := (mkF m 14 #[.val (.int i0), .val (.int i1), .val (.int (1 : Int32)), .val (.int (2 : Int32)), .unset, .unset, .unset] [])) (fun t k => XS.istoreN X0.here hx rfl (hb hby at_13) rfl (l' := #[.val (.int i0), .val (.int i1), .val (.int (1 : Int32)), .val (.int (2 : Int32)), .unset, .unset, .unset]) rfl k) ?_
      refine Go.on (T' := s₁) (g' := (mkF m 15 #[.val (.int i0), .val (.int i1), .val (.int (1 : Int32)), .val (.int (2 : Int32)), .unset, .unset, .unset] [(.int (1 : Int32))])) (fun t k => XS.iloadN X0.here hx rfl (hb hby at_14) rfl k) ?_
      obtain ⟨_, _, ⟨T89, L89, k89, n89⟩, -, X89, ⟨Lc89, hQ89, l89, y89, z89⟩, st89⟩ := Jvm.LawKit.callS X0 hx (y := (⟨"com/example/bagwise/bagwise/terms/TruthOrPinLaw", "pick", "(I)Lcom/example/bagwise/bagwise/terms/Truth;"⟩ : MethodName)) hown (mvT hZ (hw _ (List.mem_of_getElem? (i := 1) rfl))) (mvT hZ (hw _ (List.mem_of_getElem? (i := 2) rfl))) (mvT hZ (hw _ (List.mem_of_getElem? (i := 3) rfl))) (mvT hZ (hw _ (List.mem_of_getElem? (i := 4) rfl))) (by decide) (backOf (W := 0) (rm1_1 l Z a0 hw [] w h0 n0 (Nat.le_trans Z0 (own_ext0 h0).1) hP) hZ (hw _ (List.mem_of_getElem? (i := 4) rfl)) (hw _ (List.mem_of_getElem? (i := 3) rfl)) (by decide) (by decide)) (g := (mkF m 15 #[.val (.int i0), .val (.int i1), .val (.int (1 : Int32)), .val (.int (2 : Int32)), .unset, .unset, .unset] [(.int (1 : Int32))])) rfl (by rw [hml]; rfl) (argsL := [(.int (1 : Int32))]) (rest := []) (lenOf pd_0 rfl) rfl (by show 2 * 0 + _ ≤ _; exact Nat.le_of_eq rfl) (hb hby at_15) (fun _ _ => ⟨rfl, e0, (by decide : 0 + 0 ≤ _), (by decide : 0 + 0 ≤ _)⟩)
      dsimp only [Pt.U, Pt.locs, Pt.cells, Pt.slots] at X89 l89 y89 z89 st89 hQ89
      subst l89 y89 z89
      obtain ⟨rfl, N89q, e89⟩ := hQ89
      have N89 := Fr.app N0 N89q
      refine Go.on (T' := T89) (g' := (mkF m 18 #[.val (.int i0), .val (.int i1), .val (.int (1 : Int32)), .val (.int (2 : Int32)), .unset, .unset, .unset] [(.ref (w 2))])) st89 ?_
      refine Go.on (T' := T89) (g' := (mkF m 20 #[.val (.int i0), .val (.int i1), .val (.int (1 : Int32)), .val (.int (2 : Int32)), .val (.ref (w 2)), .unset, .unset] [])) (fun t k => XS.astore X89.here hx rfl (hb hby at_18) rfl rfl (l' := #[.val (.int i0), .val (.int i1), .val (.int (1 : Int32)), .val (.int (2 : Int32)), .val (.ref (w 2)), .unset, .unset]) rfl k) ?_
      refine Go.on (T' := T89) (g' := (mkF m 21 #[.val (.int i0), .val (.int i1), .val (.int (1 : Int32)), .val (.int (2 : Int32)), .val (.ref (w 2)), .unset, .unset] [(.int (2 : Int32))])) (fun t k => XS.iloadN X89.here hx rfl (hb hby at_20) rfl k) ?_
      obtain ⟨_, _, ⟨T90, L90, k90, n90⟩, -, X90, ⟨Lc90, hQ90, l90, y90, z90⟩, st90⟩ := Jvm.LawKit.callS X89 hx (y := (⟨"com/example/bagwise/bagwise/terms/TruthOrPinLaw", "pick", "(I)Lcom/example/bagwise/bagwise/terms/Truth;"⟩ : MethodName)) hown (mvT hZ (hw _ (List.mem_of_getElem? (i := 1) rfl))) (mvT hZ (hw _ (List.mem_of_getElem? (i := 2) rfl))) (mvT hZ (hw _ (List.mem_of_getElem? (i := 3) rfl))) (mvT hZ (hw _ (List.mem_of_getElem? (i := 4) rfl))) (by decide) (backOf (W := 0) (rm1_2 l Z a0 hw [] w h0 n0 (Nat.le_trans Z0 (own_ext0 h0).1) hP) hZ (hw _ (List.mem_of_getElem? (i := 4) rfl)) (hw _ (List.mem_of_getElem? (i := 3) rfl)) (by decide) (by decide)) (g := (mkF m 21 #[.val (.int i0), .val (.int i1), .val (.int (1 : Int32)), .val (.int (2 : Int32)), .val (.ref (w 2)), .unset, .unset] [(.int (2 : Int32))])) rfl (by rw [hml]; rfl) (argsL := [(.int (2 : Int32))]) (rest := []) (lenOf pd_0 rfl) rfl (by show 2 * 0 + _ ≤ _; exact Nat.le_of_eq rfl) (hb hby at_21) (fun _ _ => ⟨rfl, e89, (by decide : 0 + 0 ≤ _), (by decide : 0 + 0 ≤ _)⟩)
      dsimp only [Pt.U, Pt.locs, Pt.cells, Pt.slots] at X90 l90 y90 z90 st90 hQ90
      subst l90 y90 z90
      obtain ⟨rfl, N90q, e90⟩ := hQ90
      have N90 := Fr.app N89 N90q
      refine Go.on (T' := T90) (g' := (mkF m 24 #[.val (.int i0), .val (.int i1), .val (.int (1 : Int32)), .val (.int (2 : Int32)), .val (.ref (w 2)), .unset, .unset] [(.ref (w 1))])) st90 ?_
      refine Go.on (T' := T90) (g' := (mkF m 26 #[.val (.int i0), .val (.int i1), .val (.int (1 : Int32)), .val (.int (2 : Int32)), .val (.ref (w 2)), .val (.ref (w 1)), .unset] [])) (fun t k => XS.astore X90.here hx rfl (hb hby at_24) rfl rfl (l' := #[.val (.int i0), .val (.int i1), .val (.int (1 : Int32)), .val (.int (2 : Int32)), .val (.ref (w 2)), .val (.ref (w 1)), .unset]) rfl k) ?_
      refine Go.on (T' := T90) (g' := (mkF m 28 #[.val (.int i0), .val (.int i1), .val (.int (1 : Int32)), .val (.int (2 : Int32)), .val (.ref (w 2)), .val (.ref (w 1)), .unset] [(.ref (w 2))])) (fun t k => XS.aload X90.here hx rfl (hb hby at_26) rfl rfl k) ?_
      refine Go.on (T' := T90) (g' := (mkF m 30 #[.val (.int i0), .val (.int i1), .val (.int (1 : Int32)), .val (.int (2 : Int32)), .val (.ref (w 2)), .val (.ref (w 1)), .unset] [(.ref (w 1)), (.ref (w 2))])) (fun t k => XS.aload X90.here hx rfl (hb hby at_28) rfl rfl k) ?_
      obtain ⟨cq97, kq97, q97a, q97b, q97c⟩ := isOf hZ e90 (pin_5 hP)
      obtain ⟨_, _, ⟨T97, L97, k97, n97⟩, -, X97, ⟨Lc97, hQ97, l97, y97, z97⟩, st97⟩ := X90.virtualBack hx (y := (⟨"com/example/bagwise/bagwise/terms/Truth", "or", "(Lcom/example/bagwise/bagwise/terms/Truth;)Lcom/example/bagwise/bagwise/terms/Truth;"⟩ : MethodName)) (z := (⟨"com/example/bagwise/bagwise/terms/Truth", "or", "(Lcom/example/bagwise/bagwise/terms/Truth;)Lcom/example/bagwise/bagwise/terms/Truth;"⟩ : MethodName)) hown (mvT hZ (hw _ (List.mem_of_getElem? (i := 8) rfl))) (mvT hZ (hw _ (List.mem_of_getElem? (i := 9) rfl))) (notFace_of_selects (args := #[]) (mvT hZ (hw _ (List.mem_of_getElem? (i := 11) rfl)))) (mvT hZ (hw _ (List.mem_of_getElem? (i := 11) rfl))) (mvT hZ (hw _ (List.mem_of_getElem? (i := 10) rfl))) (by decide) (backOf (W := 0) (rm2_5 l Z a0 hw [] w h0 n0 (Nat.le_trans Z0 (own_ext0 h0).1) hP) hZ (hw _ (List.mem_of_getElem? (i := 12) rfl)) (hw _ (List.mem_of_getElem? (i := 6) rfl)) (by decide) (by decide)) q97a q97c (g := (mkF m 30 #[.val (.int i0), .val (.int i1), .val (.int (1 : Int32)), .val (.int (2 : Int32)), .val (.ref (w 2)), .val (.ref (w 1)), .unset] [(.ref (w 1)), (.ref (w 2))])) rfl (by rw [hml]; rfl) (Steps.refl _) (argsL := [(.ref (w 1))]) (rest := []) (lenOf pd_1 rfl) rfl (by show 2 * 0 + _ ≤ _; exact Nat.le_of_eq rfl) (hb hby at_30) (fun _ _ => ⟨rfl, e90, (by decide : 0 + 0 ≤ _), (by decide : 0 + 0 ≤ _)⟩)
      dsimp only [Pt.U, Pt.locs, Pt.cells, Pt.slots] at X97 l97 y97 z97 st97 hQ97
      subst l97 y97 z97
      obtain ⟨rfl, N97q, e97⟩ := hQ97
      have N97 := Fr.app N90 N97q
      refine Go.on (T' := T97) (g' := (mkF m 33 #[.val (.int i0), .val (.int i1), .val (.int (1 : Int32)), .val (.int (2 : Int32)), .val (.ref (w 2)), .val (.ref (w 1)), .unset] [(.ref (w 1))])) (fun t k => st97.trans k) ?_
      refine Go.on (T' := T97) (g' := (mkF m 35 #[.val (.int i0), .val (.int i1), .val (.int (1 : Int32)), .val (.int (2 : Int32)), .val (.ref (w 2)), .val (.ref (w 1)), .val (.ref (w 1))] [])) (fun t k => XS.astore X97.here hx rfl (hb hby at_33) rfl rfl (l' := #[.val (.int i0), .val (.int i1), .val (.int (1 : Int32)), .val (.int (2 : Int32)), .val (.ref (w 2)), .val (.ref (w 1)), .val (.ref (w 1))]) rfl k) ?_
      refine Go.on (T' := T97) (g' := (mkF m 37 #[.val (.int i0), .val (.int i1), .val (.int (1 : Int32)), .val (.int (2 : Int32)), .val (.ref (w 2)), .val (.ref (w 1)), .val (.ref (w 1))] [(.ref (w 1))])) (fun t k => XS.aload X97.here hx rfl (hb hby at_35) rfl rfl k) ?_
      obtain ⟨_, _, ⟨T98, L98, k98, n98⟩, -, X98, ⟨Lc98, hQ98, l98, y98, z98⟩, st98⟩ := Jvm.LawKit.callS X97 hx (y := (⟨"com/example/bagwise/bagwise/terms/TruthOrPinLaw", "rank", "(Lcom/example/bagwise/bagwise/terms/Truth;)I"⟩ : MethodName)) hown (mvT hZ (hw _ (List.mem_of_getElem? (i := 18) rfl))) (mvT hZ (hw _ (List.mem_of_getElem? (i := 19) rfl))) (mvT hZ (hw _ (List.mem_of_getElem? (i := 3) rfl))) (mvT hZ (hw _ (List.mem_of_getElem? (i := 20) rfl))) (by decide) (backOf (W := 0) (rm3_2 l Z a0 hw [] w h0 n0 (Nat.le_trans Z0 (own_ext0 h0).1) hP) hZ (hw _ (List.mem_of_getElem? (i := 20) rfl)) (hw _ (List.mem_of_getElem? (i := 3) rfl)) (by decide) (by decide)) (g := (mkF m 37 #[.val (.int i0), .val (.int i1), .val (.int (1 : Int32)), .val (.int (2 : Int32)), .val (.ref (w 2)), .val (.ref (w 1)), .val (.ref (w 1))] [(.ref (w 1))])) rfl (by rw [hml]; rfl) (argsL := [(.ref (w 1))]) (rest := []) (lenOf pd_2 rfl) rfl (by show 2 * 0 + _ ≤ _; exact Nat.le_of_eq rfl) (hb hby at_37) (fun _ _ => ⟨rfl, e97, (by decide : 0 + 0 ≤ _), (by decide : 0 + 0 ≤ _)⟩)
      dsimp only [Pt.U, Pt.locs, Pt.cells, Pt.slots] at X98 l98 y98 z98 st98 hQ98
      subst l98 y98 z98
      obtain ⟨rfl, N98q, e98⟩ := hQ98
      have N98 := Fr.app N97 N98q
      refine Go.on (T' := T98) (g' := (mkF m 40 #[.val (.int i0), .val (.int i1), .val (.int (1 : Int32)), .val (.int (2 : Int32)), .val (.ref (w 2)), .val (.ref (w 1)), .val (.ref (w 1))] [(.int (2 : Int32))])) st98 ?_
      refine Go.on (T' := T98) (g' := (mkF m 41 #[.val (.int i0), .val (.int i1), .val (.int (1 : Int32)), .val (.int (2 : Int32)), .val (.ref (w 2)), .val (.ref (w 1)), .val (.ref (w 1))] [(.int (1 : Int32)), (.int (2 : Int32))])) (fun t k => XS.iloadN X98.here hx rfl (hb hby at_40) rfl k) ?_
      refine Go.on (T' := T98) (g' := (mkF m 42 #[.val (.int i0), .val (.int i1), .val (.int (1 : Int32)), .val (.int (2 : Int32)), .val (.ref (w 2)), .val (.ref (w 1)), .val (.ref (w 1))] [(.int (2 : Int32)), (.int (1 : Int32)), (.int (2 : Int32))])) (fun t k => XS.iloadN X98.here hx rfl (hb hby at_41) rfl k) ?_
      obtain ⟨_, _, ⟨T99, L99, k99, n99⟩, -, X99, ⟨Lc99, hQ99, l99, y99, z99⟩, st99⟩ := Jvm.LawKit.callS X98 hx (y := (⟨"java/lang/Math", "max", "(II)I"⟩ : MethodName)) hown (mvT hZ (hw _ (List.mem_of_getElem? (i := 21) rfl))) (mvT hZ (hw _ (List.mem_of_getElem? (i := 22) rfl))) (mvT hZ (hw _ (List.mem_of_getElem? (i := 23) rfl))) (mvT hZ (hw _ (List.mem_of_getElem? (i := 24) rfl))) (by decide) (backOf (W := 1) (rm4_5 l Z a0 hw [] w h0 n0 (Nat.le_trans Z0 (own_ext0 h0).1) hP) hZ (hw _ (List.mem_of_getElem? (i := 24) rfl)) (hw _ (List.mem_of_getElem? (i := 23) rfl)) (by decide) (by decide)) (g := (mkF m 42 #[.val (.int i0), .val (.int i1), .val (.int (1 : Int32)), .val (.int (2 : Int32)), .val (.ref (w 2)), .val (.ref (w 1)), .val (.ref (w 1))] [(.int (2 : Int32)), (.int (1 : Int32)), (.int (2 : Int32))])) rfl (by rw [hml]; rfl) (argsL := [(.int (1 : Int32)), (.int (2 : Int32))]) (rest := [(.int (2 : Int32))]) (lenOf pd_3 rfl) rfl (by show 2 * 0 + _ ≤ _; exact Nat.le_of_eq rfl) (hb hby at_42) (fun _ _ => ⟨rfl, e98, (by decide : 0 + 0 ≤ _), (by decide : 0 + 0 ≤ _)⟩)
      dsimp only [Pt.U, Pt.locs, Pt.cells, Pt.slots] at X99 l99 y99 z99 st99 hQ99
      subst l99 y99 z99
      obtain ⟨rfl, N99q, e99⟩ := hQ99
      have N99 := Fr.app N98 N99q
      refine Go.on (T' := T99) (g' := (mkF m 45 #[.val (.int i0), .val (.int i1), .val (.int (1 : Int32)), .val (.int (2 : Int32)), .val (.ref (w 2)), .val (.ref (w 1)), .val (.ref (w 1))] [(.int (2 : Int32)), (.int (2 : Int32))])) st99 ?_
      refine Go.on (T' := T99) (g' := (mkF m 48 #[.val (.int i0), .val (.int i1), .val (.int (1 : Int32)), .val (.int (2 : Int32)), .val (.ref (w 2)), .val (.ref (w 1)), .val (.ref (w 1))] [])) (fun t k => XS.icmpNo X99.here hx rfl (hb hby at_45) rfl (teq (by decide : (2 : Int32) = (2 : Int32))).2 k) ?_
      refine Go.on (T' := T99) (g' := (mkF m 49 #[.val (.int i0), .val (.int i1), .val (.int (1 : Int32)), .val (.int (2 : Int32)), .val (.ref (w 2)), .val (.ref (w 1)), .val (.ref (w 1))] [(.int (1 : Int32))])) (fun t k => XS.iconst X99.here hx rfl (hb hby at_48) k) ?_
      refine Go.on (T' := T99) (g' := (mkF m 53 #[.val (.int i0), .val (.int i1), .val (.int (1 : Int32)), .val (.int (2 : Int32)), .val (.ref (w 2)), .val (.ref (w 1)), .val (.ref (w 1))] [(.int (1 : Int32))])) (fun t k => XS.goto X99.here hx rfl (pc0 := 49) (pc' := 53) rfl (hb hby at_49) (by decide) (by decide) k) ?_
      obtain ⟨fs, hr, hrun, hended, hW, hsame⟩ := X99.leave (v := some (.int (1 : Int32))) (fun h => by rw [Bd.returns] at h; cases h)
      exact ⟨_, _, retN X99 hx (t := .boolean) Bd.returns (by simp) (hb hby at_53) hr, hrun, hended, _, _, rfl, ⟨rfl, N99⟩, ⟨_, rfl⟩, hW, hsame.mono (by decide) (by decide)⟩
  · skip
    rw [h1]
    refine Go.on (T' := s₁) (g' := (mkF m 7 #[.val (.int i0), .val (.int i1), .val (.int (2 : Int32)), .unset, .unset, .unset, .unset] [])) (fun t k => XS.istoreN X0.here hx rfl (hb hby at_6) rfl (l' := #[.val (.int i0), .val (.int i1), .val (.int (2 : Int32)), .unset, .unset, .unset, .unset]) rfl k) ?_
    refine Go.on (T' := s₁) (g' := (mkF m 8 #[.val (.int i0), .val (.int i1), .val (.int (2 : Int32)), .unset, .unset, .unset, .unset] [(.int i1)])) (fun t k => XS.iloadN X0.here hx rfl (hb hby at_7) rfl k) ?_
    refine Go.on (T' := s₁) (g' := (mkF m 10 #[.val (.int i0), .val (.int i1), .val (.int (2 : Int32)), .unset, .unset, .unset, .unset] [(.int (2147483647 : Int32)), (.int i1)])) (X0.ldcInt hx hown (mvT hZ (hw _ (List.mem_of_getElem? (i := 0) rfl))) (g := (mkF m 8 #[.val (.int i0), .val (.int i1), .val (.int (2 : Int32)), .unset, .unset, .unset, .unset] [(.int i1)])) rfl (hb hby at_8)) ?_
    refine Go.on (T' := s₁) (g' := (mkF m 11 #[.val (.int i0), .val (.int i1), .val (.int (2 : Int32)), .unset, .unset, .unset, .unset] [(.int (i1 &&& (2147483647 : Int32)))])) (fun t k => XS.iand X0.here hx rfl (hb hby at_10) rfl k) ?_
    refine Go.on (T' := s₁) (g' := (mkF m 12 #[.val (.int i0), .val (.int i1), .val (.int (2 : Int32)), .unset, .unset, .unset, .unset] [(.int (3 : Int32)), (.int (i1 &&& (2147483647 : Int32)))])) (fun t k => XS.iconst X0.here hx rfl (hb hby at_11) k) ?_
    refine Go.on (T' := s₁) (g' := (mkF m 13 #[.val (.int i0), .val (.int i1), .val (.int (2 : Int32)), .unset, .unset, .unset, .unset] [(.int ((i1 &&& (2147483647 : Int32)) % (3 : Int32)))])) (fun t k => iremM X0 hx rfl (hb hby at_12) rfl (by decide) k) ?_
    rcases own_mod3 i1 with h100 | h100 | h100
    · skip
      rw [h100]
      refine Go.on (T' := s₁) (g' := (mkF m 14 #[.val (.int i0), .val (.int i1), .val (.int (2 : Int32)), .val (.int (0 : Int32)), .unset, .unset, .unset] [])) (fun t k => XS.istoreN X0.here hx rfl (hb hby at_13) rfl (l' := #[.val (.int i0), .val (.int i1), .val (.int (2 : Int32)), .val (.int (0 : Int32)), .unset, .unset, .unset]) rfl k) ?_
      refine Go.on (T' := s₁) (g' := (mkF m 15 #[.val (.int i0), .val (.int i1), .val (.int (2 : Int32)), .val (.int (0 : Int32)), .unset, .unset, .unset] [(.int (2 : Int32))])) (fun t k => XS.iloadN X0.here hx rfl (hb hby at_14) rfl k) ?_
      obtain ⟨_, _, ⟨T101, L101, k101, n101⟩, -, X101, ⟨Lc101, hQ101, l101, y101, z101⟩, st101⟩ := Jvm.LawKit.callS X0 hx (y := (⟨"com/example/bagwise/bagwise/terms/TruthOrPinLaw", "pick", "(I)Lcom/example/bagwise/bagwise/terms/Truth;"⟩ : MethodName)) hown (mvT hZ (hw _ (List.mem_of_getElem? (i := 1) rfl))) (mvT hZ (hw _ (List.mem_of_getElem? (i := 2) rfl))) (mvT hZ (hw _ (List.mem_of_getElem? (i := 3) rfl))) (mvT hZ (hw _ (List.mem_of_getElem? (i := 4) rfl))) (by decide) (backOf (W := 0) (rm1_2 l Z a0 hw [] w h0 n0 (Nat.le_trans Z0 (own_ext0 h0).1) hP) hZ (hw _ (List.mem_of_getElem? (i := 4) rfl)) (hw _ (List.mem_of_getElem? (i := 3) rfl)) (by decide) (by decide)) (g := (mkF m 15 #[.val (.int i0), .val (.int i1), .val (.int (2 : Int32)), .val (.int (0 : Int32)), .unset, .unset, .unset] [(.int (2 : Int32))])) rfl (by rw [hml]; rfl) (argsL := [(.int (2 : Int32))]) (rest := []) (lenOf pd_0 rfl) rfl (by show 2 * 0 + _ ≤ _; exact Nat.le_of_eq rfl) (hb hby at_15) (fun _ _ => ⟨rfl, e0, (by decide : 0 + 0 ≤ _), (by decide : 0 + 0 ≤ _)⟩)
      dsimp only [Pt.U, Pt.locs, Pt.cells, Pt.slots] at X101 l101 y101 z101 st101 hQ101
      subst l101 y101 z101
      obtain ⟨rfl, N101q, e101⟩ := hQ101
      have N101 := Fr.app N0 N101q
      refine Go.on (T' := T101) (g' := (mkF m 18 #[.val (.int i0), .val (.int i1), .val (.int (2 : Int32)), .val (.int (0 : Int32)), .unset, .unset, .unset] [(.ref (w 1))])) st101 ?_
      refine Go.on (T' := T101) (g' := (mkF m 20 #[.val (.int i0), .val (.int i1), .val (.int (2 : Int32)), .val (.int (0 : Int32)), .val (.ref (w 1)), .unset, .unset] [])) (fun t k => XS.astore X101.here hx rfl (hb hby at_18) rfl rfl (l' := #[.val (.int i0), .val (.int i1), .val (.int (2 : Int32)), .val (.int (0 : Int32)), .val (.ref (w 1)), .unset, .unset]) rfl k) ?_
      refine Go.on (T' := T101) (g' := (mkF m 21 #[.val (.int i0), .val (.int i1), .val (.int (2 : Int32)), .val (.int (0 : Int32)), .val (.ref (w 1)), .unset, .unset] [(.int (0 : Int32))])) (fun t k => XS.iloadN X101.here hx rfl (hb hby at_20) rfl k) ?_
      obtain ⟨_, _, ⟨T102, L102, k102, n102⟩, -, X102, ⟨Lc102, hQ102, l102, y102, z102⟩, st102⟩ := Jvm.LawKit.callS X101 hx (y := (⟨"com/example/bagwise/bagwise/terms/TruthOrPinLaw", "pick", "(I)Lcom/example/bagwise/bagwise/terms/Truth;"⟩ : MethodName)) hown (mvT hZ (hw _ (List.mem_of_getElem? (i := 1) rfl))) (mvT hZ (hw _ (List.mem_of_getElem? (i := 2) rfl))) (mvT hZ (hw _ (List.mem_of_getElem? (i := 3) rfl))) (mvT hZ (hw _ (List.mem_of_getElem? (i := 4) rfl))) (by decide) (backOf (W := 0) (rm1_0 l Z a0 hw [] w h0 n0 (Nat.le_trans Z0 (own_ext0 h0).1) hP) hZ (hw _ (List.mem_of_getElem? (i := 4) rfl)) (hw _ (List.mem_of_getElem? (i := 3) rfl)) (by decide) (by decide)) (g := (mkF m 21 #[.val (.int i0), .val (.int i1), .val (.int (2 : Int32)), .val (.int (0 : Int32)), .val (.ref (w 1)), .unset, .unset] [(.int (0 : Int32))])) rfl (by rw [hml]; rfl) (argsL := [(.int (0 : Int32))]) (rest := []) (lenOf pd_0 rfl) rfl (by show 2 * 0 + _ ≤ _; exact Nat.le_of_eq rfl) (hb hby at_21) (fun _ _ => ⟨rfl, e101, (by decide : 0 + 0 ≤ _), (by decide : 0 + 0 ≤ _)⟩)
      dsimp only [Pt.U, Pt.locs, Pt.cells, Pt.slots] at X102 l102 y102 z102 st102 hQ102
      subst l102 y102 z102
      obtain ⟨rfl, N102q, e102⟩ := hQ102
      have N102 := Fr.app N101 N102q
      refine Go.on (T' := T102) (g' := (mkF m 24 #[.val (.int i0), .val (.int i1), .val (.int (2 : Int32)), .val (.int (0 : Int32)), .val (.ref (w 1)), .unset, .unset] [(.ref (w 0))])) st102 ?_
      refine Go.on (T' := T102) (g' := (mkF m 26 #[.val (.int i0), .val (.int i1), .val (.int (2 : Int32)), .val (.int (0 : Int32)), .val (.ref (w 1)), .val (.ref (w 0)), .unset] [])) (fun t k => XS.astore X102.here hx rfl (hb hby at_24) rfl rfl (l' := #[.val (.int i0), .val (.int i1), .val (.int (2 : Int32)), .val (.int (0 : Int32)), .val (.ref (w 1)), .val (.ref (w 0)), .unset]) rfl k) ?_
      refine Go.on (T' := T102) (g' := (mkF m 28 #[.val (.int i0), .val (.int i1), .val (.int (2 : Int32)), .val (.int (0 : Int32)), .val (.ref (w 1)), .val (.ref (w 0)), .unset] [(.ref (w 1))])) (fun t k => XS.aload X102.here hx rfl (hb hby at_26) rfl rfl k) ?_
      refine Go.on (T' := T102) (g' := (mkF m 30 #[.val (.int i0), .val (.int i1), .val (.int (2 : Int32)), .val (.int (0 : Int32)), .val (.ref (w 1)), .val (.ref (w 0)), .unset] [(.ref (w 0)), (.ref (w 1))])) (fun t k => XS.aload X102.here hx rfl (hb hby at_28) rfl rfl k) ?_
      obtain ⟨cq107, kq107, q107a, q107b, q107c⟩ := isOf hZ e102 (pin_4 hP)
      obtain ⟨_, _, ⟨T107, L107, k107, n107⟩, -, X107, ⟨Lc107, hQ107, l107, y107, z107⟩, st107⟩ := X102.virtualBack hx (y := (⟨"com/example/bagwise/bagwise/terms/Truth", "or", "(Lcom/example/bagwise/bagwise/terms/Truth;)Lcom/example/bagwise/bagwise/terms/Truth;"⟩ : MethodName)) (z := (⟨"com/example/bagwise/bagwise/terms/Truth", "or", "(Lcom/example/bagwise/bagwise/terms/Truth;)Lcom/example/bagwise/bagwise/terms/Truth;"⟩ : MethodName)) hown (mvT hZ (hw _ (List.mem_of_getElem? (i := 8) rfl))) (mvT hZ (hw _ (List.mem_of_getElem? (i := 9) rfl))) (notFace_of_selects (args := #[]) (mvT hZ (hw _ (List.mem_of_getElem? (i := 11) rfl)))) (mvT hZ (hw _ (List.mem_of_getElem? (i := 11) rfl))) (mvT hZ (hw _ (List.mem_of_getElem? (i := 10) rfl))) (by decide) (backOf (W := 0) (rm2_6 l Z a0 hw [] w h0 n0 (Nat.le_trans Z0 (own_ext0 h0).1) hP) hZ (hw _ (List.mem_of_getElem? (i := 12) rfl)) (hw _ (List.mem_of_getElem? (i := 6) rfl)) (by decide) (by decide)) q107a q107c (g := (mkF m 30 #[.val (.int i0), .val (.int i1), .val (.int (2 : Int32)), .val (.int (0 : Int32)), .val (.ref (w 1)), .val (.ref (w 0)), .unset] [(.ref (w 0)), (.ref (w 1))])) rfl (by rw [hml]; rfl) (Steps.refl _) (argsL := [(.ref (w 0))]) (rest := []) (lenOf pd_1 rfl) rfl (by show 2 * 0 + _ ≤ _; exact Nat.le_of_eq rfl) (hb hby at_30) (fun _ _ => ⟨rfl, e102, (by decide : 0 + 0 ≤ _), (by decide : 0 + 0 ≤ _)⟩)
      dsimp only [Pt.U, Pt.locs, Pt.cells, Pt.slots] at X107 l107 y107 z107 st107 hQ107
      subst l107 y107 z107
      obtain ⟨rfl, N107q, e107⟩ := hQ107
      have N107 := Fr.app N102 N107q
      refine Go.on (T' := T107) (g' := (mkF m 33 #[.val (.int i0), .val (.int i1), .val (.int (2 : Int32)), .val (.int (0 : Int32)), .val (.ref (w 1)), .val (.ref (w 0)), .unset] [(.ref (w 1))])) (fun t k => st107.trans k) ?_
      refine Go.on (T' := T107) (g' := (mkF m 35 #[.val (.int i0), .val (.int i1), .val (.int (2 : Int32)), .val (.int (0 : Int32)), .val (.ref (w 1)), .val (.ref (w 0)), .val (.ref (w 1))] [])) (fun t k => XS.astore X107.here hx rfl (hb hby at_33) rfl rfl (l' := #[.val (.int i0), .val (.int i1), .val (.int (2 : Int32)), .val (.int (0 : Int32)), .val (.ref (w 1)), .val (.ref (w 0)), .val (.ref (w 1))]) rfl k) ?_
      refine Go.on (T' := T107) (g' := (mkF m 37 #[.val (.int i0), .val (.int i1), .val (.int (2 : Int32)), .val (.int (0 : Int32)), .val (.ref (w 1)), .val (.ref (w 0)), .val (.ref (w 1))] [(.ref (w 1))])) (fun t k => XS.aload X107.here hx rfl (hb hby at_35) rfl rfl k) ?_
      obtain ⟨_, _, ⟨T108, L108, k108, n108⟩, -, X108, ⟨Lc108, hQ108, l108, y108, z108⟩, st108⟩ := Jvm.LawKit.callS X107 hx (y := (⟨"com/example/bagwise/bagwise/terms/TruthOrPinLaw", "rank", "(Lcom/example/bagwise/bagwise/terms/Truth;)I"⟩ : MethodName)) hown (mvT hZ (hw _ (List.mem_of_getElem? (i := 18) rfl))) (mvT hZ (hw _ (List.mem_of_getElem? (i := 19) rfl))) (mvT hZ (hw _ (List.mem_of_getElem? (i := 3) rfl))) (mvT hZ (hw _ (List.mem_of_getElem? (i := 20) rfl))) (by decide) (backOf (W := 0) (rm3_2 l Z a0 hw [] w h0 n0 (Nat.le_trans Z0 (own_ext0 h0).1) hP) hZ (hw _ (List.mem_of_getElem? (i := 20) rfl)) (hw _ (List.mem_of_getElem? (i := 3) rfl)) (by decide) (by decide)) (g := (mkF m 37 #[.val (.int i0), .val (.int i1), .val (.int (2 : Int32)), .val (.int (0 : Int32)), .val (.ref (w 1)), .val (.ref (w 0)), .val (.ref (w 1))] [(.ref (w 1))])) rfl (by rw [hml]; rfl) (argsL := [(.ref (w 1))]) (rest := []) (lenOf pd_2 rfl) rfl (by show 2 * 0 + _ ≤ _; exact Nat.le_of_eq rfl) (hb hby at_37) (fun _ _ => ⟨rfl, e107, (by decide : 0 + 0 ≤ _), (by decide : 0 + 0 ≤ _)⟩)
      dsimp only [Pt.U, Pt.locs, Pt.cells, Pt.slots] at X108 l108 y108 z108 st108 hQ108
      subst l108 y108 z108
      obtain ⟨rfl, N108q, e108⟩ := hQ108
      have N108 := Fr.app N107 N108q
      refine Go.on (T' := T108) (g' := (mkF m 40 #[.val (.int i0), .val (.int i1), .val (.int (2 : Int32)), .val (.int (0 : Int32)), .val (.ref (w 1)), .val (.ref (w 0)), .val (.ref (w 1))] [(.int (2 : Int32))])) st108 ?_
      refine Go.on (T' := T108) (g' := (mkF m 41 #[.val (.int i0), .val (.int i1), .val (.int (2 : Int32)), .val (.int (0 : Int32)), .val (.ref (w 1)), .val (.ref (w 0)), .val (.ref (w 1))] [(.int (2 : Int32)), (.int (2 : Int32))])) (fun t k => XS.iloadN X108.here hx rfl (hb hby at_40) rfl k) ?_
      refine Go.on (T' := T108) (g' := (mkF m 42 #[.val (.int i0), .val (.int i1), .val (.int (2 : Int32)), .val (.int (0 : Int32)), .val (.ref (w 1)), .val (.ref (w 0)), .val (.ref (w 1))] [(.int (0 : Int32)), (.int (2 : Int32)), (.int (2 : Int32))])) (fun t k => XS.iloadN X108.here hx rfl (hb hby at_41) rfl k) ?_
      obtain ⟨_, _, ⟨T109, L109, k109, n109⟩, -, X109, ⟨Lc109, hQ109, l109, y109, z109⟩, st109⟩ := Jvm.LawKit.callS X108 hx (y := (⟨"java/lang/Math", "max", "(II)I"⟩ : MethodName)) hown (mvT hZ (hw _ (List.mem_of_getElem? (i := 21) rfl))) (mvT hZ (hw _ (List.mem_of_getElem? (i := 22) rfl))) (mvT hZ (hw _ (List.mem_of_getElem? (i := 23) rfl))) (mvT hZ (hw _ (List.mem_of_getElem? (i := 24) rfl))) (by decide) (backOf (W := 1) (rm4_6 l Z a0 hw [] w h0 n0 (Nat.le_trans Z0 (own_ext0 h0).1) hP) hZ (hw _ (List.mem_of_getElem? (i := 24) rfl)) (hw _ (List.mem_of_getElem? (i := 23) rfl)) (by decide) (by decide)) (g := (mkF m 42 #[.val (.int i0), .val (.int i1), .val (.int (2 : Int32)), .val (.int (0 : Int32)), .val (.ref (w 1)), .val (.ref (w 0)), .val (.ref (w 1))] [(.int (0 : Int32)), (.int (2 : Int32)), (.int (2 : Int32))])) rfl (by rw [hml]; rfl) (argsL := [(.int (2 : Int32)), (.int (0 : Int32))]) (rest := [(.int (2 : Int32))]) (lenOf pd_3 rfl) rfl (by show 2 * 0 + _ ≤ _; exact Nat.le_of_eq rfl) (hb hby at_42) (fun _ _ => ⟨rfl, e108, (by decide : 0 + 0 ≤ _), (by decide : 0 + 0 ≤ _)⟩)
      dsimp only [Pt.U, Pt.locs, Pt.cells, Pt.slots] at X109 l109 y109 z109 st109 hQ109
      subst l109 y109 z109
      obtain ⟨rfl, N109q, e109⟩ := hQ109
      have N109 := Fr.app N108 N109q
      refine Go.on (T' := T109) (g' := (mkF m 45 #[.val (.int i0), .val (.int i1), .val (.int (2 : Int32)), .val (.int (0 : Int32)), .val (.ref (w 1)), .val (.ref (w 0)), .val (.ref (w 1))] [(.int (2 : Int32)), (.int (2 : Int32))])) st109 ?_
      refine Go.on (T' := T109) (g' := (mkF m 48 #[.val (.int i0), .val (.int i1), .val (.int (2 : Int32)), .val (.int (0 : Int32)), .val (.ref (w 1)), .val (.ref (w 0)), .val (.ref (w 1))] [])) (fun t k => XS.icmpNo X109.here hx rfl (hb hby at_45) rfl (teq (by decide : (2 : Int32) = (2 : Int32))).2 k) ?_
      refine Go.on (T' := T109) (g' := (mkF m 49 #[.val (.int i0), .val (.int i1), .val (.int (2 : Int32)), .val (.int (0 : Int32)), .val (.ref (w 1)), .val (.ref (w 0)), .val (.ref (w 1))] [(.int (1 : Int32))])) (fun t k => XS.iconst X109.here hx rfl (hb hby at_48) k) ?_
      refine Go.on (T' := T109) (g' := (mkF m 53 #[.val (.int i0), .val (.int i1), .val (.int (2 : Int32)), .val (.int (0 : Int32)), .val (.ref (w 1)), .val (.ref (w 0)), .val (.ref (w 1))] [(.int (1 : Int32))])) (fun t k => XS.goto X109.here hx rfl (pc0 := 49) (pc' := 53) rfl (hb hby at_49) (by decide) (by decide) k) ?_
      obtain ⟨fs, hr, hrun, hended, hW, hsame⟩ := X109.leave (v := some (.int (1 : Int32))) (fun h => by rw [Bd.returns] at h; cases h)
      exact ⟨_, _, retN X109 hx (t := .boolean) Bd.returns (by simp) (hb hby at_53) hr, hrun, hended, _, _, rfl, ⟨rfl, N109⟩, ⟨_, rfl⟩, hW, hsame.mono (by decide) (by decide)⟩
    · skip
      rw [h100]
      refine Go.on (T' := s₁) (g' := (mkF m 14 #[.val (.int i0), .val (.int i1), .val (.int (2 : Int32)), .val (.int (1 : Int32)), .unset, .unset, .unset] [])) (fun t k => XS.istoreN X0.here hx rfl (hb hby at_13) rfl (l' := #[.val (.int i0), .val (.int i1), .val (.int (2 : Int32)), .val (.int (1 : Int32)), .unset, .unset, .unset]) rfl k) ?_
      refine Go.on (T' := s₁) (g' := (mkF m 15 #[.val (.int i0), .val (.int i1), .val (.int (2 : Int32)), .val (.int (1 : Int32)), .unset, .unset, .unset] [(.int (2 : Int32))])) (fun t k => XS.iloadN X0.here hx rfl (hb hby at_14) rfl k) ?_
      obtain ⟨_, _, ⟨T110, L110, k110, n110⟩, -, X110, ⟨Lc110, hQ110, l110, y110, z110⟩, st110⟩ := Jvm.LawKit.callS X0 hx (y := (⟨"com/example/bagwise/bagwise/terms/TruthOrPinLaw", "pick", "(I)Lcom/example/bagwise/bagwise/terms/Truth;"⟩ : MethodName)) hown (mvT hZ (hw _ (List.mem_of_getElem? (i := 1) rfl))) (mvT hZ (hw _ (List.mem_of_getElem? (i := 2) rfl))) (mvT hZ (hw _ (List.mem_of_getElem? (i := 3) rfl))) (mvT hZ (hw _ (List.mem_of_getElem? (i := 4) rfl))) (by decide) (backOf (W := 0) (rm1_2 l Z a0 hw [] w h0 n0 (Nat.le_trans Z0 (own_ext0 h0).1) hP) hZ (hw _ (List.mem_of_getElem? (i := 4) rfl)) (hw _ (List.mem_of_getElem? (i := 3) rfl)) (by decide) (by decide)) (g := (mkF m 15 #[.val (.int i0), .val (.int i1), .val (.int (2 : Int32)), .val (.int (1 : Int32)), .unset, .unset, .unset] [(.int (2 : Int32))])) rfl (by rw [hml]; rfl) (argsL := [(.int (2 : Int32))]) (rest := []) (lenOf pd_0 rfl) rfl (by show 2 * 0 + _ ≤ _; exact Nat.le_of_eq rfl) (hb hby at_15) (fun _ _ => ⟨rfl, e0, (by decide : 0 + 0 ≤ _), (by decide : 0 + 0 ≤ _)⟩)
      dsimp only [Pt.U, Pt.locs, Pt.cells, Pt.slots] at X110 l110 y110 z110 st110 hQ110
      subst l110 y110 z110
      obtain ⟨rfl, N110q, e110⟩ := hQ110
      have N110 := Fr.app N0 N110q
      refine Go.on (T' := T110) (g' := (mkF m 18 #[.val (.int i0), .val (.int i1), .val (.int (2 : Int32)), .val (.int (1 : Int32)), .unset, .unset, .unset] [(.ref (w 1))])) st110 ?_
      refine Go.on (T' := T110) (g' := (mkF m 20 #[.val (.int i0), .val (.int i1), .val (.int (2 : Int32)), .val (.int (1 : Int32)), .val (.ref (w 1)), .unset, .unset] [])) (fun t k => XS.astore X110.here hx rfl (hb hby at_18) rfl rfl (l' := #[.val (.int i0), .val (.int i1), .val (.int (2 : Int32)), .val (.int (1 : Int32)), .val (.ref (w 1)), .unset, .unset]) rfl k) ?_
      refine Go.on (T' := T110) (g' := (mkF m 21 #[.val (.int i0), .val (.int i1), .val (.int (2 : Int32)), .val (.int (1 : Int32)), .val (.ref (w 1)), .unset, .unset] [(.int (1 : Int32))])) (fun t k => XS.iloadN X110.here hx rfl (hb hby at_20) rfl k) ?_
      obtain ⟨_, _, ⟨T111, L111, k111, n111⟩, -, X111, ⟨Lc111, hQ111, l111, y111, z111⟩, st111⟩ := Jvm.LawKit.callS X110 hx (y := (⟨"com/example/bagwise/bagwise/terms/TruthOrPinLaw", "pick", "(I)Lcom/example/bagwise/bagwise/terms/Truth;"⟩ : MethodName)) hown (mvT hZ (hw _ (List.mem_of_getElem? (i := 1) rfl))) (mvT hZ (hw _ (List.mem_of_getElem? (i := 2) rfl))) (mvT hZ (hw _ (List.mem_of_getElem? (i := 3) rfl))) (mvT hZ (hw _ (List.mem_of_getElem? (i := 4) rfl))) (by decide) (backOf (W := 0) (rm1_1 l Z a0 hw [] w h0 n0 (Nat.le_trans Z0 (own_ext0 h0).1) hP) hZ (hw _ (List.mem_of_getElem? (i := 4) rfl)) (hw _ (List.mem_of_getElem? (i := 3) rfl)) (by decide) (by decide)) (g := (mkF m 21 #[.val (.int i0), .val (.int i1), .val (.int (2 : Int32)), .val (.int (1 : Int32)), .val (.ref (w 1)), .unset, .unset] [(.int (1 : Int32))])) rfl (by rw [hml]; rfl) (argsL := [(.int (1 : Int32))]) (rest := []) (lenOf pd_0 rfl) rfl (by show 2 * 0 + _ ≤ _; exact Nat.le_of_eq rfl) (hb hby at_21) (fun _ _ => ⟨rfl, e110, (by decide : 0 + 0 ≤ _), (by decide : 0 + 0 ≤ _)⟩)
      dsimp only [Pt.U, Pt.locs, Pt.cells, Pt.slots] at X111 l111 y111 z111 st111 hQ111
      subst l111 y111 z111
      obtain ⟨rfl, N111q, e111⟩ := hQ111
      have N111 := Fr.app N110 N111q
      refine Go.on (T' := T111) (g' := (mkF m 24 #[.val (.int i0), .val (.int i1), .val (.int (2 : Int32)), .val (.int (1 : Int32)), .val (.ref (w 1)), .unset, .unset] [(.ref (w 2))])) st111 ?_
      refine Go.on (T' := T111) (g' := (mkF m 26 #[.val (.int i0), .val (.int i1), .val (.int (2 : Int32)), .val (.int (1 : Int32)), .val (.ref (w 1)), .val (.ref (w 2)), .unset] [])) (fun t k => XS.astore X111.here hx rfl (hb hby at_24) rfl rfl (l' := #[.val (.int i0), .val (.int i1), .val (.int (2 : Int32)), .val (.int (1 : Int32)), .val (.ref (w 1)), .val (.ref (w 2)), .unset]) rfl k) ?_
      refine Go.on (T' := T111) (g' := (mkF m 28 #[.val (.int i0), .val (.int i1), .val (.int (2 : Int32)), .val (.int (1 : Int32)), .val (.ref (w 1)), .val (.ref (w 2)), .unset] [(.ref (w 1))])) (fun t k => XS.aload X111.here hx rfl (hb hby at_26) rfl rfl k) ?_
      refine Go.on (T' := T111) (g' := (mkF m 30 #[.val (.int i0), .val (.int i1), .val (.int (2 : Int32)), .val (.int (1 : Int32)), .val (.ref (w 1)), .val (.ref (w 2)), .unset] [(.ref (w 2)), (.ref (w 1))])) (fun t k => XS.aload X111.here hx rfl (hb hby at_28) rfl rfl k) ?_
      obtain ⟨cq116, kq116, q116a, q116b, q116c⟩ := isOf hZ e111 (pin_4 hP)
      obtain ⟨_, _, ⟨T116, L116, k116, n116⟩, -, X116, ⟨Lc116, hQ116, l116, y116, z116⟩, st116⟩ := X111.virtualBack hx (y := (⟨"com/example/bagwise/bagwise/terms/Truth", "or", "(Lcom/example/bagwise/bagwise/terms/Truth;)Lcom/example/bagwise/bagwise/terms/Truth;"⟩ : MethodName)) (z := (⟨"com/example/bagwise/bagwise/terms/Truth", "or", "(Lcom/example/bagwise/bagwise/terms/Truth;)Lcom/example/bagwise/bagwise/terms/Truth;"⟩ : MethodName)) hown (mvT hZ (hw _ (List.mem_of_getElem? (i := 8) rfl))) (mvT hZ (hw _ (List.mem_of_getElem? (i := 9) rfl))) (notFace_of_selects (args := #[]) (mvT hZ (hw _ (List.mem_of_getElem? (i := 11) rfl)))) (mvT hZ (hw _ (List.mem_of_getElem? (i := 11) rfl))) (mvT hZ (hw _ (List.mem_of_getElem? (i := 10) rfl))) (by decide) (backOf (W := 0) (rm2_7 l Z a0 hw [] w h0 n0 (Nat.le_trans Z0 (own_ext0 h0).1) hP) hZ (hw _ (List.mem_of_getElem? (i := 12) rfl)) (hw _ (List.mem_of_getElem? (i := 6) rfl)) (by decide) (by decide)) q116a q116c (g := (mkF m 30 #[.val (.int i0), .val (.int i1), .val (.int (2 : Int32)), .val (.int (1 : Int32)), .val (.ref (w 1)), .val (.ref (w 2)), .unset] [(.ref (w 2)), (.ref (w 1))])) rfl (by rw [hml]; rfl) (Steps.refl _) (argsL := [(.ref (w 2))]) (rest := []) (lenOf pd_1 rfl) rfl (by show 2 * 0 + _ ≤ _; exact Nat.le_of_eq rfl) (hb hby at_30) (fun _ _ => ⟨rfl, e111, (by decide : 0 + 0 ≤ _), (by decide : 0 + 0 ≤ _)⟩)
      dsimp only [Pt.U, Pt.locs, Pt.cells, Pt.slots] at X116 l116 y116 z116 st116 hQ116
      subst l116 y116 z116
      obtain ⟨rfl, N116q, e116⟩ := hQ116
      have N116 := Fr.app N111 N116q
      refine Go.on (T' := T116) (g' := (mkF m 33 #[.val (.int i0), .val (.int i1), .val (.int (2 : Int32)), .val (.int (1 : Int32)), .val (.ref (w 1)), .val (.ref (w 2)), .unset] [(.ref (w 1))])) (fun t k => st116.trans k) ?_
      refine Go.on (T' := T116) (g' := (mkF m 35 #[.val (.int i0), .val (.int i1), .val (.int (2 : Int32)), .val (.int (1 : Int32)), .val (.ref (w 1)), .val (.ref (w 2)), .val (.ref (w 1))] [])) (fun t k => XS.astore X116.here hx rfl (hb hby at_33) rfl rfl (l' := #[.val (.int i0), .val (.int i1), .val (.int (2 : Int32)), .val (.int (1 : Int32)), .val (.ref (w 1)), .val (.ref (w 2)), .val (.ref (w 1))]) rfl k) ?_
      refine Go.on (T' := T116) (g' := (mkF m 37 #[.val (.int i0), .val (.int i1), .val (.int (2 : Int32)), .val (.int (1 : Int32)), .val (.ref (w 1)), .val (.ref (w 2)), .val (.ref (w 1))] [(.ref (w 1))])) (fun t k => XS.aload X116.here hx rfl (hb hby at_35) rfl rfl k) ?_
      obtain ⟨_, _, ⟨T117, L117, k117, n117⟩, -, X117, ⟨Lc117, hQ117, l117, y117, z117⟩, st117⟩ := Jvm.LawKit.callS X116 hx (y := (⟨"com/example/bagwise/bagwise/terms/TruthOrPinLaw", "rank", "(Lcom/example/bagwise/bagwise/terms/Truth;)I"⟩ : MethodName)) hown (mvT hZ (hw _ (List.mem_of_getElem? (i := 18) rfl))) (mvT hZ (hw _ (List.mem_of_getElem? (i := 19) rfl))) (mvT hZ (hw _ (List.mem_of_getElem? (i := 3) rfl))) (mvT hZ (hw _ (List.mem_of_getElem? (i := 20) rfl))) (by decide) (backOf (W := 0) (rm3_2 l Z a0 hw [] w h0 n0 (Nat.le_trans Z0 (own_ext0 h0).1) hP) hZ (hw _ (List.mem_of_getElem? (i := 20) rfl)) (hw _ (List.mem_of_getElem? (i := 3) rfl)) (by decide) (by decide)) (g := (mkF m 37 #[.val (.int i0), .val (.int i1), .val (.int (2 : Int32)), .val (.int (1 : Int32)), .val (.ref (w 1)), .val (.ref (w 2)), .val (.ref (w 1))] [(.ref (w 1))])) rfl (by rw [hml]; rfl) (argsL := [(.ref (w 1))]) (rest := []) (lenOf pd_2 rfl) rfl (by show 2 * 0 + _ ≤ _; exact Nat.le_of_eq rfl) (hb hby at_37) (fun _ _ => ⟨rfl, e116, (by decide : 0 + 0 ≤ _), (by decide : 0 + 0 ≤ _)⟩)
      dsimp only [Pt.U, Pt.locs, Pt.cells, Pt.slots] at X117 l117 y117 z117 st117 hQ117
      subst l117 y117 z117
      obtain ⟨rfl, N117q, e117⟩ := hQ117
      have N117 := Fr.app N116 N117q
      refine Go.on (T' := T117) (g' := (mkF m 40 #[.val (.int i0), .val (.int i1), .val (.int (2 : Int32)), .val (.int (1 : Int32)), .val (.ref (w 1)), .val (.ref (w 2)), .val (.ref (w 1))] [(.int (2 : Int32))])) st117 ?_
      refine Go.on (T' := T117) (g' := (mkF m 41 #[.val (.int i0), .val (.int i1), .val (.int (2 : Int32)), .val (.int (1 : Int32)), .val (.ref (w 1)), .val (.ref (w 2)), .val (.ref (w 1))] [(.int (2 : Int32)), (.int (2 : Int32))])) (fun t k => XS.iloadN X117.here hx rfl (hb hby at_40) rfl k) ?_
      refine Go.on (T' := T117) (g' := (mkF m 42 #[.val (.int i0), .val (.int i1), .val (.int (2 : Int32)), .val (.int (1 : Int32)), .val (.ref (w 1)), .val (.ref (w 2)), .val (.ref (w 1))] [(.int (1 : Int32)), (.int (2 : Int32)), (.int (2 : Int32))])) (fun t k => XS.iloadN X117.here hx rfl (hb hby at_41) rfl k) ?_
      obtain ⟨_, _, ⟨T118, L118, k118, n118⟩, -, X118, ⟨Lc118, hQ118, l118, y118, z118⟩, st118⟩ := Jvm.LawKit.callS X117 hx (y := (⟨"java/lang/Math", "max", "(II)I"⟩ : MethodName)) hown (mvT hZ (hw _ (List.mem_of_getElem? (i := 21) rfl))) (mvT hZ (hw _ (List.mem_of_getElem? (i := 22) rfl))) (mvT hZ (hw _ (List.mem_of_getElem? (i := 23) rfl))) (mvT hZ (hw _ (List.mem_of_getElem? (i := 24) rfl))) (by decide) (backOf (W := 1) (rm4_7 l Z a0 hw [] w h0 n0 (Nat.le_trans Z0 (own_ext0 h0).1) hP) hZ (hw _ (List.mem_of_getElem? (i := 24) rfl)) (hw _ (List.mem_of_getElem? (i := 23) rfl)) (by decide) (by decide)) (g := (mkF m 42 #[.val (.int i0), .val (.int i1), .val (.int (2 : Int32)), .val (.int (1 : Int32)), .val (.ref (w 1)), .val (.ref (w 2)), .val (.ref (w 1))] [(.int (1 : Int32)), (.int (2 : Int32)), (.int (2 : Int32))])) rfl (by rw [hml]; rfl) (argsL := [(.int (2 : Int32)), (.int (1 : Int32))]) (rest := [(.int (2 : Int32))]) (lenOf pd_3 rfl) rfl (by show 2 * 0 + _ ≤ _; exact Nat.le_of_eq rfl) (hb hby at_42) (fun _ _ => ⟨rfl, e117, (by decide : 0 + 0 ≤ _), (by decide : 0 + 0 ≤ _)⟩)
      dsimp only [Pt.U, Pt.locs, Pt.cells, Pt.slots] at X118 l118 y118 z118 st118 hQ118
      subst l118 y118 z118
      obtain ⟨rfl, N118q, e118⟩ := hQ118
      have N118 := Fr.app N117 N118q
      refine Go.on (T' := T118) (g' := (mkF m 45 #[.val (.int i0), .val (.int i1), .val (.int (2 : Int32)), .val (.int (1 : Int32)), .val (.ref (w 1)), .val (.ref (w 2)), .val (.ref (w 1))] [(.int (2 : Int32)), (.int (2 : Int32))])) st118 ?_
      refine Go.on (T' := T118) (g' := (mkF m 48 #[.val (.int i0), .val (.int i1), .val (.int (2 : Int32)), .val (.int (1 : Int32)), .val (.ref (w 1)), .val (.ref (w 2)), .val (.ref (w 1))] [])) (fun t k => XS.icmpNo X118.here hx rfl (hb hby at_45) rfl (teq (by decide : (2 : Int32) = (2 : Int32))).2 k) ?_
      refine Go.on (T' := T118) (g' := (mkF m 49 #[.val (.int i0), .val (.int i1), .val (.int (2 : Int32)), .val (.int (1 : Int32)), .val (.ref (w 1)), .val (.ref (w 2)), .val (.ref (w 1))] [(.int (1 : Int32))])) (fun t k => XS.iconst X118.here hx rfl (hb hby at_48) k) ?_
      refine Go.on (T' := T118) (g' := (mkF m 53 #[.val (.int i0), .val (.int i1), .val (.int (2 : Int32)), .val (.int (1 : Int32)), .val (.ref (w 1)), .val (.ref (w 2)), .val (.ref (w 1))] [(.int (1 : Int32))])) (fun t k => XS.goto X118.here hx rfl (pc0 := 49) (pc' := 53) rfl (hb hby at_49) (by decide) (by decide) k) ?_
      obtain ⟨fs, hr, hrun, hended, hW, hsame⟩ := X118.leave (v := some (.int (1 : Int32))) (fun h => by rw [Bd.returns] at h; cases h)
      exact ⟨_, _, retN X118 hx (t := .boolean) Bd.returns (by simp) (hb hby at_53) hr, hrun, hended, _, _, rfl, ⟨rfl, N118⟩, ⟨_, rfl⟩, hW, hsame.mono (by decide) (by decide)⟩
    · skip
      rw [h100]
      refine Go.on (T' := s₁) (g' := (mkF m 14 #[.val (.int i0), .val (.int i1), .val (.int (2 : Int32)), .val (.int (2 : Int32)), .unset, .unset, .unset] [])) (fun t k => XS.istoreN X0.here hx rfl (hb hby at_13) rfl (l' := #[.val (.int i0), .val (.int i1), .val (.int (2 : Int32)), .val (.int (2 : Int32)), .unset, .unset, .unset]) rfl k) ?_
      refine Go.on (T' := s₁) (g' := (mkF m 15 #[.val (.int i0), .val (.int i1), .val (.int (2 : Int32)), .val (.int (2 : Int32)), .unset, .unset, .unset] [(.int (2 : Int32))])) (fun t k => XS.iloadN X0.here hx rfl (hb hby at_14) rfl k) ?_
      obtain ⟨_, _, ⟨T119, L119, k119, n119⟩, -, X119, ⟨Lc119, hQ119, l119, y119, z119⟩, st119⟩ := Jvm.LawKit.callS X0 hx (y := (⟨"com/example/bagwise/bagwise/terms/TruthOrPinLaw", "pick", "(I)Lcom/example/bagwise/bagwise/terms/Truth;"⟩ : MethodName)) hown (mvT hZ (hw _ (List.mem_of_getElem? (i := 1) rfl))) (mvT hZ (hw _ (List.mem_of_getElem? (i := 2) rfl))) (mvT hZ (hw _ (List.mem_of_getElem? (i := 3) rfl))) (mvT hZ (hw _ (List.mem_of_getElem? (i := 4) rfl))) (by decide) (backOf (W := 0) (rm1_2 l Z a0 hw [] w h0 n0 (Nat.le_trans Z0 (own_ext0 h0).1) hP) hZ (hw _ (List.mem_of_getElem? (i := 4) rfl)) (hw _ (List.mem_of_getElem? (i := 3) rfl)) (by decide) (by decide)) (g := (mkF m 15 #[.val (.int i0), .val (.int i1), .val (.int (2 : Int32)), .val (.int (2 : Int32)), .unset, .unset, .unset] [(.int (2 : Int32))])) rfl (by rw [hml]; rfl) (argsL := [(.int (2 : Int32))]) (rest := []) (lenOf pd_0 rfl) rfl (by show 2 * 0 + _ ≤ _; exact Nat.le_of_eq rfl) (hb hby at_15) (fun _ _ => ⟨rfl, e0, (by decide : 0 + 0 ≤ _), (by decide : 0 + 0 ≤ _)⟩)
      dsimp only [Pt.U, Pt.locs, Pt.cells, Pt.slots] at X119 l119 y119 z119 st119 hQ119
      subst l119 y119 z119
      obtain ⟨rfl, N119q, e119⟩ := hQ119
      have N119 := Fr.app N0 N119q
      refine Go.on (T' := T119) (g' := (mkF m 18 #[.val (.int i0), .val (.int i1), .val (.int (2 : Int32)), .val (.int (2 : Int32)), .unset, .unset, .unset] [(.ref (w 1))])) st119 ?_
      refine Go.on (T' := T119) (g' := (mkF m 20 #[.val (.int i0), .val (.int i1), .val (.int (2 : Int32)), .val (.int (2 : Int32)), .val (.ref (w 1)), .unset, .unset] [])) (fun t k => XS.astore X119.here hx rfl (hb hby at_18) rfl rfl (l' := #[.val (.int i0), .val (.int i1), .val (.int (2 : Int32)), .val (.int (2 : Int32)), .val (.ref (w 1)), .unset, .unset]) rfl k) ?_
      refine Go.on (T' := T119) (g' := (mkF m 21 #[.val (.int i0), .val (.int i1), .val (.int (2 : Int32)), .val (.int (2 : Int32)), .val (.ref (w 1)), .unset, .unset] [(.int (2 : Int32))])) (fun t k => XS.iloadN X119.here hx rfl (hb hby at_20) rfl k) ?_
      obtain ⟨_, _, ⟨T120, L120, k120, n120⟩, -, X120, ⟨Lc120, hQ120, l120, y120, z120⟩, st120⟩ := Jvm.LawKit.callS X119 hx (y := (⟨"com/example/bagwise/bagwise/terms/TruthOrPinLaw", "pick", "(I)Lcom/example/bagwise/bagwise/terms/Truth;"⟩ : MethodName)) hown (mvT hZ (hw _ (List.mem_of_getElem? (i := 1) rfl))) (mvT hZ (hw _ (List.mem_of_getElem? (i := 2) rfl))) (mvT hZ (hw _ (List.mem_of_getElem? (i := 3) rfl))) (mvT hZ (hw _ (List.mem_of_getElem? (i := 4) rfl))) (by decide) (backOf (W := 0) (rm1_2 l Z a0 hw [] w h0 n0 (Nat.le_trans Z0 (own_ext0 h0).1) hP) hZ (hw _ (List.mem_of_getElem? (i := 4) rfl)) (hw _ (List.mem_of_getElem? (i := 3) rfl)) (by decide) (by decide)) (g := (mkF m 21 #[.val (.int i0), .val (.int i1), .val (.int (2 : Int32)), .val (.int (2 : Int32)), .val (.ref (w 1)), .unset, .unset] [(.int (2 : Int32))])) rfl (by rw [hml]; rfl) (argsL := [(.int (2 : Int32))]) (rest := []) (lenOf pd_0 rfl) rfl (by show 2 * 0 + _ ≤ _; exact Nat.le_of_eq rfl) (hb hby at_21) (fun _ _ => ⟨rfl, e119, (by decide : 0 + 0 ≤ _), (by decide : 0 + 0 ≤ _)⟩)
      dsimp only [Pt.U, Pt.locs, Pt.cells, Pt.slots] at X120 l120 y120 z120 st120 hQ120
      subst l120 y120 z120
      obtain ⟨rfl, N120q, e120⟩ := hQ120
      have N120 := Fr.app N119 N120q
      refine Go.on (T' := T120) (g' := (mkF m 24 #[.val (.int i0), .val (.int i1), .val (.int (2 : Int32)), .val (.int (2 : Int32)), .val (.ref (w 1)), .unset, .unset] [(.ref (w 1))])) st120 ?_
      refine Go.on (T' := T120) (g' := (mkF m 26 #[.val (.int i0), .val (.int i1), .val (.int (2 : Int32)), .val (.int (2 : Int32)), .val (.ref (w 1)), .val (.ref (w 1)), .unset] [])) (fun t k => XS.astore X120.here hx rfl (hb hby at_24) rfl rfl (l' := #[.val (.int i0), .val (.int i1), .val (.int (2 : Int32)), .val (.int (2 : Int32)), .val (.ref (w 1)), .val (.ref (w 1)), .unset]) rfl k) ?_
      refine Go.on (T' := T120) (g' := (mkF m 28 #[.val (.int i0), .val (.int i1), .val (.int (2 : Int32)), .val (.int (2 : Int32)), .val (.ref (w 1)), .val (.ref (w 1)), .unset] [(.ref (w 1))])) (fun t k => XS.aload X120.here hx rfl (hb hby at_26) rfl rfl k) ?_
      refine Go.on (T' := T120) (g' := (mkF m 30 #[.val (.int i0), .val (.int i1), .val (.int (2 : Int32)), .val (.int (2 : Int32)), .val (.ref (w 1)), .val (.ref (w 1)), .unset] [(.ref (w 1)), (.ref (w 1))])) (fun t k => XS.aload X120.here hx rfl (hb hby at_28) rfl rfl k) ?_
      obtain ⟨cq125, kq125, q125a, q125b, q125c⟩ := isOf hZ e120 (pin_4 hP)
      obtain ⟨_, _, ⟨T125, L125, k125, n125⟩, -, X125, ⟨Lc125, hQ125, l125, y125, z125⟩, st125⟩ := X120.virtualBack hx (y := (⟨"com/example/bagwise/bagwise/terms/Truth", "or", "(Lcom/example/bagwise/bagwise/terms/Truth;)Lcom/example/bagwise/bagwise/terms/Truth;"⟩ : MethodName)) (z := (⟨"com/example/bagwise/bagwise/terms/Truth", "or", "(Lcom/example/bagwise/bagwise/terms/Truth;)Lcom/example/bagwise/bagwise/terms/Truth;"⟩ : MethodName)) hown (mvT hZ (hw _ (List.mem_of_getElem? (i := 8) rfl))) (mvT hZ (hw _ (List.mem_of_getElem? (i := 9) rfl))) (notFace_of_selects (args := #[]) (mvT hZ (hw _ (List.mem_of_getElem? (i := 11) rfl)))) (mvT hZ (hw _ (List.mem_of_getElem? (i := 11) rfl))) (mvT hZ (hw _ (List.mem_of_getElem? (i := 10) rfl))) (by decide) (backOf (W := 0) (rm2_8 l Z a0 hw [] w h0 n0 (Nat.le_trans Z0 (own_ext0 h0).1) hP) hZ (hw _ (List.mem_of_getElem? (i := 12) rfl)) (hw _ (List.mem_of_getElem? (i := 6) rfl)) (by decide) (by decide)) q125a q125c (g := (mkF m 30 #[.val (.int i0), .val (.int i1), .val (.int (2 : Int32)), .val (.int (2 : Int32)), .val (.ref (w 1)), .val (.ref (w 1)), .unset] [(.ref (w 1)), (.ref (w 1))])) rfl (by rw [hml]; rfl) (Steps.refl _) (argsL := [(.ref (w 1))]) (rest := []) (lenOf pd_1 rfl) rfl (by show 2 * 0 + _ ≤ _; exact Nat.le_of_eq rfl) (hb hby at_30) (fun _ _ => ⟨rfl, e120, (by decide : 0 + 0 ≤ _), (by decide : 0 + 0 ≤ _)⟩)
      dsimp only [Pt.U, Pt.locs, Pt.cells, Pt.slots] at X125 l125 y125 z125 st125 hQ125
      subst l125 y125 z125
      obtain ⟨rfl, N125q, e125⟩ := hQ125
      have N125 := Fr.app N120 N125q
      refine Go.on (T' := T125) (g' := (mkF m 33 #[.val (.int i0), .val (.int i1), .val (.int (2 : Int32)), .val (.int (2 : Int32)), .val (.ref (w 1)), .val (.ref (w 1)), .unset] [(.ref (w 1))])) (fun t k => st125.trans k) ?_
      refine Go.on (T' := T125) (g' := (mkF m 35 #[.val (.int i0), .val (.int i1), .val (.int (2 : Int32)), .val (.int (2 : Int32)), .val (.ref (w 1)), .val (.ref (w 1)), .val (.ref (w 1))] [])) (fun t k => XS.astore X125.here hx rfl (hb hby at_33) rfl rfl (l' := #[.val (.int i0), .val (.int i1), .val (.int (2 : Int32)), .val (.int (2 : Int32)), .val (.ref (w 1)), .val (.ref (w 1)), .val (.ref (w 1))]) rfl k) ?_
      refine Go.on (T' := T125) (g' := (mkF m 37 #[.val (.int i0), .val (.int i1), .val (.int (2 : Int32)), .val (.int (2 : Int32)), .val (.ref (w 1)), .val (.ref (w 1)), .val (.ref (w 1))] [(.ref (w 1))])) (fun t k => XS.aload X125.here hx rfl (hb hby at_35) rfl rfl k) ?_
      obtain ⟨_, _, ⟨T126, L126, k126, n126⟩, -, X126, ⟨Lc126, hQ126, l126, y126, z126⟩, st126⟩ := Jvm.LawKit.callS X125 hx (y := (⟨"com/example/bagwise/bagwise/terms/TruthOrPinLaw", "rank", "(Lcom/example/bagwise/bagwise/terms/Truth;)I"⟩ : MethodName)) hown (mvT hZ (hw _ (List.mem_of_getElem? (i := 18) rfl))) (mvT hZ (hw _ (List.mem_of_getElem? (i := 19) rfl))) (mvT hZ (hw _ (List.mem_of_getElem? (i := 3) rfl))) (mvT hZ (hw _ (List.mem_of_getElem? (i := 20) rfl))) (by decide) (backOf (W := 0) (rm3_2 l Z a0 hw [] w h0 n0 (Nat.le_trans Z0 (own_ext0 h0).1) hP) hZ (hw _ (List.mem_of_getElem? (i := 20) rfl)) (hw _ (List.mem_of_getElem? (i := 3) rfl)) (by decide) (by decide)) (g := (mkF m 37 #[.val (.int i0), .val (.int i1), .val (.int (2 : Int32)), .val (.int (2 : Int32)), .val (.ref (w 1)), .val (.ref (w 1)), .val (.ref (w 1))] [(.ref (w 1))])) rfl (by rw [hml]; rfl) (argsL := [(.ref (w 1))]) (rest := []) (lenOf pd_2 rfl) rfl (by show 2 * 0 + _ ≤ _; exact Nat.le_of_eq rfl) (hb hby at_37) (fun _ _ => ⟨rfl, e125, (by decide : 0 + 0 ≤ _), (by decide : 0 + 0 ≤ _)⟩)
      dsimp only [Pt.U, Pt.locs, Pt.cells, Pt.slots] at X126 l126 y126 z126 st126 hQ126
      subst l126 y126 z126
      obtain ⟨rfl, N126q, e126⟩ := hQ126
      have N126 := Fr.app N125 N126q
      refine Go.on (T' := T126) (g' := (mkF m 40 #[.val (.int i0), .val (.int i1), .val (.int (2 : Int32)), .val (.int (2 : Int32)), .val (.ref (w 1)), .val (.ref (w 1)), .val (.ref (w 1))] [(.int (2 : Int32))])) st126 ?_
      refine Go.on (T' := T126) (g' := (mkF m 41 #[.val (.int i0), .val (.int i1), .val (.int (2 : Int32)), .val (.int (2 : Int32)), .val (.ref (w 1)), .val (.ref (w 1)), .val (.ref (w 1))] [(.int (2 : Int32)), (.int (2 : Int32))])) (fun t k => XS.iloadN X126.here hx rfl (hb hby at_40) rfl k) ?_
      refine Go.on (T' := T126) (g' := (mkF m 42 #[.val (.int i0), .val (.int i1), .val (.int (2 : Int32)), .val (.int (2 : Int32)), .val (.ref (w 1)), .val (.ref (w 1)), .val (.ref (w 1))] [(.int (2 : Int32)), (.int (2 : Int32)), (.int (2 : Int32))])) (fun t k => XS.iloadN X126.here hx rfl (hb hby at_41) rfl k) ?_
      obtain ⟨_, _, ⟨T127, L127, k127, n127⟩, -, X127, ⟨Lc127, hQ127, l127, y127, z127⟩, st127⟩ := Jvm.LawKit.callS X126 hx (y := (⟨"java/lang/Math", "max", "(II)I"⟩ : MethodName)) hown (mvT hZ (hw _ (List.mem_of_getElem? (i := 21) rfl))) (mvT hZ (hw _ (List.mem_of_getElem? (i := 22) rfl))) (mvT hZ (hw _ (List.mem_of_getElem? (i := 23) rfl))) (mvT hZ (hw _ (List.mem_of_getElem? (i := 24) rfl))) (by decide) (backOf (W := 1) (rm4_8 l Z a0 hw [] w h0 n0 (Nat.le_trans Z0 (own_ext0 h0).1) hP) hZ (hw _ (List.mem_of_getElem? (i := 24) rfl)) (hw _ (List.mem_of_getElem? (i := 23) rfl)) (by decide) (by decide)) (g := (mkF m 42 #[.val (.int i0), .val (.int i1), .val (.int (2 : Int32)), .val (.int (2 : Int32)), .val (.ref (w 1)), .val (.ref (w 1)), .val (.ref (w 1))] [(.int (2 : Int32)), (.int (2 : Int32)), (.int (2 : Int32))])) rfl (by rw [hml]; rfl) (argsL := [(.int (2 : Int32)), (.int (2 : Int32))]) (rest := [(.int (2 : Int32))]) (lenOf pd_3 rfl) rfl (by show 2 * 0 + _ ≤ _; exact Nat.le_of_eq rfl) (hb hby at_42) (fun _ _ => ⟨rfl, e126, (by decide : 0 + 0 ≤ _), (by decide : 0 + 0 ≤ _)⟩)
      dsimp only [Pt.U, Pt.locs, Pt.cells, Pt.slots] at X127 l127 y127 z127 st127 hQ127
      subst l127 y127 z127
      obtain ⟨rfl, N127q, e127⟩ := hQ127
      have N127 := Fr.app N126 N127q
      refine Go.on (T' := T127) (g' := (mkF m 45 #[.val (.int i0), .val (.int i1), .val (.int (2 : Int32)), .val (.int (2 : Int32)), .val (.ref (w 1)), .val (.ref (w 1)), .val (.ref (w 1))] [(.int (2 : Int32)), (.int (2 : Int32))])) st127 ?_
      refine Go.on (T' := T127) (g' := (mkF m 48 #[.val (.int i0), .val (.int i1), .val (.int (2 : Int32)), .val (.int (2 : Int32)), .val (.ref (w 1)), .val (.ref (w 1)), .val (.ref (w 1))] [])) (fun t k => XS.icmpNo X127.here hx rfl (hb hby at_45) rfl (teq (by decide : (2 : Int32) = (2 : Int32))).2 k) ?_
      refine Go.on (T' := T127) (g' := (mkF m 49 #[.val (.int i0), .val (.int i1), .val (.int (2 : Int32)), .val (.int (2 : Int32)), .val (.ref (w 1)), .val (.ref (w 1)), .val (.ref (w 1))] [(.int (1 : Int32))])) (fun t k => XS.iconst X127.here hx rfl (hb hby at_48) k) ?_
      refine Go.on (T' := T127) (g' := (mkF m 53 #[.val (.int i0), .val (.int i1), .val (.int (2 : Int32)), .val (.int (2 : Int32)), .val (.ref (w 1)), .val (.ref (w 1)), .val (.ref (w 1))] [(.int (1 : Int32))])) (fun t k => XS.goto X127.here hx rfl (pc0 := 49) (pc' := 53) rfl (hb hby at_49) (by decide) (by decide) k) ?_
      obtain ⟨fs, hr, hrun, hended, hW, hsame⟩ := X127.leave (v := some (.int (1 : Int32))) (fun h => by rw [Bd.returns] at h; cases h)
      exact ⟨_, _, retN X127 hx (t := .boolean) Bd.returns (by simp) (hb hby at_53) hr, hrun, hended, _, _, rfl, ⟨rfl, N127⟩, ⟨_, rfl⟩, hW, hsame.mono (by decide) (by decide)⟩
set_option maxRecDepth 65536 in
set_option maxHeartbeats 40000000 in
theorem comes_1 {Post : Tables → Env → Array Value → State → Outcome → State → Prop} (hpost : ∀ tb e args s v u, (limb_1_1.after args s (.returned v) u = true ∧ limb_1_2.after args s (.returned v) u = true ∧ True) → FrameEnd s (.returned v) u (Jvm.fieldLocs frame_1_writes args s ++ Jvm.arrayLocs frame_1_arrays args s ++ Jvm.staticLocs frame_1_statics s) 0 0 → Post tb e args s (.returned v) u) :
    ArmFor flags0 classFile x code maxLocals ret World_1 tables_1 room_1 Calls_1 rest_1 Pre_1 Post := by
  intro l hfl _ _ p e ha hc hk s m args below hf hA hF happ hP
  obtain ⟨hcalls, hrest, hpre⟩ := hP
  obtain ⟨-, -, -, hnamed, -, -, -, hat⟩ := (Spec.applies_iff hf).mp happ
  obtain ⟨hg, hn⟩ := and_e (Cond.before_iff.mp (show (Jvm.Cond.and given_1 narrow_1).before args s = true from hpre))
  obtain ⟨u1, v1⟩ := and_e hg
  obtain ⟨u2, v2⟩ := and_e v1
  obtain ⟨w0, w1, rfl⟩ : ∃ w0 w1 : Value, args = #[w0, w1] := by
    have hs : args.size = 2 := by simpa [Cond.value, given_1] using u1
    obtain ⟨L⟩ := args
    match L, hs with
    | [w0, w1], _ => exact ⟨w0, w1, rfl⟩
  have hw := fun d (hd : d ∈ tables_1) => atoms_spec (ws := Jvm.Cond.code x code maxLocals ret :: tables_1) hat d (List.mem_cons_of_mem _ hd)
  have hfit : Fit s := fun {y c} hc i hi => by
    obtain ⟨ha, rfl⟩ := Array.getElem?_eq_some_iff.mp hc
    have q := List.all_eq_true.mp ((Array.all_eq_true_iff_forall_mem.mp hF) _ (Array.getElem_mem ha)) i (List.mem_range.mpr hi)
    simpa [Array.getElem?_eq_getElem hi] using q
  obtain ⟨i0, ei0⟩ := is_v u2
  obtain rfl : w0 = (.int i0) := Option.some.inj ei0
  obtain ⟨i1, ei1⟩ := is_v v2
  obtain rfl : w1 = (.int i1) := Option.some.inj ei1
  obtain ⟨u3, v3⟩ := and_e hn
  obtain ⟨u4, v4⟩ := and_e v3
  obtain ⟨u5, v5⟩ := and_e v4
  obtain ⟨u6, v6⟩ := and_e v5
  obtain ⟨u7, v7⟩ := and_e v6
  obtain ⟨x0, ev0⟩ := exa_v u3
  obtain ⟨x1, ev1⟩ := exa_v u4
  obtain ⟨x2, ev2⟩ := exa_v u7
  obtain ⟨w, hw_⟩ : ∃ w : Nat → Addr, w 0 = x0 ∧ w 1 = x1 ∧ w 2 = x2 ∧ True := ⟨fun k => [x0, x1, x2].getD k 0, rfl, rfl, rfl, trivial⟩
  obtain ⟨rfl, rfl, rfl, -⟩ := hw_
  have hPin : Pins s s.heap w := ⟨Sta.start ev0 (Or.inr ⟨(hw _ (List.mem_of_getElem? (i := 6) rfl)), (hw _ (List.mem_of_getElem? (i := 7) rfl))⟩),
    Sta.start ev1 (Or.inr ⟨(hw _ (List.mem_of_getElem? (i := 6) rfl)), (hw _ (List.mem_of_getElem? (i := 14) rfl))⟩),
    Sta.start ev2 (Or.inr ⟨(hw _ (List.mem_of_getElem? (i := 6) rfl)), (hw _ (List.mem_of_getElem? (i := 16) rfl))⟩),
    Exa.start ev0 u3,
    Exa.start ev1 u4,
    Exa.start ev2 u7,
    Fld.start ((fld_at ev0).symm.trans (own_eqI u5)),
    Fld.start ((fld_at ev1).symm.trans (own_eqI u6)),
    Fld.start ((fld_at ev2).symm.trans (own_eqI v7)),
    trivial⟩
  obtain ⟨n, o, h1, h2, h3, _, L, rfl, ⟨rfl, N⟩, hq⟩ := rm0 l s _ hw tables_1 w s.heap s.heap.size (Nat.le_refl _) hPin i0 i1 p e ha hc hk s m _ below hf ((Spec.applies_iff_loose hf).mp happ).1 ⟨rfl, State.Warmed39.refl s, rfl⟩ trivial
  refine ⟨n, _, h1, h2, h3, hpost _ _ _ _ _ _ ⟨Cond.after_iff.mpr rfl, Cond.after_iff.mpr (eq_i res_at (Term.int_eval (1)) rfl), trivial⟩ ⟨hq.1, hq.2.1, (hq.2.2.sift fun y hy => Or.inr (N y hy)).mono (by decide) (by decide)⟩⟩
theorem main_1_1 : Claimed_1_1 := comes_1 fun _ _ _ _ _ _ h hF => ⟨h.1, hF⟩
theorem main_1_2 : Claimed_1_2 := comes_1 fun _ _ _ _ _ _ h hF => ⟨h.2.1, hF⟩
end Jvm.Pilot.@@N@@
namespace Jvm.Pilot.@@N@@
open Jvm Jvm.ClassFile Sem Op Lib Jvm.Free Jvm.Stand Jvm.Pilot.@@N@@.Jvm.D
/-! MADE BY PROGRAM (witnessworld.py) out of the Statement's table words and the real class files: 13 classes; the members and pool entries that the words name. The judged class is class 1, her method 3. -/
namespace start1
open Jvm.ClassFile
def u (s : String) : CpInfo := .utf8 (stringToUtf16 s)
/-- a pool by its gaps: so many unusable entries, then the entry; so many at the end -/
def gap : Nat → List CpInfo → List CpInfo
  | 0, r => r
  | n + 1, r => .unusable :: gap n r
def poolList (es : List (Nat × CpInfo)) (last : Nat) : List CpInfo := es.foldr (fun e r => gap e.1 (e.2 :: r)) (gap last [])
def pool (es : List (Nat × CpInfo)) (last : Nat) : Array CpInfo := ⟨poolList es last⟩
def fileOf (pool : Array CpInfo) (this : Nat) (attrs : Array Attribute := #[]) (ms : Array MethodInfo := #[]) (fl : Nat := 33) (sup : Nat := 0) (ifs : Array Nat := #[]) (fds : Array FieldInfo := #[]) : ClassFile where
  minorVersion := 0
  majorVersion := 65
  constantPool := pool
  accessFlags := fl
  thisClass := this
  superClass := sup
  interfaces := ifs
  fields := fds
  methods := ms
  attributes := attrs
def plain (name : String) (sup : Option ClassId) : Class where
  name := name
  kind := .ordinary
  loader := none
  accessFlags := 33
  super := sup
  interfaces := #[]
  cf := none
  fields := #[]
  methods := #[]
  instanceTypes := #[]
  staticTypes := #[]
  resolved := #[]
  callSites := []
  init := .initialized
  statics := none
  mirror := none

def pool0 : Array CpInfo := pool [(5, u "<init>"), (0, u "()V"), (1, .class_ 10), (1, u "java/lang/Object")] 113

def k0m0 : Method := { name := "<init>", desc := "()V", sig := { parameters := [], returnType := none }, accessFlags := 1, code := none }
/-- java/lang/Object -/
def k0 : Class := { plain "java/lang/Object" none with
  accessFlags := 33
  interfaces := #[]
  cf := some (fileOf pool0 8 #[] #[{ accessFlags := 1, nameIndex := 5, descriptorIndex := 6, attributes := #[] }] 33 0 #[] #[])
  fields := #[]
  methods := #[k0m0]
  instanceTypes := #[]
  staticTypes := #[]
  resolved := Array.replicate 124 none
  statics := none }

def pool1 : Array CpInfo := pool [(2, .class_ 4), (1, u "java/lang/Object"), (0, u "<init>"), (0, u "()V"), (0, .fieldref 8 9), (0, .class_ 10), (0, .nameAndType 11 12), (0, u "com/example/bagwise/bagwise/terms/Truth"), (0, u "FALSE"), (0, u "Lcom/example/bagwise/bagwise/terms/Truth;"), (0, .fieldref 8 14), (0, .nameAndType 15 12), (0, u "ERROR"), (0, .fieldref 8 17), (0, .nameAndType 18 12), (0, u "TRUE"), (0, .integer 2147483647), (0, .methodref 21 22), (0, .class_ 23), (0, .nameAndType 24 25), (0, u "com/example/bagwise/bagwise/terms/TruthOrPinLaw"), (0, u "pick"), (0, u "(I)Lcom/example/bagwise/bagwise/terms/Truth;"), (0, .methodref 8 27), (0, .nameAndType 28 29), (0, u "or"), (0, u "(Lcom/example/bagwise/bagwise/terms/Truth;)Lcom/example/bagwise/bagwise/terms/Truth;"), (0, .methodref 21 31), (0, .nameAndType 32 33), (0, u "rank"), (0, u "(Lcom/example/bagwise/bagwise/terms/Truth;)I"), (0, .methodref 35 36), (0, .class_ 37), (0, .nameAndType 38 39), (0, u "java/lang/Math"), (0, u "max"), (0, u "(II)I"), (3, u "law"), (0, u "(II)Z")] 2

def k1m0 : Method := { name := "<init>", desc := "()V", sig := { parameters := [], returnType := none }, accessFlags := 2, code := none }
def k1c1 : Code := { maxStack := 2, maxLocals := 1, code := method_2_code, exceptionTable := #[], attributes := #[] }
def k1m1 : Method := { name := "pick", desc := "(I)Lcom/example/bagwise/bagwise/terms/Truth;", sig := { parameters := [.int], returnType := some (.object "com/example/bagwise/bagwise/terms/Truth") }, accessFlags := 10, code := some k1c1 }
def k1c2 : Code := { maxStack := 2, maxLocals := 1, code := method_3_code, exceptionTable := #[], attributes := #[] }
def k1m2 : Method := { name := "rank", desc := "(Lcom/example/bagwise/bagwise/terms/Truth;)I", sig := { parameters := [(.object "com/example/bagwise/bagwise/terms/Truth")], returnType := some .int }, accessFlags := 10, code := some k1c2 }
def k1c3 : Code := { maxStack := 3, maxLocals := 7, code := code, exceptionTable := #[], attributes := #[] }
def k1m3 : Method := { name := "law", desc := "(II)Z", sig := { parameters := [.int, .int], returnType := some .boolean }, accessFlags := 9, code := some k1c3 }
/-- com/example/bagwise/bagwise/terms/TruthOrPinLaw -/
def k1 : Class := { plain "com/example/bagwise/bagwise/terms/TruthOrPinLaw" (some 0) with
  accessFlags := 49
  interfaces := #[]
  cf := some (fileOf pool1 21 #[] #[{ accessFlags := 2, nameIndex := 5, descriptorIndex := 6, attributes := #[] }, { accessFlags := 10, nameIndex := 24, descriptorIndex := 25, attributes := #[] }, { accessFlags := 10, nameIndex := 32, descriptorIndex := 33, attributes := #[] }, { accessFlags := 9, nameIndex := 43, descriptorIndex := 44, attributes := #[] }] 49 2 #[] #[])
  fields := #[]
  methods := #[k1m0, k1m1, k1m2, k1m3]
  instanceTypes := #[]
  staticTypes := #[]
  resolved := Array.replicate 47 none
  statics := none }

def pool2 : Array CpInfo := pool [(1, .class_ 2), (0, u "java/lang/constant/Constable"), (0, .class_ 4), (0, u "java/lang/Object")] 6

/-- java/lang/constant/Constable -/
def k2 : Class := { plain "java/lang/constant/Constable" (some 0) with
  accessFlags := 1537
  interfaces := #[]
  cf := some (fileOf pool2 1 #[] #[] 1537 3 #[] #[])
  fields := #[]
  methods := #[]
  instanceTypes := #[]
  staticTypes := #[]
  resolved := Array.replicate 11 none
  statics := none }

def pool3 : Array CpInfo := pool [(1, .class_ 2), (0, u "java/lang/Comparable"), (0, .class_ 4), (0, u "java/lang/Object")] 7

/-- java/lang/Comparable -/
def k3 : Class := { plain "java/lang/Comparable" (some 0) with
  accessFlags := 1537
  interfaces := #[]
  cf := some (fileOf pool3 1 #[] #[] 1537 3 #[] #[])
  fields := #[]
  methods := #[]
  instanceTypes := #[]
  staticTypes := #[]
  resolved := Array.replicate 12 none
  statics := none }

def pool4 : Array CpInfo := pool [(1, .class_ 2), (0, u "java/io/Serializable"), (0, .class_ 4), (0, u "java/lang/Object")] 2

/-- java/io/Serializable -/
def k4 : Class := { plain "java/io/Serializable" (some 0) with
  accessFlags := 1537
  interfaces := #[]
  cf := some (fileOf pool4 1 #[] #[] 1537 3 #[] #[])
  fields := #[]
  methods := #[]
  instanceTypes := #[]
  staticTypes := #[]
  resolved := Array.replicate 7 none
  statics := none }

def pool5 : Array CpInfo := pool [(2, .class_ 4), (1, u "java/lang/Enum"), (0, u "name"), (0, u "Ljava/lang/String;"), (2, u "ordinal"), (0, u "I"), (1, .class_ 14), (1, u "java/lang/Object"), (4, u "hash"), (86, .class_ 108), (1, u "java/lang/Enum$EnumDesc"), (2, .class_ 112), (0, u "java/lang/constant/Constable"), (0, .class_ 114), (0, u "java/lang/Comparable"), (0, .class_ 116), (0, u "java/io/Serializable")] 87

/-- java/lang/Enum -/
def k5 : Class := { plain "java/lang/Enum" (some 0) with
  accessFlags := 1057
  interfaces := #[2, 3, 4]
  cf := some (fileOf pool5 2 #[.nestMembers #[106]] #[] 1057 12 #[111, 113, 115] #[{ accessFlags := 18, nameIndex := 5, descriptorIndex := 6, attributes := #[] }, { accessFlags := 18, nameIndex := 9, descriptorIndex := 10, attributes := #[] }, { accessFlags := 2, nameIndex := 19, descriptorIndex := 10, attributes := #[] }])
  fields := #[{ name := "name", type := (.object "java/lang/String"), accessFlags := 18, slot := 0, constantValue := 0 }, { name := "ordinal", type := .int, accessFlags := 18, slot := 1, constantValue := 0 }, { name := "hash", type := .int, accessFlags := 2, slot := 2, constantValue := 0 }]
  methods := #[]
  instanceTypes := #[(.object "java/lang/String"), .int, .int]
  staticTypes := #[]
  resolved := Array.replicate 204 none
  statics := none }

def pool6 : Array CpInfo := pool [(1, .class_ 2), (0, u "com/example/bagwise/bagwise/terms/Truth"), (0, .fieldref 1 4), (0, .nameAndType 5 6), (0, u "TRUE"), (0, u "Lcom/example/bagwise/bagwise/terms/Truth;"), (0, .fieldref 1 8), (0, .nameAndType 9 6), (0, u "FALSE"), (0, .fieldref 1 11), (0, .nameAndType 12 6), (0, u "ERROR"), (2, u "$VALUES"), (0, u "[Lcom/example/bagwise/bagwise/terms/Truth;"), (6, .class_ 25), (1, u "java/lang/Enum"), (33, u "TRUE_LITERAL"), (0, u "Lcom/example/bagwise/bagwise/terms/Literal;"), (2, u "FALSE_LITERAL"), (86, u "(Lcom/example/bagwise/bagwise/terms/Truth;)Lcom/example/bagwise/bagwise/terms/Truth;"), (0, u "or")] 9

def k6c0 : Code := { maxStack := 2, maxLocals := 2, code := prog_175_method_8_code, exceptionTable := #[], attributes := #[] }
def k6m0 : Method := { name := "or", desc := "(Lcom/example/bagwise/bagwise/terms/Truth;)Lcom/example/bagwise/bagwise/terms/Truth;", sig := { parameters := [(.object "com/example/bagwise/bagwise/terms/Truth")], returnType := some (.object "com/example/bagwise/bagwise/terms/Truth") }, accessFlags := 1, code := some k6c0 }
/-- com/example/bagwise/bagwise/terms/Truth -/
def k6 : Class := { plain "com/example/bagwise/bagwise/terms/Truth" (some 5) with
  accessFlags := 16433
  interfaces := #[]
  cf := some (fileOf pool6 1 #[] #[{ accessFlags := 1, nameIndex := 151, descriptorIndex := 150, attributes := #[] }] 16433 23 #[] #[{ accessFlags := 16409, nameIndex := 5, descriptorIndex := 6, attributes := #[] }, { accessFlags := 16409, nameIndex := 9, descriptorIndex := 6, attributes := #[] }, { accessFlags := 16409, nameIndex := 12, descriptorIndex := 6, attributes := #[] }, { accessFlags := 26, nameIndex := 59, descriptorIndex := 60, attributes := #[] }, { accessFlags := 26, nameIndex := 63, descriptorIndex := 60, attributes := #[] }, { accessFlags := 4122, nameIndex := 15, descriptorIndex := 16, attributes := #[] }])
  fields := #[{ name := "TRUE", type := (.object "com/example/bagwise/bagwise/terms/Truth"), accessFlags := 16409, slot := 0, constantValue := 0 }, { name := "FALSE", type := (.object "com/example/bagwise/bagwise/terms/Truth"), accessFlags := 16409, slot := 1, constantValue := 0 }, { name := "ERROR", type := (.object "com/example/bagwise/bagwise/terms/Truth"), accessFlags := 16409, slot := 2, constantValue := 0 }, { name := "TRUE_LITERAL", type := (.object "com/example/bagwise/bagwise/terms/Literal"), accessFlags := 26, slot := 3, constantValue := 0 }, { name := "FALSE_LITERAL", type := (.object "com/example/bagwise/bagwise/terms/Literal"), accessFlags := 26, slot := 4, constantValue := 0 }, { name := "$VALUES", type := (.array (.object "com/example/bagwise/bagwise/terms/Truth")), accessFlags := 4122, slot := 5, constantValue := 0 }]
  methods := #[k6m0]
  instanceTypes := #[(.object "java/lang/String"), .int, .int]
  staticTypes := #[(.object "com/example/bagwise/bagwise/terms/Truth"), (.object "com/example/bagwise/bagwise/terms/Truth"), (.object "com/example/bagwise/bagwise/terms/Truth"), (.object "com/example/bagwise/bagwise/terms/Literal"), (.object "com/example/bagwise/bagwise/terms/Literal"), (.array (.object "com/example/bagwise/bagwise/terms/Truth"))]
  resolved := Array.replicate 161 none
  statics := some 0 }

def pool7 : Array CpInfo := pool [(1, .class_ 2), (0, u "java/lang/Math"), (1, .class_ 6), (1, u "java/lang/Object"), (0, u "<init>"), (0, u "()V"), (89, .class_ 100), (1, u "java/lang/Math$RandomNumberGeneratorHolder"), (71, u "negativeZeroFloatBits"), (0, u "J"), (2, u "negativeZeroDoubleBits"), (21, u "max"), (46, u "$assertionsDisabled"), (0, u "Z"), (88, u "(II)I"), (2, u "twoToTheDoubleScaleDown"), (0, u "D"), (4, u "twoToTheDoubleScaleUp"), (9, u "E"), (3, u "PI"), (2, u "TAU"), (2, u "DEGREES_TO_RADIANS"), (0, u "RADIANS_TO_DEGREES")] 94

def k7m0 : Method := { name := "<init>", desc := "()V", sig := { parameters := [], returnType := none }, accessFlags := 2, code := none }
def k7c1 : Code := { maxStack := 2, maxLocals := 2, code := jdk_29_method_65_code, exceptionTable := #[], attributes := #[] }
def k7m1 : Method := { name := "max", desc := "(II)I", sig := { parameters := [.int, .int], returnType := some .int }, accessFlags := 9, code := some k7c1 }
/-- java/lang/Math -/
def k7 : Class := { plain "java/lang/Math" (some 0) with
  accessFlags := 49
  interfaces := #[]
  cf := some (fileOf pool7 1 #[.nestMembers #[98]] #[{ accessFlags := 2, nameIndex := 7, descriptorIndex := 8, attributes := #[] }, { accessFlags := 9, nameIndex := 198, descriptorIndex := 335, attributes := #[] }] 49 4 #[] #[{ accessFlags := 25, nameIndex := 354, descriptorIndex := 339, attributes := #[] }, { accessFlags := 25, nameIndex := 358, descriptorIndex := 339, attributes := #[] }, { accessFlags := 25, nameIndex := 361, descriptorIndex := 339, attributes := #[] }, { accessFlags := 26, nameIndex := 364, descriptorIndex := 339, attributes := #[] }, { accessFlags := 26, nameIndex := 365, descriptorIndex := 339, attributes := #[] }, { accessFlags := 26, nameIndex := 172, descriptorIndex := 173, attributes := #[] }, { accessFlags := 26, nameIndex := 176, descriptorIndex := 173, attributes := #[] }, { accessFlags := 8, nameIndex := 344, descriptorIndex := 339, attributes := #[] }, { accessFlags := 8, nameIndex := 338, descriptorIndex := 339, attributes := #[] }, { accessFlags := 4120, nameIndex := 245, descriptorIndex := 246, attributes := #[] }])
  fields := #[{ name := "E", type := .double, accessFlags := 25, slot := 0, constantValue := 0 }, { name := "PI", type := .double, accessFlags := 25, slot := 1, constantValue := 0 }, { name := "TAU", type := .double, accessFlags := 25, slot := 2, constantValue := 0 }, { name := "DEGREES_TO_RADIANS", type := .double, accessFlags := 26, slot := 3, constantValue := 0 }, { name := "RADIANS_TO_DEGREES", type := .double, accessFlags := 26, slot := 4, constantValue := 0 }, { name := "negativeZeroFloatBits", type := .long, accessFlags := 26, slot := 5, constantValue := 0 }, { name := "negativeZeroDoubleBits", type := .long, accessFlags := 26, slot := 6, constantValue := 0 }, { name := "twoToTheDoubleScaleUp", type := .double, accessFlags := 8, slot := 7, constantValue := 0 }, { name := "twoToTheDoubleScaleDown", type := .double, accessFlags := 8, slot := 8, constantValue := 0 }, { name := "$assertionsDisabled", type := .boolean, accessFlags := 4120, slot := 9, constantValue := 0 }]
  methods := #[k7m0, k7m1]
  instanceTypes := #[]
  staticTypes := #[.double, .double, .double, .double, .double, .long, .long, .double, .double, .boolean]
  resolved := Array.replicate 460 none
  statics := none }

def pool8 : Array CpInfo := pool [(1, u "java/lang/Cloneable"), (0, .class_ 1), (0, u "java/lang/Object"), (0, .class_ 3)] 3

/-- java/lang/Cloneable -/
def k8 : Class := { plain "java/lang/Cloneable" (some 0) with
  accessFlags := 1537
  interfaces := #[]
  cf := some (fileOf pool8 2 #[] #[] 1537 4 #[] #[])
  fields := #[]
  methods := #[]
  instanceTypes := #[]
  staticTypes := #[]
  resolved := Array.replicate 8 none
  statics := none }

/-- the primitive byte -/
def k9 : Class := { plain "byte" none with kind := .primitive 'B', accessFlags := 0x411 }
/-- [B -/
def k10 : Class := { plain "[B" (some 0) with kind := .array 9 .byte, interfaces := #[8, 4], accessFlags := 1041 }

/-- the primitive int -/
def k11 : Class := { plain "int" none with kind := .primitive 'I', accessFlags := 0x411 }
/-- [I -/
def k12 : Class := { plain "[I" (some 0) with kind := .array 11 .int, interfaces := #[8, 4], accessFlags := 1041 }

def heap : Heap := #[{ cls := 6, slots := #[.ref 2, .ref 1, .ref 3, .null, .null, .null], vm := .statics 6 },
  { cls := 6, slots := #[.null, .int 1, .int 0], vm := .none },
  { cls := 6, slots := #[.null, .int 0, .int 0], vm := .none },
  { cls := 6, slots := #[.null, .int 2, .int 0], vm := .none }]
def classes : Array Class := #[k0, k1, k2, k3, k4, k5, k6, k7, k8, k9, k10, k11, k12]
def interned : List (Array UInt16 × Addr) := []
def slotsUsed : Nat := 15
def theMethod : MethodId := ⟨1, 3⟩
def args0 : Array Value := #[.int 5, .int 8]
def aboutOver (below : List Frame) : State where
  vm := { classes := classes, interned := interned.toArray }
  heap := heap
  slotsUsed := slotsUsed
  threads := #[{ frames := .invoking theMethod args0 :: below }]
def below0 : List Frame := [.native { method := ⟨0, 0⟩, args := #[] }]
def about1 : State := aboutOver below0
def p0 : Program := .bare "" "" ""
def e0 : Env := launch0.env 0 0 0
theorem w_frames : about1.frames = Frame.invoking theMethod args0 :: below0 := rfl
set_option maxRecDepth 65536 in
theorem w_args : argsFit about1.vm theMethod args0 = true := by decide +kernel
set_option maxRecDepth 65536 in
theorem w_heap : heapFits about1 = true := by decide +kernel
set_option maxRecDepth 65536 in
theorem w_runnable : about1.curStatus? = some .runnable := by decide +kernel
set_option maxRecDepth 65536 in
theorem w_alone : about1.alone = true := by decide +kernel
set_option maxRecDepth 65536 in
theorem w_named : about1.methodNamed? x = some theMethod := by decide +kernel
set_option maxRecDepth 65536 in
theorem w_hears : about1.hears theMethod below0 = true := by decide +kernel
set_option maxRecDepth 65536 in
theorem w_ripe : about1.ripe theMethod args0 below0 = true := by decide +kernel
theorem w_running : about1.status = .running := rfl
set_option maxRecDepth 65536 in
theorem w_room : about1.hasRoom e0.platform room_1 = true :=
  launch0.hasRoom_least _ room_1 (by decide +kernel) (by decide +kernel) (by decide +kernel) (by decide +kernel) (by decide +kernel) (by decide +kernel)
theorem allAtoms_all (ts : List Jvm.Cond) (a : Array Jvm.Value) (st : Jvm.State) : (allAtoms ts).before a st = ts.all (fun c => c.before a st) := by
  induction ts with
  | nil => rfl
  | cons c t ih =>
    show (Jvm.Cond.and c (allAtoms t)).before a st = _
    rw [Jvm.Cond.before_and, ih, List.all_cons]
def words1 : List Jvm.Cond := Jvm.Cond.code x code maxLocals ret :: tables_1
/-- a 'code' word, met by the world's own term for the bytes: nothing is compared byte by byte -/
theorem code_word {y : MethodName} {bytes : ByteArray} {mx : Nat} {rt : Option FieldType} {a : Array Value} {s : State} {m : MethodId} {meth : Method} {c : Code} (h1 : s.methodNamed? y = some m) (h2 : s.vm.method? m = some meth) (h3 : meth.code = some c) (h4 : c.code = bytes)
    (h5 : (c.maxLocals == mx && c.exceptionTable.isEmpty && decide (c.maxStack ≤ mostOperands) && decide (meth.sig.returnType = rt) && !meth.locks && decide (parseMethodDescriptor y.desc = some meth.sig)) = true) : (Jvm.Cond.code y bytes mx rt).before a s = true := by
  simp only [Bool.and_eq_true, beq_iff_eq, Bool.not_eq_true', decide_eq_true_eq] at h5
  obtain ⟨⟨⟨⟨⟨g1, g2⟩, g3⟩, g4⟩, g5⟩, g6⟩ := h5
  simp [Cond.before, Cond.holds, Cond.value, h1, h2, h3, h4, g1, g2, g3, g4, g5, g6]
def isCode : Jvm.Cond → Bool
  | .code _ _ _ _ => true
  | _ => false
theorem all_split {L : List Jvm.Cond} {P : Jvm.Cond → Bool} (h1 : L.all (fun c => isCode c || P c) = true) (h2 : ∀ c ∈ L.filter isCode, P c = true) : L.all P = true := by
  refine List.all_eq_true.mpr fun c hc => ?_
  have h := List.all_eq_true.mp h1 c hc
  rcases Bool.eq_false_or_eq_true (isCode c) with hi | hi
  · exact h2 c (List.mem_filter.mpr ⟨hc, hi⟩)
  · simpa [hi] using h
set_option maxRecDepth 65536 in
theorem w_c0 : (Jvm.Cond.code x code maxLocals ret).before args0 about1 = true := code_word (m := ⟨1, 3⟩) (meth := k1m3) (c := k1c3) (by decide +kernel) rfl rfl rfl (by decide +kernel)
set_option maxRecDepth 65536 in
theorem w_c1 : (Jvm.Cond.code ({ cls := "com/example/bagwise/bagwise/terms/TruthOrPinLaw", name := "pick", desc := "(I)Lcom/example/bagwise/bagwise/terms/Truth;" } : Jvm.MethodName) method_2_code (1 : Nat) (Option.some (Jvm.ClassFile.FieldType.object "com/example/bagwise/bagwise/terms/Truth"))).before args0 about1 = true := code_word (m := ⟨1, 1⟩) (meth := k1m1) (c := k1c1) (by decide +kernel) rfl rfl rfl (by decide +kernel)
set_option maxRecDepth 65536 in
theorem w_c2 : (Jvm.Cond.code ({ cls := "com/example/bagwise/bagwise/terms/Truth", name := "or", desc := "(Lcom/example/bagwise/bagwise/terms/Truth;)Lcom/example/bagwise/bagwise/terms/Truth;" } : Jvm.MethodName) prog_175_method_8_code (2 : Nat) (Option.some (Jvm.ClassFile.FieldType.object "com/example/bagwise/bagwise/terms/Truth"))).before args0 about1 = true := code_word (m := ⟨6, 0⟩) (meth := k6m0) (c := k6c0) (by decide +kernel) rfl rfl rfl (by decide +kernel)
set_option maxRecDepth 65536 in
theorem w_c3 : (Jvm.Cond.code ({ cls := "com/example/bagwise/bagwise/terms/TruthOrPinLaw", name := "rank", desc := "(Lcom/example/bagwise/bagwise/terms/Truth;)I" } : Jvm.MethodName) method_3_code (1 : Nat) (Option.some Jvm.ClassFile.FieldType.int)).before args0 about1 = true := code_word (m := ⟨1, 2⟩) (meth := k1m2) (c := k1c2) (by decide +kernel) rfl rfl rfl (by decide +kernel)
set_option maxRecDepth 65536 in
theorem w_c4 : (Jvm.Cond.code ({ cls := "java/lang/Math", name := "max", desc := "(II)I" } : Jvm.MethodName) jdk_29_method_65_code (2 : Nat) (Option.some Jvm.ClassFile.FieldType.int)).before args0 about1 = true := code_word (m := ⟨7, 1⟩) (meth := k7m1) (c := k7c1) (by decide +kernel) rfl rfl rfl (by decide +kernel)
def codes1 : List Jvm.Cond := [Jvm.Cond.code x code maxLocals ret, Jvm.Cond.code ({ cls := "com/example/bagwise/bagwise/terms/TruthOrPinLaw", name := "pick", desc := "(I)Lcom/example/bagwise/bagwise/terms/Truth;" } : Jvm.MethodName) method_2_code (1 : Nat) (Option.some (Jvm.ClassFile.FieldType.object "com/example/bagwise/bagwise/terms/Truth")), Jvm.Cond.code ({ cls := "com/example/bagwise/bagwise/terms/Truth", name := "or", desc := "(Lcom/example/bagwise/bagwise/terms/Truth;)Lcom/example/bagwise/bagwise/terms/Truth;" } : Jvm.MethodName) prog_175_method_8_code (2 : Nat) (Option.some (Jvm.ClassFile.FieldType.object "com/example/bagwise/bagwise/terms/Truth")), Jvm.Cond.code ({ cls := "com/example/bagwise/bagwise/terms/TruthOrPinLaw", name := "rank", desc := "(Lcom/example/bagwise/bagwise/terms/Truth;)I" } : Jvm.MethodName) method_3_code (1 : Nat) (Option.some Jvm.ClassFile.FieldType.int), Jvm.Cond.code ({ cls := "java/lang/Math", name := "max", desc := "(II)I" } : Jvm.MethodName) jdk_29_method_65_code (2 : Nat) (Option.some Jvm.ClassFile.FieldType.int)]
set_option maxRecDepth 65536 in
theorem codes_eq : words1.filter isCode = codes1 := rfl
theorem w_codes : ∀ c ∈ words1.filter isCode, c.before args0 about1 = true := by
  rw [codes_eq]
  intro c hc
  simp only [codes1, List.mem_cons, List.not_mem_nil, or_false] at hc
  rcases hc with rfl | rfl | rfl | rfl | rfl
  · exact w_c0
  · exact w_c1
  · exact w_c2
  · exact w_c3
  · exact w_c4
set_option maxRecDepth 65536 in
theorem w_t1 : (words1.take 24).all (fun c => isCode c || c.before args0 about1) = true := by decide +kernel
set_option maxRecDepth 65536 in
theorem w_t2 : (words1.drop 24).all (fun c => isCode c || c.before args0 about1) = true := by decide +kernel
theorem w_tables : (allAtoms (Jvm.Cond.code x code maxLocals ret :: tables_1)).before args0 about1 = true := by
  rw [allAtoms_all]
  show words1.all (fun c => c.before args0 about1) = true
  refine all_split ?_ w_codes
  rw [← List.take_append_drop 24 words1, List.all_append, w_t1, w_t2]
  rfl
set_option maxRecDepth 65536 in
theorem w_case : (Jvm.Cond.and given_1 narrow_1).before args0 about1 = true := by decide +kernel
theorem w_applies : (headSpec (Jvm.Cond.code x code maxLocals ret :: tables_1) room_1).applies x e0.platform about1 = true :=
  (Spec.applies_iff w_frames).mpr ⟨w_running, w_runnable, w_alone, w_named, w_hears, w_ripe, w_room, w_tables⟩
theorem atStart : AtStart classFile x code maxLocals ret World_1 tables_1 room_1 Calls_1 rest_1 Pre_1 launch0 p0 e0 about1 theMethod args0 below0 :=
  ⟨lists_1, trivial, launch0.admits_env _ _ _, launch0.least_env, fairChoices_fair.cas, fairChoices_fair.clock, w_frames, w_args, w_heap, w_applies, trivial, trivial, w_case⟩
end start1
theorem witness_1 : WitnessClaimed_1 := ⟨start1.p0, start1.e0, start1.about1, start1.theMethod, start1.args0, start1.below0, start1.atStart⟩
end Jvm.Pilot.@@N@@
