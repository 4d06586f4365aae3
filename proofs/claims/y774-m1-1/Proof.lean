import JvmDerived
import JvmDerived.Pilot.@@N@@Statement
import JvmDerived.Pilot.@@N@@Code
set_option linter.unusedVariables false
set_option linter.unusedSimpArgs false

namespace Jvm.Pilot.@@N@@
open Jvm Jvm.ClassFile Sem Op Lib Jvm.Free Jvm.Stand Jvm.LawKit Jvm.RoadKit Bundle Jvm.Pilot.@@N@@.Jvm.D
/-- from here the run comes to its end, and G holds there -/
def Go (p : Program) (e : Env) (below : List Frame) (G : Outcome → State → Prop) (T : State) (g : JFrame) : Prop := ∃ s₂ o, Steps p.tables e below (T.setTop g) s₂ ∧ s₂.status = .running ∧ Ended s₂ below o ∧ G o s₂
theorem Go.on {p : Program} {e : Env} {below : List Frame} {G : Outcome → State → Prop} {T T' : State} {g g' : JFrame} (h : ∀ t, Steps p.tables e below (T'.setTop g') t → Steps p.tables e below (T.setTop g) t) (k : Go p e below G T' g') : Go p e below G T g := by
  obtain ⟨s2, o, k1, k2⟩ := k
  exact ⟨s2, o, h _ k1, k2⟩
/-- a body that writes nothing: what it returns; the heap as it was -/
def Qp (r : Option Value) (h0 : Heap) (n0 : Nat) (v : Option Value) (h : Heap) (L : List Loc) : Prop := v = r ∧ Fr n0 L ∧ h = h0
def Ql (r : Option Value) (n0 : Nat) (v : Option Value) (L : List Loc) : Prop := v = r ∧ Fr n0 L
/-- a body that only makes new cells -/
def Qx (r : Option Value) (F : Heap → Prop) (h0 : Heap) (n0 : Nat) (v : Option Value) (h : Heap) (L : List Loc) : Prop := v = r ∧ Fr n0 L ∧ Ext h0 h ∧ F h
theorem own_ext0 (h : Heap) : Ext h h := ⟨Nat.le_refl _, fun _ _ q => q⟩
theorem own_ext2 {a b c : Heap} (E : Ext a b) (F : Ext b c) : Ext a c := ⟨Nat.le_trans E.1 F.1, fun x y q => F.2 x y (E.2 x y q)⟩
theorem own_extw {h0 h h' : Heap} {a : Addr} {sl : Nat} {v : Value} (E : Ext h0 h) (W : Wr h h' a sl v) (q : h0.size ≤ a) : Ext h0 h' := by
  refine ⟨by rw [W.size]; exact E.1, fun x c hx => ?_⟩
  obtain ⟨c', g1, -, -, -, g5, -⟩ := wr_at W (E.2 x c hx)
  have hne : x ≠ a := Nat.ne_of_lt (Nat.lt_of_lt_of_le (Array.getElem?_eq_some_iff.mp hx).1 q)
  rw [g1, g5 hne]
theorem own_extE {h a b : Heap} (e : a = b) (X : Ext h b) : Ext h a := e ▸ X
theorem own_arrE {Z : State} {a b : Heap} {x : Addr} {c : Cell} {ty : FieldType} (e : a = b) (A : Arr Z b x c ty) : Arr Z a x c ty := e ▸ A
theorem own_ne {Z : State} {h : Heap} {a b : Addr} {C n d : String} {v v' : Value} (F : Fld Z h a C n d v) (G : Fld Z h b C n d v') (hv : v ≠ v') : ¬ (a = b) := by
  rintro rfl
  obtain ⟨cell, cf, k, i, f, h1, h2, -, -, -, -, h7⟩ := F
  obtain ⟨cell', cf', k', i', f', g1, g2, -, -, -, -, g7⟩ := G
  cases h1.symm.trans g1
  cases h2.symm.trans g2
  exact hv (Option.some.inj (h7.symm.trans g7))
theorem own_irrI (x : Int32) : ¬ (x < x) := by simp
theorem own_irrJ (x : Int64) : ¬ (x < x) := by simp
theorem own_eqI {args : Array Value} {s : State} {t : Term} {n : Int32} (h : (Jvm.Cond.eq t (.int n)).value args s none s [] = some true) : t.eval args s none [] s = some (.int n) := by
  exact eqv_i (Term.int_eval n) h
theorem own_len {args : Array Value} {s : State} {t : Term} {n : Int32} {a : Addr} {cl : Cell} {ty : FieldType} {k : Nat} (h : (Term.length t).eval args s none [] s = some (.int n)) (ht : t.eval args s none [] s = some (.ref a)) (A : Arr s s.heap a cl ty) (hk : n.toInt = k) : cl.slots.size = k := by
  have ha := A.fin (U := s) (Vm.Alike.refl _)
  by_cases hl : cl.slots.size < 2 ^ 31
  · have e := (len_f ht ha hl).symm.trans h
    have e2 : cl.slots.size.toInt32 = n := by simpa using e
    have e3 := len_toInt hl
    rw [e2, hk] at e3
    omega
  · simp [Term.eval, ht, ha, hl] at h
theorem own_slots {cl : Cell} {vs : List Value} (h1 : cl.slots.size = vs.length) (h2 : ∀ (i : Nat) (v : Value), vs[i]? = some v → cl.slots[i]? = some v) : cl.slots = vs.toArray := by
  apply Array.ext
  · simp [h1]
  · intro i hi hj
    have hj' : i < vs.length := by simpa using hj
    have q := h2 i vs[i] (by simp [hj'])
    rw [Array.getElem?_eq_getElem hi] at q
    simpa using q
theorem own_eqR {args : Array Value} {s : State} {t u : Term} {a : Addr} (h : (Jvm.Cond.eq t u).value args s none s [] = some true) (hu : u.eval args s none [] s = some (.ref a)) : t.eval args s none [] s = some (.ref a) := by
  obtain ⟨x, y, h1, h2, k1, k2⟩ := cmp_v (Or.inl h)
  cases h2.symm.trans hu
  have q := gotT (eq_R h1 h2 k2.2 rfl) h
  rw [h1, q]
def Pins (Z : State) (h : Heap) (w : Nat → Addr) : Prop :=
  Sta Z h "com/example/rederive/rederive/ColumnType" "CONST" "Lcom/example/rederive/rederive/ColumnType;" (.ref (w 0)) ∧
  Sta Z h "com/example/rederive/rederive/ColumnType" "NUMBER" "Lcom/example/rederive/rederive/ColumnType;" (.ref (w 2)) ∧
  Sta Z h "com/example/rederive/rederive/ColumnType" "SYMBOL" "Lcom/example/rederive/rederive/ColumnType;" (.ref (w 3)) ∧
  Exa Z h (w 0) "com/example/rederive/rederive/ColumnType" ∧
  Exa Z h (w 1) "com/example/rederive/rederive/ConstantLattice" ∧
  Exa Z h (w 2) "com/example/rederive/rederive/ColumnType" ∧
  Exa Z h (w 3) "com/example/rederive/rederive/ColumnType" ∧
  Fld Z h (w 0) "com/example/rederive/rederive/ColumnType" "lattice" "Lcom/example/rederive/rederive/Lattice;" (.ref (w 1)) ∧
  Fld Z h (w 2) "com/example/rederive/rederive/ColumnType" "lattice" "Lcom/example/rederive/rederive/Lattice;" .null ∧
  Fld Z h (w 3) "com/example/rederive/rederive/ColumnType" "lattice" "Lcom/example/rederive/rederive/Lattice;" .null ∧
  Fld Z h (w 2) "java/lang/Enum" "ordinal" "I" (.int (1 : Int32)) ∧
  Fld Z h (w 0) "java/lang/Enum" "ordinal" "I" (.int (2 : Int32)) ∧
  Fld Z h (w 3) "java/lang/Enum" "ordinal" "I" (.int (0 : Int32)) ∧
  True
theorem pin_0 {Z : State} {h : Heap} {w : Nat → Addr} (P : Pins Z h w) : Sta Z h "com/example/rederive/rederive/ColumnType" "CONST" "Lcom/example/rederive/rederive/ColumnType;" (.ref (w 0)) := P.1
theorem pin_1 {Z : State} {h : Heap} {w : Nat → Addr} (P : Pins Z h w) : Sta Z h "com/example/rederive/rederive/ColumnType" "NUMBER" "Lcom/example/rederive/rederive/ColumnType;" (.ref (w 2)) := P.2.1
theorem pin_2 {Z : State} {h : Heap} {w : Nat → Addr} (P : Pins Z h w) : Sta Z h "com/example/rederive/rederive/ColumnType" "SYMBOL" "Lcom/example/rederive/rederive/ColumnType;" (.ref (w 3)) := P.2.2.1
theorem pin_3 {Z : State} {h : Heap} {w : Nat → Addr} (P : Pins Z h w) : Exa Z h (w 0) "com/example/rederive/rederive/ColumnType" := P.2.2.2.1
theorem pin_4 {Z : State} {h : Heap} {w : Nat → Addr} (P : Pins Z h w) : Exa Z h (w 1) "com/example/rederive/rederive/ConstantLattice" := P.2.2.2.2.1
theorem pin_5 {Z : State} {h : Heap} {w : Nat → Addr} (P : Pins Z h w) : Exa Z h (w 2) "com/example/rederive/rederive/ColumnType" := P.2.2.2.2.2.1
theorem pin_6 {Z : State} {h : Heap} {w : Nat → Addr} (P : Pins Z h w) : Exa Z h (w 3) "com/example/rederive/rederive/ColumnType" := P.2.2.2.2.2.2.1
theorem pin_7 {Z : State} {h : Heap} {w : Nat → Addr} (P : Pins Z h w) : Fld Z h (w 0) "com/example/rederive/rederive/ColumnType" "lattice" "Lcom/example/rederive/rederive/Lattice;" (.ref (w 1)) := P.2.2.2.2.2.2.2.1
theorem pin_8 {Z : State} {h : Heap} {w : Nat → Addr} (P : Pins Z h w) : Fld Z h (w 2) "com/example/rederive/rederive/ColumnType" "lattice" "Lcom/example/rederive/rederive/Lattice;" .null := P.2.2.2.2.2.2.2.2.1
theorem pin_9 {Z : State} {h : Heap} {w : Nat → Addr} (P : Pins Z h w) : Fld Z h (w 3) "com/example/rederive/rederive/ColumnType" "lattice" "Lcom/example/rederive/rederive/Lattice;" .null := P.2.2.2.2.2.2.2.2.2.1
theorem pin_10 {Z : State} {h : Heap} {w : Nat → Addr} (P : Pins Z h w) : Fld Z h (w 2) "java/lang/Enum" "ordinal" "I" (.int (1 : Int32)) := P.2.2.2.2.2.2.2.2.2.2.1
theorem pin_11 {Z : State} {h : Heap} {w : Nat → Addr} (P : Pins Z h w) : Fld Z h (w 0) "java/lang/Enum" "ordinal" "I" (.int (2 : Int32)) := P.2.2.2.2.2.2.2.2.2.2.2.1
theorem pin_12 {Z : State} {h : Heap} {w : Nat → Addr} (P : Pins Z h w) : Fld Z h (w 3) "java/lang/Enum" "ordinal" "I" (.int (0 : Int32)) := P.2.2.2.2.2.2.2.2.2.2.2.2.1
theorem pins_ext {Z : State} {h h' : Heap} {w : Nat → Addr} (E : Ext h h') (P : Pins Z h w) : Pins Z h' w :=
  ⟨(pin_0 P).ext E, (pin_1 P).ext E, (pin_2 P).ext E, (pin_3 P).ext E, (pin_4 P).ext E, (pin_5 P).ext E, (pin_6 P).ext E, (pin_7 P).ext E, (pin_8 P).ext E, (pin_9 P).ext E, (pin_10 P).ext E, (pin_11 P).ext E, (pin_12 P).ext E, trivial⟩
theorem d1_0 : decode method_2_code 0 = .ok (.iload_n 0, 1) := by decide +kernel
theorem d1_1 : decode method_2_code 1 = .ok (.iconst 3, 1) := by decide +kernel
theorem d1_2 : decode method_2_code 2 = .ok (.iand, 1) := by decide +kernel
theorem d1_3 : decode method_2_code 3 = .ok (.istore_n 1, 1) := by decide +kernel
theorem d1_4 : decode method_2_code 4 = .ok (.iload_n 1, 1) := by decide +kernel
theorem d1_5 : decode method_2_code 5 = .ok (.ifCond .ne 5, 3) := by decide +kernel
theorem d1_8 : decode method_2_code 8 = .ok (.aconst_null, 1) := by decide +kernel
theorem d1_9 : decode method_2_code 9 = .ok (.areturn, 1) := by decide +kernel
theorem pn_0 : plainName "com/example/rederive/rederive/ColumnTypeOfArithmeticPinLaw" = true := by first | (simp [plainName, overriddenIn]; done) | decide +kernel
set_option maxRecDepth 65536 in
set_option maxHeartbeats 40000000 in
theorem rm1_0 (l : Launch) (Z : State) (a0 : Array Value) (hw : ∀ d ∈ tables_1, d.before a0 Z = true) (ws : List Jvm.Cond) (w : Nat → Addr) (h0 : Heap) (n0 : Nat) (Z0 : n0 ≤ h0.size) (hP : Pins Z h0 w) (pa0 : Int32) (hp0 : (pa0 &&& (3 : Int32)) = (0 : Int32)) :
    MetFree l (⟨"com/example/rederive/rederive/ColumnTypeOfArithmeticPinLaw", "pick", "(I)Lcom/example/rederive/rederive/ColumnType;"⟩ : MethodName) (head1 (Jvm.Cond.code (⟨"com/example/rederive/rederive/ColumnTypeOfArithmeticPinLaw", "pick", "(I)Lcom/example/rederive/rederive/ColumnType;"⟩ : MethodName) method_2_code 2 (some (.object "com/example/rederive/rederive/ColumnType")) :: ws) ({ frames := 0, cells := 0, slots := 0, locals := 0 } : Room)) (fun a U => a = #[(.int pa0)] ∧ Z.Warmed39 U.vm ∧ U.heap = h0) (fun _ _ _ _ _ => True) (fun _ U o U' => ∃ v L, o = .returned v ∧ Qp (some .null) h0 n0 v U'.heap L ∧ FrameEnd U o U' L ({ frames := 0, cells := 0, slots := 0, locals := 0 } : Room).cells ({ frames := 0, cells := 0, slots := 0, locals := 0 } : Room).slots) := by
  refine MetFree.of_bodySF (plainFor_of_name pn_0) hisR ?_
  intro p e s m args below meth c s₁ Bd hml0 hP0 hK
  obtain ⟨rfl, hZ, hh⟩ := hP0
  have hx := Bd.exec
  have hby := Bd.bytes
  have hml : c.maxLocals = 2 := hml0
  have hown : s.vm.findClass "com/example/rederive/rederive/ColumnTypeOfArithmeticPinLaw" = some m.cls := findClass_of_methodNamed Bd.named
  have hnm := (name_of_methodNamed Bd.named Bd.method).1
  have X0 : Stand p l e ({ frames := 0, cells := 0, slots := 0, locals := 0 } : Room) s m #[(.int pa0)] below meth c s₁ [] 0 0 := Stand.of_body Bd
  have e0 : s₁.heap = h0 := by rw [← hh, Bd.state]; rfl
  have N0 := Fr.nil n0
  suffices hgo : Go p e below (fun o U' => ∃ v L, o = .returned v ∧ Qp (some .null) h0 n0 v U'.heap L ∧ FrameEnd s o U' L ({ frames := 0, cells := 0, slots := 0, locals := 0 } : Room).cells ({ frames := 0, cells := 0, slots := 0, locals := 0 } : Room).slots) s₁ (mkF m 0 #[.val (.int pa0), .unset] []) by
    obtain ⟨s2, o, g1, g2, g3, g4⟩ := hgo
    refine ⟨s2, o, castTop (?_ : entryFrame m #[(.int pa0)] 2 = _) g1, g2, g3, g4⟩
    first | (simp [entryFrame, mkF, argsToLocals, Value.category]; done) | rfl
  refine Go.on (T' := s₁) (g' := (mkF m 1 #[.val (.int pa0), .unset] [(.int pa0)])) (fun t k => XS.iloadN X0.here hx rfl (hb hby d1_0) rfl k) ?_
  refine Go.on (T' := s₁) (g' := (mkF m 2 #[.val (.int pa0), .unset] [(.int (3 : Int32)), (.int pa0)])) (fun t k => XS.iconst X0.here hx rfl (hb hby d1_1) k) ?_
  refine Go.on (T' := s₁) (g' := (mkF m 3 #[.val (.int pa0), .unset] [(.int (pa0 &&& (3 : Int32)))])) (fun t k => XS.iand X0.here hx rfl (hb hby d1_2) rfl k) ?_
  refine Go.on (T' := s₁) (g' := (mkF m 4 #[.val (.int pa0), .val (.int (pa0 &&& (3 : Int32)))] [])) (fun t k => XS.istoreN X0.here hx rfl (hb hby d1_3) rfl (l' := #[.val (.int pa0), .val (.int (pa0 &&& (3 : Int32)))]) rfl k) ?_
  refine Go.on (T' := s₁) (g' := (mkF m 5 #[.val (.int pa0), .val (.int (pa0 &&& (3 : Int32)))] [(.int (pa0 &&& (3 : Int32)))])) (fun t k => XS.iloadN X0.here hx rfl (hb hby d1_4) rfl k) ?_
  refine Go.on (T' := s₁) (g' := (mkF m 8 #[.val (.int pa0), .val (.int (pa0 &&& (3 : Int32)))] [])) (fun t k => XS.ifNo X0.here hx rfl (hb hby d1_5) rfl ((if0 _ _).trans (teq hp0).2) k) ?_
  refine Go.on (T' := s₁) (g' := (mkF m 9 #[.val (.int pa0), .val (.int (pa0 &&& (3 : Int32)))] [.null])) (fun t k => XS.aconstNull X0.here hx rfl (hb hby d1_8) k) ?_
  obtain ⟨fs, hr, hrun, hended, hW, hsame⟩ := X0.leave (v := some .null) (fun h => by rw [Bd.returns] at h; cases h)
  exact ⟨_, _, retOut X0 hx Bd.returns rfl (Or.inr (Or.inr (Or.inr (Or.inr ⟨rfl, rfl, rfl⟩)))) (hb hby d1_9) hr, hrun, hended, _, _, rfl, ⟨rfl, N0, e0⟩, ⟨_, rfl⟩, hW, hsame.mono (by decide) (by decide)⟩
theorem pd_0 : parseMethodDescriptor "(I)Lcom/example/rederive/rederive/ColumnType;" = some ⟨[.int], some (.object "com/example/rederive/rederive/ColumnType")⟩ := by decide +kernel
theorem d2_0 : decode prog_1_method_7_code 0 = .ok (.aload_n 0, 1) := by decide +kernel
theorem d2_1 : decode prog_1_method_7_code 1 = .ok (.ifnull 15, 3) := by decide +kernel
theorem d2_16 : decode prog_1_method_7_code 16 = .ok (.aload_n 1, 1) := by decide +kernel
theorem d2_17 : decode prog_1_method_7_code 17 = .ok (.ifnull 15, 3) := by decide +kernel
theorem d2_32 : decode prog_1_method_7_code 32 = .ok (.getstatic 7, 3) := by decide +kernel
theorem d2_35 : decode prog_1_method_7_code 35 = .ok (.astore_n 2, 1) := by decide +kernel
theorem d2_36 : decode prog_1_method_7_code 36 = .ok (.aload_n 2, 1) := by decide +kernel
theorem d2_37 : decode prog_1_method_7_code 37 = .ok (.areturn, 1) := by decide +kernel
theorem pn_1 : plainName "com/example/rederive/rederive/ColumnType" = true := by first | (simp [plainName, overriddenIn]; done) | decide +kernel
set_option maxRecDepth 65536 in
set_option maxHeartbeats 40000000 in
theorem rm2_0 (l : Launch) (Z : State) (a0 : Array Value) (hw : ∀ d ∈ tables_1, d.before a0 Z = true) (ws : List Jvm.Cond) (w : Nat → Addr) (h0 : Heap) (n0 : Nat) (Z0 : n0 ≤ h0.size) (hP : Pins Z h0 w) :
    MetFree l (⟨"com/example/rederive/rederive/ColumnType", "ofArithmetic", "(Lcom/example/rederive/rederive/ColumnType;Lcom/example/rederive/rederive/ColumnType;)Lcom/example/rederive/rederive/ColumnType;"⟩ : MethodName) (head1 (Jvm.Cond.code (⟨"com/example/rederive/rederive/ColumnType", "ofArithmetic", "(Lcom/example/rederive/rederive/ColumnType;Lcom/example/rederive/rederive/ColumnType;)Lcom/example/rederive/rederive/ColumnType;"⟩ : MethodName) prog_1_method_7_code 3 (some (.object "com/example/rederive/rederive/ColumnType")) :: ws) ({ frames := 0, cells := 0, slots := 0, locals := 0 } : Room)) (fun a U => a = #[.null, .null] ∧ Z.Warmed39 U.vm ∧ U.heap = h0) (fun _ _ _ _ _ => True) (fun _ U o U' => ∃ v L, o = .returned v ∧ Qp (some (.ref (w 2))) h0 n0 v U'.heap L ∧ FrameEnd U o U' L ({ frames := 0, cells := 0, slots := 0, locals := 0 } : Room).cells ({ frames := 0, cells := 0, slots := 0, locals := 0 } : Room).slots) := by
  refine MetFree.of_bodySF (plainFor_of_name pn_1) hisR ?_
  intro p e s m args below meth c s₁ Bd hml0 hP0 hK
  obtain ⟨rfl, hZ, hh⟩ := hP0
  have hx := Bd.exec
  have hby := Bd.bytes
  have hml : c.maxLocals = 3 := hml0
  have hown : s.vm.findClass "com/example/rederive/rederive/ColumnType" = some m.cls := findClass_of_methodNamed Bd.named
  have hnm := (name_of_methodNamed Bd.named Bd.method).1
  have X0 : Stand p l e ({ frames := 0, cells := 0, slots := 0, locals := 0 } : Room) s m #[.null, .null] below meth c s₁ [] 0 0 := Stand.of_body Bd
  have e0 : s₁.heap = h0 := by rw [← hh, Bd.state]; rfl
  have N0 := Fr.nil n0
  suffices hgo : Go p e below (fun o U' => ∃ v L, o = .returned v ∧ Qp (some (.ref (w 2))) h0 n0 v U'.heap L ∧ FrameEnd s o U' L ({ frames := 0, cells := 0, slots := 0, locals := 0 } : Room).cells ({ frames := 0, cells := 0, slots := 0, locals := 0 } : Room).slots) s₁ (mkF m 0 #[.val .null, .val .null, .unset] []) by
    obtain ⟨s2, o, g1, g2, g3, g4⟩ := hgo
    refine ⟨s2, o, castTop (?_ : entryFrame m #[.null, .null] 3 = _) g1, g2, g3, g4⟩
    first | (simp [entryFrame, mkF, argsToLocals, Value.category]; done) | rfl
  refine Go.on (T' := s₁) (g' := (mkF m 1 #[.val .null, .val .null, .unset] [.null])) (fun t k => XS.aloadN X0.here hx rfl (hb hby d2_0) rfl rfl k) ?_
  refine Go.on (T' := s₁) (g' := (mkF m 16 #[.val .null, .val .null, .unset] [])) (fun t k => XS.ifnullYes X0.here hx rfl (pc0 := 1) (pc' := 16) rfl (hb hby d2_1) rfl (by decide) (by decide) k) ?_
  refine Go.on (T' := s₁) (g' := (mkF m 17 #[.val .null, .val .null, .unset] [.null])) (fun t k => XS.aloadN X0.here hx rfl (hb hby d2_16) rfl rfl k) ?_
  refine Go.on (T' := s₁) (g' := (mkF m 32 #[.val .null, .val .null, .unset] [])) (fun t k => XS.ifnullYes X0.here hx rfl (pc0 := 17) (pc' := 32) rfl (hb hby d2_17) rfl (by decide) (by decide) k) ?_
  obtain ⟨T12, X12, e12, st12⟩ := getS2 X0 hx hZ hown (host := "") (Or.inl (hw _ (List.mem_of_getElem? (i := 16) rfl))) Via.refl e0 (pin_1 hP) (g := (mkF m 32 #[.val .null, .val .null, .unset] [])) rfl (hb hby d2_32)
  refine Go.on (T' := T12) (g' := (mkF m 35 #[.val .null, .val .null, .unset] [(.ref (w 2))])) st12 ?_
  refine Go.on (T' := T12) (g' := (mkF m 36 #[.val .null, .val .null, .val (.ref (w 2))] [])) (fun t k => XS.astoreN X12.here hx rfl (hb hby d2_35) rfl rfl (l' := #[.val .null, .val .null, .val (.ref (w 2))]) rfl k) ?_
  refine Go.on (T' := T12) (g' := (mkF m 37 #[.val .null, .val .null, .val (.ref (w 2))] [(.ref (w 2))])) (fun t k => XS.aloadN X12.here hx rfl (hb hby d2_36) rfl rfl k) ?_
  obtain ⟨fs, hr, hrun, hended, hW, hsame⟩ := X12.leave (v := some (.ref (w 2))) (fun h => by rw [Bd.returns] at h; cases h)
  exact ⟨_, _, retOut X12 hx Bd.returns rfl (Or.inr (Or.inr (Or.inr (Or.inr ⟨rfl, rfl, rfl⟩)))) (hb hby d2_37) hr, hrun, hended, _, _, rfl, ⟨rfl, N0, e12⟩, ⟨_, rfl⟩, hW, hsame.mono (by decide) (by decide)⟩
theorem pd_1 : parseMethodDescriptor "(Lcom/example/rederive/rederive/ColumnType;Lcom/example/rederive/rederive/ColumnType;)Lcom/example/rederive/rederive/ColumnType;" = some ⟨[(.object "com/example/rederive/rederive/ColumnType"), (.object "com/example/rederive/rederive/ColumnType")], some (.object "com/example/rederive/rederive/ColumnType")⟩ := by decide +kernel
theorem d1_10 : decode method_2_code 10 = .ok (.iload_n 1, 1) := by decide +kernel
theorem d1_11 : decode method_2_code 11 = .ok (.iconst 1, 1) := by decide +kernel
theorem d1_12 : decode method_2_code 12 = .ok (.if_icmp .ne 7, 3) := by decide +kernel
theorem d1_15 : decode method_2_code 15 = .ok (.getstatic 7, 3) := by decide +kernel
theorem d1_18 : decode method_2_code 18 = .ok (.areturn, 1) := by decide +kernel
set_option maxRecDepth 65536 in
set_option maxHeartbeats 40000000 in
theorem rm1_1 (l : Launch) (Z : State) (a0 : Array Value) (hw : ∀ d ∈ tables_1, d.before a0 Z = true) (ws : List Jvm.Cond) (w : Nat → Addr) (h0 : Heap) (n0 : Nat) (Z0 : n0 ≤ h0.size) (hP : Pins Z h0 w) (pa0 : Int32) (hp0 : ¬ ((pa0 &&& (3 : Int32)) = (0 : Int32))) (hp1 : (pa0 &&& (3 : Int32)) = (1 : Int32)) :
    MetFree l (⟨"com/example/rederive/rederive/ColumnTypeOfArithmeticPinLaw", "pick", "(I)Lcom/example/rederive/rederive/ColumnType;"⟩ : MethodName) (head1 (Jvm.Cond.code (⟨"com/example/rederive/rederive/ColumnTypeOfArithmeticPinLaw", "pick", "(I)Lcom/example/rederive/rederive/ColumnType;"⟩ : MethodName) method_2_code 2 (some (.object "com/example/rederive/rederive/ColumnType")) :: ws) ({ frames := 0, cells := 0, slots := 0, locals := 0 } : Room)) (fun a U => a = #[(.int pa0)] ∧ Z.Warmed39 U.vm ∧ U.heap = h0) (fun _ _ _ _ _ => True) (fun _ U o U' => ∃ v L, o = .returned v ∧ Qp (some (.ref (w 3))) h0 n0 v U'.heap L ∧ FrameEnd U o U' L ({ frames := 0, cells := 0, slots := 0, locals := 0 } : Room).cells ({ frames := 0, cells := 0, slots := 0, locals := 0 } : Room).slots) := by
  refine MetFree.of_bodySF (plainFor_of_name pn_0) hisR ?_
  intro p e s m args below meth c s₁ Bd hml0 hP0 hK
  obtain ⟨rfl, hZ, hh⟩ := hP0
  have hx := Bd.exec
  have hby := Bd.bytes
  have hml : c.maxLocals = 2 := hml0
  have hown : s.vm.findClass "com/example/rederive/rederive/ColumnTypeOfArithmeticPinLaw" = some m.cls := findClass_of_methodNamed Bd.named
  have hnm := (name_of_methodNamed Bd.named Bd.method).1
  have X0 : Stand p l e ({ frames := 0, cells := 0, slots := 0, locals := 0 } : Room) s m #[(.int pa0)] below meth c s₁ [] 0 0 := Stand.of_body Bd
  have e0 : s₁.heap = h0 := by rw [← hh, Bd.state]; rfl
  have N0 := Fr.nil n0
  suffices hgo : Go p e below (fun o U' => ∃ v L, o = .returned v ∧ Qp (some (.ref (w 3))) h0 n0 v U'.heap L ∧ FrameEnd s o U' L ({ frames := 0, cells := 0, slots := 0, locals := 0 } : Room).cells ({ frames := 0, cells := 0, slots := 0, locals := 0 } : Room).slots) s₁ (mkF m 0 #[.val (.int pa0), .unset] []) by
    obtain ⟨s2, o, g1, g2, g3, g4⟩ := hgo
    refine ⟨s2, o, castTop (?_ : entryFrame m #[(.int pa0)] 2 = _) g1, g2, g3, g4⟩
    first | (simp [entryFrame, mkF, argsToLocals, Value.category]; done) | rfl
  refine Go.on (T' := s₁) (g' := (mkF m 1 #[.val (.int pa0), .unset] [(.int pa0)])) (fun t k => XS.iloadN X0.here hx rfl (hb hby d1_0) rfl k) ?_
  refine Go.on (T' := s₁) (g' := (mkF m 2 #[.val (.int pa0), .unset] [(.int (3 : Int32)), (.int pa0)])) (fun t k => XS.iconst X0.here hx rfl (hb hby d1_1) k) ?_
  refine Go.on (T' := s₁) (g' := (mkF m 3 #[.val (.int pa0), .unset] [(.int (pa0 &&& (3 : Int32)))])) (fun t k => XS.iand X0.here hx rfl (hb hby d1_2) rfl k) ?_
  refine Go.on (T' := s₁) (g' := (mkF m 4 #[.val (.int pa0), .val (.int (pa0 &&& (3 : Int32)))] [])) (fun t k => XS.istoreN X0.here hx rfl (hb hby d1_3) rfl (l' := #[.val (.int pa0), .val (.int (pa0 &&& (3 : Int32)))]) rfl k) ?_
  refine Go.on (T' := s₁) (g' := (mkF m 5 #[.val (.int pa0), .val (.int (pa0 &&& (3 : Int32)))] [(.int (pa0 &&& (3 : Int32)))])) (fun t k => XS.iloadN X0.here hx rfl (hb hby d1_4) rfl k) ?_
  refine Go.on (T' := s₁) (g' := (mkF m 10 #[.val (.int pa0), .val (.int (pa0 &&& (3 : Int32)))] [])) (fun t k => XS.ifYes X0.here hx rfl (pc0 := 5) (pc' := 10) rfl (hb hby d1_5) rfl ((if0 _ _).trans (feq hp0).2) (by decide) (by decide) k) ?_
  refine Go.on (T' := s₁) (g' := (mkF m 11 #[.val (.int pa0), .val (.int (pa0 &&& (3 : Int32)))] [(.int (pa0 &&& (3 : Int32)))])) (fun t k => XS.iloadN X0.here hx rfl (hb hby d1_10) rfl k) ?_
  refine Go.on (T' := s₁) (g' := (mkF m 12 #[.val (.int pa0), .val (.int (pa0 &&& (3 : Int32)))] [(.int (1 : Int32)), (.int (pa0 &&& (3 : Int32)))])) (fun t k => XS.iconst X0.here hx rfl (hb hby d1_11) k) ?_
  refine Go.on (T' := s₁) (g' := (mkF m 15 #[.val (.int pa0), .val (.int (pa0 &&& (3 : Int32)))] [])) (fun t k => XS.icmpNo X0.here hx rfl (hb hby d1_12) rfl (teq hp1).2 k) ?_
  obtain ⟨T18, X18, e18, st18⟩ := getS2 X0 hx hZ hown (host := "") (Or.inl (hw _ (List.mem_of_getElem? (i := 14) rfl))) Via.refl e0 (pin_2 hP) (g := (mkF m 15 #[.val (.int pa0), .val (.int (pa0 &&& (3 : Int32)))] [])) rfl (hb hby d1_15)
  refine Go.on (T' := T18) (g' := (mkF m 18 #[.val (.int pa0), .val (.int (pa0 &&& (3 : Int32)))] [(.ref (w 3))])) st18 ?_
  obtain ⟨fs, hr, hrun, hended, hW, hsame⟩ := X18.leave (v := some (.ref (w 3))) (fun h => by rw [Bd.returns] at h; cases h)
  exact ⟨_, _, retOut X18 hx Bd.returns rfl (Or.inr (Or.inr (Or.inr (Or.inr ⟨rfl, rfl, rfl⟩)))) (hb hby d1_18) hr, hrun, hended, _, _, rfl, ⟨rfl, N0, e18⟩, ⟨_, rfl⟩, hW, hsame.mono (by decide) (by decide)⟩
theorem d2_20 : decode prog_1_method_7_code 20 = .ok (.aload_n 1, 1) := by decide +kernel
theorem d2_21 : decode prog_1_method_7_code 21 = .ok (.getfield 36, 3) := by decide +kernel
theorem d2_24 : decode prog_1_method_7_code 24 = .ok (.ifnull 8, 3) := by decide +kernel
set_option maxRecDepth 65536 in
set_option maxHeartbeats 40000000 in
theorem rm2_1 (l : Launch) (Z : State) (a0 : Array Value) (hw : ∀ d ∈ tables_1, d.before a0 Z = true) (ws : List Jvm.Cond) (w : Nat → Addr) (h0 : Heap) (n0 : Nat) (Z0 : n0 ≤ h0.size) (hP : Pins Z h0 w) :
    MetFree l (⟨"com/example/rederive/rederive/ColumnType", "ofArithmetic", "(Lcom/example/rederive/rederive/ColumnType;Lcom/example/rederive/rederive/ColumnType;)Lcom/example/rederive/rederive/ColumnType;"⟩ : MethodName) (head1 (Jvm.Cond.code (⟨"com/example/rederive/rederive/ColumnType", "ofArithmetic", "(Lcom/example/rederive/rederive/ColumnType;Lcom/example/rederive/rederive/ColumnType;)Lcom/example/rederive/rederive/ColumnType;"⟩ : MethodName) prog_1_method_7_code 3 (some (.object "com/example/rederive/rederive/ColumnType")) :: ws) ({ frames := 0, cells := 0, slots := 0, locals := 0 } : Room)) (fun a U => a = #[.null, (.ref (w 3))] ∧ Z.Warmed39 U.vm ∧ U.heap = h0) (fun _ _ _ _ _ => True) (fun _ U o U' => ∃ v L, o = .returned v ∧ Qp (some (.ref (w 2))) h0 n0 v U'.heap L ∧ FrameEnd U o U' L ({ frames := 0, cells := 0, slots := 0, locals := 0 } : Room).cells ({ frames := 0, cells := 0, slots := 0, locals := 0 } : Room).slots) := by
  refine MetFree.of_bodySF (plainFor_of_name pn_1) hisR ?_
  intro p e s m args below meth c s₁ Bd hml0 hP0 hK
  obtain ⟨rfl, hZ, hh⟩ := hP0
  have hx := Bd.exec
  have hby := Bd.bytes
  have hml : c.maxLocals = 3 := hml0
  have hown : s.vm.findClass "com/example/rederive/rederive/ColumnType" = some m.cls := findClass_of_methodNamed Bd.named
  have hnm := (name_of_methodNamed Bd.named Bd.method).1
  have X0 : Stand p l e ({ frames := 0, cells := 0, slots := 0, locals := 0 } : Room) s m #[.null, (.ref (w 3))] below meth c s₁ [] 0 0 := Stand.of_body Bd
  have e0 : s₁.heap = h0 := by rw [← hh, Bd.state]; rfl
  have N0 := Fr.nil n0
  suffices hgo : Go p e below (fun o U' => ∃ v L, o = .returned v ∧ Qp (some (.ref (w 2))) h0 n0 v U'.heap L ∧ FrameEnd s o U' L ({ frames := 0, cells := 0, slots := 0, locals := 0 } : Room).cells ({ frames := 0, cells := 0, slots := 0, locals := 0 } : Room).slots) s₁ (mkF m 0 #[.val .null, .val (.ref (w 3)), .unset] []) by
    obtain ⟨s2, o, g1, g2, g3, g4⟩ := hgo
    refine ⟨s2, o, castTop (?_ : entryFrame m #[.null, (.ref (w 3))] 3 = _) g1, g2, g3, g4⟩
    first | (simp [entryFrame, mkF, argsToLocals, Value.category]; done) | rfl
  refine Go.on (T' := s₁) (g' := (mkF m 1 #[.val .null, .val (.ref (w 3)), .unset] [.null])) (fun t k => XS.aloadN X0.here hx rfl (hb hby d2_0) rfl rfl k) ?_
  refine Go.on (T' := s₁) (g' := (mkF m 16 #[.val .null, .val (.ref (w 3)), .unset] [])) (fun t k => XS.ifnullYes X0.here hx rfl (pc0 := 1) (pc' := 16) rfl (hb hby d2_1) rfl (by decide) (by decide) k) ?_
  refine Go.on (T' := s₁) (g' := (mkF m 17 #[.val .null, .val (.ref (w 3)), .unset] [(.ref (w 3))])) (fun t k => XS.aloadN X0.here hx rfl (hb hby d2_16) rfl rfl k) ?_
  refine Go.on (T' := s₁) (g' := (mkF m 20 #[.val .null, .val (.ref (w 3)), .unset] [])) (fun t k => XS.ifnullNo X0.here hx rfl (hb hby d2_17) rfl k) ?_
  refine Go.on (T' := s₁) (g' := (mkF m 21 #[.val .null, .val (.ref (w 3)), .unset] [(.ref (w 3))])) (fun t k => XS.aloadN X0.here hx rfl (hb hby d2_20) rfl rfl k) ?_
  obtain ⟨T22, X22, e22, st22⟩ := getF X0 hx hZ hown (host := "") (Or.inl (hw _ (List.mem_of_getElem? (i := 10) rfl))) Via.refl e0 (pin_9 hP) (g := (mkF m 21 #[.val .null, .val (.ref (w 3)), .unset] [(.ref (w 3))])) rfl rfl (hb hby d2_21)
  refine Go.on (T' := T22) (g' := (mkF m 24 #[.val .null, .val (.ref (w 3)), .unset] [.null])) st22 ?_
  refine Go.on (T' := T22) (g' := (mkF m 32 #[.val .null, .val (.ref (w 3)), .unset] [])) (fun t k => XS.ifnullYes X22.here hx rfl (pc0 := 24) (pc' := 32) rfl (hb hby d2_24) rfl (by decide) (by decide) k) ?_
  obtain ⟨T23, X23, e23, st23⟩ := getS2 X22 hx hZ hown (host := "") (Or.inl (hw _ (List.mem_of_getElem? (i := 16) rfl))) Via.refl e22 (pin_1 hP) (g := (mkF m 32 #[.val .null, .val (.ref (w 3)), .unset] [])) rfl (hb hby d2_32)
  refine Go.on (T' := T23) (g' := (mkF m 35 #[.val .null, .val (.ref (w 3)), .unset] [(.ref (w 2))])) st23 ?_
  refine Go.on (T' := T23) (g' := (mkF m 36 #[.val .null, .val (.ref (w 3)), .val (.ref (w 2))] [])) (fun t k => XS.astoreN X23.here hx rfl (hb hby d2_35) rfl rfl (l' := #[.val .null, .val (.ref (w 3)), .val (.ref (w 2))]) rfl k) ?_
  refine Go.on (T' := T23) (g' := (mkF m 37 #[.val .null, .val (.ref (w 3)), .val (.ref (w 2))] [(.ref (w 2))])) (fun t k => XS.aloadN X23.here hx rfl (hb hby d2_36) rfl rfl k) ?_
  obtain ⟨fs, hr, hrun, hended, hW, hsame⟩ := X23.leave (v := some (.ref (w 2))) (fun h => by rw [Bd.returns] at h; cases h)
  exact ⟨_, _, retOut X23 hx Bd.returns rfl (Or.inr (Or.inr (Or.inr (Or.inr ⟨rfl, rfl, rfl⟩)))) (hb hby d2_37) hr, hrun, hended, _, _, rfl, ⟨rfl, N0, e23⟩, ⟨_, rfl⟩, hW, hsame.mono (by decide) (by decide)⟩
theorem d1_19 : decode method_2_code 19 = .ok (.iload_n 1, 1) := by decide +kernel
theorem d1_20 : decode method_2_code 20 = .ok (.iconst 2, 1) := by decide +kernel
theorem d1_21 : decode method_2_code 21 = .ok (.if_icmp .ne 7, 3) := by decide +kernel
theorem d1_24 : decode method_2_code 24 = .ok (.getstatic 13, 3) := by decide +kernel
theorem d1_27 : decode method_2_code 27 = .ok (.areturn, 1) := by decide +kernel
set_option maxRecDepth 65536 in
set_option maxHeartbeats 40000000 in
theorem rm1_2 (l : Launch) (Z : State) (a0 : Array Value) (hw : ∀ d ∈ tables_1, d.before a0 Z = true) (ws : List Jvm.Cond) (w : Nat → Addr) (h0 : Heap) (n0 : Nat) (Z0 : n0 ≤ h0.size) (hP : Pins Z h0 w) (pa0 : Int32) (hp0 : ¬ ((pa0 &&& (3 : Int32)) = (0 : Int32))) (hp1 : ¬ ((pa0 &&& (3 : Int32)) = (1 : Int32))) (hp2 : (pa0 &&& (3 : Int32)) = (2 : Int32)) :
    MetFree l (⟨"com/example/rederive/rederive/ColumnTypeOfArithmeticPinLaw", "pick", "(I)Lcom/example/rederive/rederive/ColumnType;"⟩ : MethodName) (head1 (Jvm.Cond.code (⟨"com/example/rederive/rederive/ColumnTypeOfArithmeticPinLaw", "pick", "(I)Lcom/example/rederive/rederive/ColumnType;"⟩ : MethodName) method_2_code 2 (some (.object "com/example/rederive/rederive/ColumnType")) :: ws) ({ frames := 0, cells := 0, slots := 0, locals := 0 } : Room)) (fun a U => a = #[(.int pa0)] ∧ Z.Warmed39 U.vm ∧ U.heap = h0) (fun _ _ _ _ _ => True) (fun _ U o U' => ∃ v L, o = .returned v ∧ Qp (some (.ref (w 2))) h0 n0 v U'.heap L ∧ FrameEnd U o U' L ({ frames := 0, cells := 0, slots := 0, locals := 0 } : Room).cells ({ frames := 0, cells := 0, slots := 0, locals := 0 } : Room).slots) := by
  refine MetFree.of_bodySF (plainFor_of_name pn_0) hisR ?_
  intro p e s m args below meth c s₁ Bd hml0 hP0 hK
  obtain ⟨rfl, hZ, hh⟩ := hP0
  have hx := Bd.exec
  have hby := Bd.bytes
  have hml : c.maxLocals = 2 := hml0
  have hown : s.vm.findClass "com/example/rederive/rederive/ColumnTypeOfArithmeticPinLaw" = some m.cls := findClass_of_methodNamed Bd.named
  have hnm := (name_of_methodNamed Bd.named Bd.method).1
  have X0 : Stand p l e ({ frames := 0, cells := 0, slots := 0, locals := 0 } : Room) s m #[(.int pa0)] below meth c s₁ [] 0 0 := Stand.of_body Bd
  have e0 : s₁.heap = h0 := by rw [← hh, Bd.state]; rfl
  have N0 := Fr.nil n0
  suffices hgo : Go p e below (fun o U' => ∃ v L, o = .returned v ∧ Qp (some (.ref (w 2))) h0 n0 v U'.heap L ∧ FrameEnd s o U' L ({ frames := 0, cells := 0, slots := 0, locals := 0 } : Room).cells ({ frames := 0, cells := 0, slots := 0, locals := 0 } : Room).slots) s₁ (mkF m 0 #[.val (.int pa0), .unset] []) by
    obtain ⟨s2, o, g1, g2, g3, g4⟩ := hgo
    refine ⟨s2, o, castTop (?_ : entryFrame m #[(.int pa0)] 2 = _) g1, g2, g3, g4⟩
    first | (simp [entryFrame, mkF, argsToLocals, Value.category]; done) | rfl
  refine Go.on (T' := s₁) (g' := (mkF m 1 #[.val (.int pa0), .unset] [(.int pa0)])) (fun t k => XS.iloadN X0.here hx rfl (hb hby d1_0) rfl k) ?_
  refine Go.on (T' := s₁) (g' := (mkF m 2 #[.val (.int pa0), .unset] [(.int (3 : Int32)), (.int pa0)])) (fun t k => XS.iconst X0.here hx rfl (hb hby d1_1) k) ?_
  refine Go.on (T' := s₁) (g' := (mkF m 3 #[.val (.int pa0), .unset] [(.int (pa0 &&& (3 : Int32)))])) (fun t k => XS.iand X0.here hx rfl (hb hby d1_2) rfl k) ?_
  refine Go.on (T' := s₁) (g' := (mkF m 4 #[.val (.int pa0), .val (.int (pa0 &&& (3 : Int32)))] [])) (fun t k => XS.istoreN X0.here hx rfl (hb hby d1_3) rfl (l' := #[.val (.int pa0), .val (.int (pa0 &&& (3 : Int32)))]) rfl k) ?_
  refine Go.on (T' := s₁) (g' := (mkF m 5 #[.val (.int pa0), .val (.int (pa0 &&& (3 : Int32)))] [(.int (pa0 &&& (3 : Int32)))])) (fun t k => XS.iloadN X0.here hx rfl (hb hby d1_4) rfl k) ?_
  refine Go.on (T' := s₁) (g' := (mkF m 10 #[.val (.int pa0), .val (.int (pa0 &&& (3 : Int32)))] [])) (fun t k => XS.ifYes X0.here hx rfl (pc0 := 5) (pc' := 10) rfl (hb hby d1_5) rfl ((if0 _ _).trans (feq hp0).2) (by decide) (by decide) k) ?_
  refine Go.on (T' := s₁) (g' := (mkF m 11 #[.val (.int pa0), .val (.int (pa0 &&& (3 : Int32)))] [(.int (pa0 &&& (3 : Int32)))])) (fun t k => XS.iloadN X0.here hx rfl (hb hby d1_10) rfl k) ?_
  refine Go.on (T' := s₁) (g' := (mkF m 12 #[.val (.int pa0), .val (.int (pa0 &&& (3 : Int32)))] [(.int (1 : Int32)), (.int (pa0 &&& (3 : Int32)))])) (fun t k => XS.iconst X0.here hx rfl (hb hby d1_11) k) ?_
  refine Go.on (T' := s₁) (g' := (mkF m 19 #[.val (.int pa0), .val (.int (pa0 &&& (3 : Int32)))] [])) (fun t k => XS.icmpYes X0.here hx rfl (pc0 := 12) (pc' := 19) rfl (hb hby d1_12) rfl (feq hp1).2 (by decide) (by decide) k) ?_
  refine Go.on (T' := s₁) (g' := (mkF m 20 #[.val (.int pa0), .val (.int (pa0 &&& (3 : Int32)))] [(.int (pa0 &&& (3 : Int32)))])) (fun t k => XS.iloadN X0.here hx rfl (hb hby d1_19) rfl k) ?_
  refine Go.on (T' := s₁) (g' := (mkF m 21 #[.val (.int pa0), .val (.int (pa0 &&& (3 : Int32)))] [(.int (2 : Int32)), (.int (pa0 &&& (3 : Int32)))])) (fun t k => XS.iconst X0.here hx rfl (hb hby d1_20) k) ?_
  refine Go.on (T' := s₁) (g' := (mkF m 24 #[.val (.int pa0), .val (.int (pa0 &&& (3 : Int32)))] [])) (fun t k => XS.icmpNo X0.here hx rfl (hb hby d1_21) rfl (teq hp2).2 k) ?_
  obtain ⟨T29, X29, e29, st29⟩ := getS2 X0 hx hZ hown (host := "") (Or.inl (hw _ (List.mem_of_getElem? (i := 12) rfl))) Via.refl e0 (pin_1 hP) (g := (mkF m 24 #[.val (.int pa0), .val (.int (pa0 &&& (3 : Int32)))] [])) rfl (hb hby d1_24)
  refine Go.on (T' := T29) (g' := (mkF m 27 #[.val (.int pa0), .val (.int (pa0 &&& (3 : Int32)))] [(.ref (w 2))])) st29 ?_
  obtain ⟨fs, hr, hrun, hended, hW, hsame⟩ := X29.leave (v := some (.ref (w 2))) (fun h => by rw [Bd.returns] at h; cases h)
  exact ⟨_, _, retOut X29 hx Bd.returns rfl (Or.inr (Or.inr (Or.inr (Or.inr ⟨rfl, rfl, rfl⟩)))) (hb hby d1_27) hr, hrun, hended, _, _, rfl, ⟨rfl, N0, e29⟩, ⟨_, rfl⟩, hW, hsame.mono (by decide) (by decide)⟩
set_option maxRecDepth 65536 in
set_option maxHeartbeats 40000000 in
theorem rm2_2 (l : Launch) (Z : State) (a0 : Array Value) (hw : ∀ d ∈ tables_1, d.before a0 Z = true) (ws : List Jvm.Cond) (w : Nat → Addr) (h0 : Heap) (n0 : Nat) (Z0 : n0 ≤ h0.size) (hP : Pins Z h0 w) :
    MetFree l (⟨"com/example/rederive/rederive/ColumnType", "ofArithmetic", "(Lcom/example/rederive/rederive/ColumnType;Lcom/example/rederive/rederive/ColumnType;)Lcom/example/rederive/rederive/ColumnType;"⟩ : MethodName) (head1 (Jvm.Cond.code (⟨"com/example/rederive/rederive/ColumnType", "ofArithmetic", "(Lcom/example/rederive/rederive/ColumnType;Lcom/example/rederive/rederive/ColumnType;)Lcom/example/rederive/rederive/ColumnType;"⟩ : MethodName) prog_1_method_7_code 3 (some (.object "com/example/rederive/rederive/ColumnType")) :: ws) ({ frames := 0, cells := 0, slots := 0, locals := 0 } : Room)) (fun a U => a = #[.null, (.ref (w 2))] ∧ Z.Warmed39 U.vm ∧ U.heap = h0) (fun _ _ _ _ _ => True) (fun _ U o U' => ∃ v L, o = .returned v ∧ Qp (some (.ref (w 2))) h0 n0 v U'.heap L ∧ FrameEnd U o U' L ({ frames := 0, cells := 0, slots := 0, locals := 0 } : Room).cells ({ frames := 0, cells := 0, slots := 0, locals := 0 } : Room).slots) := by
  refine MetFree.of_bodySF (plainFor_of_name pn_1) hisR ?_
  intro p e s m args below meth c s₁ Bd hml0 hP0 hK
  obtain ⟨rfl, hZ, hh⟩ := hP0
  have hx := Bd.exec
  have hby := Bd.bytes
  have hml : c.maxLocals = 3 := hml0
  have hown : s.vm.findClass "com/example/rederive/rederive/ColumnType" = some m.cls := findClass_of_methodNamed Bd.named
  have hnm := (name_of_methodNamed Bd.named Bd.method).1
  have X0 : Stand p l e ({ frames := 0, cells := 0, slots := 0, locals := 0 } : Room) s m #[.null, (.ref (w 2))] below meth c s₁ [] 0 0 := Stand.of_body Bd
  have e0 : s₁.heap = h0 := by rw [← hh, Bd.state]; rfl
  have N0 := Fr.nil n0
  suffices hgo : Go p e below (fun o U' => ∃ v L, o = .returned v ∧ Qp (some (.ref (w 2))) h0 n0 v U'.heap L ∧ FrameEnd s o U' L ({ frames := 0, cells := 0, slots := 0, locals := 0 } : Room).cells ({ frames := 0, cells := 0, slots := 0, locals := 0 } : Room).slots) s₁ (mkF m 0 #[.val .null, .val (.ref (w 2)), .unset] []) by
    obtain ⟨s2, o, g1, g2, g3, g4⟩ := hgo
    refine ⟨s2, o, castTop (?_ : entryFrame m #[.null, (.ref (w 2))] 3 = _) g1, g2, g3, g4⟩
    first | (simp [entryFrame, mkF, argsToLocals, Value.category]; done) | rfl
  refine Go.on (T' := s₁) (g' := (mkF m 1 #[.val .null, .val (.ref (w 2)), .unset] [.null])) (fun t k => XS.aloadN X0.here hx rfl (hb hby d2_0) rfl rfl k) ?_
  refine Go.on (T' := s₁) (g' := (mkF m 16 #[.val .null, .val (.ref (w 2)), .unset] [])) (fun t k => XS.ifnullYes X0.here hx rfl (pc0 := 1) (pc' := 16) rfl (hb hby d2_1) rfl (by decide) (by decide) k) ?_
  refine Go.on (T' := s₁) (g' := (mkF m 17 #[.val .null, .val (.ref (w 2)), .unset] [(.ref (w 2))])) (fun t k => XS.aloadN X0.here hx rfl (hb hby d2_16) rfl rfl k) ?_
  refine Go.on (T' := s₁) (g' := (mkF m 20 #[.val .null, .val (.ref (w 2)), .unset] [])) (fun t k => XS.ifnullNo X0.here hx rfl (hb hby d2_17) rfl k) ?_
  refine Go.on (T' := s₁) (g' := (mkF m 21 #[.val .null, .val (.ref (w 2)), .unset] [(.ref (w 2))])) (fun t k => XS.aloadN X0.here hx rfl (hb hby d2_20) rfl rfl k) ?_
  obtain ⟨T33, X33, e33, st33⟩ := getF X0 hx hZ hown (host := "") (Or.inl (hw _ (List.mem_of_getElem? (i := 10) rfl))) Via.refl e0 (pin_8 hP) (g := (mkF m 21 #[.val .null, .val (.ref (w 2)), .unset] [(.ref (w 2))])) rfl rfl (hb hby d2_21)
  refine Go.on (T' := T33) (g' := (mkF m 24 #[.val .null, .val (.ref (w 2)), .unset] [.null])) st33 ?_
  refine Go.on (T' := T33) (g' := (mkF m 32 #[.val .null, .val (.ref (w 2)), .unset] [])) (fun t k => XS.ifnullYes X33.here hx rfl (pc0 := 24) (pc' := 32) rfl (hb hby d2_24) rfl (by decide) (by decide) k) ?_
  obtain ⟨T34, X34, e34, st34⟩ := getS2 X33 hx hZ hown (host := "") (Or.inl (hw _ (List.mem_of_getElem? (i := 16) rfl))) Via.refl e33 (pin_1 hP) (g := (mkF m 32 #[.val .null, .val (.ref (w 2)), .unset] [])) rfl (hb hby d2_32)
  refine Go.on (T' := T34) (g' := (mkF m 35 #[.val .null, .val (.ref (w 2)), .unset] [(.ref (w 2))])) st34 ?_
  refine Go.on (T' := T34) (g' := (mkF m 36 #[.val .null, .val (.ref (w 2)), .val (.ref (w 2))] [])) (fun t k => XS.astoreN X34.here hx rfl (hb hby d2_35) rfl rfl (l' := #[.val .null, .val (.ref (w 2)), .val (.ref (w 2))]) rfl k) ?_
  refine Go.on (T' := T34) (g' := (mkF m 37 #[.val .null, .val (.ref (w 2)), .val (.ref (w 2))] [(.ref (w 2))])) (fun t k => XS.aloadN X34.here hx rfl (hb hby d2_36) rfl rfl k) ?_
  obtain ⟨fs, hr, hrun, hended, hW, hsame⟩ := X34.leave (v := some (.ref (w 2))) (fun h => by rw [Bd.returns] at h; cases h)
  exact ⟨_, _, retOut X34 hx Bd.returns rfl (Or.inr (Or.inr (Or.inr (Or.inr ⟨rfl, rfl, rfl⟩)))) (hb hby d2_37) hr, hrun, hended, _, _, rfl, ⟨rfl, N0, e34⟩, ⟨_, rfl⟩, hW, hsame.mono (by decide) (by decide)⟩
theorem d1_28 : decode method_2_code 28 = .ok (.getstatic 16, 3) := by decide +kernel
theorem d1_31 : decode method_2_code 31 = .ok (.areturn, 1) := by decide +kernel
set_option maxRecDepth 65536 in
set_option maxHeartbeats 40000000 in
theorem rm1_3 (l : Launch) (Z : State) (a0 : Array Value) (hw : ∀ d ∈ tables_1, d.before a0 Z = true) (ws : List Jvm.Cond) (w : Nat → Addr) (h0 : Heap) (n0 : Nat) (Z0 : n0 ≤ h0.size) (hP : Pins Z h0 w) (pa0 : Int32) (hp0 : ¬ ((pa0 &&& (3 : Int32)) = (0 : Int32))) (hp1 : ¬ ((pa0 &&& (3 : Int32)) = (1 : Int32))) (hp2 : ¬ ((pa0 &&& (3 : Int32)) = (2 : Int32))) :
    MetFree l (⟨"com/example/rederive/rederive/ColumnTypeOfArithmeticPinLaw", "pick", "(I)Lcom/example/rederive/rederive/ColumnType;"⟩ : MethodName) (head1 (Jvm.Cond.code (⟨"com/example/rederive/rederive/ColumnTypeOfArithmeticPinLaw", "pick", "(I)Lcom/example/rederive/rederive/ColumnType;"⟩ : MethodName) method_2_code 2 (some (.object "com/example/rederive/rederive/ColumnType")) :: ws) ({ frames := 0, cells := 0, slots := 0, locals := 0 } : Room)) (fun a U => a = #[(.int pa0)] ∧ Z.Warmed39 U.vm ∧ U.heap = h0) (fun _ _ _ _ _ => True) (fun _ U o U' => ∃ v L, o = .returned v ∧ Qp (some (.ref (w 0))) h0 n0 v U'.heap L ∧ FrameEnd U o U' L ({ frames := 0, cells := 0, slots := 0, locals := 0 } : Room).cells ({ frames := 0, cells := 0, slots := 0, locals := 0 } : Room).slots) := by
  refine MetFree.of_bodySF (plainFor_of_name pn_0) hisR ?_
  intro p e s m args below meth c s₁ Bd hml0 hP0 hK
  obtain ⟨rfl, hZ, hh⟩ := hP0
  have hx := Bd.exec
  have hby := Bd.bytes
  have hml : c.maxLocals = 2 := hml0
  have hown : s.vm.findClass "com/example/rederive/rederive/ColumnTypeOfArithmeticPinLaw" = some m.cls := findClass_of_methodNamed Bd.named
  have hnm := (name_of_methodNamed Bd.named Bd.method).1
  have X0 : Stand p l e ({ frames := 0, cells := 0, slots := 0, locals := 0 } : Room) s m #[(.int pa0)] below meth c s₁ [] 0 0 := Stand.of_body Bd
  have e0 : s₁.heap = h0 := by rw [← hh, Bd.state]; rfl
  have N0 := Fr.nil n0
  suffices hgo : Go p e below (fun o U' => ∃ v L, o = .returned v ∧ Qp (some (.ref (w 0))) h0 n0 v U'.heap L ∧ FrameEnd s o U' L ({ frames := 0, cells := 0, slots := 0, locals := 0 } : Room).cells ({ frames := 0, cells := 0, slots := 0, locals := 0 } : Room).slots) s₁ (mkF m 0 #[.val (.int pa0), .unset] []) by
    obtain ⟨s2, o, g1, g2, g3, g4⟩ := hgo
    refine ⟨s2, o, castTop (?_ : entryFrame m #[(.int pa0)] 2 = _) g1, g2, g3, g4⟩
    first | (simp [entryFrame, mkF, argsToLocals, Value.category]; done) | rfl
  refine Go.on (T' := s₁) (g' := (mkF m 1 #[.val (.int pa0), .unset] [(.int pa0)])) (fun t k => XS.iloadN X0.here hx rfl (hb hby d1_0) rfl k) ?_
  refine Go.on (T' := s₁) (g' := (mkF m 2 #[.val (.int pa0), .unset] [(.int (3 : Int32)), (.int pa0)])) (fun t k => XS.iconst X0.here hx rfl (hb hby d1_1) k) ?_
  refine Go.on (T' := s₁) (g' := (mkF m 3 #[.val (.int pa0), .unset] [(.int (pa0 &&& (3 : Int32)))])) (fun t k => XS.iand X0.here hx rfl (hb hby d1_2) rfl k) ?_
  refine Go.on (T' := s₁) (g' := (mkF m 4 #[.val (.int pa0), .val (.int (pa0 &&& (3 : Int32)))] [])) (fun t k => XS.istoreN X0.here hx rfl (hb hby d1_3) rfl (l' := #[.val (.int pa0), .val (.int (pa0 &&& (3 : Int32)))]) rfl k) ?_
  refine Go.on (T' := s₁) (g' := (mkF m 5 #[.val (.int pa0), .val (.int (pa0 &&& (3 : Int32)))] [(.int (pa0 &&& (3 : Int32)))])) (fun t k => XS.iloadN X0.here hx rfl (hb hby d1_4) rfl k) ?_
  refine Go.on (T' := s₁) (g' := (mkF m 10 #[.val (.int pa0), .val (.int (pa0 &&& (3 : Int32)))] [])) (fun t k => XS.ifYes X0.here hx rfl (pc0 := 5) (pc' := 10) rfl (hb hby d1_5) rfl ((if0 _ _).trans (feq hp0).2) (by decide) (by decide) k) ?_
  refine Go.on (T' := s₁) (g' := (mkF m 11 #[.val (.int pa0), .val (.int (pa0 &&& (3 : Int32)))] [(.int (pa0 &&& (3 : Int32)))])) (fun t k => XS.iloadN X0.here hx rfl (hb hby d1_10) rfl k) ?_
  refine Go.on (T' := s₁) (g' := (mkF m 12 #[.val (.int pa0), .val (.int (pa0 &&& (3 : Int32)))] [(.int (1 : Int32)), (.int (pa0 &&& (3 : Int32)))])) (fun t k => XS.iconst X0.here hx rfl (hb hby d1_11) k) ?_
  refine Go.on (T' := s₁) (g' := (mkF m 19 #[.val (.int pa0), .val (.int (pa0 &&& (3 : Int32)))] [])) (fun t k => XS.icmpYes X0.here hx rfl (pc0 := 12) (pc' := 19) rfl (hb hby d1_12) rfl (feq hp1).2 (by decide) (by decide) k) ?_
  refine Go.on (T' := s₁) (g' := (mkF m 20 #[.val (.int pa0), .val (.int (pa0 &&& (3 : Int32)))] [(.int (pa0 &&& (3 : Int32)))])) (fun t k => XS.iloadN X0.here hx rfl (hb hby d1_19) rfl k) ?_
  refine Go.on (T' := s₁) (g' := (mkF m 21 #[.val (.int pa0), .val (.int (pa0 &&& (3 : Int32)))] [(.int (2 : Int32)), (.int (pa0 &&& (3 : Int32)))])) (fun t k => XS.iconst X0.here hx rfl (hb hby d1_20) k) ?_
  refine Go.on (T' := s₁) (g' := (mkF m 28 #[.val (.int pa0), .val (.int (pa0 &&& (3 : Int32)))] [])) (fun t k => XS.icmpYes X0.here hx rfl (pc0 := 21) (pc' := 28) rfl (hb hby d1_21) rfl (feq hp2).2 (by decide) (by decide) k) ?_
  obtain ⟨T39, X39, e39, st39⟩ := getS2 X0 hx hZ hown (host := "") (Or.inl (hw _ (List.mem_of_getElem? (i := 4) rfl))) Via.refl e0 (pin_0 hP) (g := (mkF m 28 #[.val (.int pa0), .val (.int (pa0 &&& (3 : Int32)))] [])) rfl (hb hby d1_28)
  refine Go.on (T' := T39) (g' := (mkF m 31 #[.val (.int pa0), .val (.int (pa0 &&& (3 : Int32)))] [(.ref (w 0))])) st39 ?_
  obtain ⟨fs, hr, hrun, hended, hW, hsame⟩ := X39.leave (v := some (.ref (w 0))) (fun h => by rw [Bd.returns] at h; cases h)
  exact ⟨_, _, retOut X39 hx Bd.returns rfl (Or.inr (Or.inr (Or.inr (Or.inr ⟨rfl, rfl, rfl⟩)))) (hb hby d1_31) hr, hrun, hended, _, _, rfl, ⟨rfl, N0, e39⟩, ⟨_, rfl⟩, hW, hsame.mono (by decide) (by decide)⟩
theorem d2_27 : decode prog_1_method_7_code 27 = .ok (.aload_n 1, 1) := by decide +kernel
theorem d2_28 : decode prog_1_method_7_code 28 = .ok (.astore_n 2, 1) := by decide +kernel
theorem d2_29 : decode prog_1_method_7_code 29 = .ok (.goto 7, 3) := by decide +kernel
set_option maxRecDepth 65536 in
set_option maxHeartbeats 40000000 in
theorem rm2_3 (l : Launch) (Z : State) (a0 : Array Value) (hw : ∀ d ∈ tables_1, d.before a0 Z = true) (ws : List Jvm.Cond) (w : Nat → Addr) (h0 : Heap) (n0 : Nat) (Z0 : n0 ≤ h0.size) (hP : Pins Z h0 w) :
    MetFree l (⟨"com/example/rederive/rederive/ColumnType", "ofArithmetic", "(Lcom/example/rederive/rederive/ColumnType;Lcom/example/rederive/rederive/ColumnType;)Lcom/example/rederive/rederive/ColumnType;"⟩ : MethodName) (head1 (Jvm.Cond.code (⟨"com/example/rederive/rederive/ColumnType", "ofArithmetic", "(Lcom/example/rederive/rederive/ColumnType;Lcom/example/rederive/rederive/ColumnType;)Lcom/example/rederive/rederive/ColumnType;"⟩ : MethodName) prog_1_method_7_code 3 (some (.object "com/example/rederive/rederive/ColumnType")) :: ws) ({ frames := 0, cells := 0, slots := 0, locals := 0 } : Room)) (fun a U => a = #[.null, (.ref (w 0))] ∧ Z.Warmed39 U.vm ∧ U.heap = h0) (fun _ _ _ _ _ => True) (fun _ U o U' => ∃ v L, o = .returned v ∧ Qp (some (.ref (w 0))) h0 n0 v U'.heap L ∧ FrameEnd U o U' L ({ frames := 0, cells := 0, slots := 0, locals := 0 } : Room).cells ({ frames := 0, cells := 0, slots := 0, locals := 0 } : Room).slots) := by
  refine MetFree.of_bodySF (plainFor_of_name pn_1) hisR ?_
  intro p e s m args below meth c s₁ Bd hml0 hP0 hK
  obtain ⟨rfl, hZ, hh⟩ := hP0
  have hx := Bd.exec
  have hby := Bd.bytes
  have hml : c.maxLocals = 3 := hml0
  have hown : s.vm.findClass "com/example/rederive/rederive/ColumnType" = some m.cls := findClass_of_methodNamed Bd.named
  have hnm := (name_of_methodNamed Bd.named Bd.method).1
  have X0 : Stand p l e ({ frames := 0, cells := 0, slots := 0, locals := 0 } : Room) s m #[.null, (.ref (w 0))] below meth c s₁ [] 0 0 := Stand.of_body Bd
  have e0 : s₁.heap = h0 := by rw [← hh, Bd.state]; rfl
  have N0 := Fr.nil n0
  suffices hgo : Go p e below (fun o U' => ∃ v L, o = .returned v ∧ Qp (some (.ref (w 0))) h0 n0 v U'.heap L ∧ FrameEnd s o U' L ({ frames := 0, cells := 0, slots := 0, locals := 0 } : Room).cells ({ frames := 0, cells := 0, slots := 0, locals := 0 } : Room).slots) s₁ (mkF m 0 #[.val .null, .val (.ref (w 0)), .unset] []) by
    obtain ⟨s2, o, g1, g2, g3, g4⟩ := hgo
    refine ⟨s2, o, castTop (?_ : entryFrame m #[.null, (.ref (w 0))] 3 = _) g1, g2, g3, g4⟩
    first | (simp [entryFrame, mkF, argsToLocals, Value.category]; done) | rfl
  refine Go.on (T' := s₁) (g' := (mkF m 1 #[.val .null, .val (.ref (w 0)), .unset] [.null])) (fun t k => XS.aloadN X0.here hx rfl (hb hby d2_0) rfl rfl k) ?_
  refine Go.on (T' := s₁) (g' := (mkF m 16 #[.val .null, .val (.ref (w 0)), .unset] [])) (fun t k => XS.ifnullYes X0.here hx rfl (pc0 := 1) (pc' := 16) rfl (hb hby d2_1) rfl (by decide) (by decide) k) ?_
  refine Go.on (T' := s₁) (g' := (mkF m 17 #[.val .null, .val (.ref (w 0)), .unset] [(.ref (w 0))])) (fun t k => XS.aloadN X0.here hx rfl (hb hby d2_16) rfl rfl k) ?_
  refine Go.on (T' := s₁) (g' := (mkF m 20 #[.val .null, .val (.ref (w 0)), .unset] [])) (fun t k => XS.ifnullNo X0.here hx rfl (hb hby d2_17) rfl k) ?_
  refine Go.on (T' := s₁) (g' := (mkF m 21 #[.val .null, .val (.ref (w 0)), .unset] [(.ref (w 0))])) (fun t k => XS.aloadN X0.here hx rfl (hb hby d2_20) rfl rfl k) ?_
  obtain ⟨T42, X42, e42, st42⟩ := getF X0 hx hZ hown (host := "") (Or.inl (hw _ (List.mem_of_getElem? (i := 10) rfl))) Via.refl e0 (pin_7 hP) (g := (mkF m 21 #[.val .null, .val (.ref (w 0)), .unset] [(.ref (w 0))])) rfl rfl (hb hby d2_21)
  refine Go.on (T' := T42) (g' := (mkF m 24 #[.val .null, .val (.ref (w 0)), .unset] [(.ref (w 1))])) st42 ?_
  refine Go.on (T' := T42) (g' := (mkF m 27 #[.val .null, .val (.ref (w 0)), .unset] [])) (fun t k => XS.ifnullNo X42.here hx rfl (hb hby d2_24) rfl k) ?_
  refine Go.on (T' := T42) (g' := (mkF m 28 #[.val .null, .val (.ref (w 0)), .unset] [(.ref (w 0))])) (fun t k => XS.aloadN X42.here hx rfl (hb hby d2_27) rfl rfl k) ?_
  refine Go.on (T' := T42) (g' := (mkF m 29 #[.val .null, .val (.ref (w 0)), .val (.ref (w 0))] [])) (fun t k => XS.astoreN X42.here hx rfl (hb hby d2_28) rfl rfl (l' := #[.val .null, .val (.ref (w 0)), .val (.ref (w 0))]) rfl k) ?_
  refine Go.on (T' := T42) (g' := (mkF m 36 #[.val .null, .val (.ref (w 0)), .val (.ref (w 0))] [])) (fun t k => XS.goto X42.here hx rfl (pc0 := 29) (pc' := 36) rfl (hb hby d2_29) (by decide) (by decide) k) ?_
  refine Go.on (T' := T42) (g' := (mkF m 37 #[.val .null, .val (.ref (w 0)), .val (.ref (w 0))] [(.ref (w 0))])) (fun t k => XS.aloadN X42.here hx rfl (hb hby d2_36) rfl rfl k) ?_
  obtain ⟨fs, hr, hrun, hended, hW, hsame⟩ := X42.leave (v := some (.ref (w 0))) (fun h => by rw [Bd.returns] at h; cases h)
  exact ⟨_, _, retOut X42 hx Bd.returns rfl (Or.inr (Or.inr (Or.inr (Or.inr ⟨rfl, rfl, rfl⟩)))) (hb hby d2_37) hr, hrun, hended, _, _, rfl, ⟨rfl, N0, e42⟩, ⟨_, rfl⟩, hW, hsame.mono (by decide) (by decide)⟩
theorem d2_4 : decode prog_1_method_7_code 4 = .ok (.aload_n 0, 1) := by decide +kernel
theorem d2_5 : decode prog_1_method_7_code 5 = .ok (.getfield 36, 3) := by decide +kernel
theorem d2_8 : decode prog_1_method_7_code 8 = .ok (.ifnull 8, 3) := by decide +kernel
set_option maxRecDepth 65536 in
set_option maxHeartbeats 40000000 in
theorem rm2_4 (l : Launch) (Z : State) (a0 : Array Value) (hw : ∀ d ∈ tables_1, d.before a0 Z = true) (ws : List Jvm.Cond) (w : Nat → Addr) (h0 : Heap) (n0 : Nat) (Z0 : n0 ≤ h0.size) (hP : Pins Z h0 w) :
    MetFree l (⟨"com/example/rederive/rederive/ColumnType", "ofArithmetic", "(Lcom/example/rederive/rederive/ColumnType;Lcom/example/rederive/rederive/ColumnType;)Lcom/example/rederive/rederive/ColumnType;"⟩ : MethodName) (head1 (Jvm.Cond.code (⟨"com/example/rederive/rederive/ColumnType", "ofArithmetic", "(Lcom/example/rederive/rederive/ColumnType;Lcom/example/rederive/rederive/ColumnType;)Lcom/example/rederive/rederive/ColumnType;"⟩ : MethodName) prog_1_method_7_code 3 (some (.object "com/example/rederive/rederive/ColumnType")) :: ws) ({ frames := 0, cells := 0, slots := 0, locals := 0 } : Room)) (fun a U => a = #[(.ref (w 3)), .null] ∧ Z.Warmed39 U.vm ∧ U.heap = h0) (fun _ _ _ _ _ => True) (fun _ U o U' => ∃ v L, o = .returned v ∧ Qp (some (.ref (w 2))) h0 n0 v U'.heap L ∧ FrameEnd U o U' L ({ frames := 0, cells := 0, slots := 0, locals := 0 } : Room).cells ({ frames := 0, cells := 0, slots := 0, locals := 0 } : Room).slots) := by
  refine MetFree.of_bodySF (plainFor_of_name pn_1) hisR ?_
  intro p e s m args below meth c s₁ Bd hml0 hP0 hK
  obtain ⟨rfl, hZ, hh⟩ := hP0
  have hx := Bd.exec
  have hby := Bd.bytes
  have hml : c.maxLocals = 3 := hml0
  have hown : s.vm.findClass "com/example/rederive/rederive/ColumnType" = some m.cls := findClass_of_methodNamed Bd.named
  have hnm := (name_of_methodNamed Bd.named Bd.method).1
  have X0 : Stand p l e ({ frames := 0, cells := 0, slots := 0, locals := 0 } : Room) s m #[(.ref (w 3)), .null] below meth c s₁ [] 0 0 := Stand.of_body Bd
  have e0 : s₁.heap = h0 := by rw [← hh, Bd.state]; rfl
  have N0 := Fr.nil n0
  suffices hgo : Go p e below (fun o U' => ∃ v L, o = .returned v ∧ Qp (some (.ref (w 2))) h0 n0 v U'.heap L ∧ FrameEnd s o U' L ({ frames := 0, cells := 0, slots := 0, locals := 0 } : Room).cells ({ frames := 0, cells := 0, slots := 0, locals := 0 } : Room).slots) s₁ (mkF m 0 #[.val (.ref (w 3)), .val .null, .unset] []) by
    obtain ⟨s2, o, g1, g2, g3, g4⟩ := hgo
    refine ⟨s2, o, castTop (?_ : entryFrame m #[(.ref (w 3)), .null] 3 = _) g1, g2, g3, g4⟩
    first | (simp [entryFrame, mkF, argsToLocals, Value.category]; done) | rfl
  refine Go.on (T' := s₁) (g' := (mkF m 1 #[.val (.ref (w 3)), .val .null, .unset] [(.ref (w 3))])) (fun t k => XS.aloadN X0.here hx rfl (hb hby d2_0) rfl rfl k) ?_
  refine Go.on (T' := s₁) (g' := (mkF m 4 #[.val (.ref (w 3)), .val .null, .unset] [])) (fun t k => XS.ifnullNo X0.here hx rfl (hb hby d2_1) rfl k) ?_
  refine Go.on (T' := s₁) (g' := (mkF m 5 #[.val (.ref (w 3)), .val .null, .unset] [(.ref (w 3))])) (fun t k => XS.aloadN X0.here hx rfl (hb hby d2_4) rfl rfl k) ?_
  obtain ⟨T53, X53, e53, st53⟩ := getF X0 hx hZ hown (host := "") (Or.inl (hw _ (List.mem_of_getElem? (i := 10) rfl))) Via.refl e0 (pin_9 hP) (g := (mkF m 5 #[.val (.ref (w 3)), .val .null, .unset] [(.ref (w 3))])) rfl rfl (hb hby d2_5)
  refine Go.on (T' := T53) (g' := (mkF m 8 #[.val (.ref (w 3)), .val .null, .unset] [.null])) st53 ?_
  refine Go.on (T' := T53) (g' := (mkF m 16 #[.val (.ref (w 3)), .val .null, .unset] [])) (fun t k => XS.ifnullYes X53.here hx rfl (pc0 := 8) (pc' := 16) rfl (hb hby d2_8) rfl (by decide) (by decide) k) ?_
  refine Go.on (T' := T53) (g' := (mkF m 17 #[.val (.ref (w 3)), .val .null, .unset] [.null])) (fun t k => XS.aloadN X53.here hx rfl (hb hby d2_16) rfl rfl k) ?_
  refine Go.on (T' := T53) (g' := (mkF m 32 #[.val (.ref (w 3)), .val .null, .unset] [])) (fun t k => XS.ifnullYes X53.here hx rfl (pc0 := 17) (pc' := 32) rfl (hb hby d2_17) rfl (by decide) (by decide) k) ?_
  obtain ⟨T54, X54, e54, st54⟩ := getS2 X53 hx hZ hown (host := "") (Or.inl (hw _ (List.mem_of_getElem? (i := 16) rfl))) Via.refl e53 (pin_1 hP) (g := (mkF m 32 #[.val (.ref (w 3)), .val .null, .unset] [])) rfl (hb hby d2_32)
  refine Go.on (T' := T54) (g' := (mkF m 35 #[.val (.ref (w 3)), .val .null, .unset] [(.ref (w 2))])) st54 ?_
  refine Go.on (T' := T54) (g' := (mkF m 36 #[.val (.ref (w 3)), .val .null, .val (.ref (w 2))] [])) (fun t k => XS.astoreN X54.here hx rfl (hb hby d2_35) rfl rfl (l' := #[.val (.ref (w 3)), .val .null, .val (.ref (w 2))]) rfl k) ?_
  refine Go.on (T' := T54) (g' := (mkF m 37 #[.val (.ref (w 3)), .val .null, .val (.ref (w 2))] [(.ref (w 2))])) (fun t k => XS.aloadN X54.here hx rfl (hb hby d2_36) rfl rfl k) ?_
  obtain ⟨fs, hr, hrun, hended, hW, hsame⟩ := X54.leave (v := some (.ref (w 2))) (fun h => by rw [Bd.returns] at h; cases h)
  exact ⟨_, _, retOut X54 hx Bd.returns rfl (Or.inr (Or.inr (Or.inr (Or.inr ⟨rfl, rfl, rfl⟩)))) (hb hby d2_37) hr, hrun, hended, _, _, rfl, ⟨rfl, N0, e54⟩, ⟨_, rfl⟩, hW, hsame.mono (by decide) (by decide)⟩
set_option maxRecDepth 65536 in
set_option maxHeartbeats 40000000 in
theorem rm2_5 (l : Launch) (Z : State) (a0 : Array Value) (hw : ∀ d ∈ tables_1, d.before a0 Z = true) (ws : List Jvm.Cond) (w : Nat → Addr) (h0 : Heap) (n0 : Nat) (Z0 : n0 ≤ h0.size) (hP : Pins Z h0 w) :
    MetFree l (⟨"com/example/rederive/rederive/ColumnType", "ofArithmetic", "(Lcom/example/rederive/rederive/ColumnType;Lcom/example/rederive/rederive/ColumnType;)Lcom/example/rederive/rederive/ColumnType;"⟩ : MethodName) (head1 (Jvm.Cond.code (⟨"com/example/rederive/rederive/ColumnType", "ofArithmetic", "(Lcom/example/rederive/rederive/ColumnType;Lcom/example/rederive/rederive/ColumnType;)Lcom/example/rederive/rederive/ColumnType;"⟩ : MethodName) prog_1_method_7_code 3 (some (.object "com/example/rederive/rederive/ColumnType")) :: ws) ({ frames := 0, cells := 0, slots := 0, locals := 0 } : Room)) (fun a U => a = #[(.ref (w 3)), (.ref (w 3))] ∧ Z.Warmed39 U.vm ∧ U.heap = h0) (fun _ _ _ _ _ => True) (fun _ U o U' => ∃ v L, o = .returned v ∧ Qp (some (.ref (w 2))) h0 n0 v U'.heap L ∧ FrameEnd U o U' L ({ frames := 0, cells := 0, slots := 0, locals := 0 } : Room).cells ({ frames := 0, cells := 0, slots := 0, locals := 0 } : Room).slots) := by
  refine MetFree.of_bodySF (plainFor_of_name pn_1) hisR ?_
  intro p e s m args below meth c s₁ Bd hml0 hP0 hK
  obtain ⟨rfl, hZ, hh⟩ := hP0
  have hx := Bd.exec
  have hby := Bd.bytes
  have hml : c.maxLocals = 3 := hml0
  have hown : s.vm.findClass "com/example/rederive/rederive/ColumnType" = some m.cls := findClass_of_methodNamed Bd.named
  have hnm := (name_of_methodNamed Bd.named Bd.method).1
  have X0 : Stand p l e ({ frames := 0, cells := 0, slots := 0, locals := 0 } : Room) s m #[(.ref (w 3)), (.ref (w 3))] below meth c s₁ [] 0 0 := Stand.of_body Bd
  have e0 : s₁.heap = h0 := by rw [← hh, Bd.state]; rfl
  have N0 := Fr.nil n0
  suffices hgo : Go p e below (fun o U' => ∃ v L, o = .returned v ∧ Qp (some (.ref (w 2))) h0 n0 v U'.heap L ∧ FrameEnd s o U' L ({ frames := 0, cells := 0, slots := 0, locals := 0 } : Room).cells ({ frames := 0, cells := 0, slots := 0, locals := 0 } : Room).slots) s₁ (mkF m 0 #[.val (.ref (w 3)), .val (.ref (w 3)), .unset] []) by
    obtain ⟨s2, o, g1, g2, g3, g4⟩ := hgo
    refine ⟨s2, o, castTop (?_ : entryFrame m #[(.ref (w 3)), (.ref (w 3))] 3 = _) g1, g2, g3, g4⟩
    first | (simp [entryFrame, mkF, argsToLocals, Value.category]; done) | rfl
  refine Go.on (T' := s₁) (g' := (mkF m 1 #[.val (.ref (w 3)), .val (.ref (w 3)), .unset] [(.ref (w 3))])) (fun t k => XS.aloadN X0.here hx rfl (hb hby d2_0) rfl rfl k) ?_
  refine Go.on (T' := s₁) (g' := (mkF m 4 #[.val (.ref (w 3)), .val (.ref (w 3)), .unset] [])) (fun t k => XS.ifnullNo X0.here hx rfl (hb hby d2_1) rfl k) ?_
  refine Go.on (T' := s₁) (g' := (mkF m 5 #[.val (.ref (w 3)), .val (.ref (w 3)), .unset] [(.ref (w 3))])) (fun t k => XS.aloadN X0.here hx rfl (hb hby d2_4) rfl rfl k) ?_
  obtain ⟨T64, X64, e64, st64⟩ := getF X0 hx hZ hown (host := "") (Or.inl (hw _ (List.mem_of_getElem? (i := 10) rfl))) Via.refl e0 (pin_9 hP) (g := (mkF m 5 #[.val (.ref (w 3)), .val (.ref (w 3)), .unset] [(.ref (w 3))])) rfl rfl (hb hby d2_5)
  refine Go.on (T' := T64) (g' := (mkF m 8 #[.val (.ref (w 3)), .val (.ref (w 3)), .unset] [.null])) st64 ?_
  refine Go.on (T' := T64) (g' := (mkF m 16 #[.val (.ref (w 3)), .val (.ref (w 3)), .unset] [])) (fun t k => XS.ifnullYes X64.here hx rfl (pc0 := 8) (pc' := 16) rfl (hb hby d2_8) rfl (by decide) (by decide) k) ?_
  refine Go.on (T' := T64) (g' := (mkF m 17 #[.val (.ref (w 3)), .val (.ref (w 3)), .unset] [(.ref (w 3))])) (fun t k => XS.aloadN X64.here hx rfl (hb hby d2_16) rfl rfl k) ?_
  refine Go.on (T' := T64) (g' := (mkF m 20 #[.val (.ref (w 3)), .val (.ref (w 3)), .unset] [])) (fun t k => XS.ifnullNo X64.here hx rfl (hb hby d2_17) rfl k) ?_
  refine Go.on (T' := T64) (g' := (mkF m 21 #[.val (.ref (w 3)), .val (.ref (w 3)), .unset] [(.ref (w 3))])) (fun t k => XS.aloadN X64.here hx rfl (hb hby d2_20) rfl rfl k) ?_
  obtain ⟨T65, X65, e65, st65⟩ := getF X64 hx hZ hown (host := "") (Or.inl (hw _ (List.mem_of_getElem? (i := 10) rfl))) Via.refl e64 (pin_9 hP) (g := (mkF m 21 #[.val (.ref (w 3)), .val (.ref (w 3)), .unset] [(.ref (w 3))])) rfl rfl (hb hby d2_21)
  refine Go.on (T' := T65) (g' := (mkF m 24 #[.val (.ref (w 3)), .val (.ref (w 3)), .unset] [.null])) st65 ?_
  refine Go.on (T' := T65) (g' := (mkF m 32 #[.val (.ref (w 3)), .val (.ref (w 3)), .unset] [])) (fun t k => XS.ifnullYes X65.here hx rfl (pc0 := 24) (pc' := 32) rfl (hb hby d2_24) rfl (by decide) (by decide) k) ?_
  obtain ⟨T66, X66, e66, st66⟩ := getS2 X65 hx hZ hown (host := "") (Or.inl (hw _ (List.mem_of_getElem? (i := 16) rfl))) Via.refl e65 (pin_1 hP) (g := (mkF m 32 #[.val (.ref (w 3)), .val (.ref (w 3)), .unset] [])) rfl (hb hby d2_32)
  refine Go.on (T' := T66) (g' := (mkF m 35 #[.val (.ref (w 3)), .val (.ref (w 3)), .unset] [(.ref (w 2))])) st66 ?_
  refine Go.on (T' := T66) (g' := (mkF m 36 #[.val (.ref (w 3)), .val (.ref (w 3)), .val (.ref (w 2))] [])) (fun t k => XS.astoreN X66.here hx rfl (hb hby d2_35) rfl rfl (l' := #[.val (.ref (w 3)), .val (.ref (w 3)), .val (.ref (w 2))]) rfl k) ?_
  refine Go.on (T' := T66) (g' := (mkF m 37 #[.val (.ref (w 3)), .val (.ref (w 3)), .val (.ref (w 2))] [(.ref (w 2))])) (fun t k => XS.aloadN X66.here hx rfl (hb hby d2_36) rfl rfl k) ?_
  obtain ⟨fs, hr, hrun, hended, hW, hsame⟩ := X66.leave (v := some (.ref (w 2))) (fun h => by rw [Bd.returns] at h; cases h)
  exact ⟨_, _, retOut X66 hx Bd.returns rfl (Or.inr (Or.inr (Or.inr (Or.inr ⟨rfl, rfl, rfl⟩)))) (hb hby d2_37) hr, hrun, hended, _, _, rfl, ⟨rfl, N0, e66⟩, ⟨_, rfl⟩, hW, hsame.mono (by decide) (by decide)⟩
set_option maxRecDepth 65536 in
set_option maxHeartbeats 40000000 in
theorem rm2_6 (l : Launch) (Z : State) (a0 : Array Value) (hw : ∀ d ∈ tables_1, d.before a0 Z = true) (ws : List Jvm.Cond) (w : Nat → Addr) (h0 : Heap) (n0 : Nat) (Z0 : n0 ≤ h0.size) (hP : Pins Z h0 w) :
    MetFree l (⟨"com/example/rederive/rederive/ColumnType", "ofArithmetic", "(Lcom/example/rederive/rederive/ColumnType;Lcom/example/rederive/rederive/ColumnType;)Lcom/example/rederive/rederive/ColumnType;"⟩ : MethodName) (head1 (Jvm.Cond.code (⟨"com/example/rederive/rederive/ColumnType", "ofArithmetic", "(Lcom/example/rederive/rederive/ColumnType;Lcom/example/rederive/rederive/ColumnType;)Lcom/example/rederive/rederive/ColumnType;"⟩ : MethodName) prog_1_method_7_code 3 (some (.object "com/example/rederive/rederive/ColumnType")) :: ws) ({ frames := 0, cells := 0, slots := 0, locals := 0 } : Room)) (fun a U => a = #[(.ref (w 3)), (.ref (w 2))] ∧ Z.Warmed39 U.vm ∧ U.heap = h0) (fun _ _ _ _ _ => True) (fun _ U o U' => ∃ v L, o = .returned v ∧ Qp (some (.ref (w 2))) h0 n0 v U'.heap L ∧ FrameEnd U o U' L ({ frames := 0, cells := 0, slots := 0, locals := 0 } : Room).cells ({ frames := 0, cells := 0, slots := 0, locals := 0 } : Room).slots) := by
  refine MetFree.of_bodySF (plainFor_of_name pn_1) hisR ?_
  intro p e s m args below meth c s₁ Bd hml0 hP0 hK
  obtain ⟨rfl, hZ, hh⟩ := hP0
  have hx := Bd.exec
  have hby := Bd.bytes
  have hml : c.maxLocals = 3 := hml0
  have hown : s.vm.findClass "com/example/rederive/rederive/ColumnType" = some m.cls := findClass_of_methodNamed Bd.named
  have hnm := (name_of_methodNamed Bd.named Bd.method).1
  have X0 : Stand p l e ({ frames := 0, cells := 0, slots := 0, locals := 0 } : Room) s m #[(.ref (w 3)), (.ref (w 2))] below meth c s₁ [] 0 0 := Stand.of_body Bd
  have e0 : s₁.heap = h0 := by rw [← hh, Bd.state]; rfl
  have N0 := Fr.nil n0
  suffices hgo : Go p e below (fun o U' => ∃ v L, o = .returned v ∧ Qp (some (.ref (w 2))) h0 n0 v U'.heap L ∧ FrameEnd s o U' L ({ frames := 0, cells := 0, slots := 0, locals := 0 } : Room).cells ({ frames := 0, cells := 0, slots := 0, locals := 0 } : Room).slots) s₁ (mkF m 0 #[.val (.ref (w 3)), .val (.ref (w 2)), .unset] []) by
    obtain ⟨s2, o, g1, g2, g3, g4⟩ := hgo
    refine ⟨s2, o, castTop (?_ : entryFrame m #[(.ref (w 3)), (.ref (w 2))] 3 = _) g1, g2, g3, g4⟩
    first | (simp [entryFrame, mkF, argsToLocals, Value.category]; done) | rfl
  refine Go.on (T' := s₁) (g' := (mkF m 1 #[.val (.ref (w 3)), .val (.ref (w 2)), .unset] [(.ref (w 3))])) (fun t k => XS.aloadN X0.here hx rfl (hb hby d2_0) rfl rfl k) ?_
  refine Go.on (T' := s₁) (g' := (mkF m 4 #[.val (.ref (w 3)), .val (.ref (w 2)), .unset] [])) (fun t k => XS.ifnullNo X0.here hx rfl (hb hby d2_1) rfl k) ?_
  refine Go.on (T' := s₁) (g' := (mkF m 5 #[.val (.ref (w 3)), .val (.ref (w 2)), .unset] [(.ref (w 3))])) (fun t k => XS.aloadN X0.here hx rfl (hb hby d2_4) rfl rfl k) ?_
  obtain ⟨T76, X76, e76, st76⟩ := getF X0 hx hZ hown (host := "") (Or.inl (hw _ (List.mem_of_getElem? (i := 10) rfl))) Via.refl e0 (pin_9 hP) (g := (mkF m 5 #[.val (.ref (w 3)), .val (.ref (w 2)), .unset] [(.ref (w 3))])) rfl rfl (hb hby d2_5)
  refine Go.on (T' := T76) (g' := (mkF m 8 #[.val (.ref (w 3)), .val (.ref (w 2)), .unset] [.null])) st76 ?_
  refine Go.on (T' := T76) (g' := (mkF m 16 #[.val (.ref (w 3)), .val (.ref (w 2)), .unset] [])) (fun t k => XS.ifnullYes X76.here hx rfl (pc0 := 8) (pc' := 16) rfl (hb hby d2_8) rfl (by decide) (by decide) k) ?_
  refine Go.on (T' := T76) (g' := (mkF m 17 #[.val (.ref (w 3)), .val (.ref (w 2)), .unset] [(.ref (w 2))])) (fun t k => XS.aloadN X76.here hx rfl (hb hby d2_16) rfl rfl k) ?_
  refine Go.on (T' := T76) (g' := (mkF m 20 #[.val (.ref (w 3)), .val (.ref (w 2)), .unset] [])) (fun t k => XS.ifnullNo X76.here hx rfl (hb hby d2_17) rfl k) ?_
  refine Go.on (T' := T76) (g' := (mkF m 21 #[.val (.ref (w 3)), .val (.ref (w 2)), .unset] [(.ref (w 2))])) (fun t k => XS.aloadN X76.here hx rfl (hb hby d2_20) rfl rfl k) ?_
  obtain ⟨T77, X77, e77, st77⟩ := getF X76 hx hZ hown (host := "") (Or.inl (hw _ (List.mem_of_getElem? (i := 10) rfl))) Via.refl e76 (pin_8 hP) (g := (mkF m 21 #[.val (.ref (w 3)), .val (.ref (w 2)), .unset] [(.ref (w 2))])) rfl rfl (hb hby d2_21)
  refine Go.on (T' := T77) (g' := (mkF m 24 #[.val (.ref (w 3)), .val (.ref (w 2)), .unset] [.null])) st77 ?_
  refine Go.on (T' := T77) (g' := (mkF m 32 #[.val (.ref (w 3)), .val (.ref (w 2)), .unset] [])) (fun t k => XS.ifnullYes X77.here hx rfl (pc0 := 24) (pc' := 32) rfl (hb hby d2_24) rfl (by decide) (by decide) k) ?_
  obtain ⟨T78, X78, e78, st78⟩ := getS2 X77 hx hZ hown (host := "") (Or.inl (hw _ (List.mem_of_getElem? (i := 16) rfl))) Via.refl e77 (pin_1 hP) (g := (mkF m 32 #[.val (.ref (w 3)), .val (.ref (w 2)), .unset] [])) rfl (hb hby d2_32)
  refine Go.on (T' := T78) (g' := (mkF m 35 #[.val (.ref (w 3)), .val (.ref (w 2)), .unset] [(.ref (w 2))])) st78 ?_
  refine Go.on (T' := T78) (g' := (mkF m 36 #[.val (.ref (w 3)), .val (.ref (w 2)), .val (.ref (w 2))] [])) (fun t k => XS.astoreN X78.here hx rfl (hb hby d2_35) rfl rfl (l' := #[.val (.ref (w 3)), .val (.ref (w 2)), .val (.ref (w 2))]) rfl k) ?_
  refine Go.on (T' := T78) (g' := (mkF m 37 #[.val (.ref (w 3)), .val (.ref (w 2)), .val (.ref (w 2))] [(.ref (w 2))])) (fun t k => XS.aloadN X78.here hx rfl (hb hby d2_36) rfl rfl k) ?_
  obtain ⟨fs, hr, hrun, hended, hW, hsame⟩ := X78.leave (v := some (.ref (w 2))) (fun h => by rw [Bd.returns] at h; cases h)
  exact ⟨_, _, retOut X78 hx Bd.returns rfl (Or.inr (Or.inr (Or.inr (Or.inr ⟨rfl, rfl, rfl⟩)))) (hb hby d2_37) hr, hrun, hended, _, _, rfl, ⟨rfl, N0, e78⟩, ⟨_, rfl⟩, hW, hsame.mono (by decide) (by decide)⟩
set_option maxRecDepth 65536 in
set_option maxHeartbeats 40000000 in
theorem rm2_7 (l : Launch) (Z : State) (a0 : Array Value) (hw : ∀ d ∈ tables_1, d.before a0 Z = true) (ws : List Jvm.Cond) (w : Nat → Addr) (h0 : Heap) (n0 : Nat) (Z0 : n0 ≤ h0.size) (hP : Pins Z h0 w) :
    MetFree l (⟨"com/example/rederive/rederive/ColumnType", "ofArithmetic", "(Lcom/example/rederive/rederive/ColumnType;Lcom/example/rederive/rederive/ColumnType;)Lcom/example/rederive/rederive/ColumnType;"⟩ : MethodName) (head1 (Jvm.Cond.code (⟨"com/example/rederive/rederive/ColumnType", "ofArithmetic", "(Lcom/example/rederive/rederive/ColumnType;Lcom/example/rederive/rederive/ColumnType;)Lcom/example/rederive/rederive/ColumnType;"⟩ : MethodName) prog_1_method_7_code 3 (some (.object "com/example/rederive/rederive/ColumnType")) :: ws) ({ frames := 0, cells := 0, slots := 0, locals := 0 } : Room)) (fun a U => a = #[(.ref (w 3)), (.ref (w 0))] ∧ Z.Warmed39 U.vm ∧ U.heap = h0) (fun _ _ _ _ _ => True) (fun _ U o U' => ∃ v L, o = .returned v ∧ Qp (some (.ref (w 0))) h0 n0 v U'.heap L ∧ FrameEnd U o U' L ({ frames := 0, cells := 0, slots := 0, locals := 0 } : Room).cells ({ frames := 0, cells := 0, slots := 0, locals := 0 } : Room).slots) := by
  refine MetFree.of_bodySF (plainFor_of_name pn_1) hisR ?_
  intro p e s m args below meth c s₁ Bd hml0 hP0 hK
  obtain ⟨rfl, hZ, hh⟩ := hP0
  have hx := Bd.exec
  have hby := Bd.bytes
  have hml : c.maxLocals = 3 := hml0
  have hown : s.vm.findClass "com/example/rederive/rederive/ColumnType" = some m.cls := findClass_of_methodNamed Bd.named
  have hnm := (name_of_methodNamed Bd.named Bd.method).1
  have X0 : Stand p l e ({ frames := 0, cells := 0, slots := 0, locals := 0 } : Room) s m #[(.ref (w 3)), (.ref (w 0))] below meth c s₁ [] 0 0 := Stand.of_body Bd
  have e0 : s₁.heap = h0 := by rw [← hh, Bd.state]; rfl
  have N0 := Fr.nil n0
  suffices hgo : Go p e below (fun o U' => ∃ v L, o = .returned v ∧ Qp (some (.ref (w 0))) h0 n0 v U'.heap L ∧ FrameEnd s o U' L ({ frames := 0, cells := 0, slots := 0, locals := 0 } : Room).cells ({ frames := 0, cells := 0, slots := 0, locals := 0 } : Room).slots) s₁ (mkF m 0 #[.val (.ref (w 3)), .val (.ref (w 0)), .unset] []) by
    obtain ⟨s2, o, g1, g2, g3, g4⟩ := hgo
    refine ⟨s2, o, castTop (?_ : entryFrame m #[(.ref (w 3)), (.ref (w 0))] 3 = _) g1, g2, g3, g4⟩
    first | (simp [entryFrame, mkF, argsToLocals, Value.category]; done) | rfl
  refine Go.on (T' := s₁) (g' := (mkF m 1 #[.val (.ref (w 3)), .val (.ref (w 0)), .unset] [(.ref (w 3))])) (fun t k => XS.aloadN X0.here hx rfl (hb hby d2_0) rfl rfl k) ?_
  refine Go.on (T' := s₁) (g' := (mkF m 4 #[.val (.ref (w 3)), .val (.ref (w 0)), .unset] [])) (fun t k => XS.ifnullNo X0.here hx rfl (hb hby d2_1) rfl k) ?_
  refine Go.on (T' := s₁) (g' := (mkF m 5 #[.val (.ref (w 3)), .val (.ref (w 0)), .unset] [(.ref (w 3))])) (fun t k => XS.aloadN X0.here hx rfl (hb hby d2_4) rfl rfl k) ?_
  obtain ⟨T86, X86, e86, st86⟩ := getF X0 hx hZ hown (host := "") (Or.inl (hw _ (List.mem_of_getElem? (i := 10) rfl))) Via.refl e0 (pin_9 hP) (g := (mkF m 5 #[.val (.ref (w 3)), .val (.ref (w 0)), .unset] [(.ref (w 3))])) rfl rfl (hb hby d2_5)
  refine Go.on (T' := T86) (g' := (mkF m 8 #[.val (.ref (w 3)), .val (.ref (w 0)), .unset] [.null])) st86 ?_
  refine Go.on (T' := T86) (g' := (mkF m 16 #[.val (.ref (w 3)), .val (.ref (w 0)), .unset] [])) (fun t k => XS.ifnullYes X86.here hx rfl (pc0 := 8) (pc' := 16) rfl (hb hby d2_8) rfl (by decide) (by decide) k) ?_
  refine Go.on (T' := T86) (g' := (mkF m 17 #[.val (.ref (w 3)), .val (.ref (w 0)), .unset] [(.ref (w 0))])) (fun t k => XS.aloadN X86.here hx rfl (hb hby d2_16) rfl rfl k) ?_
  refine Go.on (T' := T86) (g' := (mkF m 20 #[.val (.ref (w 3)), .val (.ref (w 0)), .unset] [])) (fun t k => XS.ifnullNo X86.here hx rfl (hb hby d2_17) rfl k) ?_
  refine Go.on (T' := T86) (g' := (mkF m 21 #[.val (.ref (w 3)), .val (.ref (w 0)), .unset] [(.ref (w 0))])) (fun t k => XS.aloadN X86.here hx rfl (hb hby d2_20) rfl rfl k) ?_
  obtain ⟨T87, X87, e87, st87⟩ := getF X86 hx hZ hown (host := "") (Or.inl (hw _ (List.mem_of_getElem? (i := 10) rfl))) Via.refl e86 (pin_7 hP) (g := (mkF m 21 #[.val (.ref (w 3)), .val (.ref (w 0)), .unset] [(.ref (w 0))])) rfl rfl (hb hby d2_21)
  refine Go.on (T' := T87) (g' := (mkF m 24 #[.val (.ref (w 3)), .val (.ref (w 0)), .unset] [(.ref (w 1))])) st87 ?_
  refine Go.on (T' := T87) (g' := (mkF m 27 #[.val (.ref (w 3)), .val (.ref (w 0)), .unset] [])) (fun t k => XS.ifnullNo X87.here hx rfl (hb hby d2_24) rfl k) ?_
  refine Go.on (T' := T87) (g' := (mkF m 28 #[.val (.ref (w 3)), .val (.ref (w 0)), .unset] [(.ref (w 0))])) (fun t k => XS.aloadN X87.here hx rfl (hb hby d2_27) rfl rfl k) ?_
  refine Go.on (T' := T87) (g' := (mkF m 29 #[.val (.ref (w 3)), .val (.ref (w 0)), .val (.ref (w 0))] [])) (fun t k => XS.astoreN X87.here hx rfl (hb hby d2_28) rfl rfl (l' := #[.val (.ref (w 3)), .val (.ref (w 0)), .val (.ref (w 0))]) rfl k) ?_
  refine Go.on (T' := T87) (g' := (mkF m 36 #[.val (.ref (w 3)), .val (.ref (w 0)), .val (.ref (w 0))] [])) (fun t k => XS.goto X87.here hx rfl (pc0 := 29) (pc' := 36) rfl (hb hby d2_29) (by decide) (by decide) k) ?_
  refine Go.on (T' := T87) (g' := (mkF m 37 #[.val (.ref (w 3)), .val (.ref (w 0)), .val (.ref (w 0))] [(.ref (w 0))])) (fun t k => XS.aloadN X87.here hx rfl (hb hby d2_36) rfl rfl k) ?_
  obtain ⟨fs, hr, hrun, hended, hW, hsame⟩ := X87.leave (v := some (.ref (w 0))) (fun h => by rw [Bd.returns] at h; cases h)
  exact ⟨_, _, retOut X87 hx Bd.returns rfl (Or.inr (Or.inr (Or.inr (Or.inr ⟨rfl, rfl, rfl⟩)))) (hb hby d2_37) hr, hrun, hended, _, _, rfl, ⟨rfl, N0, e87⟩, ⟨_, rfl⟩, hW, hsame.mono (by decide) (by decide)⟩
set_option maxRecDepth 65536 in
set_option maxHeartbeats 40000000 in
theorem rm2_8 (l : Launch) (Z : State) (a0 : Array Value) (hw : ∀ d ∈ tables_1, d.before a0 Z = true) (ws : List Jvm.Cond) (w : Nat → Addr) (h0 : Heap) (n0 : Nat) (Z0 : n0 ≤ h0.size) (hP : Pins Z h0 w) :
    MetFree l (⟨"com/example/rederive/rederive/ColumnType", "ofArithmetic", "(Lcom/example/rederive/rederive/ColumnType;Lcom/example/rederive/rederive/ColumnType;)Lcom/example/rederive/rederive/ColumnType;"⟩ : MethodName) (head1 (Jvm.Cond.code (⟨"com/example/rederive/rederive/ColumnType", "ofArithmetic", "(Lcom/example/rederive/rederive/ColumnType;Lcom/example/rederive/rederive/ColumnType;)Lcom/example/rederive/rederive/ColumnType;"⟩ : MethodName) prog_1_method_7_code 3 (some (.object "com/example/rederive/rederive/ColumnType")) :: ws) ({ frames := 0, cells := 0, slots := 0, locals := 0 } : Room)) (fun a U => a = #[(.ref (w 2)), .null] ∧ Z.Warmed39 U.vm ∧ U.heap = h0) (fun _ _ _ _ _ => True) (fun _ U o U' => ∃ v L, o = .returned v ∧ Qp (some (.ref (w 2))) h0 n0 v U'.heap L ∧ FrameEnd U o U' L ({ frames := 0, cells := 0, slots := 0, locals := 0 } : Room).cells ({ frames := 0, cells := 0, slots := 0, locals := 0 } : Room).slots) := by
  refine MetFree.of_bodySF (plainFor_of_name pn_1) hisR ?_
  intro p e s m args below meth c s₁ Bd hml0 hP0 hK
  obtain ⟨rfl, hZ, hh⟩ := hP0
  have hx := Bd.exec
  have hby := Bd.bytes
  have hml : c.maxLocals = 3 := hml0
  have hown : s.vm.findClass "com/example/rederive/rederive/ColumnType" = some m.cls := findClass_of_methodNamed Bd.named
  have hnm := (name_of_methodNamed Bd.named Bd.method).1
  have X0 : Stand p l e ({ frames := 0, cells := 0, slots := 0, locals := 0 } : Room) s m #[(.ref (w 2)), .null] below meth c s₁ [] 0 0 := Stand.of_body Bd
  have e0 : s₁.heap = h0 := by rw [← hh, Bd.state]; rfl
  have N0 := Fr.nil n0
  suffices hgo : Go p e below (fun o U' => ∃ v L, o = .returned v ∧ Qp (some (.ref (w 2))) h0 n0 v U'.heap L ∧ FrameEnd s o U' L ({ frames := 0, cells := 0, slots := 0, locals := 0 } : Room).cells ({ frames := 0, cells := 0, slots := 0, locals := 0 } : Room).slots) s₁ (mkF m 0 #[.val (.ref (w 2)), .val .null, .unset] []) by
    obtain ⟨s2, o, g1, g2, g3, g4⟩ := hgo
    refine ⟨s2, o, castTop (?_ : entryFrame m #[(.ref (w 2)), .null] 3 = _) g1, g2, g3, g4⟩
    first | (simp [entryFrame, mkF, argsToLocals, Value.category]; done) | rfl
  refine Go.on (T' := s₁) (g' := (mkF m 1 #[.val (.ref (w 2)), .val .null, .unset] [(.ref (w 2))])) (fun t k => XS.aloadN X0.here hx rfl (hb hby d2_0) rfl rfl k) ?_
  refine Go.on (T' := s₁) (g' := (mkF m 4 #[.val (.ref (w 2)), .val .null, .unset] [])) (fun t k => XS.ifnullNo X0.here hx rfl (hb hby d2_1) rfl k) ?_
  refine Go.on (T' := s₁) (g' := (mkF m 5 #[.val (.ref (w 2)), .val .null, .unset] [(.ref (w 2))])) (fun t k => XS.aloadN X0.here hx rfl (hb hby d2_4) rfl rfl k) ?_
  obtain ⟨T98, X98, e98, st98⟩ := getF X0 hx hZ hown (host := "") (Or.inl (hw _ (List.mem_of_getElem? (i := 10) rfl))) Via.refl e0 (pin_8 hP) (g := (mkF m 5 #[.val (.ref (w 2)), .val .null, .unset] [(.ref (w 2))])) rfl rfl (hb hby d2_5)
  refine Go.on (T' := T98) (g' := (mkF m 8 #[.val (.ref (w 2)), .val .null, .unset] [.null])) st98 ?_
  refine Go.on (T' := T98) (g' := (mkF m 16 #[.val (.ref (w 2)), .val .null, .unset] [])) (fun t k => XS.ifnullYes X98.here hx rfl (pc0 := 8) (pc' := 16) rfl (hb hby d2_8) rfl (by decide) (by decide) k) ?_
  refine Go.on (T' := T98) (g' := (mkF m 17 #[.val (.ref (w 2)), .val .null, .unset] [.null])) (fun t k => XS.aloadN X98.here hx rfl (hb hby d2_16) rfl rfl k) ?_
  refine Go.on (T' := T98) (g' := (mkF m 32 #[.val (.ref (w 2)), .val .null, .unset] [])) (fun t k => XS.ifnullYes X98.here hx rfl (pc0 := 17) (pc' := 32) rfl (hb hby d2_17) rfl (by decide) (by decide) k) ?_
  obtain ⟨T99, X99, e99, st99⟩ := getS2 X98 hx hZ hown (host := "") (Or.inl (hw _ (List.mem_of_getElem? (i := 16) rfl))) Via.refl e98 (pin_1 hP) (g := (mkF m 32 #[.val (.ref (w 2)), .val .null, .unset] [])) rfl (hb hby d2_32)
  refine Go.on (T' := T99) (g' := (mkF m 35 #[.val (.ref (w 2)), .val .null, .unset] [(.ref (w 2))])) st99 ?_
  refine Go.on (T' := T99) (g' := (mkF m 36 #[.val (.ref (w 2)), .val .null, .val (.ref (w 2))] [])) (fun t k => XS.astoreN X99.here hx rfl (hb hby d2_35) rfl rfl (l' := #[.val (.ref (w 2)), .val .null, .val (.ref (w 2))]) rfl k) ?_
  refine Go.on (T' := T99) (g' := (mkF m 37 #[.val (.ref (w 2)), .val .null, .val (.ref (w 2))] [(.ref (w 2))])) (fun t k => XS.aloadN X99.here hx rfl (hb hby d2_36) rfl rfl k) ?_
  obtain ⟨fs, hr, hrun, hended, hW, hsame⟩ := X99.leave (v := some (.ref (w 2))) (fun h => by rw [Bd.returns] at h; cases h)
  exact ⟨_, _, retOut X99 hx Bd.returns rfl (Or.inr (Or.inr (Or.inr (Or.inr ⟨rfl, rfl, rfl⟩)))) (hb hby d2_37) hr, hrun, hended, _, _, rfl, ⟨rfl, N0, e99⟩, ⟨_, rfl⟩, hW, hsame.mono (by decide) (by decide)⟩
set_option maxRecDepth 65536 in
set_option maxHeartbeats 40000000 in
theorem rm2_9 (l : Launch) (Z : State) (a0 : Array Value) (hw : ∀ d ∈ tables_1, d.before a0 Z = true) (ws : List Jvm.Cond) (w : Nat → Addr) (h0 : Heap) (n0 : Nat) (Z0 : n0 ≤ h0.size) (hP : Pins Z h0 w) :
    MetFree l (⟨"com/example/rederive/rederive/ColumnType", "ofArithmetic", "(Lcom/example/rederive/rederive/ColumnType;Lcom/example/rederive/rederive/ColumnType;)Lcom/example/rederive/rederive/ColumnType;"⟩ : MethodName) (head1 (Jvm.Cond.code (⟨"com/example/rederive/rederive/ColumnType", "ofArithmetic", "(Lcom/example/rederive/rederive/ColumnType;Lcom/example/rederive/rederive/ColumnType;)Lcom/example/rederive/rederive/ColumnType;"⟩ : MethodName) prog_1_method_7_code 3 (some (.object "com/example/rederive/rederive/ColumnType")) :: ws) ({ frames := 0, cells := 0, slots := 0, locals := 0 } : Room)) (fun a U => a = #[(.ref (w 2)), (.ref (w 3))] ∧ Z.Warmed39 U.vm ∧ U.heap = h0) (fun _ _ _ _ _ => True) (fun _ U o U' => ∃ v L, o = .returned v ∧ Qp (some (.ref (w 2))) h0 n0 v U'.heap L ∧ FrameEnd U o U' L ({ frames := 0, cells := 0, slots := 0, locals := 0 } : Room).cells ({ frames := 0, cells := 0, slots := 0, locals := 0 } : Room).slots) := by
  refine MetFree.of_bodySF (plainFor_of_name pn_1) hisR ?_
  intro p e s m args below meth c s₁ Bd hml0 hP0 hK
  obtain ⟨rfl, hZ, hh⟩ := hP0
  have hx := Bd.exec
  have hby := Bd.bytes
  have hml : c.maxLocals = 3 := hml0
  have hown : s.vm.findClass "com/example/rederive/rederive/ColumnType" = some m.cls := findClass_of_methodNamed Bd.named
  have hnm := (name_of_methodNamed Bd.named Bd.method).1
  have X0 : Stand p l e ({ frames := 0, cells := 0, slots := 0, locals := 0 } : Room) s m #[(.ref (w 2)), (.ref (w 3))] below meth c s₁ [] 0 0 := Stand.of_body Bd
  have e0 : s₁.heap = h0 := by rw [← hh, Bd.state]; rfl
  have N0 := Fr.nil n0
  suffices hgo : Go p e below (fun o U' => ∃ v L, o = .returned v ∧ Qp (some (.ref (w 2))) h0 n0 v U'.heap L ∧ FrameEnd s o U' L ({ frames := 0, cells := 0, slots := 0, locals := 0 } : Room).cells ({ frames := 0, cells := 0, slots := 0, locals := 0 } : Room).slots) s₁ (mkF m 0 #[.val (.ref (w 2)), .val (.ref (w 3)), .unset] []) by
    obtain ⟨s2, o, g1, g2, g3, g4⟩ := hgo
    refine ⟨s2, o, castTop (?_ : entryFrame m #[(.ref (w 2)), (.ref (w 3))] 3 = _) g1, g2, g3, g4⟩
    first | (simp [entryFrame, mkF, argsToLocals, Value.category]; done) | rfl
  refine Go.on (T' := s₁) (g' := (mkF m 1 #[.val (.ref (w 2)), .val (.ref (w 3)), .unset] [(.ref (w 2))])) (fun t k => XS.aloadN X0.here hx rfl (hb hby d2_0) rfl rfl k) ?_
  refine Go.on (T' := s₁) (g' := (mkF m 4 #[.val (.ref (w 2)), .val (.ref (w 3)), .unset] [])) (fun t k => XS.ifnullNo X0.here hx rfl (hb hby d2_1) rfl k) ?_
  refine Go.on (T' := s₁) (g' := (mkF m 5 #[.val (.ref (w 2)), .val (.ref (w 3)), .unset] [(.ref (w 2))])) (fun t k => XS.aloadN X0.here hx rfl (hb hby d2_4) rfl rfl k) ?_
  obtain ⟨T109, X109, e109, st109⟩ := getF X0 hx hZ hown (host := "") (Or.inl (hw _ (List.mem_of_getElem? (i := 10) rfl))) Via.refl e0 (pin_8 hP) (g := (mkF m 5 #[.val (.ref (w 2)), .val (.ref (w 3)), .unset] [(.ref (w 2))])) rfl rfl (hb hby d2_5)
  refine Go.on (T' := T109) (g' := (mkF m 8 #[.val (.ref (w 2)), .val (.ref (w 3)), .unset] [.null])) st109 ?_
  refine Go.on (T' := T109) (g' := (mkF m 16 #[.val (.ref (w 2)), .val (.ref (w 3)), .unset] [])) (fun t k => XS.ifnullYes X109.here hx rfl (pc0 := 8) (pc' := 16) rfl (hb hby d2_8) rfl (by decide) (by decide) k) ?_
  refine Go.on (T' := T109) (g' := (mkF m 17 #[.val (.ref (w 2)), .val (.ref (w 3)), .unset] [(.ref (w 3))])) (fun t k => XS.aloadN X109.here hx rfl (hb hby d2_16) rfl rfl k) ?_
  refine Go.on (T' := T109) (g' := (mkF m 20 #[.val (.ref (w 2)), .val (.ref (w 3)), .unset] [])) (fun t k => XS.ifnullNo X109.here hx rfl (hb hby d2_17) rfl k) ?_
  refine Go.on (T' := T109) (g' := (mkF m 21 #[.val (.ref (w 2)), .val (.ref (w 3)), .unset] [(.ref (w 3))])) (fun t k => XS.aloadN X109.here hx rfl (hb hby d2_20) rfl rfl k) ?_
  obtain ⟨T110, X110, e110, st110⟩ := getF X109 hx hZ hown (host := "") (Or.inl (hw _ (List.mem_of_getElem? (i := 10) rfl))) Via.refl e109 (pin_9 hP) (g := (mkF m 21 #[.val (.ref (w 2)), .val (.ref (w 3)), .unset] [(.ref (w 3))])) rfl rfl (hb hby d2_21)
  refine Go.on (T' := T110) (g' := (mkF m 24 #[.val (.ref (w 2)), .val (.ref (w 3)), .unset] [.null])) st110 ?_
  refine Go.on (T' := T110) (g' := (mkF m 32 #[.val (.ref (w 2)), .val (.ref (w 3)), .unset] [])) (fun t k => XS.ifnullYes X110.here hx rfl (pc0 := 24) (pc' := 32) rfl (hb hby d2_24) rfl (by decide) (by decide) k) ?_
  obtain ⟨T111, X111, e111, st111⟩ := getS2 X110 hx hZ hown (host := "") (Or.inl (hw _ (List.mem_of_getElem? (i := 16) rfl))) Via.refl e110 (pin_1 hP) (g := (mkF m 32 #[.val (.ref (w 2)), .val (.ref (w 3)), .unset] [])) rfl (hb hby d2_32)
  refine Go.on (T' := T111) (g' := (mkF m 35 #[.val (.ref (w 2)), .val (.ref (w 3)), .unset] [(.ref (w 2))])) st111 ?_
  refine Go.on (T' := T111) (g' := (mkF m 36 #[.val (.ref (w 2)), .val (.ref (w 3)), .val (.ref (w 2))] [])) (fun t k => XS.astoreN X111.here hx rfl (hb hby d2_35) rfl rfl (l' := #[.val (.ref (w 2)), .val (.ref (w 3)), .val (.ref (w 2))]) rfl k) ?_
  refine Go.on (T' := T111) (g' := (mkF m 37 #[.val (.ref (w 2)), .val (.ref (w 3)), .val (.ref (w 2))] [(.ref (w 2))])) (fun t k => XS.aloadN X111.here hx rfl (hb hby d2_36) rfl rfl k) ?_
  obtain ⟨fs, hr, hrun, hended, hW, hsame⟩ := X111.leave (v := some (.ref (w 2))) (fun h => by rw [Bd.returns] at h; cases h)
  exact ⟨_, _, retOut X111 hx Bd.returns rfl (Or.inr (Or.inr (Or.inr (Or.inr ⟨rfl, rfl, rfl⟩)))) (hb hby d2_37) hr, hrun, hended, _, _, rfl, ⟨rfl, N0, e111⟩, ⟨_, rfl⟩, hW, hsame.mono (by decide) (by decide)⟩
set_option maxRecDepth 65536 in
set_option maxHeartbeats 40000000 in
theorem rm2_10 (l : Launch) (Z : State) (a0 : Array Value) (hw : ∀ d ∈ tables_1, d.before a0 Z = true) (ws : List Jvm.Cond) (w : Nat → Addr) (h0 : Heap) (n0 : Nat) (Z0 : n0 ≤ h0.size) (hP : Pins Z h0 w) :
    MetFree l (⟨"com/example/rederive/rederive/ColumnType", "ofArithmetic", "(Lcom/example/rederive/rederive/ColumnType;Lcom/example/rederive/rederive/ColumnType;)Lcom/example/rederive/rederive/ColumnType;"⟩ : MethodName) (head1 (Jvm.Cond.code (⟨"com/example/rederive/rederive/ColumnType", "ofArithmetic", "(Lcom/example/rederive/rederive/ColumnType;Lcom/example/rederive/rederive/ColumnType;)Lcom/example/rederive/rederive/ColumnType;"⟩ : MethodName) prog_1_method_7_code 3 (some (.object "com/example/rederive/rederive/ColumnType")) :: ws) ({ frames := 0, cells := 0, slots := 0, locals := 0 } : Room)) (fun a U => a = #[(.ref (w 2)), (.ref (w 2))] ∧ Z.Warmed39 U.vm ∧ U.heap = h0) (fun _ _ _ _ _ => True) (fun _ U o U' => ∃ v L, o = .returned v ∧ Qp (some (.ref (w 2))) h0 n0 v U'.heap L ∧ FrameEnd U o U' L ({ frames := 0, cells := 0, slots := 0, locals := 0 } : Room).cells ({ frames := 0, cells := 0, slots := 0, locals := 0 } : Room).slots) := by
  refine MetFree.of_bodySF (plainFor_of_name pn_1) hisR ?_
  intro p e s m args below meth c s₁ Bd hml0 hP0 hK
  obtain ⟨rfl, hZ, hh⟩ := hP0
  have hx := Bd.exec
  have hby := Bd.bytes
  have hml : c.maxLocals = 3 := hml0
  have hown : s.vm.findClass "com/example/rederive/rederive/ColumnType" = some m.cls := findClass_of_methodNamed Bd.named
  have hnm := (name_of_methodNamed Bd.named Bd.method).1
  have X0 : Stand p l e ({ frames := 0, cells := 0, slots := 0, locals := 0 } : Room) s m #[(.ref (w 2)), (.ref (w 2))] below meth c s₁ [] 0 0 := Stand.of_body Bd
  have e0 : s₁.heap = h0 := by rw [← hh, Bd.state]; rfl
  have N0 := Fr.nil n0
  suffices hgo : Go p e below (fun o U' => ∃ v L, o = .returned v ∧ Qp (some (.ref (w 2))) h0 n0 v U'.heap L ∧ FrameEnd s o U' L ({ frames := 0, cells := 0, slots := 0, locals := 0 } : Room).cells ({ frames := 0, cells := 0, slots := 0, locals := 0 } : Room).slots) s₁ (mkF m 0 #[.val (.ref (w 2)), .val (.ref (w 2)), .unset] []) by
    obtain ⟨s2, o, g1, g2, g3, g4⟩ := hgo
    refine ⟨s2, o, castTop (?_ : entryFrame m #[(.ref (w 2)), (.ref (w 2))] 3 = _) g1, g2, g3, g4⟩
    first | (simp [entryFrame, mkF, argsToLocals, Value.category]; done) | rfl
  refine Go.on (T' := s₁) (g' := (mkF m 1 #[.val (.ref (w 2)), .val (.ref (w 2)), .unset] [(.ref (w 2))])) (fun t k => XS.aloadN X0.here hx rfl (hb hby d2_0) rfl rfl k) ?_
  refine Go.on (T' := s₁) (g' := (mkF m 4 #[.val (.ref (w 2)), .val (.ref (w 2)), .unset] [])) (fun t k => XS.ifnullNo X0.here hx rfl (hb hby d2_1) rfl k) ?_
  refine Go.on (T' := s₁) (g' := (mkF m 5 #[.val (.ref (w 2)), .val (.ref (w 2)), .unset] [(.ref (w 2))])) (fun t k => XS.aloadN X0.here hx rfl (hb hby d2_4) rfl rfl k) ?_
  obtain ⟨T121, X121, e121, st121⟩ := getF X0 hx hZ hown (host := "") (Or.inl (hw _ (List.mem_of_getElem? (i := 10) rfl))) Via.refl e0 (pin_8 hP) (g := (mkF m 5 #[.val (.ref (w 2)), .val (.ref (w 2)), .unset] [(.ref (w 2))])) rfl rfl (hb hby d2_5)
  refine Go.on (T' := T121) (g' := (mkF m 8 #[.val (.ref (w 2)), .val (.ref (w 2)), .unset] [.null])) st121 ?_
  refine Go.on (T' := T121) (g' := (mkF m 16 #[.val (.ref (w 2)), .val (.ref (w 2)), .unset] [])) (fun t k => XS.ifnullYes X121.here hx rfl (pc0 := 8) (pc' := 16) rfl (hb hby d2_8) rfl (by decide) (by decide) k) ?_
  refine Go.on (T' := T121) (g' := (mkF m 17 #[.val (.ref (w 2)), .val (.ref (w 2)), .unset] [(.ref (w 2))])) (fun t k => XS.aloadN X121.here hx rfl (hb hby d2_16) rfl rfl k) ?_
  refine Go.on (T' := T121) (g' := (mkF m 20 #[.val (.ref (w 2)), .val (.ref (w 2)), .unset] [])) (fun t k => XS.ifnullNo X121.here hx rfl (hb hby d2_17) rfl k) ?_
  refine Go.on (T' := T121) (g' := (mkF m 21 #[.val (.ref (w 2)), .val (.ref (w 2)), .unset] [(.ref (w 2))])) (fun t k => XS.aloadN X121.here hx rfl (hb hby d2_20) rfl rfl k) ?_
  obtain ⟨T122, X122, e122, st122⟩ := getF X121 hx hZ hown (host := "") (Or.inl (hw _ (List.mem_of_getElem? (i := 10) rfl))) Via.refl e121 (pin_8 hP) (g := (mkF m 21 #[.val (.ref (w 2)), .val (.ref (w 2)), .unset] [(.ref (w 2))])) rfl rfl (hb hby d2_21)
  refine Go.on (T' := T122) (g' := (mkF m 24 #[.val (.ref (w 2)), .val (.ref (w 2)), .unset] [.null])) st122 ?_
  refine Go.on (T' := T122) (g' := (mkF m 32 #[.val (.ref (w 2)), .val (.ref (w 2)), .unset] [])) (fun t k => XS.ifnullYes X122.here hx rfl (pc0 := 24) (pc' := 32) rfl (hb hby d2_24) rfl (by decide) (by decide) k) ?_
  obtain ⟨T123, X123, e123, st123⟩ := getS2 X122 hx hZ hown (host := "") (Or.inl (hw _ (List.mem_of_getElem? (i := 16) rfl))) Via.refl e122 (pin_1 hP) (g := (mkF m 32 #[.val (.ref (w 2)), .val (.ref (w 2)), .unset] [])) rfl (hb hby d2_32)
  refine Go.on (T' := T123) (g' := (mkF m 35 #[.val (.ref (w 2)), .val (.ref (w 2)), .unset] [(.ref (w 2))])) st123 ?_
  refine Go.on (T' := T123) (g' := (mkF m 36 #[.val (.ref (w 2)), .val (.ref (w 2)), .val (.ref (w 2))] [])) (fun t k => XS.astoreN X123.here hx rfl (hb hby d2_35) rfl rfl (l' := #[.val (.ref (w 2)), .val (.ref (w 2)), .val (.ref (w 2))]) rfl k) ?_
  refine Go.on (T' := T123) (g' := (mkF m 37 #[.val (.ref (w 2)), .val (.ref (w 2)), .val (.ref (w 2))] [(.ref (w 2))])) (fun t k => XS.aloadN X123.here hx rfl (hb hby d2_36) rfl rfl k) ?_
  obtain ⟨fs, hr, hrun, hended, hW, hsame⟩ := X123.leave (v := some (.ref (w 2))) (fun h => by rw [Bd.returns] at h; cases h)
  exact ⟨_, _, retOut X123 hx Bd.returns rfl (Or.inr (Or.inr (Or.inr (Or.inr ⟨rfl, rfl, rfl⟩)))) (hb hby d2_37) hr, hrun, hended, _, _, rfl, ⟨rfl, N0, e123⟩, ⟨_, rfl⟩, hW, hsame.mono (by decide) (by decide)⟩
set_option maxRecDepth 65536 in
set_option maxHeartbeats 40000000 in
theorem rm2_11 (l : Launch) (Z : State) (a0 : Array Value) (hw : ∀ d ∈ tables_1, d.before a0 Z = true) (ws : List Jvm.Cond) (w : Nat → Addr) (h0 : Heap) (n0 : Nat) (Z0 : n0 ≤ h0.size) (hP : Pins Z h0 w) :
    MetFree l (⟨"com/example/rederive/rederive/ColumnType", "ofArithmetic", "(Lcom/example/rederive/rederive/ColumnType;Lcom/example/rederive/rederive/ColumnType;)Lcom/example/rederive/rederive/ColumnType;"⟩ : MethodName) (head1 (Jvm.Cond.code (⟨"com/example/rederive/rederive/ColumnType", "ofArithmetic", "(Lcom/example/rederive/rederive/ColumnType;Lcom/example/rederive/rederive/ColumnType;)Lcom/example/rederive/rederive/ColumnType;"⟩ : MethodName) prog_1_method_7_code 3 (some (.object "com/example/rederive/rederive/ColumnType")) :: ws) ({ frames := 0, cells := 0, slots := 0, locals := 0 } : Room)) (fun a U => a = #[(.ref (w 2)), (.ref (w 0))] ∧ Z.Warmed39 U.vm ∧ U.heap = h0) (fun _ _ _ _ _ => True) (fun _ U o U' => ∃ v L, o = .returned v ∧ Qp (some (.ref (w 0))) h0 n0 v U'.heap L ∧ FrameEnd U o U' L ({ frames := 0, cells := 0, slots := 0, locals := 0 } : Room).cells ({ frames := 0, cells := 0, slots := 0, locals := 0 } : Room).slots) := by
  refine MetFree.of_bodySF (plainFor_of_name pn_1) hisR ?_
  intro p e s m args below meth c s₁ Bd hml0 hP0 hK
  obtain ⟨rfl, hZ, hh⟩ := hP0
  have hx := Bd.exec
  have hby := Bd.bytes
  have hml : c.maxLocals = 3 := hml0
  have hown : s.vm.findClass "com/example/rederive/rederive/ColumnType" = some m.cls := findClass_of_methodNamed Bd.named
  have hnm := (name_of_methodNamed Bd.named Bd.method).1
  have X0 : Stand p l e ({ frames := 0, cells := 0, slots := 0, locals := 0 } : Room) s m #[(.ref (w 2)), (.ref (w 0))] below meth c s₁ [] 0 0 := Stand.of_body Bd
  have e0 : s₁.heap = h0 := by rw [← hh, Bd.state]; rfl
  have N0 := Fr.nil n0
  suffices hgo : Go p e below (fun o U' => ∃ v L, o = .returned v ∧ Qp (some (.ref (w 0))) h0 n0 v U'.heap L ∧ FrameEnd s o U' L ({ frames := 0, cells := 0, slots := 0, locals := 0 } : Room).cells ({ frames := 0, cells := 0, slots := 0, locals := 0 } : Room).slots) s₁ (mkF m 0 #[.val (.ref (w 2)), .val (.ref (w 0)), .unset] []) by
    obtain ⟨s2, o, g1, g2, g3, g4⟩ := hgo
    refine ⟨s2, o, castTop (?_ : entryFrame m #[(.ref (w 2)), (.ref (w 0))] 3 = _) g1, g2, g3, g4⟩
    first | (simp [entryFrame, mkF, argsToLocals, Value.category]; done) | rfl
  refine Go.on (T' := s₁) (g' := (mkF m 1 #[.val (.ref (w 2)), .val (.ref (w 0)), .unset] [(.ref (w 2))])) (fun t k => XS.aloadN X0.here hx rfl (hb hby d2_0) rfl rfl k) ?_
  refine Go.on (T' := s₁) (g' := (mkF m 4 #[.val (.ref (w 2)), .val (.ref (w 0)), .unset] [])) (fun t k => XS.ifnullNo X0.here hx rfl (hb hby d2_1) rfl k) ?_
  refine Go.on (T' := s₁) (g' := (mkF m 5 #[.val (.ref (w 2)), .val (.ref (w 0)), .unset] [(.ref (w 2))])) (fun t k => XS.aloadN X0.here hx rfl (hb hby d2_4) rfl rfl k) ?_
  obtain ⟨T131, X131, e131, st131⟩ := getF X0 hx hZ hown (host := "") (Or.inl (hw _ (List.mem_of_getElem? (i := 10) rfl))) Via.refl e0 (pin_8 hP) (g := (mkF m 5 #[.val (.ref (w 2)), .val (.ref (w 0)), .unset] [(.ref (w 2))])) rfl rfl (hb hby d2_5)
  refine Go.on (T' := T131) (g' := (mkF m 8 #[.val (.ref (w 2)), .val (.ref (w 0)), .unset] [.null])) st131 ?_
  refine Go.on (T' := T131) (g' := (mkF m 16 #[.val (.ref (w 2)), .val (.ref (w 0)), .unset] [])) (fun t k => XS.ifnullYes X131.here hx rfl (pc0 := 8) (pc' := 16) rfl (hb hby d2_8) rfl (by decide) (by decide) k) ?_
  refine Go.on (T' := T131) (g' := (mkF m 17 #[.val (.ref (w 2)), .val (.ref (w 0)), .unset] [(.ref (w 0))])) (fun t k => XS.aloadN X131.here hx rfl (hb hby d2_16) rfl rfl k) ?_
  refine Go.on (T' := T131) (g' := (mkF m 20 #[.val (.ref (w 2)), .val (.ref (w 0)), .unset] [])) (fun t k => XS.ifnullNo X131.here hx rfl (hb hby d2_17) rfl k) ?_
  refine Go.on (T' := T131) (g' := (mkF m 21 #[.val (.ref (w 2)), .val (.ref (w 0)), .unset] [(.ref (w 0))])) (fun t k => XS.aloadN X131.here hx rfl (hb hby d2_20) rfl rfl k) ?_
  obtain ⟨T132, X132, e132, st132⟩ := getF X131 hx hZ hown (host := "") (Or.inl (hw _ (List.mem_of_getElem? (i := 10) rfl))) Via.refl e131 (pin_7 hP) (g := (mkF m 21 #[.val (.ref (w 2)), .val (.ref (w 0)), .unset] [(.ref (w 0))])) rfl rfl (hb hby d2_21)
  refine Go.on (T' := T132) (g' := (mkF m 24 #[.val (.ref (w 2)), .val (.ref (w 0)), .unset] [(.ref (w 1))])) st132 ?_
  refine Go.on (T' := T132) (g' := (mkF m 27 #[.val (.ref (w 2)), .val (.ref (w 0)), .unset] [])) (fun t k => XS.ifnullNo X132.here hx rfl (hb hby d2_24) rfl k) ?_
  refine Go.on (T' := T132) (g' := (mkF m 28 #[.val (.ref (w 2)), .val (.ref (w 0)), .unset] [(.ref (w 0))])) (fun t k => XS.aloadN X132.here hx rfl (hb hby d2_27) rfl rfl k) ?_
  refine Go.on (T' := T132) (g' := (mkF m 29 #[.val (.ref (w 2)), .val (.ref (w 0)), .val (.ref (w 0))] [])) (fun t k => XS.astoreN X132.here hx rfl (hb hby d2_28) rfl rfl (l' := #[.val (.ref (w 2)), .val (.ref (w 0)), .val (.ref (w 0))]) rfl k) ?_
  refine Go.on (T' := T132) (g' := (mkF m 36 #[.val (.ref (w 2)), .val (.ref (w 0)), .val (.ref (w 0))] [])) (fun t k => XS.goto X132.here hx rfl (pc0 := 29) (pc' := 36) rfl (hb hby d2_29) (by decide) (by decide) k) ?_
  refine Go.on (T' := T132) (g' := (mkF m 37 #[.val (.ref (w 2)), .val (.ref (w 0)), .val (.ref (w 0))] [(.ref (w 0))])) (fun t k => XS.aloadN X132.here hx rfl (hb hby d2_36) rfl rfl k) ?_
  obtain ⟨fs, hr, hrun, hended, hW, hsame⟩ := X132.leave (v := some (.ref (w 0))) (fun h => by rw [Bd.returns] at h; cases h)
  exact ⟨_, _, retOut X132 hx Bd.returns rfl (Or.inr (Or.inr (Or.inr (Or.inr ⟨rfl, rfl, rfl⟩)))) (hb hby d2_37) hr, hrun, hended, _, _, rfl, ⟨rfl, N0, e132⟩, ⟨_, rfl⟩, hW, hsame.mono (by decide) (by decide)⟩
theorem d2_11 : decode prog_1_method_7_code 11 = .ok (.aload_n 0, 1) := by decide +kernel
theorem d2_12 : decode prog_1_method_7_code 12 = .ok (.astore_n 2, 1) := by decide +kernel
theorem d2_13 : decode prog_1_method_7_code 13 = .ok (.goto 23, 3) := by decide +kernel
set_option maxRecDepth 65536 in
set_option maxHeartbeats 40000000 in
theorem rm2_12 (l : Launch) (Z : State) (a0 : Array Value) (hw : ∀ d ∈ tables_1, d.before a0 Z = true) (ws : List Jvm.Cond) (w : Nat → Addr) (h0 : Heap) (n0 : Nat) (Z0 : n0 ≤ h0.size) (hP : Pins Z h0 w) :
    MetFree l (⟨"com/example/rederive/rederive/ColumnType", "ofArithmetic", "(Lcom/example/rederive/rederive/ColumnType;Lcom/example/rederive/rederive/ColumnType;)Lcom/example/rederive/rederive/ColumnType;"⟩ : MethodName) (head1 (Jvm.Cond.code (⟨"com/example/rederive/rederive/ColumnType", "ofArithmetic", "(Lcom/example/rederive/rederive/ColumnType;Lcom/example/rederive/rederive/ColumnType;)Lcom/example/rederive/rederive/ColumnType;"⟩ : MethodName) prog_1_method_7_code 3 (some (.object "com/example/rederive/rederive/ColumnType")) :: ws) ({ frames := 0, cells := 0, slots := 0, locals := 0 } : Room)) (fun a U => a = #[(.ref (w 0)), .null] ∧ Z.Warmed39 U.vm ∧ U.heap = h0) (fun _ _ _ _ _ => True) (fun _ U o U' => ∃ v L, o = .returned v ∧ Qp (some (.ref (w 0))) h0 n0 v U'.heap L ∧ FrameEnd U o U' L ({ frames := 0, cells := 0, slots := 0, locals := 0 } : Room).cells ({ frames := 0, cells := 0, slots := 0, locals := 0 } : Room).slots) := by
  refine MetFree.of_bodySF (plainFor_of_name pn_1) hisR ?_
  intro p e s m args below meth c s₁ Bd hml0 hP0 hK
  obtain ⟨rfl, hZ, hh⟩ := hP0
  have hx := Bd.exec
  have hby := Bd.bytes
  have hml : c.maxLocals = 3 := hml0
  have hown : s.vm.findClass "com/example/rederive/rederive/ColumnType" = some m.cls := findClass_of_methodNamed Bd.named
  have hnm := (name_of_methodNamed Bd.named Bd.method).1
  have X0 : Stand p l e ({ frames := 0, cells := 0, slots := 0, locals := 0 } : Room) s m #[(.ref (w 0)), .null] below meth c s₁ [] 0 0 := Stand.of_body Bd
  have e0 : s₁.heap = h0 := by rw [← hh, Bd.state]; rfl
  have N0 := Fr.nil n0
  suffices hgo : Go p e below (fun o U' => ∃ v L, o = .returned v ∧ Qp (some (.ref (w 0))) h0 n0 v U'.heap L ∧ FrameEnd s o U' L ({ frames := 0, cells := 0, slots := 0, locals := 0 } : Room).cells ({ frames := 0, cells := 0, slots := 0, locals := 0 } : Room).slots) s₁ (mkF m 0 #[.val (.ref (w 0)), .val .null, .unset] []) by
    obtain ⟨s2, o, g1, g2, g3, g4⟩ := hgo
    refine ⟨s2, o, castTop (?_ : entryFrame m #[(.ref (w 0)), .null] 3 = _) g1, g2, g3, g4⟩
    first | (simp [entryFrame, mkF, argsToLocals, Value.category]; done) | rfl
  refine Go.on (T' := s₁) (g' := (mkF m 1 #[.val (.ref (w 0)), .val .null, .unset] [(.ref (w 0))])) (fun t k => XS.aloadN X0.here hx rfl (hb hby d2_0) rfl rfl k) ?_
  refine Go.on (T' := s₁) (g' := (mkF m 4 #[.val (.ref (w 0)), .val .null, .unset] [])) (fun t k => XS.ifnullNo X0.here hx rfl (hb hby d2_1) rfl k) ?_
  refine Go.on (T' := s₁) (g' := (mkF m 5 #[.val (.ref (w 0)), .val .null, .unset] [(.ref (w 0))])) (fun t k => XS.aloadN X0.here hx rfl (hb hby d2_4) rfl rfl k) ?_
  obtain ⟨T141, X141, e141, st141⟩ := getF X0 hx hZ hown (host := "") (Or.inl (hw _ (List.mem_of_getElem? (i := 10) rfl))) Via.refl e0 (pin_7 hP) (g := (mkF m 5 #[.val (.ref (w 0)), .val .null, .unset] [(.ref (w 0))])) rfl rfl (hb hby d2_5)
  refine Go.on (T' := T141) (g' := (mkF m 8 #[.val (.ref (w 0)), .val .null, .unset] [(.ref (w 1))])) st141 ?_
  refine Go.on (T' := T141) (g' := (mkF m 11 #[.val (.ref (w 0)), .val .null, .unset] [])) (fun t k => XS.ifnullNo X141.here hx rfl (hb hby d2_8) rfl k) ?_
  refine Go.on (T' := T141) (g' := (mkF m 12 #[.val (.ref (w 0)), .val .null, .unset] [(.ref (w 0))])) (fun t k => XS.aloadN X141.here hx rfl (hb hby d2_11) rfl rfl k) ?_
  refine Go.on (T' := T141) (g' := (mkF m 13 #[.val (.ref (w 0)), .val .null, .val (.ref (w 0))] [])) (fun t k => XS.astoreN X141.here hx rfl (hb hby d2_12) rfl rfl (l' := #[.val (.ref (w 0)), .val .null, .val (.ref (w 0))]) rfl k) ?_
  refine Go.on (T' := T141) (g' := (mkF m 36 #[.val (.ref (w 0)), .val .null, .val (.ref (w 0))] [])) (fun t k => XS.goto X141.here hx rfl (pc0 := 13) (pc' := 36) rfl (hb hby d2_13) (by decide) (by decide) k) ?_
  refine Go.on (T' := T141) (g' := (mkF m 37 #[.val (.ref (w 0)), .val .null, .val (.ref (w 0))] [(.ref (w 0))])) (fun t k => XS.aloadN X141.here hx rfl (hb hby d2_36) rfl rfl k) ?_
  obtain ⟨fs, hr, hrun, hended, hW, hsame⟩ := X141.leave (v := some (.ref (w 0))) (fun h => by rw [Bd.returns] at h; cases h)
  exact ⟨_, _, retOut X141 hx Bd.returns rfl (Or.inr (Or.inr (Or.inr (Or.inr ⟨rfl, rfl, rfl⟩)))) (hb hby d2_37) hr, hrun, hended, _, _, rfl, ⟨rfl, N0, e141⟩, ⟨_, rfl⟩, hW, hsame.mono (by decide) (by decide)⟩
set_option maxRecDepth 65536 in
set_option maxHeartbeats 40000000 in
theorem rm2_13 (l : Launch) (Z : State) (a0 : Array Value) (hw : ∀ d ∈ tables_1, d.before a0 Z = true) (ws : List Jvm.Cond) (w : Nat → Addr) (h0 : Heap) (n0 : Nat) (Z0 : n0 ≤ h0.size) (hP : Pins Z h0 w) :
    MetFree l (⟨"com/example/rederive/rederive/ColumnType", "ofArithmetic", "(Lcom/example/rederive/rederive/ColumnType;Lcom/example/rederive/rederive/ColumnType;)Lcom/example/rederive/rederive/ColumnType;"⟩ : MethodName) (head1 (Jvm.Cond.code (⟨"com/example/rederive/rederive/ColumnType", "ofArithmetic", "(Lcom/example/rederive/rederive/ColumnType;Lcom/example/rederive/rederive/ColumnType;)Lcom/example/rederive/rederive/ColumnType;"⟩ : MethodName) prog_1_method_7_code 3 (some (.object "com/example/rederive/rederive/ColumnType")) :: ws) ({ frames := 0, cells := 0, slots := 0, locals := 0 } : Room)) (fun a U => a = #[(.ref (w 0)), (.ref (w 3))] ∧ Z.Warmed39 U.vm ∧ U.heap = h0) (fun _ _ _ _ _ => True) (fun _ U o U' => ∃ v L, o = .returned v ∧ Qp (some (.ref (w 0))) h0 n0 v U'.heap L ∧ FrameEnd U o U' L ({ frames := 0, cells := 0, slots := 0, locals := 0 } : Room).cells ({ frames := 0, cells := 0, slots := 0, locals := 0 } : Room).slots) := by
  refine MetFree.of_bodySF (plainFor_of_name pn_1) hisR ?_
  intro p e s m args below meth c s₁ Bd hml0 hP0 hK
  obtain ⟨rfl, hZ, hh⟩ := hP0
  have hx := Bd.exec
  have hby := Bd.bytes
  have hml : c.maxLocals = 3 := hml0
  have hown : s.vm.findClass "com/example/rederive/rederive/ColumnType" = some m.cls := findClass_of_methodNamed Bd.named
  have hnm := (name_of_methodNamed Bd.named Bd.method).1
  have X0 : Stand p l e ({ frames := 0, cells := 0, slots := 0, locals := 0 } : Room) s m #[(.ref (w 0)), (.ref (w 3))] below meth c s₁ [] 0 0 := Stand.of_body Bd
  have e0 : s₁.heap = h0 := by rw [← hh, Bd.state]; rfl
  have N0 := Fr.nil n0
  suffices hgo : Go p e below (fun o U' => ∃ v L, o = .returned v ∧ Qp (some (.ref (w 0))) h0 n0 v U'.heap L ∧ FrameEnd s o U' L ({ frames := 0, cells := 0, slots := 0, locals := 0 } : Room).cells ({ frames := 0, cells := 0, slots := 0, locals := 0 } : Room).slots) s₁ (mkF m 0 #[.val (.ref (w 0)), .val (.ref (w 3)), .unset] []) by
    obtain ⟨s2, o, g1, g2, g3, g4⟩ := hgo
    refine ⟨s2, o, castTop (?_ : entryFrame m #[(.ref (w 0)), (.ref (w 3))] 3 = _) g1, g2, g3, g4⟩
    first | (simp [entryFrame, mkF, argsToLocals, Value.category]; done) | rfl
  refine Go.on (T' := s₁) (g' := (mkF m 1 #[.val (.ref (w 0)), .val (.ref (w 3)), .unset] [(.ref (w 0))])) (fun t k => XS.aloadN X0.here hx rfl (hb hby d2_0) rfl rfl k) ?_
  refine Go.on (T' := s₁) (g' := (mkF m 4 #[.val (.ref (w 0)), .val (.ref (w 3)), .unset] [])) (fun t k => XS.ifnullNo X0.here hx rfl (hb hby d2_1) rfl k) ?_
  refine Go.on (T' := s₁) (g' := (mkF m 5 #[.val (.ref (w 0)), .val (.ref (w 3)), .unset] [(.ref (w 0))])) (fun t k => XS.aloadN X0.here hx rfl (hb hby d2_4) rfl rfl k) ?_
  obtain ⟨T148, X148, e148, st148⟩ := getF X0 hx hZ hown (host := "") (Or.inl (hw _ (List.mem_of_getElem? (i := 10) rfl))) Via.refl e0 (pin_7 hP) (g := (mkF m 5 #[.val (.ref (w 0)), .val (.ref (w 3)), .unset] [(.ref (w 0))])) rfl rfl (hb hby d2_5)
  refine Go.on (T' := T148) (g' := (mkF m 8 #[.val (.ref (w 0)), .val (.ref (w 3)), .unset] [(.ref (w 1))])) st148 ?_
  refine Go.on (T' := T148) (g' := (mkF m 11 #[.val (.ref (w 0)), .val (.ref (w 3)), .unset] [])) (fun t k => XS.ifnullNo X148.here hx rfl (hb hby d2_8) rfl k) ?_
  refine Go.on (T' := T148) (g' := (mkF m 12 #[.val (.ref (w 0)), .val (.ref (w 3)), .unset] [(.ref (w 0))])) (fun t k => XS.aloadN X148.here hx rfl (hb hby d2_11) rfl rfl k) ?_
  refine Go.on (T' := T148) (g' := (mkF m 13 #[.val (.ref (w 0)), .val (.ref (w 3)), .val (.ref (w 0))] [])) (fun t k => XS.astoreN X148.here hx rfl (hb hby d2_12) rfl rfl (l' := #[.val (.ref (w 0)), .val (.ref (w 3)), .val (.ref (w 0))]) rfl k) ?_
  refine Go.on (T' := T148) (g' := (mkF m 36 #[.val (.ref (w 0)), .val (.ref (w 3)), .val (.ref (w 0))] [])) (fun t k => XS.goto X148.here hx rfl (pc0 := 13) (pc' := 36) rfl (hb hby d2_13) (by decide) (by decide) k) ?_
  refine Go.on (T' := T148) (g' := (mkF m 37 #[.val (.ref (w 0)), .val (.ref (w 3)), .val (.ref (w 0))] [(.ref (w 0))])) (fun t k => XS.aloadN X148.here hx rfl (hb hby d2_36) rfl rfl k) ?_
  obtain ⟨fs, hr, hrun, hended, hW, hsame⟩ := X148.leave (v := some (.ref (w 0))) (fun h => by rw [Bd.returns] at h; cases h)
  exact ⟨_, _, retOut X148 hx Bd.returns rfl (Or.inr (Or.inr (Or.inr (Or.inr ⟨rfl, rfl, rfl⟩)))) (hb hby d2_37) hr, hrun, hended, _, _, rfl, ⟨rfl, N0, e148⟩, ⟨_, rfl⟩, hW, hsame.mono (by decide) (by decide)⟩
set_option maxRecDepth 65536 in
set_option maxHeartbeats 40000000 in
theorem rm2_14 (l : Launch) (Z : State) (a0 : Array Value) (hw : ∀ d ∈ tables_1, d.before a0 Z = true) (ws : List Jvm.Cond) (w : Nat → Addr) (h0 : Heap) (n0 : Nat) (Z0 : n0 ≤ h0.size) (hP : Pins Z h0 w) :
    MetFree l (⟨"com/example/rederive/rederive/ColumnType", "ofArithmetic", "(Lcom/example/rederive/rederive/ColumnType;Lcom/example/rederive/rederive/ColumnType;)Lcom/example/rederive/rederive/ColumnType;"⟩ : MethodName) (head1 (Jvm.Cond.code (⟨"com/example/rederive/rederive/ColumnType", "ofArithmetic", "(Lcom/example/rederive/rederive/ColumnType;Lcom/example/rederive/rederive/ColumnType;)Lcom/example/rederive/rederive/ColumnType;"⟩ : MethodName) prog_1_method_7_code 3 (some (.object "com/example/rederive/rederive/ColumnType")) :: ws) ({ frames := 0, cells := 0, slots := 0, locals := 0 } : Room)) (fun a U => a = #[(.ref (w 0)), (.ref (w 2))] ∧ Z.Warmed39 U.vm ∧ U.heap = h0) (fun _ _ _ _ _ => True) (fun _ U o U' => ∃ v L, o = .returned v ∧ Qp (some (.ref (w 0))) h0 n0 v U'.heap L ∧ FrameEnd U o U' L ({ frames := 0, cells := 0, slots := 0, locals := 0 } : Room).cells ({ frames := 0, cells := 0, slots := 0, locals := 0 } : Room).slots) := by
  refine MetFree.of_bodySF (plainFor_of_name pn_1) hisR ?_
  intro p e s m args below meth c s₁ Bd hml0 hP0 hK
  obtain ⟨rfl, hZ, hh⟩ := hP0
  have hx := Bd.exec
  have hby := Bd.bytes
  have hml : c.maxLocals = 3 := hml0
  have hown : s.vm.findClass "com/example/rederive/rederive/ColumnType" = some m.cls := findClass_of_methodNamed Bd.named
  have hnm := (name_of_methodNamed Bd.named Bd.method).1
  have X0 : Stand p l e ({ frames := 0, cells := 0, slots := 0, locals := 0 } : Room) s m #[(.ref (w 0)), (.ref (w 2))] below meth c s₁ [] 0 0 := Stand.of_body Bd
  have e0 : s₁.heap = h0 := by rw [← hh, Bd.state]; rfl
  have N0 := Fr.nil n0
  suffices hgo : Go p e below (fun o U' => ∃ v L, o = .returned v ∧ Qp (some (.ref (w 0))) h0 n0 v U'.heap L ∧ FrameEnd s o U' L ({ frames := 0, cells := 0, slots := 0, locals := 0 } : Room).cells ({ frames := 0, cells := 0, slots := 0, locals := 0 } : Room).slots) s₁ (mkF m 0 #[.val (.ref (w 0)), .val (.ref (w 2)), .unset] []) by
    obtain ⟨s2, o, g1, g2, g3, g4⟩ := hgo
    refine ⟨s2, o, castTop (?_ : entryFrame m #[(.ref (w 0)), (.ref (w 2))] 3 = _) g1, g2, g3, g4⟩
    first | (simp [entryFrame, mkF, argsToLocals, Value.category]; done) | rfl
  refine Go.on (T' := s₁) (g' := (mkF m 1 #[.val (.ref (w 0)), .val (.ref (w 2)), .unset] [(.ref (w 0))])) (fun t k => XS.aloadN X0.here hx rfl (hb hby d2_0) rfl rfl k) ?_
  refine Go.on (T' := s₁) (g' := (mkF m 4 #[.val (.ref (w 0)), .val (.ref (w 2)), .unset] [])) (fun t k => XS.ifnullNo X0.here hx rfl (hb hby d2_1) rfl k) ?_
  refine Go.on (T' := s₁) (g' := (mkF m 5 #[.val (.ref (w 0)), .val (.ref (w 2)), .unset] [(.ref (w 0))])) (fun t k => XS.aloadN X0.here hx rfl (hb hby d2_4) rfl rfl k) ?_
  obtain ⟨T155, X155, e155, st155⟩ := getF X0 hx hZ hown (host := "") (Or.inl (hw _ (List.mem_of_getElem? (i := 10) rfl))) Via.refl e0 (pin_7 hP) (g := (mkF m 5 #[.val (.ref (w 0)), .val (.ref (w 2)), .unset] [(.ref (w 0))])) rfl rfl (hb hby d2_5)
  refine Go.on (T' := T155) (g' := (mkF m 8 #[.val (.ref (w 0)), .val (.ref (w 2)), .unset] [(.ref (w 1))])) st155 ?_
  refine Go.on (T' := T155) (g' := (mkF m 11 #[.val (.ref (w 0)), .val (.ref (w 2)), .unset] [])) (fun t k => XS.ifnullNo X155.here hx rfl (hb hby d2_8) rfl k) ?_
  refine Go.on (T' := T155) (g' := (mkF m 12 #[.val (.ref (w 0)), .val (.ref (w 2)), .unset] [(.ref (w 0))])) (fun t k => XS.aloadN X155.here hx rfl (hb hby d2_11) rfl rfl k) ?_
  refine Go.on (T' := T155) (g' := (mkF m 13 #[.val (.ref (w 0)), .val (.ref (w 2)), .val (.ref (w 0))] [])) (fun t k => XS.astoreN X155.here hx rfl (hb hby d2_12) rfl rfl (l' := #[.val (.ref (w 0)), .val (.ref (w 2)), .val (.ref (w 0))]) rfl k) ?_
  refine Go.on (T' := T155) (g' := (mkF m 36 #[.val (.ref (w 0)), .val (.ref (w 2)), .val (.ref (w 0))] [])) (fun t k => XS.goto X155.here hx rfl (pc0 := 13) (pc' := 36) rfl (hb hby d2_13) (by decide) (by decide) k) ?_
  refine Go.on (T' := T155) (g' := (mkF m 37 #[.val (.ref (w 0)), .val (.ref (w 2)), .val (.ref (w 0))] [(.ref (w 0))])) (fun t k => XS.aloadN X155.here hx rfl (hb hby d2_36) rfl rfl k) ?_
  obtain ⟨fs, hr, hrun, hended, hW, hsame⟩ := X155.leave (v := some (.ref (w 0))) (fun h => by rw [Bd.returns] at h; cases h)
  exact ⟨_, _, retOut X155 hx Bd.returns rfl (Or.inr (Or.inr (Or.inr (Or.inr ⟨rfl, rfl, rfl⟩)))) (hb hby d2_37) hr, hrun, hended, _, _, rfl, ⟨rfl, N0, e155⟩, ⟨_, rfl⟩, hW, hsame.mono (by decide) (by decide)⟩
set_option maxRecDepth 65536 in
set_option maxHeartbeats 40000000 in
theorem rm2_15 (l : Launch) (Z : State) (a0 : Array Value) (hw : ∀ d ∈ tables_1, d.before a0 Z = true) (ws : List Jvm.Cond) (w : Nat → Addr) (h0 : Heap) (n0 : Nat) (Z0 : n0 ≤ h0.size) (hP : Pins Z h0 w) :
    MetFree l (⟨"com/example/rederive/rederive/ColumnType", "ofArithmetic", "(Lcom/example/rederive/rederive/ColumnType;Lcom/example/rederive/rederive/ColumnType;)Lcom/example/rederive/rederive/ColumnType;"⟩ : MethodName) (head1 (Jvm.Cond.code (⟨"com/example/rederive/rederive/ColumnType", "ofArithmetic", "(Lcom/example/rederive/rederive/ColumnType;Lcom/example/rederive/rederive/ColumnType;)Lcom/example/rederive/rederive/ColumnType;"⟩ : MethodName) prog_1_method_7_code 3 (some (.object "com/example/rederive/rederive/ColumnType")) :: ws) ({ frames := 0, cells := 0, slots := 0, locals := 0 } : Room)) (fun a U => a = #[(.ref (w 0)), (.ref (w 0))] ∧ Z.Warmed39 U.vm ∧ U.heap = h0) (fun _ _ _ _ _ => True) (fun _ U o U' => ∃ v L, o = .returned v ∧ Qp (some (.ref (w 0))) h0 n0 v U'.heap L ∧ FrameEnd U o U' L ({ frames := 0, cells := 0, slots := 0, locals := 0 } : Room).cells ({ frames := 0, cells := 0, slots := 0, locals := 0 } : Room).slots) := by
  refine MetFree.of_bodySF (plainFor_of_name pn_1) hisR ?_
  intro p e s m args below meth c s₁ Bd hml0 hP0 hK
  obtain ⟨rfl, hZ, hh⟩ := hP0
  have hx := Bd.exec
  have hby := Bd.bytes
  have hml : c.maxLocals = 3 := hml0
  have hown : s.vm.findClass "com/example/rederive/rederive/ColumnType" = some m.cls := findClass_of_methodNamed Bd.named
  have hnm := (name_of_methodNamed Bd.named Bd.method).1
  have X0 : Stand p l e ({ frames := 0, cells := 0, slots := 0, locals := 0 } : Room) s m #[(.ref (w 0)), (.ref (w 0))] below meth c s₁ [] 0 0 := Stand.of_body Bd
  have e0 : s₁.heap = h0 := by rw [← hh, Bd.state]; rfl
  have N0 := Fr.nil n0
  suffices hgo : Go p e below (fun o U' => ∃ v L, o = .returned v ∧ Qp (some (.ref (w 0))) h0 n0 v U'.heap L ∧ FrameEnd s o U' L ({ frames := 0, cells := 0, slots := 0, locals := 0 } : Room).cells ({ frames := 0, cells := 0, slots := 0, locals := 0 } : Room).slots) s₁ (mkF m 0 #[.val (.ref (w 0)), .val (.ref (w 0)), .unset] []) by
    obtain ⟨s2, o, g1, g2, g3, g4⟩ := hgo
    refine ⟨s2, o, castTop (?_ : entryFrame m #[(.ref (w 0)), (.ref (w 0))] 3 = _) g1, g2, g3, g4⟩
    first | (simp [entryFrame, mkF, argsToLocals, Value.category]; done) | rfl
  refine Go.on (T' := s₁) (g' := (mkF m 1 #[.val (.ref (w 0)), .val (.ref (w 0)), .unset] [(.ref (w 0))])) (fun t k => XS.aloadN X0.here hx rfl (hb hby d2_0) rfl rfl k) ?_
  refine Go.on (T' := s₁) (g' := (mkF m 4 #[.val (.ref (w 0)), .val (.ref (w 0)), .unset] [])) (fun t k => XS.ifnullNo X0.here hx rfl (hb hby d2_1) rfl k) ?_
  refine Go.on (T' := s₁) (g' := (mkF m 5 #[.val (.ref (w 0)), .val (.ref (w 0)), .unset] [(.ref (w 0))])) (fun t k => XS.aloadN X0.here hx rfl (hb hby d2_4) rfl rfl k) ?_
  obtain ⟨T161, X161, e161, st161⟩ := getF X0 hx hZ hown (host := "") (Or.inl (hw _ (List.mem_of_getElem? (i := 10) rfl))) Via.refl e0 (pin_7 hP) (g := (mkF m 5 #[.val (.ref (w 0)), .val (.ref (w 0)), .unset] [(.ref (w 0))])) rfl rfl (hb hby d2_5)
  refine Go.on (T' := T161) (g' := (mkF m 8 #[.val (.ref (w 0)), .val (.ref (w 0)), .unset] [(.ref (w 1))])) st161 ?_
  refine Go.on (T' := T161) (g' := (mkF m 11 #[.val (.ref (w 0)), .val (.ref (w 0)), .unset] [])) (fun t k => XS.ifnullNo X161.here hx rfl (hb hby d2_8) rfl k) ?_
  refine Go.on (T' := T161) (g' := (mkF m 12 #[.val (.ref (w 0)), .val (.ref (w 0)), .unset] [(.ref (w 0))])) (fun t k => XS.aloadN X161.here hx rfl (hb hby d2_11) rfl rfl k) ?_
  refine Go.on (T' := T161) (g' := (mkF m 13 #[.val (.ref (w 0)), .val (.ref (w 0)), .val (.ref (w 0))] [])) (fun t k => XS.astoreN X161.here hx rfl (hb hby d2_12) rfl rfl (l' := #[.val (.ref (w 0)), .val (.ref (w 0)), .val (.ref (w 0))]) rfl k) ?_
  refine Go.on (T' := T161) (g' := (mkF m 36 #[.val (.ref (w 0)), .val (.ref (w 0)), .val (.ref (w 0))] [])) (fun t k => XS.goto X161.here hx rfl (pc0 := 13) (pc' := 36) rfl (hb hby d2_13) (by decide) (by decide) k) ?_
  refine Go.on (T' := T161) (g' := (mkF m 37 #[.val (.ref (w 0)), .val (.ref (w 0)), .val (.ref (w 0))] [(.ref (w 0))])) (fun t k => XS.aloadN X161.here hx rfl (hb hby d2_36) rfl rfl k) ?_
  obtain ⟨fs, hr, hrun, hended, hW, hsame⟩ := X161.leave (v := some (.ref (w 0))) (fun h => by rw [Bd.returns] at h; cases h)
  exact ⟨_, _, retOut X161 hx Bd.returns rfl (Or.inr (Or.inr (Or.inr (Or.inr ⟨rfl, rfl, rfl⟩)))) (hb hby d2_37) hr, hrun, hended, _, _, rfl, ⟨rfl, N0, e161⟩, ⟨_, rfl⟩, hW, hsame.mono (by decide) (by decide)⟩
set_option maxRecDepth 65536 in
set_option maxHeartbeats 40000000 in
theorem rm0 (l : Launch) (Z : State) (a0 : Array Value) (hw : ∀ d ∈ tables_1, d.before a0 Z = true) (ws : List Jvm.Cond) (w : Nat → Addr) (h0 : Heap) (n0 : Nat) (Z0 : n0 ≤ h0.size) (hP : Pins Z h0 w) (i0 : Int32) (i1 : Int32) :
    MetFree l x (head1 (Jvm.Cond.code x code maxLocals ret :: ws) room_1) (fun a U => a = #[(.int i0), (.int i1)] ∧ Z.Warmed39 U.vm ∧ U.heap = h0) (fun _ _ _ _ _ => True) (fun _ U o U' => ∃ v L, o = .returned v ∧ Ql (some (.int (1 : Int32))) n0 v L ∧ FrameEnd U o U' L 0 0) := by
  refine MetFree.of_bodySF (plainFor_of_name pn_0) hisR ?_
  intro p e s m args below meth c s₁ Bd hml0 hP0 hK
  obtain ⟨rfl, hZ, hh⟩ := hP0
  have hx := Bd.exec
  have hby := Bd.bytes
  have hml : c.maxLocals = 6 := hml0
  have hown : s.vm.findClass "com/example/rederive/rederive/ColumnTypeOfArithmeticPinLaw" = some m.cls := findClass_of_methodNamed Bd.named
  have hnm := (name_of_methodNamed Bd.named Bd.method).1
  have X0 : Stand p l e room_1 s m #[(.int i0), (.int i1)] below meth c s₁ [] 0 0 := Stand.of_body Bd
  have e0 : s₁.heap = h0 := by rw [← hh, Bd.state]; rfl
  have N0 := Fr.nil n0
  suffices hgo : Go p e below (fun o U' => ∃ v L, o = .returned v ∧ Ql (some (.int (1 : Int32))) n0 v L ∧ FrameEnd s o U' L 0 0) s₁ (mkF m 0 #[.val (.int i0), .val (.int i1), .unset, .unset, .unset, .unset] []) by
    obtain ⟨s2, o, g1, g2, g3, g4⟩ := hgo
    refine ⟨s2, o, castTop (?_ : entryFrame m #[(.int i0), (.int i1)] maxLocals = _) g1, g2, g3, g4⟩
    first | (simp [entryFrame, mkF, argsToLocals, Value.category, maxLocals]; done) | rfl
  refine Go.on (T' := s₁) (g' := (mkF m 1 #[.val (.int i0), .val (.int i1), .unset, .unset, .unset, .unset] [(.int i0)])) (fun t k => XS.iloadN X0.here hx rfl (hb hby at_0) rfl k) ?_
  by_cases h7 : (i0 &&& (3 : Int32)) = (0 : Int32)
  · skip
    obtain ⟨_, _, ⟨T8, L8, k8, n8⟩, -, X8, ⟨Lc8, hQ8, l8, y8, z8⟩, st8⟩ := Jvm.LawKit.callS X0 hx (y := (⟨"com/example/rederive/rederive/ColumnTypeOfArithmeticPinLaw", "pick", "(I)Lcom/example/rederive/rederive/ColumnType;"⟩ : MethodName)) hown (mvT hZ (hw _ (List.mem_of_getElem? (i := 0) rfl))) (mvT hZ (hw _ (List.mem_of_getElem? (i := 1) rfl))) (mvT hZ (hw _ (List.mem_of_getElem? (i := 2) rfl))) (mvT hZ (hw _ (List.mem_of_getElem? (i := 3) rfl))) (by decide) (backOf (W := 0) (rm1_0 l Z a0 hw [] w h0 n0 (Nat.le_trans Z0 (own_ext0 h0).1) hP i0 h7) hZ (hw _ (List.mem_of_getElem? (i := 3) rfl)) (hw _ (List.mem_of_getElem? (i := 2) rfl)) (by decide) (by decide)) (g := (mkF m 1 #[.val (.int i0), .val (.int i1), .unset, .unset, .unset, .unset] [(.int i0)])) rfl (by rw [hml]; rfl) (argsL := [(.int i0)]) (rest := []) (lenOf pd_0 rfl) rfl (by show 2 * 0 + _ ≤ _; exact Nat.le_of_eq rfl) (hb hby at_1) (fun _ _ => ⟨rfl, e0, (by decide : 0 + 0 ≤ _), (by decide : 0 + 0 ≤ _)⟩)
    dsimp only [Pt.U, Pt.locs, Pt.cells, Pt.slots] at X8 l8 y8 z8 st8 hQ8
    subst l8 y8 z8
    obtain ⟨rfl, N8q, e8⟩ := hQ8
    have N8 := Fr.app N0 N8q
    refine Go.on (T' := T8) (g' := (mkF m 4 #[.val (.int i0), .val (.int i1), .unset, .unset, .unset, .unset] [.null])) st8 ?_
    refine Go.on (T' := T8) (g' := (mkF m 5 #[.val (.int i0), .val (.int i1), .val .null, .unset, .unset, .unset] [])) (fun t k => XS.astoreN X8.here hx rfl (hb hby at_4) rfl rfl (l' := #[.val (.int i0), .val (.int i1), .val .null, .unset, .unset, .unset]) rfl k) ?_
    refine Go.on (T' := T8) (g' := (mkF m 6 #[.val (.int i0), .val (.int i1), .val .null, .unset, .unset, .unset] [(.int i1)])) (fun t k => XS.iloadN X8.here hx rfl (hb hby at_5) rfl k) ?_
    by_cases h9 : (i1 &&& (3 : Int32)) = (0 : Int32)
    · skip
      obtain ⟨_, _, ⟨T10, L10, k10, n10⟩, -, X10, ⟨Lc10, hQ10, l10, y10, z10⟩, st10⟩ := Jvm.LawKit.callS X8 hx (y := (⟨"com/example/rederive/rederive/ColumnTypeOfArithmeticPinLaw", "pick", "(I)Lcom/example/rederive/rederive/ColumnType;"⟩ : MethodName)) hown (mvT hZ (hw _ (List.mem_of_getElem? (i := 0) rfl))) (mvT hZ (hw _ (List.mem_of_getElem? (i := 1) rfl))) (mvT hZ (hw _ (List.mem_of_getElem? (i := 2) rfl))) (mvT hZ (hw _ (List.mem_of_getElem? (i := 3) rfl))) (by decide) (backOf (W := 0) (rm1_0 l Z a0 hw [] w h0 n0 (Nat.le_trans Z0 (own_ext0 h0).1) hP i1 h9) hZ (hw _ (List.mem_of_getElem? (i := 3) rfl)) (hw _ (List.mem_of_getElem? (i := 2) rfl)) (by decide) (by decide)) (g := (mkF m 6 #[.val (.int i0), .val (.int i1), .val .null, .unset, .unset, .unset] [(.int i1)])) rfl (by rw [hml]; rfl) (argsL := [(.int i1)]) (rest := []) (lenOf pd_0 rfl) rfl (by show 2 * 0 + _ ≤ _; exact Nat.le_of_eq rfl) (hb hby at_6) (fun _ _ => ⟨rfl, e8, (by decide : 0 + 0 ≤ _), (by decide : 0 + 0 ≤ _)⟩)
      dsimp only [Pt.U, Pt.locs, Pt.cells, Pt.slots] at X10 l10 y10 z10 st10 hQ10
      subst l10 y10 z10
      obtain ⟨rfl, N10q, e10⟩ := hQ10
      have N10 := Fr.app N8 N10q
      refine Go.on (T' := T10) (g' := (mkF m 9 #[.val (.int i0), .val (.int i1), .val .null, .unset, .unset, .unset] [.null])) st10 ?_
      refine Go.on (T' := T10) (g' := (mkF m 10 #[.val (.int i0), .val (.int i1), .val .null, .val .null, .unset, .unset] [])) (fun t k => XS.astoreN X10.here hx rfl (hb hby at_9) rfl rfl (l' := #[.val (.int i0), .val (.int i1), .val .null, .val .null, .unset, .unset]) rfl k) ?_
      refine Go.on (T' := T10) (g' := (mkF m 11 #[.val (.int i0), .val (.int i1), .val .null, .val .null, .unset, .unset] [.null])) (fun t k => XS.aloadN X10.here hx rfl (hb hby at_10) rfl rfl k) ?_
      refine Go.on (T' := T10) (g' := (mkF m 12 #[.val (.int i0), .val (.int i1), .val .null, .val .null, .unset, .unset] [.null, .null])) (fun t k => XS.aloadN X10.here hx rfl (hb hby at_11) rfl rfl k) ?_
      obtain ⟨_, _, ⟨T13, L13, k13, n13⟩, -, X13, ⟨Lc13, hQ13, l13, y13, z13⟩, st13⟩ := Jvm.LawKit.callS X10 hx (y := (⟨"com/example/rederive/rederive/ColumnType", "ofArithmetic", "(Lcom/example/rederive/rederive/ColumnType;Lcom/example/rederive/rederive/ColumnType;)Lcom/example/rederive/rederive/ColumnType;"⟩ : MethodName)) hown (mvT hZ (hw _ (List.mem_of_getElem? (i := 7) rfl))) (mvT hZ (hw _ (List.mem_of_getElem? (i := 8) rfl))) (mvT hZ (hw _ (List.mem_of_getElem? (i := 5) rfl))) (mvT hZ (hw _ (List.mem_of_getElem? (i := 9) rfl))) (by decide) (backOf (W := 0) (rm2_0 l Z a0 hw [] w h0 n0 (Nat.le_trans Z0 (own_ext0 h0).1) hP) hZ (hw _ (List.mem_of_getElem? (i := 9) rfl)) (hw _ (List.mem_of_getElem? (i := 5) rfl)) (by decide) (by decide)) (g := (mkF m 12 #[.val (.int i0), .val (.int i1), .val .null, .val .null, .unset, .unset] [.null, .null])) rfl (by rw [hml]; rfl) (argsL := [.null, .null]) (rest := []) (lenOf pd_1 rfl) rfl (by show 2 * 0 + _ ≤ _; exact Nat.le_of_eq rfl) (hb hby at_12) (fun _ _ => ⟨rfl, e10, (by decide : 0 + 0 ≤ _), (by decide : 0 + 0 ≤ _)⟩)
      dsimp only [Pt.U, Pt.locs, Pt.cells, Pt.slots] at X13 l13 y13 z13 st13 hQ13
      subst l13 y13 z13
      obtain ⟨rfl, N13q, e13⟩ := hQ13
      have N13 := Fr.app N10 N13q
      refine Go.on (T' := T13) (g' := (mkF m 15 #[.val (.int i0), .val (.int i1), .val .null, .val .null, .unset, .unset] [(.ref (w 2))])) st13 ?_
      refine Go.on (T' := T13) (g' := (mkF m 17 #[.val (.int i0), .val (.int i1), .val .null, .val .null, .val (.ref (w 2)), .unset] [])) (fun t k => XS.astore X13.here hx rfl (hb hby at_15) rfl rfl (l' := #[.val (.int i0), .val (.int i1), .val .null, .val .null, .val (.ref (w 2)), .unset]) rfl k) ?_
      refine Go.on (T' := T13) (g' := (mkF m 18 #[.val (.int i0), .val (.int i1), .val .null, .val .null, .val (.ref (w 2)), .unset] [.null])) (fun t k => XS.aloadN X13.here hx rfl (hb hby at_17) rfl rfl k) ?_
      obtain ⟨T14, X14, e14, st14⟩ := getS2 X13 hx hZ hown (host := "") (Or.inl (hw _ (List.mem_of_getElem? (i := 4) rfl))) Via.refl e13 (pin_0 hP) (g := (mkF m 18 #[.val (.int i0), .val (.int i1), .val .null, .val .null, .val (.ref (w 2)), .unset] [.null])) rfl (hb hby at_18)
      refine Go.on (T' := T14) (g' := (mkF m 21 #[.val (.int i0), .val (.int i1), .val .null, .val .null, .val (.ref (w 2)), .unset] [(.ref (w 0)), .null])) st14 ?_
      refine Go.on (T' := T14) (g' := (mkF m 32 #[.val (.int i0), .val (.int i1), .val .null, .val .null, .val (.ref (w 2)), .unset] [])) (fun t k => Jvm.RoadKit.acmp (g := (mkF m 21 #[.val (.int i0), .val (.int i1), .val .null, .val .null, .val (.ref (w 2)), .unset] [(.ref (w 0)), .null])) X14 hx rfl rfl rfl (pc0 := 21) (pc' := 32) (same := false) rfl (hb hby at_21) rfl (decide_eq_false nofun) (by decide) (by decide) k) ?_
      refine Go.on (T' := T14) (g' := (mkF m 33 #[.val (.int i0), .val (.int i1), .val .null, .val .null, .val (.ref (w 2)), .unset] [.null])) (fun t k => XS.aloadN X14.here hx rfl (hb hby at_32) rfl rfl k) ?_
      obtain ⟨T15, X15, e15, st15⟩ := getS2 X14 hx hZ hown (host := "") (Or.inl (hw _ (List.mem_of_getElem? (i := 4) rfl))) Via.refl e14 (pin_0 hP) (g := (mkF m 33 #[.val (.int i0), .val (.int i1), .val .null, .val .null, .val (.ref (w 2)), .unset] [.null])) rfl (hb hby at_33)
      refine Go.on (T' := T15) (g' := (mkF m 36 #[.val (.int i0), .val (.int i1), .val .null, .val .null, .val (.ref (w 2)), .unset] [(.ref (w 0)), .null])) st15 ?_
      refine Go.on (T' := T15) (g' := (mkF m 47 #[.val (.int i0), .val (.int i1), .val .null, .val .null, .val (.ref (w 2)), .unset] [])) (fun t k => Jvm.RoadKit.acmp (g := (mkF m 36 #[.val (.int i0), .val (.int i1), .val .null, .val .null, .val (.ref (w 2)), .unset] [(.ref (w 0)), .null])) X15 hx rfl rfl rfl (pc0 := 36) (pc' := 47) (same := false) rfl (hb hby at_36) rfl (decide_eq_false nofun) (by decide) (by decide) k) ?_
      obtain ⟨T16, X16, e16, st16⟩ := getS2 X15 hx hZ hown (host := "") (Or.inl (hw _ (List.mem_of_getElem? (i := 12) rfl))) Via.refl e15 (pin_1 hP) (g := (mkF m 47 #[.val (.int i0), .val (.int i1), .val .null, .val .null, .val (.ref (w 2)), .unset] [])) rfl (hb hby at_47)
      refine Go.on (T' := T16) (g' := (mkF m 50 #[.val (.int i0), .val (.int i1), .val .null, .val .null, .val (.ref (w 2)), .unset] [(.ref (w 2))])) st16 ?_
      refine Go.on (T' := T16) (g' := (mkF m 52 #[.val (.int i0), .val (.int i1), .val .null, .val .null, .val (.ref (w 2)), .val (.ref (w 2))] [])) (fun t k => XS.astore X16.here hx rfl (hb hby at_50) rfl rfl (l' := #[.val (.int i0), .val (.int i1), .val .null, .val .null, .val (.ref (w 2)), .val (.ref (w 2))]) rfl k) ?_
      refine Go.on (T' := T16) (g' := (mkF m 54 #[.val (.int i0), .val (.int i1), .val .null, .val .null, .val (.ref (w 2)), .val (.ref (w 2))] [(.ref (w 2))])) (fun t k => XS.aload X16.here hx rfl (hb hby at_52) rfl rfl k) ?_
      refine Go.on (T' := T16) (g' := (mkF m 56 #[.val (.int i0), .val (.int i1), .val .null, .val .null, .val (.ref (w 2)), .val (.ref (w 2))] [(.ref (w 2)), (.ref (w 2))])) (fun t k => XS.aload X16.here hx rfl (hb hby at_54) rfl rfl k) ?_
      refine Go.on (T' := T16) (g' := (mkF m 59 #[.val (.int i0), .val (.int i1), .val .null, .val .null, .val (.ref (w 2)), .val (.ref (w 2))] [])) (fun t k => Jvm.RoadKit.acmp (g := (mkF m 56 #[.val (.int i0), .val (.int i1), .val .null, .val .null, .val (.ref (w 2)), .val (.ref (w 2))] [(.ref (w 2)), (.ref (w 2))])) X16 hx rfl rfl rfl (pc0 := 56) (pc' := 59) (same := true) rfl (hb hby at_56) rfl (decide_eq_true rfl) (by decide) (by decide) k) ?_
      refine Go.on (T' := T16) (g' := (mkF m 60 #[.val (.int i0), .val (.int i1), .val .null, .val .null, .val (.ref (w 2)), .val (.ref (w 2))] [(.int (1 : Int32))])) (fun t k => XS.iconst X16.here hx rfl (hb hby at_59) k) ?_
      refine Go.on (T' := T16) (g' := (mkF m 64 #[.val (.int i0), .val (.int i1), .val .null, .val .null, .val (.ref (w 2)), .val (.ref (w 2))] [(.int (1 : Int32))])) (fun t k => XS.goto X16.here hx rfl (pc0 := 60) (pc' := 64) rfl (hb hby at_60) (by decide) (by decide) k) ?_
      obtain ⟨fs, hr, hrun, hended, hW, hsame⟩ := X16.leave (v := some (.int (1 : Int32))) (fun h => by rw [Bd.returns] at h; cases h)
      exact ⟨_, _, retN X16 hx (t := .boolean) Bd.returns (by simp) (hb hby at_64) hr, hrun, hended, _, _, rfl, ⟨rfl, N13⟩, ⟨_, rfl⟩, hW, hsame.mono (by decide) (by decide)⟩
    · skip
      by_cases h17 : (i1 &&& (3 : Int32)) = (1 : Int32)
      · skip
        obtain ⟨_, _, ⟨T19, L19, k19, n19⟩, -, X19, ⟨Lc19, hQ19, l19, y19, z19⟩, st19⟩ := Jvm.LawKit.callS X8 hx (y := (⟨"com/example/rederive/rederive/ColumnTypeOfArithmeticPinLaw", "pick", "(I)Lcom/example/rederive/rederive/ColumnType;"⟩ : MethodName)) hown (mvT hZ (hw _ (List.mem_of_getElem? (i := 0) rfl))) (mvT hZ (hw _ (List.mem_of_getElem? (i := 1) rfl))) (mvT hZ (hw _ (List.mem_of_getElem? (i := 2) rfl))) (mvT hZ (hw _ (List.mem_of_getElem? (i := 3) rfl))) (by decide) (backOf (W := 0) (rm1_1 l Z a0 hw [] w h0 n0 (Nat.le_trans Z0 (own_ext0 h0).1) hP i1 h9 h17) hZ (hw _ (List.mem_of_getElem? (i := 3) rfl)) (hw _ (List.mem_of_getElem? (i := 2) rfl)) (by decide) (by decide)) (g := (mkF m 6 #[.val (.int i0), .val (.int i1), .val .null, .unset, .unset, .unset] [(.int i1)])) rfl (by rw [hml]; rfl) (argsL := [(.int i1)]) (rest := []) (lenOf pd_0 rfl) rfl (by show 2 * 0 + _ ≤ _; exact Nat.le_of_eq rfl) (hb hby at_6) (fun _ _ => ⟨rfl, e8, (by decide : 0 + 0 ≤ _), (by decide : 0 + 0 ≤ _)⟩)
        dsimp only [Pt.U, Pt.locs, Pt.cells, Pt.slots] at X19 l19 y19 z19 st19 hQ19
        subst l19 y19 z19
        obtain ⟨rfl, N19q, e19⟩ := hQ19
        have N19 := Fr.app N8 N19q
        refine Go.on (T' := T19) (g' := (mkF m 9 #[.val (.int i0), .val (.int i1), .val .null, .unset, .unset, .unset] [(.ref (w 3))])) st19 ?_
        refine Go.on (T' := T19) (g' := (mkF m 10 #[.val (.int i0), .val (.int i1), .val .null, .val (.ref (w 3)), .unset, .unset] [])) (fun t k => XS.astoreN X19.here hx rfl (hb hby at_9) rfl rfl (l' := #[.val (.int i0), .val (.int i1), .val .null, .val (.ref (w 3)), .unset, .unset]) rfl k) ?_
        refine Go.on (T' := T19) (g' := (mkF m 11 #[.val (.int i0), .val (.int i1), .val .null, .val (.ref (w 3)), .unset, .unset] [.null])) (fun t k => XS.aloadN X19.here hx rfl (hb hby at_10) rfl rfl k) ?_
        refine Go.on (T' := T19) (g' := (mkF m 12 #[.val (.int i0), .val (.int i1), .val .null, .val (.ref (w 3)), .unset, .unset] [(.ref (w 3)), .null])) (fun t k => XS.aloadN X19.here hx rfl (hb hby at_11) rfl rfl k) ?_
        obtain ⟨_, _, ⟨T24, L24, k24, n24⟩, -, X24, ⟨Lc24, hQ24, l24, y24, z24⟩, st24⟩ := Jvm.LawKit.callS X19 hx (y := (⟨"com/example/rederive/rederive/ColumnType", "ofArithmetic", "(Lcom/example/rederive/rederive/ColumnType;Lcom/example/rederive/rederive/ColumnType;)Lcom/example/rederive/rederive/ColumnType;"⟩ : MethodName)) hown (mvT hZ (hw _ (List.mem_of_getElem? (i := 7) rfl))) (mvT hZ (hw _ (List.mem_of_getElem? (i := 8) rfl))) (mvT hZ (hw _ (List.mem_of_getElem? (i := 5) rfl))) (mvT hZ (hw _ (List.mem_of_getElem? (i := 9) rfl))) (by decide) (backOf (W := 0) (rm2_1 l Z a0 hw [] w h0 n0 (Nat.le_trans Z0 (own_ext0 h0).1) hP) hZ (hw _ (List.mem_of_getElem? (i := 9) rfl)) (hw _ (List.mem_of_getElem? (i := 5) rfl)) (by decide) (by decide)) (g := (mkF m 12 #[.val (.int i0), .val (.int i1), .val .null, .val (.ref (w 3)), .unset, .unset] [(.ref (w 3)), .null])) rfl (by rw [hml]; rfl) (argsL := [.null, (.ref (w 3))]) (rest := []) (lenOf pd_1 rfl) rfl (by show 2 * 0 + _ ≤ _; exact Nat.le_of_eq rfl) (hb hby at_12) (fun _ _ => ⟨rfl, e19, (by decide : 0 + 0 ≤ _), (by decide : 0 + 0 ≤ _)⟩)
        dsimp only [Pt.U, Pt.locs, Pt.cells, Pt.slots] at X24 l24 y24 z24 st24 hQ24
        subst l24 y24 z24
        obtain ⟨rfl, N24q, e24⟩ := hQ24
        have N24 := Fr.app N19 N24q
        refine Go.on (T' := T24) (g' := (mkF m 15 #[.val (.int i0), .val (.int i1), .val .null, .val (.ref (w 3)), .unset, .unset] [(.ref (w 2))])) st24 ?_
        refine Go.on (T' := T24) (g' := (mkF m 17 #[.val (.int i0), .val (.int i1), .val .null, .val (.ref (w 3)), .val (.ref (w 2)), .unset] [])) (fun t k => XS.astore X24.here hx rfl (hb hby at_15) rfl rfl (l' := #[.val (.int i0), .val (.int i1), .val .null, .val (.ref (w 3)), .val (.ref (w 2)), .unset]) rfl k) ?_
        refine Go.on (T' := T24) (g' := (mkF m 18 #[.val (.int i0), .val (.int i1), .val .null, .val (.ref (w 3)), .val (.ref (w 2)), .unset] [.null])) (fun t k => XS.aloadN X24.here hx rfl (hb hby at_17) rfl rfl k) ?_
        obtain ⟨T25, X25, e25, st25⟩ := getS2 X24 hx hZ hown (host := "") (Or.inl (hw _ (List.mem_of_getElem? (i := 4) rfl))) Via.refl e24 (pin_0 hP) (g := (mkF m 18 #[.val (.int i0), .val (.int i1), .val .null, .val (.ref (w 3)), .val (.ref (w 2)), .unset] [.null])) rfl (hb hby at_18)
        refine Go.on (T' := T25) (g' := (mkF m 21 #[.val (.int i0), .val (.int i1), .val .null, .val (.ref (w 3)), .val (.ref (w 2)), .unset] [(.ref (w 0)), .null])) st25 ?_
        refine Go.on (T' := T25) (g' := (mkF m 32 #[.val (.int i0), .val (.int i1), .val .null, .val (.ref (w 3)), .val (.ref (w 2)), .unset] [])) (fun t k => Jvm.RoadKit.acmp (g := (mkF m 21 #[.val (.int i0), .val (.int i1), .val .null, .val (.ref (w 3)), .val (.ref (w 2)), .unset] [(.ref (w 0)), .null])) X25 hx rfl rfl rfl (pc0 := 21) (pc' := 32) (same := false) rfl (hb hby at_21) rfl (decide_eq_false nofun) (by decide) (by decide) k) ?_
        refine Go.on (T' := T25) (g' := (mkF m 33 #[.val (.int i0), .val (.int i1), .val .null, .val (.ref (w 3)), .val (.ref (w 2)), .unset] [(.ref (w 3))])) (fun t k => XS.aloadN X25.here hx rfl (hb hby at_32) rfl rfl k) ?_
        obtain ⟨T26, X26, e26, st26⟩ := getS2 X25 hx hZ hown (host := "") (Or.inl (hw _ (List.mem_of_getElem? (i := 4) rfl))) Via.refl e25 (pin_0 hP) (g := (mkF m 33 #[.val (.int i0), .val (.int i1), .val .null, .val (.ref (w 3)), .val (.ref (w 2)), .unset] [(.ref (w 3))])) rfl (hb hby at_33)
        refine Go.on (T' := T26) (g' := (mkF m 36 #[.val (.int i0), .val (.int i1), .val .null, .val (.ref (w 3)), .val (.ref (w 2)), .unset] [(.ref (w 0)), (.ref (w 3))])) st26 ?_
        refine Go.on (T' := T26) (g' := (mkF m 47 #[.val (.int i0), .val (.int i1), .val .null, .val (.ref (w 3)), .val (.ref (w 2)), .unset] [])) (fun t k => Jvm.RoadKit.acmp (g := (mkF m 36 #[.val (.int i0), .val (.int i1), .val .null, .val (.ref (w 3)), .val (.ref (w 2)), .unset] [(.ref (w 0)), (.ref (w 3))])) X26 hx rfl rfl rfl (pc0 := 36) (pc' := 47) (same := false) rfl (hb hby at_36) rfl (decide_eq_false fun q => (own_ne (pin_12 hP) (pin_11 hP) (by decide)) (Value.ref.inj q)) (by decide) (by decide) k) ?_
        obtain ⟨T27, X27, e27, st27⟩ := getS2 X26 hx hZ hown (host := "") (Or.inl (hw _ (List.mem_of_getElem? (i := 12) rfl))) Via.refl e26 (pin_1 hP) (g := (mkF m 47 #[.val (.int i0), .val (.int i1), .val .null, .val (.ref (w 3)), .val (.ref (w 2)), .unset] [])) rfl (hb hby at_47)
        refine Go.on (T' := T27) (g' := (mkF m 50 #[.val (.int i0), .val (.int i1), .val .null, .val (.ref (w 3)), .val (.ref (w 2)), .unset] [(.ref (w 2))])) st27 ?_
        refine Go.on (T' := T27) (g' := (mkF m 52 #[.val (.int i0), .val (.int i1), .val .null, .val (.ref (w 3)), .val (.ref (w 2)), .val (.ref (w 2))] [])) (fun t k => XS.astore X27.here hx rfl (hb hby at_50) rfl rfl (l' := #[.val (.int i0), .val (.int i1), .val .null, .val (.ref (w 3)), .val (.ref (w 2)), .val (.ref (w 2))]) rfl k) ?_
        refine Go.on (T' := T27) (g' := (mkF m 54 #[.val (.int i0), .val (.int i1), .val .null, .val (.ref (w 3)), .val (.ref (w 2)), .val (.ref (w 2))] [(.ref (w 2))])) (fun t k => XS.aload X27.here hx rfl (hb hby at_52) rfl rfl k) ?_
        refine Go.on (T' := T27) (g' := (mkF m 56 #[.val (.int i0), .val (.int i1), .val .null, .val (.ref (w 3)), .val (.ref (w 2)), .val (.ref (w 2))] [(.ref (w 2)), (.ref (w 2))])) (fun t k => XS.aload X27.here hx rfl (hb hby at_54) rfl rfl k) ?_
        refine Go.on (T' := T27) (g' := (mkF m 59 #[.val (.int i0), .val (.int i1), .val .null, .val (.ref (w 3)), .val (.ref (w 2)), .val (.ref (w 2))] [])) (fun t k => Jvm.RoadKit.acmp (g := (mkF m 56 #[.val (.int i0), .val (.int i1), .val .null, .val (.ref (w 3)), .val (.ref (w 2)), .val (.ref (w 2))] [(.ref (w 2)), (.ref (w 2))])) X27 hx rfl rfl rfl (pc0 := 56) (pc' := 59) (same := true) rfl (hb hby at_56) rfl (decide_eq_true rfl) (by decide) (by decide) k) ?_
        refine Go.on (T' := T27) (g' := (mkF m 60 #[.val (.int i0), .val (.int i1), .val .null, .val (.ref (w 3)), .val (.ref (w 2)), .val (.ref (w 2))] [(.int (1 : Int32))])) (fun t k => XS.iconst X27.here hx rfl (hb hby at_59) k) ?_
        refine Go.on (T' := T27) (g' := (mkF m 64 #[.val (.int i0), .val (.int i1), .val .null, .val (.ref (w 3)), .val (.ref (w 2)), .val (.ref (w 2))] [(.int (1 : Int32))])) (fun t k => XS.goto X27.here hx rfl (pc0 := 60) (pc' := 64) rfl (hb hby at_60) (by decide) (by decide) k) ?_
        obtain ⟨fs, hr, hrun, hended, hW, hsame⟩ := X27.leave (v := some (.int (1 : Int32))) (fun h => by rw [Bd.returns] at h; cases h)
        exact ⟨_, _, retN X27 hx (t := .boolean) Bd.returns (by simp) (hb hby at_64) hr, hrun, hended, _, _, rfl, ⟨rfl, N24⟩, ⟨_, rfl⟩, hW, hsame.mono (by decide) (by decide)⟩
      · skip
        by_cases h28 : (i1 &&& (3 : Int32)) = (2 : Int32)
        · skip
          obtain ⟨_, _, ⟨T30, L30, k30, n30⟩, -, X30, ⟨Lc30, hQ30, l30, y30, z30⟩, st30⟩ := Jvm.LawKit.callS X8 hx (y := (⟨"com/example/rederive/rederive/ColumnTypeOfArithmeticPinLaw", "pick", "(I)Lcom/example/rederive/rederive/ColumnType;"⟩ : MethodName)) hown (mvT hZ (hw _ (List.mem_of_getElem? (i := 0) rfl))) (mvT hZ (hw _ (List.mem_of_getElem? (i := 1) rfl))) (mvT hZ (hw _ (List.mem_of_getElem? (i := 2) rfl))) (mvT hZ (hw _ (List.mem_of_getElem? (i := 3) rfl))) (by decide) (backOf (W := 0) (rm1_2 l Z a0 hw [] w h0 n0 (Nat.le_trans Z0 (own_ext0 h0).1) hP i1 h9 h17 h28) hZ (hw _ (List.mem_of_getElem? (i := 3) rfl)) (hw _ (List.mem_of_getElem? (i := 2) rfl)) (by decide) (by decide)) (g := (mkF m 6 #[.val (.int i0), .val (.int i1), .val .null, .unset, .unset, .unset] [(.int i1)])) rfl (by rw [hml]; rfl) (argsL := [(.int i1)]) (rest := []) (lenOf pd_0 rfl) rfl (by show 2 * 0 + _ ≤ _; exact Nat.le_of_eq rfl) (hb hby at_6) (fun _ _ => ⟨rfl, e8, (by decide : 0 + 0 ≤ _), (by decide : 0 + 0 ≤ _)⟩)
          dsimp only [Pt.U, Pt.locs, Pt.cells, Pt.slots] at X30 l30 y30 z30 st30 hQ30
          subst l30 y30 z30
          obtain ⟨rfl, N30q, e30⟩ := hQ30
          have N30 := Fr.app N8 N30q
          refine Go.on (T' := T30) (g' := (mkF m 9 #[.val (.int i0), .val (.int i1), .val .null, .unset, .unset, .unset] [(.ref (w 2))])) st30 ?_
          refine Go.on (T' := T30) (g' := (mkF m 10 #[.val (.int i0), .val (.int i1), .val .null, .val (.ref (w 2)), .unset, .unset] [])) (fun t k => XS.astoreN X30.here hx rfl (hb hby at_9) rfl rfl (l' := #[.val (.int i0), .val (.int i1), .val .null, .val (.ref (w 2)), .unset, .unset]) rfl k) ?_
          refine Go.on (T' := T30) (g' := (mkF m 11 #[.val (.int i0), .val (.int i1), .val .null, .val (.ref (w 2)), .unset, .unset] [.null])) (fun t k => XS.aloadN X30.here hx rfl (hb hby at_10) rfl rfl k) ?_
          refine Go.on (T' := T30) (g' := (mkF m 12 #[.val (.int i0), .val (.int i1), .val .null, .val (.ref (w 2)), .unset, .unset] [(.ref (w 2)), .null])) (fun t k => XS.aloadN X30.here hx rfl (hb hby at_11) rfl rfl k) ?_
          obtain ⟨_, _, ⟨T35, L35, k35, n35⟩, -, X35, ⟨Lc35, hQ35, l35, y35, z35⟩, st35⟩ := Jvm.LawKit.callS X30 hx (y := (⟨"com/example/rederive/rederive/ColumnType", "ofArithmetic", "(Lcom/example/rederive/rederive/ColumnType;Lcom/example/rederive/rederive/ColumnType;)Lcom/example/rederive/rederive/ColumnType;"⟩ : MethodName)) hown (mvT hZ (hw _ (List.mem_of_getElem? (i := 7) rfl))) (mvT hZ (hw _ (List.mem_of_getElem? (i := 8) rfl))) (mvT hZ (hw _ (List.mem_of_getElem? (i := 5) rfl))) (mvT hZ (hw _ (List.mem_of_getElem? (i := 9) rfl))) (by decide) (backOf (W := 0) (rm2_2 l Z a0 hw [] w h0 n0 (Nat.le_trans Z0 (own_ext0 h0).1) hP) hZ (hw _ (List.mem_of_getElem? (i := 9) rfl)) (hw _ (List.mem_of_getElem? (i := 5) rfl)) (by decide) (by decide)) (g := (mkF m 12 #[.val (.int i0), .val (.int i1), .val .null, .val (.ref (w 2)), .unset, .unset] [(.ref (w 2)), .null])) rfl (by rw [hml]; rfl) (argsL := [.null, (.ref (w 2))]) (rest := []) (lenOf pd_1 rfl) rfl (by show 2 * 0 + _ ≤ _; exact Nat.le_of_eq rfl) (hb hby at_12) (fun _ _ => ⟨rfl, e30, (by decide : 0 + 0 ≤ _), (by decide : 0 + 0 ≤ _)⟩)
          dsimp only [Pt.U, Pt.locs, Pt.cells, Pt.slots] at X35 l35 y35 z35 st35 hQ35
          subst l35 y35 z35
          obtain ⟨rfl, N35q, e35⟩ := hQ35
          have N35 := Fr.app N30 N35q
          refine Go.on (T' := T35) (g' := (mkF m 15 #[.val (.int i0), .val (.int i1), .val .null, .val (.ref (w 2)), .unset, .unset] [(.ref (w 2))])) st35 ?_
          refine Go.on (T' := T35) (g' := (mkF m 17 #[.val (.int i0), .val (.int i1), .val .null, .val (.ref (w 2)), .val (.ref (w 2)), .unset] [])) (fun t k => XS.astore X35.here hx rfl (hb hby at_15) rfl rfl (l' := #[.val (.int i0), .val (.int i1), .val .null, .val (.ref (w 2)), .val (.ref (w 2)), .unset]) rfl k) ?_
          refine Go.on (T' := T35) (g' := (mkF m 18 #[.val (.int i0), .val (.int i1), .val .null, .val (.ref (w 2)), .val (.ref (w 2)), .unset] [.null])) (fun t k => XS.aloadN X35.here hx rfl (hb hby at_17) rfl rfl k) ?_
          obtain ⟨T36, X36, e36, st36⟩ := getS2 X35 hx hZ hown (host := "") (Or.inl (hw _ (List.mem_of_getElem? (i := 4) rfl))) Via.refl e35 (pin_0 hP) (g := (mkF m 18 #[.val (.int i0), .val (.int i1), .val .null, .val (.ref (w 2)), .val (.ref (w 2)), .unset] [.null])) rfl (hb hby at_18)
          refine Go.on (T' := T36) (g' := (mkF m 21 #[.val (.int i0), .val (.int i1), .val .null, .val (.ref (w 2)), .val (.ref (w 2)), .unset] [(.ref (w 0)), .null])) st36 ?_
          refine Go.on (T' := T36) (g' := (mkF m 32 #[.val (.int i0), .val (.int i1), .val .null, .val (.ref (w 2)), .val (.ref (w 2)), .unset] [])) (fun t k => Jvm.RoadKit.acmp (g := (mkF m 21 #[.val (.int i0), .val (.int i1), .val .null, .val (.ref (w 2)), .val (.ref (w 2)), .unset] [(.ref (w 0)), .null])) X36 hx rfl rfl rfl (pc0 := 21) (pc' := 32) (same := false) rfl (hb hby at_21) rfl (decide_eq_false nofun) (by decide) (by decide) k) ?_
          refine Go.on (T' := T36) (g' := (mkF m 33 #[.val (.int i0), .val (.int i1), .val .null, .val (.ref (w 2)), .val (.ref (w 2)), .unset] [(.ref (w 2))])) (fun t k => XS.aloadN X36.here hx rfl (hb hby at_32) rfl rfl k) ?_
          obtain ⟨T37, X37, e37, st37⟩ := getS2 X36 hx hZ hown (host := "") (Or.inl (hw _ (List.mem_of_getElem? (i := 4) rfl))) Via.refl e36 (pin_0 hP) (g := (mkF m 33 #[.val (.int i0), .val (.int i1), .val .null, .val (.ref (w 2)), .val (.ref (w 2)), .unset] [(.ref (w 2))])) rfl (hb hby at_33)
          refine Go.on (T' := T37) (g' := (mkF m 36 #[.val (.int i0), .val (.int i1), .val .null, .val (.ref (w 2)), .val (.ref (w 2)), .unset] [(.ref (w 0)), (.ref (w 2))])) st37 ?_
          refine Go.on (T' := T37) (g' := (mkF m 47 #[.val (.int i0), .val (.int i1), .val .null, .val (.ref (w 2)), .val (.ref (w 2)), .unset] [])) (fun t k => Jvm.RoadKit.acmp (g := (mkF m 36 #[.val (.int i0), .val (.int i1), .val .null, .val (.ref (w 2)), .val (.ref (w 2)), .unset] [(.ref (w 0)), (.ref (w 2))])) X37 hx rfl rfl rfl (pc0 := 36) (pc' := 47) (same := false) rfl (hb hby at_36) rfl (decide_eq_false fun q => (own_ne (pin_10 hP) (pin_11 hP) (by decide)) (Value.ref.inj q)) (by decide) (by decide) k) ?_
          obtain ⟨T38, X38, e38, st38⟩ := getS2 X37 hx hZ hown (host := "") (Or.inl (hw _ (List.mem_of_getElem? (i := 12) rfl))) Via.refl e37 (pin_1 hP) (g := (mkF m 47 #[.val (.int i0), .val (.int i1), .val .null, .val (.ref (w 2)), .val (.ref (w 2)), .unset] [])) rfl (hb hby at_47)
          refine Go.on (T' := T38) (g' := (mkF m 50 #[.val (.int i0), .val (.int i1), .val .null, .val (.ref (w 2)), .val (.ref (w 2)), .unset] [(.ref (w 2))])) st38 ?_
          refine Go.on (T' := T38) (g' := (mkF m 52 #[.val (.int i0), .val (.int i1), .val .null, .val (.ref (w 2)), .val (.ref (w 2)), .val (.ref (w 2))] [])) (fun t k => XS.astore X38.here hx rfl (hb hby at_50) rfl rfl (l' := #[.val (.int i0), .val (.int i1), .val .null, .val (.ref (w 2)), .val (.ref (w 2)), .val (.ref (w 2))]) rfl k) ?_
          refine Go.on (T' := T38) (g' := (mkF m 54 #[.val (.int i0), .val (.int i1), .val .null, .val (.ref (w 2)), .val (.ref (w 2)), .val (.ref (w 2))] [(.ref (w 2))])) (fun t k => XS.aload X38.here hx rfl (hb hby at_52) rfl rfl k) ?_
          refine Go.on (T' := T38) (g' := (mkF m 56 #[.val (.int i0), .val (.int i1), .val .null, .val (.ref (w 2)), .val (.ref (w 2)), .val (.ref (w 2))] [(.ref (w 2)), (.ref (w 2))])) (fun t k => XS.aload X38.here hx rfl (hb hby at_54) rfl rfl k) ?_
          refine Go.on (T' := T38) (g' := (mkF m 59 #[.val (.int i0), .val (.int i1), .val .null, .val (.ref (w 2)), .val (.ref (w 2)), .val (.ref (w 2))] [])) (fun t k => Jvm.RoadKit.acmp (g := (mkF m 56 #[.val (.int i0), .val (.int i1), .val .null, .val (.ref (w 2)), .val (.ref (w 2)), .val (.ref (w 2))] [(.ref (w 2)), (.ref (w 2))])) X38 hx rfl rfl rfl (pc0 := 56) (pc' := 59) (same := true) rfl (hb hby at_56) rfl (decide_eq_true rfl) (by decide) (by decide) k) ?_
          refine Go.on (T' := T38) (g' := (mkF m 60 #[.val (.int i0), .val (.int i1), .val .null, .val (.ref (w 2)), .val (.ref (w 2)), .val (.ref (w 2))] [(.int (1 : Int32))])) (fun t k => XS.iconst X38.here hx rfl (hb hby at_59) k) ?_
          refine Go.on (T' := T38) (g' := (mkF m 64 #[.val (.int i0), .val (.int i1), .val .null, .val (.ref (w 2)), .val (.ref (w 2)), .val (.ref (w 2))] [(.int (1 : Int32))])) (fun t k => XS.goto X38.here hx rfl (pc0 := 60) (pc' := 64) rfl (hb hby at_60) (by decide) (by decide) k) ?_
          obtain ⟨fs, hr, hrun, hended, hW, hsame⟩ := X38.leave (v := some (.int (1 : Int32))) (fun h => by rw [Bd.returns] at h; cases h)
          exact ⟨_, _, retN X38 hx (t := .boolean) Bd.returns (by simp) (hb hby at_64) hr, hrun, hended, _, _, rfl, ⟨rfl, N35⟩, ⟨_, rfl⟩, hW, hsame.mono (by decide) (by decide)⟩
        · skip
          obtain ⟨_, _, ⟨T40, L40, k40, n40⟩, -, X40, ⟨Lc40, hQ40, l40, y40, z40⟩, st40⟩ := Jvm.LawKit.callS X8 hx (y := (⟨"com/example/rederive/rederive/ColumnTypeOfArithmeticPinLaw", "pick", "(I)Lcom/example/rederive/rederive/ColumnType;"⟩ : MethodName)) hown (mvT hZ (hw _ (List.mem_of_getElem? (i := 0) rfl))) (mvT hZ (hw _ (List.mem_of_getElem? (i := 1) rfl))) (mvT hZ (hw _ (List.mem_of_getElem? (i := 2) rfl))) (mvT hZ (hw _ (List.mem_of_getElem? (i := 3) rfl))) (by decide) (backOf (W := 0) (rm1_3 l Z a0 hw [] w h0 n0 (Nat.le_trans Z0 (own_ext0 h0).1) hP i1 h9 h17 h28) hZ (hw _ (List.mem_of_getElem? (i := 3) rfl)) (hw _ (List.mem_of_getElem? (i := 2) rfl)) (by decide) (by decide)) (g := (mkF m 6 #[.val (.int i0), .val (.int i1), .val .null, .unset, .unset, .unset] [(.int i1)])) rfl (by rw [hml]; rfl) (argsL := [(.int i1)]) (rest := []) (lenOf pd_0 rfl) rfl (by show 2 * 0 + _ ≤ _; exact Nat.le_of_eq rfl) (hb hby at_6) (fun _ _ => ⟨rfl, e8, (by decide : 0 + 0 ≤ _), (by decide : 0 + 0 ≤ _)⟩)
          dsimp only [Pt.U, Pt.locs, Pt.cells, Pt.slots] at X40 l40 y40 z40 st40 hQ40
          subst l40 y40 z40
          obtain ⟨rfl, N40q, e40⟩ := hQ40
          have N40 := Fr.app N8 N40q
          refine Go.on (T' := T40) (g' := (mkF m 9 #[.val (.int i0), .val (.int i1), .val .null, .unset, .unset, .unset] [(.ref (w 0))])) st40 ?_
          refine Go.on (T' := T40) (g' := (mkF m 10 #[.val (.int i0), .val (.int i1), .val .null, .val (.ref (w 0)), .unset, .unset] [])) (fun t k => XS.astoreN X40.here hx rfl (hb hby at_9) rfl rfl (l' := #[.val (.int i0), .val (.int i1), .val .null, .val (.ref (w 0)), .unset, .unset]) rfl k) ?_
          refine Go.on (T' := T40) (g' := (mkF m 11 #[.val (.int i0), .val (.int i1), .val .null, .val (.ref (w 0)), .unset, .unset] [.null])) (fun t k => XS.aloadN X40.here hx rfl (hb hby at_10) rfl rfl k) ?_
          refine Go.on (T' := T40) (g' := (mkF m 12 #[.val (.int i0), .val (.int i1), .val .null, .val (.ref (w 0)), .unset, .unset] [(.ref (w 0)), .null])) (fun t k => XS.aloadN X40.here hx rfl (hb hby at_11) rfl rfl k) ?_
          obtain ⟨_, _, ⟨T43, L43, k43, n43⟩, -, X43, ⟨Lc43, hQ43, l43, y43, z43⟩, st43⟩ := Jvm.LawKit.callS X40 hx (y := (⟨"com/example/rederive/rederive/ColumnType", "ofArithmetic", "(Lcom/example/rederive/rederive/ColumnType;Lcom/example/rederive/rederive/ColumnType;)Lcom/example/rederive/rederive/ColumnType;"⟩ : MethodName)) hown (mvT hZ (hw _ (List.mem_of_getElem? (i := 7) rfl))) (mvT hZ (hw _ (List.mem_of_getElem? (i := 8) rfl))) (mvT hZ (hw _ (List.mem_of_getElem? (i := 5) rfl))) (mvT hZ (hw _ (List.mem_of_getElem? (i := 9) rfl))) (by decide) (backOf (W := 0) (rm2_3 l Z a0 hw [] w h0 n0 (Nat.le_trans Z0 (own_ext0 h0).1) hP) hZ (hw _ (List.mem_of_getElem? (i := 9) rfl)) (hw _ (List.mem_of_getElem? (i := 5) rfl)) (by decide) (by decide)) (g := (mkF m 12 #[.val (.int i0), .val (.int i1), .val .null, .val (.ref (w 0)), .unset, .unset] [(.ref (w 0)), .null])) rfl (by rw [hml]; rfl) (argsL := [.null, (.ref (w 0))]) (rest := []) (lenOf pd_1 rfl) rfl (by show 2 * 0 + _ ≤ _; exact Nat.le_of_eq rfl) (hb hby at_12) (fun _ _ => ⟨rfl, e40, (by decide : 0 + 0 ≤ _), (by decide : 0 + 0 ≤ _)⟩)
          dsimp only [Pt.U, Pt.locs, Pt.cells, Pt.slots] at X43 l43 y43 z43 st43 hQ43
          subst l43 y43 z43
          obtain ⟨rfl, N43q, e43⟩ := hQ43
          have N43 := Fr.app N40 N43q
          refine Go.on (T' := T43) (g' := (mkF m 15 #[.val (.int i0), .val (.int i1), .val .null, .val (.ref (w 0)), .unset, .unset] [(.ref (w 0))])) st43 ?_
          refine Go.on (T' := T43) (g' := (mkF m 17 #[.val (.int i0), .val (.int i1), .val .null, .val (.ref (w 0)), .val (.ref (w 0)), .unset] [])) (fun t k => XS.astore X43.here hx rfl (hb hby at_15) rfl rfl (l' := #[.val (.int i0), .val (.int i1), .val .null, .val (.ref (w 0)), .val (.ref (w 0)), .unset]) rfl k) ?_
          refine Go.on (T' := T43) (g' := (mkF m 18 #[.val (.int i0), .val (.int i1), .val .null, .val (.ref (w 0)), .val (.ref (w 0)), .unset] [.null])) (fun t k => XS.aloadN X43.here hx rfl (hb hby at_17) rfl rfl k) ?_
          obtain ⟨T44, X44, e44, st44⟩ := getS2 X43 hx hZ hown (host := "") (Or.inl (hw _ (List.mem_of_getElem? (i := 4) rfl))) Via.refl e43 (pin_0 hP) (g := (mkF m 18 #[.val (.int i0), .val (.int i1), .val .null, .val (.ref (w 0)), .val (.ref (w 0)), .unset] [.null])) rfl (hb hby at_18)
          refine Go.on (T' := T44) (g' := (mkF m 21 #[.val (.int i0), .val (.int i1), .val .null, .val (.ref (w 0)), .val (.ref (w 0)), .unset] [(.ref (w 0)), .null])) st44 ?_
          refine Go.on (T' := T44) (g' := (mkF m 32 #[.val (.int i0), .val (.int i1), .val .null, .val (.ref (w 0)), .val (.ref (w 0)), .unset] [])) (fun t k => Jvm.RoadKit.acmp (g := (mkF m 21 #[.val (.int i0), .val (.int i1), .val .null, .val (.ref (w 0)), .val (.ref (w 0)), .unset] [(.ref (w 0)), .null])) X44 hx rfl rfl rfl (pc0 := 21) (pc' := 32) (same := false) rfl (hb hby at_21) rfl (decide_eq_false nofun) (by decide) (by decide) k) ?_
          refine Go.on (T' := T44) (g' := (mkF m 33 #[.val (.int i0), .val (.int i1), .val .null, .val (.ref (w 0)), .val (.ref (w 0)), .unset] [(.ref (w 0))])) (fun t k => XS.aloadN X44.here hx rfl (hb hby at_32) rfl rfl k) ?_
          obtain ⟨T45, X45, e45, st45⟩ := getS2 X44 hx hZ hown (host := "") (Or.inl (hw _ (List.mem_of_getElem? (i := 4) rfl))) Via.refl e44 (pin_0 hP) (g := (mkF m 33 #[.val (.int i0), .val (.int i1), .val .null, .val (.ref (w 0)), .val (.ref (w 0)), .unset] [(.ref (w 0))])) rfl (hb hby at_33)
          refine Go.on (T' := T45) (g' := (mkF m 36 #[.val (.int i0), .val (.int i1), .val .null, .val (.ref (w 0)), .val (.ref (w 0)), .unset] [(.ref (w 0)), (.ref (w 0))])) st45 ?_
          refine Go.on (T' := T45) (g' := (mkF m 39 #[.val (.int i0), .val (.int i1), .val .null, .val (.ref (w 0)), .val (.ref (w 0)), .unset] [])) (fun t k => Jvm.RoadKit.acmp (g := (mkF m 36 #[.val (.int i0), .val (.int i1), .val .null, .val (.ref (w 0)), .val (.ref (w 0)), .unset] [(.ref (w 0)), (.ref (w 0))])) X45 hx rfl rfl rfl (pc0 := 36) (pc' := 39) (same := true) rfl (hb hby at_36) rfl (decide_eq_true rfl) (by decide) (by decide) k) ?_
          obtain ⟨T46, X46, e46, st46⟩ := getS2 X45 hx hZ hown (host := "") (Or.inl (hw _ (List.mem_of_getElem? (i := 4) rfl))) Via.refl e45 (pin_0 hP) (g := (mkF m 39 #[.val (.int i0), .val (.int i1), .val .null, .val (.ref (w 0)), .val (.ref (w 0)), .unset] [])) rfl (hb hby at_39)
          refine Go.on (T' := T46) (g' := (mkF m 42 #[.val (.int i0), .val (.int i1), .val .null, .val (.ref (w 0)), .val (.ref (w 0)), .unset] [(.ref (w 0))])) st46 ?_
          refine Go.on (T' := T46) (g' := (mkF m 44 #[.val (.int i0), .val (.int i1), .val .null, .val (.ref (w 0)), .val (.ref (w 0)), .val (.ref (w 0))] [])) (fun t k => XS.astore X46.here hx rfl (hb hby at_42) rfl rfl (l' := #[.val (.int i0), .val (.int i1), .val .null, .val (.ref (w 0)), .val (.ref (w 0)), .val (.ref (w 0))]) rfl k) ?_
          refine Go.on (T' := T46) (g' := (mkF m 52 #[.val (.int i0), .val (.int i1), .val .null, .val (.ref (w 0)), .val (.ref (w 0)), .val (.ref (w 0))] [])) (fun t k => XS.goto X46.here hx rfl (pc0 := 44) (pc' := 52) rfl (hb hby at_44) (by decide) (by decide) k) ?_
          refine Go.on (T' := T46) (g' := (mkF m 54 #[.val (.int i0), .val (.int i1), .val .null, .val (.ref (w 0)), .val (.ref (w 0)), .val (.ref (w 0))] [(.ref (w 0))])) (fun t k => XS.aload X46.here hx rfl (hb hby at_52) rfl rfl k) ?_
          refine Go.on (T' := T46) (g' := (mkF m 56 #[.val (.int i0), .val (.int i1), .val .null, .val (.ref (w 0)), .val (.ref (w 0)), .val (.ref (w 0))] [(.ref (w 0)), (.ref (w 0))])) (fun t k => XS.aload X46.here hx rfl (hb hby at_54) rfl rfl k) ?_
          refine Go.on (T' := T46) (g' := (mkF m 59 #[.val (.int i0), .val (.int i1), .val .null, .val (.ref (w 0)), .val (.ref (w 0)), .val (.ref (w 0))] [])) (fun t k => Jvm.RoadKit.acmp (g := (mkF m 56 #[.val (.int i0), .val (.int i1), .val .null, .val (.ref (w 0)), .val (.ref (w 0)), .val (.ref (w 0))] [(.ref (w 0)), (.ref (w 0))])) X46 hx rfl rfl rfl (pc0 := 56) (pc' := 59) (same := true) rfl (hb hby at_56) rfl (decide_eq_true rfl) (by decide) (by decide) k) ?_
          refine Go.on (T' := T46) (g' := (mkF m 60 #[.val (.int i0), .val (.int i1), .val .null, .val (.ref (w 0)), .val (.ref (w 0)), .val (.ref (w 0))] [(.int (1 : Int32))])) (fun t k => XS.iconst X46.here hx rfl (hb hby at_59) k) ?_
          refine Go.on (T' := T46) (g' := (mkF m 64 #[.val (.int i0), .val (.int i1), .val .null, .val (.ref (w 0)), .val (.ref (w 0)), .val (.ref (w 0))] [(.int (1 : Int32))])) (fun t k => XS.goto X46.here hx rfl (pc0 := 60) (pc' := 64) rfl (hb hby at_60) (by decide) (by decide) k) ?_
          obtain ⟨fs, hr, hrun, hended, hW, hsame⟩ := X46.leave (v := some (.int (1 : Int32))) (fun h => by rw [Bd.returns] at h; cases h)
          exact ⟨_, _, retN X46 hx (t := .boolean) Bd.returns (by simp) (hb hby at_64) hr, hrun, hended, _, _, rfl, ⟨rfl, N43⟩, ⟨_, rfl⟩, hW, hsame.mono (by decide) (by decide)⟩
  · skip
    by_cases h47 : (i0 &&& (3 : Int32)) = (1 : Int32)
    · skip
      obtain ⟨_, _, ⟨T48, L48, k48, n48⟩, -, X48, ⟨Lc48, hQ48, l48, y48, z48⟩, st48⟩ := Jvm.LawKit.callS X0 hx (y := (⟨"com/example/rederive/rederive/ColumnTypeOfArithmeticPinLaw", "pick", "(I)Lcom/example/rederive/rederive/ColumnType;"⟩ : MethodName)) hown (mvT hZ (hw _ (List.mem_of_getElem? (i := 0) rfl))) (mvT hZ (hw _ (List.mem_of_getElem? (i := 1) rfl))) (mvT hZ (hw _ (List.mem_of_getElem? (i := 2) rfl))) (mvT hZ (hw _ (List.mem_of_getElem? (i := 3) rfl))) (by decide) (backOf (W := 0) (rm1_1 l Z a0 hw [] w h0 n0 (Nat.le_trans Z0 (own_ext0 h0).1) hP i0 h7 h47) hZ (hw _ (List.mem_of_getElem? (i := 3) rfl)) (hw _ (List.mem_of_getElem? (i := 2) rfl)) (by decide) (by decide)) (g := (mkF m 1 #[.val (.int i0), .val (.int i1), .unset, .unset, .unset, .unset] [(.int i0)])) rfl (by rw [hml]; rfl) (argsL := [(.int i0)]) (rest := []) (lenOf pd_0 rfl) rfl (by show 2 * 0 + _ ≤ _; exact Nat.le_of_eq rfl) (hb hby at_1) (fun _ _ => ⟨rfl, e0, (by decide : 0 + 0 ≤ _), (by decide : 0 + 0 ≤ _)⟩)
      dsimp only [Pt.U, Pt.locs, Pt.cells, Pt.slots] at X48 l48 y48 z48 st48 hQ48
      subst l48 y48 z48
      obtain ⟨rfl, N48q, e48⟩ := hQ48
      have N48 := Fr.app N0 N48q
      refine Go.on (T' := T48) (g' := (mkF m 4 #[.val (.int i0), .val (.int i1), .unset, .unset, .unset, .unset] [(.ref (w 3))])) st48 ?_
      refine Go.on (T' := T48) (g' := (mkF m 5 #[.val (.int i0), .val (.int i1), .val (.ref (w 3)), .unset, .unset, .unset] [])) (fun t k => XS.astoreN X48.here hx rfl (hb hby at_4) rfl rfl (l' := #[.val (.int i0), .val (.int i1), .val (.ref (w 3)), .unset, .unset, .unset]) rfl k) ?_
      refine Go.on (T' := T48) (g' := (mkF m 6 #[.val (.int i0), .val (.int i1), .val (.ref (w 3)), .unset, .unset, .unset] [(.int i1)])) (fun t k => XS.iloadN X48.here hx rfl (hb hby at_5) rfl k) ?_
      by_cases h49 : (i1 &&& (3 : Int32)) = (0 : Int32)
      · skip
        obtain ⟨_, _, ⟨T50, L50, k50, n50⟩, -, X50, ⟨Lc50, hQ50, l50, y50, z50⟩, st50⟩ := Jvm.LawKit.callS X48 hx (y := (⟨"com/example/rederive/rederive/ColumnTypeOfArithmeticPinLaw", "pick", "(I)Lcom/example/rederive/rederive/ColumnType;"⟩ : MethodName)) hown (mvT hZ (hw _ (List.mem_of_getElem? (i := 0) rfl))) (mvT hZ (hw _ (List.mem_of_getElem? (i := 1) rfl))) (mvT hZ (hw _ (List.mem_of_getElem? (i := 2) rfl))) (mvT hZ (hw _ (List.mem_of_getElem? (i := 3) rfl))) (by decide) (backOf (W := 0) (rm1_0 l Z a0 hw [] w h0 n0 (Nat.le_trans Z0 (own_ext0 h0).1) hP i1 h49) hZ (hw _ (List.mem_of_getElem? (i := 3) rfl)) (hw _ (List.mem_of_getElem? (i := 2) rfl)) (by decide) (by decide)) (g := (mkF m 6 #[.val (.int i0), .val (.int i1), .val (.ref (w 3)), .unset, .unset, .unset] [(.int i1)])) rfl (by rw [hml]; rfl) (argsL := [(.int i1)]) (rest := []) (lenOf pd_0 rfl) rfl (by show 2 * 0 + _ ≤ _; exact Nat.le_of_eq rfl) (hb hby at_6) (fun _ _ => ⟨rfl, e48, (by decide : 0 + 0 ≤ _), (by decide : 0 + 0 ≤ _)⟩)
        dsimp only [Pt.U, Pt.locs, Pt.cells, Pt.slots] at X50 l50 y50 z50 st50 hQ50
        subst l50 y50 z50
        obtain ⟨rfl, N50q, e50⟩ := hQ50
        have N50 := Fr.app N48 N50q
        refine Go.on (T' := T50) (g' := (mkF m 9 #[.val (.int i0), .val (.int i1), .val (.ref (w 3)), .unset, .unset, .unset] [.null])) st50 ?_
        refine Go.on (T' := T50) (g' := (mkF m 10 #[.val (.int i0), .val (.int i1), .val (.ref (w 3)), .val .null, .unset, .unset] [])) (fun t k => XS.astoreN X50.here hx rfl (hb hby at_9) rfl rfl (l' := #[.val (.int i0), .val (.int i1), .val (.ref (w 3)), .val .null, .unset, .unset]) rfl k) ?_
        refine Go.on (T' := T50) (g' := (mkF m 11 #[.val (.int i0), .val (.int i1), .val (.ref (w 3)), .val .null, .unset, .unset] [(.ref (w 3))])) (fun t k => XS.aloadN X50.here hx rfl (hb hby at_10) rfl rfl k) ?_
        refine Go.on (T' := T50) (g' := (mkF m 12 #[.val (.int i0), .val (.int i1), .val (.ref (w 3)), .val .null, .unset, .unset] [.null, (.ref (w 3))])) (fun t k => XS.aloadN X50.here hx rfl (hb hby at_11) rfl rfl k) ?_
        obtain ⟨_, _, ⟨T55, L55, k55, n55⟩, -, X55, ⟨Lc55, hQ55, l55, y55, z55⟩, st55⟩ := Jvm.LawKit.callS X50 hx (y := (⟨"com/example/rederive/rederive/ColumnType", "ofArithmetic", "(Lcom/example/rederive/rederive/ColumnType;Lcom/example/rederive/rederive/ColumnType;)Lcom/example/rederive/rederive/ColumnType;"⟩ : MethodName)) hown (mvT hZ (hw _ (List.mem_of_getElem? (i := 7) rfl))) (mvT hZ (hw _ (List.mem_of_getElem? (i := 8) rfl))) (mvT hZ (hw _ (List.mem_of_getElem? (i := 5) rfl))) (mvT hZ (hw _ (List.mem_of_getElem? (i := 9) rfl))) (by decide) (backOf (W := 0) (rm2_4 l Z a0 hw [] w h0 n0 (Nat.le_trans Z0 (own_ext0 h0).1) hP) hZ (hw _ (List.mem_of_getElem? (i := 9) rfl)) (hw _ (List.mem_of_getElem? (i := 5) rfl)) (by decide) (by decide)) (g := (mkF m 12 #[.val (.int i0), .val (.int i1), .val (.ref (w 3)), .val .null, .unset, .unset] [.null, (.ref (w 3))])) rfl (by rw [hml]; rfl) (argsL := [(.ref (w 3)), .null]) (rest := []) (lenOf pd_1 rfl) rfl (by show 2 * 0 + _ ≤ _; exact Nat.le_of_eq rfl) (hb hby at_12) (fun _ _ => ⟨rfl, e50, (by decide : 0 + 0 ≤ _), (by decide : 0 + 0 ≤ _)⟩)
        dsimp only [Pt.U, Pt.locs, Pt.cells, Pt.slots] at X55 l55 y55 z55 st55 hQ55
        subst l55 y55 z55
        obtain ⟨rfl, N55q, e55⟩ := hQ55
        have N55 := Fr.app N50 N55q
        refine Go.on (T' := T55) (g' := (mkF m 15 #[.val (.int i0), .val (.int i1), .val (.ref (w 3)), .val .null, .unset, .unset] [(.ref (w 2))])) st55 ?_
        refine Go.on (T' := T55) (g' := (mkF m 17 #[.val (.int i0), .val (.int i1), .val (.ref (w 3)), .val .null, .val (.ref (w 2)), .unset] [])) (fun t k => XS.astore X55.here hx rfl (hb hby at_15) rfl rfl (l' := #[.val (.int i0), .val (.int i1), .val (.ref (w 3)), .val .null, .val (.ref (w 2)), .unset]) rfl k) ?_
        refine Go.on (T' := T55) (g' := (mkF m 18 #[.val (.int i0), .val (.int i1), .val (.ref (w 3)), .val .null, .val (.ref (w 2)), .unset] [(.ref (w 3))])) (fun t k => XS.aloadN X55.here hx rfl (hb hby at_17) rfl rfl k) ?_
        obtain ⟨T56, X56, e56, st56⟩ := getS2 X55 hx hZ hown (host := "") (Or.inl (hw _ (List.mem_of_getElem? (i := 4) rfl))) Via.refl e55 (pin_0 hP) (g := (mkF m 18 #[.val (.int i0), .val (.int i1), .val (.ref (w 3)), .val .null, .val (.ref (w 2)), .unset] [(.ref (w 3))])) rfl (hb hby at_18)
        refine Go.on (T' := T56) (g' := (mkF m 21 #[.val (.int i0), .val (.int i1), .val (.ref (w 3)), .val .null, .val (.ref (w 2)), .unset] [(.ref (w 0)), (.ref (w 3))])) st56 ?_
        refine Go.on (T' := T56) (g' := (mkF m 32 #[.val (.int i0), .val (.int i1), .val (.ref (w 3)), .val .null, .val (.ref (w 2)), .unset] [])) (fun t k => Jvm.RoadKit.acmp (g := (mkF m 21 #[.val (.int i0), .val (.int i1), .val (.ref (w 3)), .val .null, .val (.ref (w 2)), .unset] [(.ref (w 0)), (.ref (w 3))])) X56 hx rfl rfl rfl (pc0 := 21) (pc' := 32) (same := false) rfl (hb hby at_21) rfl (decide_eq_false fun q => (own_ne (pin_12 hP) (pin_11 hP) (by decide)) (Value.ref.inj q)) (by decide) (by decide) k) ?_
        refine Go.on (T' := T56) (g' := (mkF m 33 #[.val (.int i0), .val (.int i1), .val (.ref (w 3)), .val .null, .val (.ref (w 2)), .unset] [.null])) (fun t k => XS.aloadN X56.here hx rfl (hb hby at_32) rfl rfl k) ?_
        obtain ⟨T57, X57, e57, st57⟩ := getS2 X56 hx hZ hown (host := "") (Or.inl (hw _ (List.mem_of_getElem? (i := 4) rfl))) Via.refl e56 (pin_0 hP) (g := (mkF m 33 #[.val (.int i0), .val (.int i1), .val (.ref (w 3)), .val .null, .val (.ref (w 2)), .unset] [.null])) rfl (hb hby at_33)
        refine Go.on (T' := T57) (g' := (mkF m 36 #[.val (.int i0), .val (.int i1), .val (.ref (w 3)), .val .null, .val (.ref (w 2)), .unset] [(.ref (w 0)), .null])) st57 ?_
        refine Go.on (T' := T57) (g' := (mkF m 47 #[.val (.int i0), .val (.int i1), .val (.ref (w 3)), .val .null, .val (.ref (w 2)), .unset] [])) (fun t k => Jvm.RoadKit.acmp (g := (mkF m 36 #[.val (.int i0), .val (.int i1), .val (.ref (w 3)), .val .null, .val (.ref (w 2)), .unset] [(.ref (w 0)), .null])) X57 hx rfl rfl rfl (pc0 := 36) (pc' := 47) (same := false) rfl (hb hby at_36) rfl (decide_eq_false nofun) (by decide) (by decide) k) ?_
        obtain ⟨T58, X58, e58, st58⟩ := getS2 X57 hx hZ hown (host := "") (Or.inl (hw _ (List.mem_of_getElem? (i := 12) rfl))) Via.refl e57 (pin_1 hP) (g := (mkF m 47 #[.val (.int i0), .val (.int i1), .val (.ref (w 3)), .val .null, .val (.ref (w 2)), .unset] [])) rfl (hb hby at_47)
        refine Go.on (T' := T58) (g' := (mkF m 50 #[.val (.int i0), .val (.int i1), .val (.ref (w 3)), .val .null, .val (.ref (w 2)), .unset] [(.ref (w 2))])) st58 ?_
        refine Go.on (T' := T58) (g' := (mkF m 52 #[.val (.int i0), .val (.int i1), .val (.ref (w 3)), .val .null, .val (.ref (w 2)), .val (.ref (w 2))] [])) (fun t k => XS.astore X58.here hx rfl (hb hby at_50) rfl rfl (l' := #[.val (.int i0), .val (.int i1), .val (.ref (w 3)), .val .null, .val (.ref (w 2)), .val (.ref (w 2))]) rfl k) ?_
        refine Go.on (T' := T58) (g' := (mkF m 54 #[.val (.int i0), .val (.int i1), .val (.ref (w 3)), .val .null, .val (.ref (w 2)), .val (.ref (w 2))] [(.ref (w 2))])) (fun t k => XS.aload X58.here hx rfl (hb hby at_52) rfl rfl k) ?_
        refine Go.on (T' := T58) (g' := (mkF m 56 #[.val (.int i0), .val (.int i1), .val (.ref (w 3)), .val .null, .val (.ref (w 2)), .val (.ref (w 2))] [(.ref (w 2)), (.ref (w 2))])) (fun t k => XS.aload X58.here hx rfl (hb hby at_54) rfl rfl k) ?_
        refine Go.on (T' := T58) (g' := (mkF m 59 #[.val (.int i0), .val (.int i1), .val (.ref (w 3)), .val .null, .val (.ref (w 2)), .val (.ref (w 2))] [])) (fun t k => Jvm.RoadKit.acmp (g := (mkF m 56 #[.val (.int i0), .val (.int i1), .val (.ref (w 3)), .val .null, .val (.ref (w 2)), .val (.ref (w 2))] [(.ref (w 2)), (.ref (w 2))])) X58 hx rfl rfl rfl (pc0 := 56) (pc' := 59) (same := true) rfl (hb hby at_56) rfl (decide_eq_true rfl) (by decide) (by decide) k) ?_
        refine Go.on (T' := T58) (g' := (mkF m 60 #[.val (.int i0), .val (.int i1), .val (.ref (w 3)), .val .null, .val (.ref (w 2)), .val (.ref (w 2))] [(.int (1 : Int32))])) (fun t k => XS.iconst X58.here hx rfl (hb hby at_59) k) ?_
        refine Go.on (T' := T58) (g' := (mkF m 64 #[.val (.int i0), .val (.int i1), .val (.ref (w 3)), .val .null, .val (.ref (w 2)), .val (.ref (w 2))] [(.int (1 : Int32))])) (fun t k => XS.goto X58.here hx rfl (pc0 := 60) (pc' := 64) rfl (hb hby at_60) (by decide) (by decide) k) ?_
        obtain ⟨fs, hr, hrun, hended, hW, hsame⟩ := X58.leave (v := some (.int (1 : Int32))) (fun h => by rw [Bd.returns] at h; cases h)
        exact ⟨_, _, retN X58 hx (t := .boolean) Bd.returns (by simp) (hb hby at_64) hr, hrun, hended, _, _, rfl, ⟨rfl, N55⟩, ⟨_, rfl⟩, hW, hsame.mono (by decide) (by decide)⟩
      · skip
        by_cases h59 : (i1 &&& (3 : Int32)) = (1 : Int32)
        · skip
          obtain ⟨_, _, ⟨T60, L60, k60, n60⟩, -, X60, ⟨Lc60, hQ60, l60, y60, z60⟩, st60⟩ := Jvm.LawKit.callS X48 hx (y := (⟨"com/example/rederive/rederive/ColumnTypeOfArithmeticPinLaw", "pick", "(I)Lcom/example/rederive/rederive/ColumnType;"⟩ : MethodName)) hown (mvT hZ (hw _ (List.mem_of_getElem? (i := 0) rfl))) (mvT hZ (hw _ (List.mem_of_getElem? (i := 1) rfl))) (mvT hZ (hw _ (List.mem_of_getElem? (i := 2) rfl))) (mvT hZ (hw _ (List.mem_of_getElem? (i := 3) rfl))) (by decide) (backOf (W := 0) (rm1_1 l Z a0 hw [] w h0 n0 (Nat.le_trans Z0 (own_ext0 h0).1) hP i1 h49 h59) hZ (hw _ (List.mem_of_getElem? (i := 3) rfl)) (hw _ (List.mem_of_getElem? (i := 2) rfl)) (by decide) (by decide)) (g := (mkF m 6 #[.val (.int i0), .val (.int i1), .val (.ref (w 3)), .unset, .unset, .unset] [(.int i1)])) rfl (by rw [hml]; rfl) (argsL := [(.int i1)]) (rest := []) (lenOf pd_0 rfl) rfl (by show 2 * 0 + _ ≤ _; exact Nat.le_of_eq rfl) (hb hby at_6) (fun _ _ => ⟨rfl, e48, (by decide : 0 + 0 ≤ _), (by decide : 0 + 0 ≤ _)⟩)
          dsimp only [Pt.U, Pt.locs, Pt.cells, Pt.slots] at X60 l60 y60 z60 st60 hQ60
          subst l60 y60 z60
          obtain ⟨rfl, N60q, e60⟩ := hQ60
          have N60 := Fr.app N48 N60q
          refine Go.on (T' := T60) (g' := (mkF m 9 #[.val (.int i0), .val (.int i1), .val (.ref (w 3)), .unset, .unset, .unset] [(.ref (w 3))])) st60 ?_
          refine Go.on (T' := T60) (g' := (mkF m 10 #[.val (.int i0), .val (.int i1), .val (.ref (w 3)), .val (.ref (w 3)), .unset, .unset] [])) (fun t k => XS.astoreN X60.here hx rfl (hb hby at_9) rfl rfl (l' := #[.val (.int i0), .val (.int i1), .val (.ref (w 3)), .val (.ref (w 3)), .unset, .unset]) rfl k) ?_
          refine Go.on (T' := T60) (g' := (mkF m 11 #[.val (.int i0), .val (.int i1), .val (.ref (w 3)), .val (.ref (w 3)), .unset, .unset] [(.ref (w 3))])) (fun t k => XS.aloadN X60.here hx rfl (hb hby at_10) rfl rfl k) ?_
          refine Go.on (T' := T60) (g' := (mkF m 12 #[.val (.int i0), .val (.int i1), .val (.ref (w 3)), .val (.ref (w 3)), .unset, .unset] [(.ref (w 3)), (.ref (w 3))])) (fun t k => XS.aloadN X60.here hx rfl (hb hby at_11) rfl rfl k) ?_
          obtain ⟨_, _, ⟨T67, L67, k67, n67⟩, -, X67, ⟨Lc67, hQ67, l67, y67, z67⟩, st67⟩ := Jvm.LawKit.callS X60 hx (y := (⟨"com/example/rederive/rederive/ColumnType", "ofArithmetic", "(Lcom/example/rederive/rederive/ColumnType;Lcom/example/rederive/rederive/ColumnType;)Lcom/example/rederive/rederive/ColumnType;"⟩ : MethodName)) hown (mvT hZ (hw _ (List.mem_of_getElem? (i := 7) rfl))) (mvT hZ (hw _ (List.mem_of_getElem? (i := 8) rfl))) (mvT hZ (hw _ (List.mem_of_getElem? (i := 5) rfl))) (mvT hZ (hw _ (List.mem_of_getElem? (i := 9) rfl))) (by decide) (backOf (W := 0) (rm2_5 l Z a0 hw [] w h0 n0 (Nat.le_trans Z0 (own_ext0 h0).1) hP) hZ (hw _ (List.mem_of_getElem? (i := 9) rfl)) (hw _ (List.mem_of_getElem? (i := 5) rfl)) (by decide) (by decide)) (g := (mkF m 12 #[.val (.int i0), .val (.int i1), .val (.ref (w 3)), .val (.ref (w 3)), .unset, .unset] [(.ref (w 3)), (.ref (w 3))])) rfl (by rw [hml]; rfl) (argsL := [(.ref (w 3)), (.ref (w 3))]) (rest := []) (lenOf pd_1 rfl) rfl (by show 2 * 0 + _ ≤ _; exact Nat.le_of_eq rfl) (hb hby at_12) (fun _ _ => ⟨rfl, e60, (by decide : 0 + 0 ≤ _), (by decide : 0 + 0 ≤ _)⟩)
          dsimp only [Pt.U, Pt.locs, Pt.cells, Pt.slots] at X67 l67 y67 z67 st67 hQ67
          subst l67 y67 z67
          obtain ⟨rfl, N67q, e67⟩ := hQ67
          have N67 := Fr.app N60 N67q
          refine Go.on (T' := T67) (g' := (mkF m 15 #[.val (.int i0), .val (.int i1), .val (.ref (w 3)), .val (.ref (w 3)), .unset, .unset] [(.ref (w 2))])) st67 ?_
          refine Go.on (T' := T67) (g' := (mkF m 17 #[.val (.int i0), .val (.int i1), .val (.ref (w 3)), .val (.ref (w 3)), .val (.ref (w 2)), .unset] [])) (fun t k => XS.astore X67.here hx rfl (hb hby at_15) rfl rfl (l' := #[.val (.int i0), .val (.int i1), .val (.ref (w 3)), .val (.ref (w 3)), .val (.ref (w 2)), .unset]) rfl k) ?_
          refine Go.on (T' := T67) (g' := (mkF m 18 #[.val (.int i0), .val (.int i1), .val (.ref (w 3)), .val (.ref (w 3)), .val (.ref (w 2)), .unset] [(.ref (w 3))])) (fun t k => XS.aloadN X67.here hx rfl (hb hby at_17) rfl rfl k) ?_
          obtain ⟨T68, X68, e68, st68⟩ := getS2 X67 hx hZ hown (host := "") (Or.inl (hw _ (List.mem_of_getElem? (i := 4) rfl))) Via.refl e67 (pin_0 hP) (g := (mkF m 18 #[.val (.int i0), .val (.int i1), .val (.ref (w 3)), .val (.ref (w 3)), .val (.ref (w 2)), .unset] [(.ref (w 3))])) rfl (hb hby at_18)
          refine Go.on (T' := T68) (g' := (mkF m 21 #[.val (.int i0), .val (.int i1), .val (.ref (w 3)), .val (.ref (w 3)), .val (.ref (w 2)), .unset] [(.ref (w 0)), (.ref (w 3))])) st68 ?_
          refine Go.on (T' := T68) (g' := (mkF m 32 #[.val (.int i0), .val (.int i1), .val (.ref (w 3)), .val (.ref (w 3)), .val (.ref (w 2)), .unset] [])) (fun t k => Jvm.RoadKit.acmp (g := (mkF m 21 #[.val (.int i0), .val (.int i1), .val (.ref (w 3)), .val (.ref (w 3)), .val (.ref (w 2)), .unset] [(.ref (w 0)), (.ref (w 3))])) X68 hx rfl rfl rfl (pc0 := 21) (pc' := 32) (same := false) rfl (hb hby at_21) rfl (decide_eq_false fun q => (own_ne (pin_12 hP) (pin_11 hP) (by decide)) (Value.ref.inj q)) (by decide) (by decide) k) ?_
          refine Go.on (T' := T68) (g' := (mkF m 33 #[.val (.int i0), .val (.int i1), .val (.ref (w 3)), .val (.ref (w 3)), .val (.ref (w 2)), .unset] [(.ref (w 3))])) (fun t k => XS.aloadN X68.here hx rfl (hb hby at_32) rfl rfl k) ?_
          obtain ⟨T69, X69, e69, st69⟩ := getS2 X68 hx hZ hown (host := "") (Or.inl (hw _ (List.mem_of_getElem? (i := 4) rfl))) Via.refl e68 (pin_0 hP) (g := (mkF m 33 #[.val (.int i0), .val (.int i1), .val (.ref (w 3)), .val (.ref (w 3)), .val (.ref (w 2)), .unset] [(.ref (w 3))])) rfl (hb hby at_33)
          refine Go.on (T' := T69) (g' := (mkF m 36 #[.val (.int i0), .val (.int i1), .val (.ref (w 3)), .val (.ref (w 3)), .val (.ref (w 2)), .unset] [(.ref (w 0)), (.ref (w 3))])) st69 ?_
          refine Go.on (T' := T69) (g' := (mkF m 47 #[.val (.int i0), .val (.int i1), .val (.ref (w 3)), .val (.ref (w 3)), .val (.ref (w 2)), .unset] [])) (fun t k => Jvm.RoadKit.acmp (g := (mkF m 36 #[.val (.int i0), .val (.int i1), .val (.ref (w 3)), .val (.ref (w 3)), .val (.ref (w 2)), .unset] [(.ref (w 0)), (.ref (w 3))])) X69 hx rfl rfl rfl (pc0 := 36) (pc' := 47) (same := false) rfl (hb hby at_36) rfl (decide_eq_false fun q => (own_ne (pin_12 hP) (pin_11 hP) (by decide)) (Value.ref.inj q)) (by decide) (by decide) k) ?_
          obtain ⟨T70, X70, e70, st70⟩ := getS2 X69 hx hZ hown (host := "") (Or.inl (hw _ (List.mem_of_getElem? (i := 12) rfl))) Via.refl e69 (pin_1 hP) (g := (mkF m 47 #[.val (.int i0), .val (.int i1), .val (.ref (w 3)), .val (.ref (w 3)), .val (.ref (w 2)), .unset] [])) rfl (hb hby at_47)
          refine Go.on (T' := T70) (g' := (mkF m 50 #[.val (.int i0), .val (.int i1), .val (.ref (w 3)), .val (.ref (w 3)), .val (.ref (w 2)), .unset] [(.ref (w 2))])) st70 ?_
          refine Go.on (T' := T70) (g' := (mkF m 52 #[.val (.int i0), .val (.int i1), .val (.ref (w 3)), .val (.ref (w 3)), .val (.ref (w 2)), .val (.ref (w 2))] [])) (fun t k => XS.astore X70.here hx rfl (hb hby at_50) rfl rfl (l' := #[.val (.int i0), .val (.int i1), .val (.ref (w 3)), .val (.ref (w 3)), .val (.ref (w 2)), .val (.ref (w 2))]) rfl k) ?_
          refine Go.on (T' := T70) (g' := (mkF m 54 #[.val (.int i0), .val (.int i1), .val (.ref (w 3)), .val (.ref (w 3)), .val (.ref (w 2)), .val (.ref (w 2))] [(.ref (w 2))])) (fun t k => XS.aload X70.here hx rfl (hb hby at_52) rfl rfl k) ?_
          refine Go.on (T' := T70) (g' := (mkF m 56 #[.val (.int i0), .val (.int i1), .val (.ref (w 3)), .val (.ref (w 3)), .val (.ref (w 2)), .val (.ref (w 2))] [(.ref (w 2)), (.ref (w 2))])) (fun t k => XS.aload X70.here hx rfl (hb hby at_54) rfl rfl k) ?_
          refine Go.on (T' := T70) (g' := (mkF m 59 #[.val (.int i0), .val (.int i1), .val (.ref (w 3)), .val (.ref (w 3)), .val (.ref (w 2)), .val (.ref (w 2))] [])) (fun t k => Jvm.RoadKit.acmp (g := (mkF m 56 #[.val (.int i0), .val (.int i1), .val (.ref (w 3)), .val (.ref (w 3)), .val (.ref (w 2)), .val (.ref (w 2))] [(.ref (w 2)), (.ref (w 2))])) X70 hx rfl rfl rfl (pc0 := 56) (pc' := 59) (same := true) rfl (hb hby at_56) rfl (decide_eq_true rfl) (by decide) (by decide) k) ?_
          refine Go.on (T' := T70) (g' := (mkF m 60 #[.val (.int i0), .val (.int i1), .val (.ref (w 3)), .val (.ref (w 3)), .val (.ref (w 2)), .val (.ref (w 2))] [(.int (1 : Int32))])) (fun t k => XS.iconst X70.here hx rfl (hb hby at_59) k) ?_
          refine Go.on (T' := T70) (g' := (mkF m 64 #[.val (.int i0), .val (.int i1), .val (.ref (w 3)), .val (.ref (w 3)), .val (.ref (w 2)), .val (.ref (w 2))] [(.int (1 : Int32))])) (fun t k => XS.goto X70.here hx rfl (pc0 := 60) (pc' := 64) rfl (hb hby at_60) (by decide) (by decide) k) ?_
          obtain ⟨fs, hr, hrun, hended, hW, hsame⟩ := X70.leave (v := some (.int (1 : Int32))) (fun h => by rw [Bd.returns] at h; cases h)
          exact ⟨_, _, retN X70 hx (t := .boolean) Bd.returns (by simp) (hb hby at_64) hr, hrun, hended, _, _, rfl, ⟨rfl, N67⟩, ⟨_, rfl⟩, hW, hsame.mono (by decide) (by decide)⟩
        · skip
          by_cases h71 : (i1 &&& (3 : Int32)) = (2 : Int32)
          · skip
            obtain ⟨_, _, ⟨T72, L72, k72, n72⟩, -, X72, ⟨Lc72, hQ72, l72, y72, z72⟩, st72⟩ := Jvm.LawKit.callS X48 hx (y := (⟨"com/example/rederive/rederive/ColumnTypeOfArithmeticPinLaw", "pick", "(I)Lcom/example/rederive/rederive/ColumnType;"⟩ : MethodName)) hown (mvT hZ (hw _ (List.mem_of_getElem? (i := 0) rfl))) (mvT hZ (hw _ (List.mem_of_getElem? (i := 1) rfl))) (mvT hZ (hw _ (List.mem_of_getElem? (i := 2) rfl))) (mvT hZ (hw _ (List.mem_of_getElem? (i := 3) rfl))) (by decide) (backOf (W := 0) (rm1_2 l Z a0 hw [] w h0 n0 (Nat.le_trans Z0 (own_ext0 h0).1) hP i1 h49 h59 h71) hZ (hw _ (List.mem_of_getElem? (i := 3) rfl)) (hw _ (List.mem_of_getElem? (i := 2) rfl)) (by decide) (by decide)) (g := (mkF m 6 #[.val (.int i0), .val (.int i1), .val (.ref (w 3)), .unset, .unset, .unset] [(.int i1)])) rfl (by rw [hml]; rfl) (argsL := [(.int i1)]) (rest := []) (lenOf pd_0 rfl) rfl (by show 2 * 0 + _ ≤ _; exact Nat.le_of_eq rfl) (hb hby at_6) (fun _ _ => ⟨rfl, e48, (by decide : 0 + 0 ≤ _), (by decide : 0 + 0 ≤ _)⟩)
            dsimp only [Pt.U, Pt.locs, Pt.cells, Pt.slots] at X72 l72 y72 z72 st72 hQ72
            subst l72 y72 z72
            obtain ⟨rfl, N72q, e72⟩ := hQ72
            have N72 := Fr.app N48 N72q
            refine Go.on (T' := T72) (g' := (mkF m 9 #[.val (.int i0), .val (.int i1), .val (.ref (w 3)), .unset, .unset, .unset] [(.ref (w 2))])) st72 ?_
            refine Go.on (T' := T72) (g' := (mkF m 10 #[.val (.int i0), .val (.int i1), .val (.ref (w 3)), .val (.ref (w 2)), .unset, .unset] [])) (fun t k => XS.astoreN X72.here hx rfl (hb hby at_9) rfl rfl (l' := #[.val (.int i0), .val (.int i1), .val (.ref (w 3)), .val (.ref (w 2)), .unset, .unset]) rfl k) ?_
            refine Go.on (T' := T72) (g' := (mkF m 11 #[.val (.int i0), .val (.int i1), .val (.ref (w 3)), .val (.ref (w 2)), .unset, .unset] [(.ref (w 3))])) (fun t k => XS.aloadN X72.here hx rfl (hb hby at_10) rfl rfl k) ?_
            refine Go.on (T' := T72) (g' := (mkF m 12 #[.val (.int i0), .val (.int i1), .val (.ref (w 3)), .val (.ref (w 2)), .unset, .unset] [(.ref (w 2)), (.ref (w 3))])) (fun t k => XS.aloadN X72.here hx rfl (hb hby at_11) rfl rfl k) ?_
            obtain ⟨_, _, ⟨T79, L79, k79, n79⟩, -, X79, ⟨Lc79, hQ79, l79, y79, z79⟩, st79⟩ := Jvm.LawKit.callS X72 hx (y := (⟨"com/example/rederive/rederive/ColumnType", "ofArithmetic", "(Lcom/example/rederive/rederive/ColumnType;Lcom/example/rederive/rederive/ColumnType;)Lcom/example/rederive/rederive/ColumnType;"⟩ : MethodName)) hown (mvT hZ (hw _ (List.mem_of_getElem? (i := 7) rfl))) (mvT hZ (hw _ (List.mem_of_getElem? (i := 8) rfl))) (mvT hZ (hw _ (List.mem_of_getElem? (i := 5) rfl))) (mvT hZ (hw _ (List.mem_of_getElem? (i := 9) rfl))) (by decide) (backOf (W := 0) (rm2_6 l Z a0 hw [] w h0 n0 (Nat.le_trans Z0 (own_ext0 h0).1) hP) hZ (hw _ (List.mem_of_getElem? (i := 9) rfl)) (hw _ (List.mem_of_getElem? (i := 5) rfl)) (by decide) (by decide)) (g := (mkF m 12 #[.val (.int i0), .val (.int i1), .val (.ref (w 3)), .val (.ref (w 2)), .unset, .unset] [(.ref (w 2)), (.ref (w 3))])) rfl (by rw [hml]; rfl) (argsL := [(.ref (w 3)), (.ref (w 2))]) (rest := []) (lenOf pd_1 rfl) rfl (by show 2 * 0 + _ ≤ _; exact Nat.le_of_eq rfl) (hb hby at_12) (fun _ _ => ⟨rfl, e72, (by decide : 0 + 0 ≤ _), (by decide : 0 + 0 ≤ _)⟩)
            dsimp only [Pt.U, Pt.locs, Pt.cells, Pt.slots] at X79 l79 y79 z79 st79 hQ79
            subst l79 y79 z79
            obtain ⟨rfl, N79q, e79⟩ := hQ79
            have N79 := Fr.app N72 N79q
            refine Go.on (T' := T79) (g' := (mkF m 15 #[.val (.int i0), .val (.int i1), .val (.ref (w 3)), .val (.ref (w 2)), .unset, .unset] [(.ref (w 2))])) st79 ?_
            refine Go.on (T' := T79) (g' := (mkF m 17 #[.val (.int i0), .val (.int i1), .val (.ref (w 3)), .val (.ref (w 2)), .val (.ref (w 2)), .unset] [])) (fun t k => XS.astore X79.here hx rfl (hb hby at_15) rfl rfl (l' := #[.val (.int i0), .val (.int i1), .val (.ref (w 3)), .val (.ref (w 2)), .val (.ref (w 2)), .unset]) rfl k) ?_
            refine Go.on (T' := T79) (g' := (mkF m 18 #[.val (.int i0), .val (.int i1), .val (.ref (w 3)), .val (.ref (w 2)), .val (.ref (w 2)), .unset] [(.ref (w 3))])) (fun t k => XS.aloadN X79.here hx rfl (hb hby at_17) rfl rfl k) ?_
            obtain ⟨T80, X80, e80, st80⟩ := getS2 X79 hx hZ hown (host := "") (Or.inl (hw _ (List.mem_of_getElem? (i := 4) rfl))) Via.refl e79 (pin_0 hP) (g := (mkF m 18 #[.val (.int i0), .val (.int i1), .val (.ref (w 3)), .val (.ref (w 2)), .val (.ref (w 2)), .unset] [(.ref (w 3))])) rfl (hb hby at_18)
            refine Go.on (T' := T80) (g' := (mkF m 21 #[.val (.int i0), .val (.int i1), .val (.ref (w 3)), .val (.ref (w 2)), .val (.ref (w 2)), .unset] [(.ref (w 0)), (.ref (w 3))])) st80 ?_
            refine Go.on (T' := T80) (g' := (mkF m 32 #[.val (.int i0), .val (.int i1), .val (.ref (w 3)), .val (.ref (w 2)), .val (.ref (w 2)), .unset] [])) (fun t k => Jvm.RoadKit.acmp (g := (mkF m 21 #[.val (.int i0), .val (.int i1), .val (.ref (w 3)), .val (.ref (w 2)), .val (.ref (w 2)), .unset] [(.ref (w 0)), (.ref (w 3))])) X80 hx rfl rfl rfl (pc0 := 21) (pc' := 32) (same := false) rfl (hb hby at_21) rfl (decide_eq_false fun q => (own_ne (pin_12 hP) (pin_11 hP) (by decide)) (Value.ref.inj q)) (by decide) (by decide) k) ?_
            refine Go.on (T' := T80) (g' := (mkF m 33 #[.val (.int i0), .val (.int i1), .val (.ref (w 3)), .val (.ref (w 2)), .val (.ref (w 2)), .unset] [(.ref (w 2))])) (fun t k => XS.aloadN X80.here hx rfl (hb hby at_32) rfl rfl k) ?_
            obtain ⟨T81, X81, e81, st81⟩ := getS2 X80 hx hZ hown (host := "") (Or.inl (hw _ (List.mem_of_getElem? (i := 4) rfl))) Via.refl e80 (pin_0 hP) (g := (mkF m 33 #[.val (.int i0), .val (.int i1), .val (.ref (w 3)), .val (.ref (w 2)), .val (.ref (w 2)), .unset] [(.ref (w 2))])) rfl (hb hby at_33)
            refine Go.on (T' := T81) (g' := (mkF m 36 #[.val (.int i0), .val (.int i1), .val (.ref (w 3)), .val (.ref (w 2)), .val (.ref (w 2)), .unset] [(.ref (w 0)), (.ref (w 2))])) st81 ?_
            refine Go.on (T' := T81) (g' := (mkF m 47 #[.val (.int i0), .val (.int i1), .val (.ref (w 3)), .val (.ref (w 2)), .val (.ref (w 2)), .unset] [])) (fun t k => Jvm.RoadKit.acmp (g := (mkF m 36 #[.val (.int i0), .val (.int i1), .val (.ref (w 3)), .val (.ref (w 2)), .val (.ref (w 2)), .unset] [(.ref (w 0)), (.ref (w 2))])) X81 hx rfl rfl rfl (pc0 := 36) (pc' := 47) (same := false) rfl (hb hby at_36) rfl (decide_eq_false fun q => (own_ne (pin_10 hP) (pin_11 hP) (by decide)) (Value.ref.inj q)) (by decide) (by decide) k) ?_
            obtain ⟨T82, X82, e82, st82⟩ := getS2 X81 hx hZ hown (host := "") (Or.inl (hw _ (List.mem_of_getElem? (i := 12) rfl))) Via.refl e81 (pin_1 hP) (g := (mkF m 47 #[.val (.int i0), .val (.int i1), .val (.ref (w 3)), .val (.ref (w 2)), .val (.ref (w 2)), .unset] [])) rfl (hb hby at_47)
            refine Go.on (T' := T82) (g' := (mkF m 50 #[.val (.int i0), .val (.int i1), .val (.ref (w 3)), .val (.ref (w 2)), .val (.ref (w 2)), .unset] [(.ref (w 2))])) st82 ?_
            refine Go.on (T' := T82) (g' := (mkF m 52 #[.val (.int i0), .val (.int i1), .val (.ref (w 3)), .val (.ref (w 2)), .val (.ref (w 2)), .val (.ref (w 2))] [])) (fun t k => XS.astore X82.here hx rfl (hb hby at_50) rfl rfl (l' := #[.val (.int i0), .val (.int i1), .val (.ref (w 3)), .val (.ref (w 2)), .val (.ref (w 2)), .val (.ref (w 2))]) rfl k) ?_
            refine Go.on (T' := T82) (g' := (mkF m 54 #[.val (.int i0), .val (.int i1), .val (.ref (w 3)), .val (.ref (w 2)), .val (.ref (w 2)), .val (.ref (w 2))] [(.ref (w 2))])) (fun t k => XS.aload X82.here hx rfl (hb hby at_52) rfl rfl k) ?_
            refine Go.on (T' := T82) (g' := (mkF m 56 #[.val (.int i0), .val (.int i1), .val (.ref (w 3)), .val (.ref (w 2)), .val (.ref (w 2)), .val (.ref (w 2))] [(.ref (w 2)), (.ref (w 2))])) (fun t k => XS.aload X82.here hx rfl (hb hby at_54) rfl rfl k) ?_
            refine Go.on (T' := T82) (g' := (mkF m 59 #[.val (.int i0), .val (.int i1), .val (.ref (w 3)), .val (.ref (w 2)), .val (.ref (w 2)), .val (.ref (w 2))] [])) (fun t k => Jvm.RoadKit.acmp (g := (mkF m 56 #[.val (.int i0), .val (.int i1), .val (.ref (w 3)), .val (.ref (w 2)), .val (.ref (w 2)), .val (.ref (w 2))] [(.ref (w 2)), (.ref (w 2))])) X82 hx rfl rfl rfl (pc0 := 56) (pc' := 59) (same := true) rfl (hb hby at_56) rfl (decide_eq_true rfl) (by decide) (by decide) k) ?_
            refine Go.on (T' := T82) (g' := (mkF m 60 #[.val (.int i0), .val (.int i1), .val (.ref (w 3)), .val (.ref (w 2)), .val (.ref (w 2)), .val (.ref (w 2))] [(.int (1 : Int32))])) (fun t k => XS.iconst X82.here hx rfl (hb hby at_59) k) ?_
            refine Go.on (T' := T82) (g' := (mkF m 64 #[.val (.int i0), .val (.int i1), .val (.ref (w 3)), .val (.ref (w 2)), .val (.ref (w 2)), .val (.ref (w 2))] [(.int (1 : Int32))])) (fun t k => XS.goto X82.here hx rfl (pc0 := 60) (pc' := 64) rfl (hb hby at_60) (by decide) (by decide) k) ?_
            obtain ⟨fs, hr, hrun, hended, hW, hsame⟩ := X82.leave (v := some (.int (1 : Int32))) (fun h => by rw [Bd.returns] at h; cases h)
            exact ⟨_, _, retN X82 hx (t := .boolean) Bd.returns (by simp) (hb hby at_64) hr, hrun, hended, _, _, rfl, ⟨rfl, N79⟩, ⟨_, rfl⟩, hW, hsame.mono (by decide) (by decide)⟩
          · skip
            obtain ⟨_, _, ⟨T83, L83, k83, n83⟩, -, X83, ⟨Lc83, hQ83, l83, y83, z83⟩, st83⟩ := Jvm.LawKit.callS X48 hx (y := (⟨"com/example/rederive/rederive/ColumnTypeOfArithmeticPinLaw", "pick", "(I)Lcom/example/rederive/rederive/ColumnType;"⟩ : MethodName)) hown (mvT hZ (hw _ (List.mem_of_getElem? (i := 0) rfl))) (mvT hZ (hw _ (List.mem_of_getElem? (i := 1) rfl))) (mvT hZ (hw _ (List.mem_of_getElem? (i := 2) rfl))) (mvT hZ (hw _ (List.mem_of_getElem? (i := 3) rfl))) (by decide) (backOf (W := 0) (rm1_3 l Z a0 hw [] w h0 n0 (Nat.le_trans Z0 (own_ext0 h0).1) hP i1 h49 h59 h71) hZ (hw _ (List.mem_of_getElem? (i := 3) rfl)) (hw _ (List.mem_of_getElem? (i := 2) rfl)) (by decide) (by decide)) (g := (mkF m 6 #[.val (.int i0), .val (.int i1), .val (.ref (w 3)), .unset, .unset, .unset] [(.int i1)])) rfl (by rw [hml]; rfl) (argsL := [(.int i1)]) (rest := []) (lenOf pd_0 rfl) rfl (by show 2 * 0 + _ ≤ _; exact Nat.le_of_eq rfl) (hb hby at_6) (fun _ _ => ⟨rfl, e48, (by decide : 0 + 0 ≤ _), (by decide : 0 + 0 ≤ _)⟩)
            dsimp only [Pt.U, Pt.locs, Pt.cells, Pt.slots] at X83 l83 y83 z83 st83 hQ83
            subst l83 y83 z83
            obtain ⟨rfl, N83q, e83⟩ := hQ83
            have N83 := Fr.app N48 N83q
            refine Go.on (T' := T83) (g' := (mkF m 9 #[.val (.int i0), .val (.int i1), .val (.ref (w 3)), .unset, .unset, .unset] [(.ref (w 0))])) st83 ?_
            refine Go.on (T' := T83) (g' := (mkF m 10 #[.val (.int i0), .val (.int i1), .val (.ref (w 3)), .val (.ref (w 0)), .unset, .unset] [])) (fun t k => XS.astoreN X83.here hx rfl (hb hby at_9) rfl rfl (l' := #[.val (.int i0), .val (.int i1), .val (.ref (w 3)), .val (.ref (w 0)), .unset, .unset]) rfl k) ?_
            refine Go.on (T' := T83) (g' := (mkF m 11 #[.val (.int i0), .val (.int i1), .val (.ref (w 3)), .val (.ref (w 0)), .unset, .unset] [(.ref (w 3))])) (fun t k => XS.aloadN X83.here hx rfl (hb hby at_10) rfl rfl k) ?_
            refine Go.on (T' := T83) (g' := (mkF m 12 #[.val (.int i0), .val (.int i1), .val (.ref (w 3)), .val (.ref (w 0)), .unset, .unset] [(.ref (w 0)), (.ref (w 3))])) (fun t k => XS.aloadN X83.here hx rfl (hb hby at_11) rfl rfl k) ?_
            obtain ⟨_, _, ⟨T88, L88, k88, n88⟩, -, X88, ⟨Lc88, hQ88, l88, y88, z88⟩, st88⟩ := Jvm.LawKit.callS X83 hx (y := (⟨"com/example/rederive/rederive/ColumnType", "ofArithmetic", "(Lcom/example/rederive/rederive/ColumnType;Lcom/example/rederive/rederive/ColumnType;)Lcom/example/rederive/rederive/ColumnType;"⟩ : MethodName)) hown (mvT hZ (hw _ (List.mem_of_getElem? (i := 7) rfl))) (mvT hZ (hw _ (List.mem_of_getElem? (i := 8) rfl))) (mvT hZ (hw _ (List.mem_of_getElem? (i := 5) rfl))) (mvT hZ (hw _ (List.mem_of_getElem? (i := 9) rfl))) (by decide) (backOf (W := 0) (rm2_7 l Z a0 hw [] w h0 n0 (Nat.le_trans Z0 (own_ext0 h0).1) hP) hZ (hw _ (List.mem_of_getElem? (i := 9) rfl)) (hw _ (List.mem_of_getElem? (i := 5) rfl)) (by decide) (by decide)) (g := (mkF m 12 #[.val (.int i0), .val (.int i1), .val (.ref (w 3)), .val (.ref (w 0)), .unset, .unset] [(.ref (w 0)), (.ref (w 3))])) rfl (by rw [hml]; rfl) (argsL := [(.ref (w 3)), (.ref (w 0))]) (rest := []) (lenOf pd_1 rfl) rfl (by show 2 * 0 + _ ≤ _; exact Nat.le_of_eq rfl) (hb hby at_12) (fun _ _ => ⟨rfl, e83, (by decide : 0 + 0 ≤ _), (by decide : 0 + 0 ≤ _)⟩)
            dsimp only [Pt.U, Pt.locs, Pt.cells, Pt.slots] at X88 l88 y88 z88 st88 hQ88
            subst l88 y88 z88
            obtain ⟨rfl, N88q, e88⟩ := hQ88
            have N88 := Fr.app N83 N88q
            refine Go.on (T' := T88) (g' := (mkF m 15 #[.val (.int i0), .val (.int i1), .val (.ref (w 3)), .val (.ref (w 0)), .unset, .unset] [(.ref (w 0))])) st88 ?_
            refine Go.on (T' := T88) (g' := (mkF m 17 #[.val (.int i0), .val (.int i1), .val (.ref (w 3)), .val (.ref (w 0)), .val (.ref (w 0)), .unset] [])) (fun t k => XS.astore X88.here hx rfl (hb hby at_15) rfl rfl (l' := #[.val (.int i0), .val (.int i1), .val (.ref (w 3)), .val (.ref (w 0)), .val (.ref (w 0)), .unset]) rfl k) ?_
            refine Go.on (T' := T88) (g' := (mkF m 18 #[.val (.int i0), .val (.int i1), .val (.ref (w 3)), .val (.ref (w 0)), .val (.ref (w 0)), .unset] [(.ref (w 3))])) (fun t k => XS.aloadN X88.here hx rfl (hb hby at_17) rfl rfl k) ?_
            obtain ⟨T89, X89, e89, st89⟩ := getS2 X88 hx hZ hown (host := "") (Or.inl (hw _ (List.mem_of_getElem? (i := 4) rfl))) Via.refl e88 (pin_0 hP) (g := (mkF m 18 #[.val (.int i0), .val (.int i1), .val (.ref (w 3)), .val (.ref (w 0)), .val (.ref (w 0)), .unset] [(.ref (w 3))])) rfl (hb hby at_18)
            refine Go.on (T' := T89) (g' := (mkF m 21 #[.val (.int i0), .val (.int i1), .val (.ref (w 3)), .val (.ref (w 0)), .val (.ref (w 0)), .unset] [(.ref (w 0)), (.ref (w 3))])) st89 ?_
            refine Go.on (T' := T89) (g' := (mkF m 32 #[.val (.int i0), .val (.int i1), .val (.ref (w 3)), .val (.ref (w 0)), .val (.ref (w 0)), .unset] [])) (fun t k => Jvm.RoadKit.acmp (g := (mkF m 21 #[.val (.int i0), .val (.int i1), .val (.ref (w 3)), .val (.ref (w 0)), .val (.ref (w 0)), .unset] [(.ref (w 0)), (.ref (w 3))])) X89 hx rfl rfl rfl (pc0 := 21) (pc' := 32) (same := false) rfl (hb hby at_21) rfl (decide_eq_false fun q => (own_ne (pin_12 hP) (pin_11 hP) (by decide)) (Value.ref.inj q)) (by decide) (by decide) k) ?_
            refine Go.on (T' := T89) (g' := (mkF m 33 #[.val (.int i0), .val (.int i1), .val (.ref (w 3)), .val (.ref (w 0)), .val (.ref (w 0)), .unset] [(.ref (w 0))])) (fun t k => XS.aloadN X89.here hx rfl (hb hby at_32) rfl rfl k) ?_
            obtain ⟨T90, X90, e90, st90⟩ := getS2 X89 hx hZ hown (host := "") (Or.inl (hw _ (List.mem_of_getElem? (i := 4) rfl))) Via.refl e89 (pin_0 hP) (g := (mkF m 33 #[.val (.int i0), .val (.int i1), .val (.ref (w 3)), .val (.ref (w 0)), .val (.ref (w 0)), .unset] [(.ref (w 0))])) rfl (hb hby at_33)
            refine Go.on (T' := T90) (g' := (mkF m 36 #[.val (.int i0), .val (.int i1), .val (.ref (w 3)), .val (.ref (w 0)), .val (.ref (w 0)), .unset] [(.ref (w 0)), (.ref (w 0))])) st90 ?_
            refine Go.on (T' := T90) (g' := (mkF m 39 #[.val (.int i0), .val (.int i1), .val (.ref (w 3)), .val (.ref (w 0)), .val (.ref (w 0)), .unset] [])) (fun t k => Jvm.RoadKit.acmp (g := (mkF m 36 #[.val (.int i0), .val (.int i1), .val (.ref (w 3)), .val (.ref (w 0)), .val (.ref (w 0)), .unset] [(.ref (w 0)), (.ref (w 0))])) X90 hx rfl rfl rfl (pc0 := 36) (pc' := 39) (same := true) rfl (hb hby at_36) rfl (decide_eq_true rfl) (by decide) (by decide) k) ?_
            obtain ⟨T91, X91, e91, st91⟩ := getS2 X90 hx hZ hown (host := "") (Or.inl (hw _ (List.mem_of_getElem? (i := 4) rfl))) Via.refl e90 (pin_0 hP) (g := (mkF m 39 #[.val (.int i0), .val (.int i1), .val (.ref (w 3)), .val (.ref (w 0)), .val (.ref (w 0)), .unset] [])) rfl (hb hby at_39)
            refine Go.on (T' := T91) (g' := (mkF m 42 #[.val (.int i0), .val (.int i1), .val (.ref (w 3)), .val (.ref (w 0)), .val (.ref (w 0)), .unset] [(.ref (w 0))])) st91 ?_
            refine Go.on (T' := T91) (g' := (mkF m 44 #[.val (.int i0), .val (.int i1), .val (.ref (w 3)), .val (.ref (w 0)), .val (.ref (w 0)), .val (.ref (w 0))] [])) (fun t k => XS.astore X91.here hx rfl (hb hby at_42) rfl rfl (l' := #[.val (.int i0), .val (.int i1), .val (.ref (w 3)), .val (.ref (w 0)), .val (.ref (w 0)), .val (.ref (w 0))]) rfl k) ?_
            refine Go.on (T' := T91) (g' := (mkF m 52 #[.val (.int i0), .val (.int i1), .val (.ref (w 3)), .val (.ref (w 0)), .val (.ref (w 0)), .val (.ref (w 0))] [])) (fun t k => XS.goto X91.here hx rfl (pc0 := 44) (pc' := 52) rfl (hb hby at_44) (by decide) (by decide) k) ?_
            refine Go.on (T' := T91) (g' := (mkF m 54 #[.val (.int i0), .val (.int i1), .val (.ref (w 3)), .val (.ref (w 0)), .val (.ref (w 0)), .val (.ref (w 0))] [(.ref (w 0))])) (fun t k => XS.aload X91.here hx rfl (hb hby at_52) rfl rfl k) ?_
            refine Go.on (T' := T91) (g' := (mkF m 56 #[.val (.int i0), .val (.int i1), .val (.ref (w 3)), .val (.ref (w 0)), .val (.ref (w 0)), .val (.ref (w 0))] [(.ref (w 0)), (.ref (w 0))])) (fun t k => XS.aload X91.here hx rfl (hb hby at_54) rfl rfl k) ?_
            refine Go.on (T' := T91) (g' := (mkF m 59 #[.val (.int i0), .val (.int i1), .val (.ref (w 3)), .val (.ref (w 0)), .val (.ref (w 0)), .val (.ref (w 0))] [])) (fun t k => Jvm.RoadKit.acmp (g := (mkF m 56 #[.val (.int i0), .val (.int i1), .val (.ref (w 3)), .val (.ref (w 0)), .val (.ref (w 0)), .val (.ref (w 0))] [(.ref (w 0)), (.ref (w 0))])) X91 hx rfl rfl rfl (pc0 := 56) (pc' := 59) (same := true) rfl (hb hby at_56) rfl (decide_eq_true rfl) (by decide) (by decide) k) ?_
            refine Go.on (T' := T91) (g' := (mkF m 60 #[.val (.int i0), .val (.int i1), .val (.ref (w 3)), .val (.ref (w 0)), .val (.ref (w 0)), .val (.ref (w 0))] [(.int (1 : Int32))])) (fun t k => XS.iconst X91.here hx rfl (hb hby at_59) k) ?_
            refine Go.on (T' := T91) (g' := (mkF m 64 #[.val (.int i0), .val (.int i1), .val (.ref (w 3)), .val (.ref (w 0)), .val (.ref (w 0)), .val (.ref (w 0))] [(.int (1 : Int32))])) (fun t k => XS.goto X91.here hx rfl (pc0 := 60) (pc' := 64) rfl (hb hby at_60) (by decide) (by decide) k) ?_
            obtain ⟨fs, hr, hrun, hended, hW, hsame⟩ := X91.leave (v := some (.int (1 : Int32))) (fun h => by rw [Bd.returns] at h; cases h)
            exact ⟨_, _, retN X91 hx (t := .boolean) Bd.returns (by simp) (hb hby at_64) hr, hrun, hended, _, _, rfl, ⟨rfl, N88⟩, ⟨_, rfl⟩, hW, hsame.mono (by decide) (by decide)⟩
    · skip
      by_cases h92 : (i0 &&& (3 : Int32)) = (2 : Int32)
      · skip
        obtain ⟨_, _, ⟨T93, L93, k93, n93⟩, -, X93, ⟨Lc93, hQ93, l93, y93, z93⟩, st93⟩ := Jvm.LawKit.callS X0 hx (y := (⟨"com/example/rederive/rederive/ColumnTypeOfArithmeticPinLaw", "pick", "(I)Lcom/example/rederive/rederive/ColumnType;"⟩ : MethodName)) hown (mvT hZ (hw _ (List.mem_of_getElem? (i := 0) rfl))) (mvT hZ (hw _ (List.mem_of_getElem? (i := 1) rfl))) (mvT hZ (hw _ (List.mem_of_getElem? (i := 2) rfl))) (mvT hZ (hw _ (List.mem_of_getElem? (i := 3) rfl))) (by decide) (backOf (W := 0) (rm1_2 l Z a0 hw [] w h0 n0 (Nat.le_trans Z0 (own_ext0 h0).1) hP i0 h7 h47 h92) hZ (hw _ (List.mem_of_getElem? (i := 3) rfl)) (hw _ (List.mem_of_getElem? (i := 2) rfl)) (by decide) (by decide)) (g := (mkF m 1 #[.val (.int i0), .val (.int i1), .unset, .unset, .unset, .unset] [(.int i0)])) rfl (by rw [hml]; rfl) (argsL := [(.int i0)]) (rest := []) (lenOf pd_0 rfl) rfl (by show 2 * 0 + _ ≤ _; exact Nat.le_of_eq rfl) (hb hby at_1) (fun _ _ => ⟨rfl, e0, (by decide : 0 + 0 ≤ _), (by decide : 0 + 0 ≤ _)⟩)
        dsimp only [Pt.U, Pt.locs, Pt.cells, Pt.slots] at X93 l93 y93 z93 st93 hQ93
        subst l93 y93 z93
        obtain ⟨rfl, N93q, e93⟩ := hQ93
        have N93 := Fr.app N0 N93q
        refine Go.on (T' := T93) (g' := (mkF m 4 #[.val (.int i0), .val (.int i1), .unset, .unset, .unset, .unset] [(.ref (w 2))])) st93 ?_
        refine Go.on (T' := T93) (g' := (mkF m 5 #[.val (.int i0), .val (.int i1), .val (.ref (w 2)), .unset, .unset, .unset] [])) (fun t k => XS.astoreN X93.here hx rfl (hb hby at_4) rfl rfl (l' := #[.val (.int i0), .val (.int i1), .val (.ref (w 2)), .unset, .unset, .unset]) rfl k) ?_
        refine Go.on (T' := T93) (g' := (mkF m 6 #[.val (.int i0), .val (.int i1), .val (.ref (w 2)), .unset, .unset, .unset] [(.int i1)])) (fun t k => XS.iloadN X93.here hx rfl (hb hby at_5) rfl k) ?_
        by_cases h94 : (i1 &&& (3 : Int32)) = (0 : Int32)
        · skip
          obtain ⟨_, _, ⟨T95, L95, k95, n95⟩, -, X95, ⟨Lc95, hQ95, l95, y95, z95⟩, st95⟩ := Jvm.LawKit.callS X93 hx (y := (⟨"com/example/rederive/rederive/ColumnTypeOfArithmeticPinLaw", "pick", "(I)Lcom/example/rederive/rederive/ColumnType;"⟩ : MethodName)) hown (mvT hZ (hw _ (List.mem_of_getElem? (i := 0) rfl))) (mvT hZ (hw _ (List.mem_of_getElem? (i := 1) rfl))) (mvT hZ (hw _ (List.mem_of_getElem? (i := 2) rfl))) (mvT hZ (hw _ (List.mem_of_getElem? (i := 3) rfl))) (by decide) (backOf (W := 0) (rm1_0 l Z a0 hw [] w h0 n0 (Nat.le_trans Z0 (own_ext0 h0).1) hP i1 h94) hZ (hw _ (List.mem_of_getElem? (i := 3) rfl)) (hw _ (List.mem_of_getElem? (i := 2) rfl)) (by decide) (by decide)) (g := (mkF m 6 #[.val (.int i0), .val (.int i1), .val (.ref (w 2)), .unset, .unset, .unset] [(.int i1)])) rfl (by rw [hml]; rfl) (argsL := [(.int i1)]) (rest := []) (lenOf pd_0 rfl) rfl (by show 2 * 0 + _ ≤ _; exact Nat.le_of_eq rfl) (hb hby at_6) (fun _ _ => ⟨rfl, e93, (by decide : 0 + 0 ≤ _), (by decide : 0 + 0 ≤ _)⟩)
          dsimp only [Pt.U, Pt.locs, Pt.cells, Pt.slots] at X95 l95 y95 z95 st95 hQ95
          subst l95 y95 z95
          obtain ⟨rfl, N95q, e95⟩ := hQ95
          have N95 := Fr.app N93 N95q
          refine Go.on (T' := T95) (g' := (mkF m 9 #[.val (.int i0), .val (.int i1), .val (.ref (w 2)), .unset, .unset, .unset] [.null])) st95 ?_
          refine Go.on (T' := T95) (g' := (mkF m 10 #[.val (.int i0), .val (.int i1), .val (.ref (w 2)), .val .null, .unset, .unset] [])) (fun t k => XS.astoreN X95.here hx rfl (hb hby at_9) rfl rfl (l' := #[.val (.int i0), .val (.int i1), .val (.ref (w 2)), .val .null, .unset, .unset]) rfl k) ?_
          refine Go.on (T' := T95) (g' := (mkF m 11 #[.val (.int i0), .val (.int i1), .val (.ref (w 2)), .val .null, .unset, .unset] [(.ref (w 2))])) (fun t k => XS.aloadN X95.here hx rfl (hb hby at_10) rfl rfl k) ?_
          refine Go.on (T' := T95) (g' := (mkF m 12 #[.val (.int i0), .val (.int i1), .val (.ref (w 2)), .val .null, .unset, .unset] [.null, (.ref (w 2))])) (fun t k => XS.aloadN X95.here hx rfl (hb hby at_11) rfl rfl k) ?_
          obtain ⟨_, _, ⟨T100, L100, k100, n100⟩, -, X100, ⟨Lc100, hQ100, l100, y100, z100⟩, st100⟩ := Jvm.LawKit.callS X95 hx (y := (⟨"com/example/rederive/rederive/ColumnType", "ofArithmetic", "(Lcom/example/rederive/rederive/ColumnType;Lcom/example/rederive/rederive/ColumnType;)Lcom/example/rederive/rederive/ColumnType;"⟩ : MethodName)) hown (mvT hZ (hw _ (List.mem_of_getElem? (i := 7) rfl))) (mvT hZ (hw _ (List.mem_of_getElem? (i := 8) rfl))) (mvT hZ (hw _ (List.mem_of_getElem? (i := 5) rfl))) (mvT hZ (hw _ (List.mem_of_getElem? (i := 9) rfl))) (by decide) (backOf (W := 0) (rm2_8 l Z a0 hw [] w h0 n0 (Nat.le_trans Z0 (own_ext0 h0).1) hP) hZ (hw _ (List.mem_of_getElem? (i := 9) rfl)) (hw _ (List.mem_of_getElem? (i := 5) rfl)) (by decide) (by decide)) (g := (mkF m 12 #[.val (.int i0), .val (.int i1), .val (.ref (w 2)), .val .null, .unset, .unset] [.null, (.ref (w 2))])) rfl (by rw [hml]; rfl) (argsL := [(.ref (w 2)), .null]) (rest := []) (lenOf pd_1 rfl) rfl (by show 2 * 0 + _ ≤ _; exact Nat.le_of_eq rfl) (hb hby at_12) (fun _ _ => ⟨rfl, e95, (by decide : 0 + 0 ≤ _), (by decide : 0 + 0 ≤ _)⟩)
          dsimp only [Pt.U, Pt.locs, Pt.cells, Pt.slots] at X100 l100 y100 z100 st100 hQ100
          subst l100 y100 z100
          obtain ⟨rfl, N100q, e100⟩ := hQ100
          have N100 := Fr.app N95 N100q
          refine Go.on (T' := T100) (g' := (mkF m 15 #[.val (.int i0), .val (.int i1), .val (.ref (w 2)), .val .null, .unset, .unset] [(.ref (w 2))])) st100 ?_
          refine Go.on (T' := T100) (g' := (mkF m 17 #[.val (.int i0), .val (.int i1), .val (.ref (w 2)), .val .null, .val (.ref (w 2)), .unset] [])) (fun t k => XS.astore X100.here hx rfl (hb hby at_15) rfl rfl (l' := #[.val (.int i0), .val (.int i1), .val (.ref (w 2)), .val .null, .val (.ref (w 2)), .unset]) rfl k) ?_
          refine Go.on (T' := T100) (g' := (mkF m 18 #[.val (.int i0), .val (.int i1), .val (.ref (w 2)), .val .null, .val (.ref (w 2)), .unset] [(.ref (w 2))])) (fun t k => XS.aloadN X100.here hx rfl (hb hby at_17) rfl rfl k) ?_
          obtain ⟨T101, X101, e101, st101⟩ := getS2 X100 hx hZ hown (host := "") (Or.inl (hw _ (List.mem_of_getElem? (i := 4) rfl))) Via.refl e100 (pin_0 hP) (g := (mkF m 18 #[.val (.int i0), .val (.int i1), .val (.ref (w 2)), .val .null, .val (.ref (w 2)), .unset] [(.ref (w 2))])) rfl (hb hby at_18)
          refine Go.on (T' := T101) (g' := (mkF m 21 #[.val (.int i0), .val (.int i1), .val (.ref (w 2)), .val .null, .val (.ref (w 2)), .unset] [(.ref (w 0)), (.ref (w 2))])) st101 ?_
          refine Go.on (T' := T101) (g' := (mkF m 32 #[.val (.int i0), .val (.int i1), .val (.ref (w 2)), .val .null, .val (.ref (w 2)), .unset] [])) (fun t k => Jvm.RoadKit.acmp (g := (mkF m 21 #[.val (.int i0), .val (.int i1), .val (.ref (w 2)), .val .null, .val (.ref (w 2)), .unset] [(.ref (w 0)), (.ref (w 2))])) X101 hx rfl rfl rfl (pc0 := 21) (pc' := 32) (same := false) rfl (hb hby at_21) rfl (decide_eq_false fun q => (own_ne (pin_10 hP) (pin_11 hP) (by decide)) (Value.ref.inj q)) (by decide) (by decide) k) ?_
          refine Go.on (T' := T101) (g' := (mkF m 33 #[.val (.int i0), .val (.int i1), .val (.ref (w 2)), .val .null, .val (.ref (w 2)), .unset] [.null])) (fun t k => XS.aloadN X101.here hx rfl (hb hby at_32) rfl rfl k) ?_
          obtain ⟨T102, X102, e102, st102⟩ := getS2 X101 hx hZ hown (host := "") (Or.inl (hw _ (List.mem_of_getElem? (i := 4) rfl))) Via.refl e101 (pin_0 hP) (g := (mkF m 33 #[.val (.int i0), .val (.int i1), .val (.ref (w 2)), .val .null, .val (.ref (w 2)), .unset] [.null])) rfl (hb hby at_33)
          refine Go.on (T' := T102) (g' := (mkF m 36 #[.val (.int i0), .val (.int i1), .val (.ref (w 2)), .val .null, .val (.ref (w 2)), .unset] [(.ref (w 0)), .null])) st102 ?_
          refine Go.on (T' := T102) (g' := (mkF m 47 #[.val (.int i0), .val (.int i1), .val (.ref (w 2)), .val .null, .val (.ref (w 2)), .unset] [])) (fun t k => Jvm.RoadKit.acmp (g := (mkF m 36 #[.val (.int i0), .val (.int i1), .val (.ref (w 2)), .val .null, .val (.ref (w 2)), .unset] [(.ref (w 0)), .null])) X102 hx rfl rfl rfl (pc0 := 36) (pc' := 47) (same := false) rfl (hb hby at_36) rfl (decide_eq_false nofun) (by decide) (by decide) k) ?_
          obtain ⟨T103, X103, e103, st103⟩ := getS2 X102 hx hZ hown (host := "") (Or.inl (hw _ (List.mem_of_getElem? (i := 12) rfl))) Via.refl e102 (pin_1 hP) (g := (mkF m 47 #[.val (.int i0), .val (.int i1), .val (.ref (w 2)), .val .null, .val (.ref (w 2)), .unset] [])) rfl (hb hby at_47)
          refine Go.on (T' := T103) (g' := (mkF m 50 #[.val (.int i0), .val (.int i1), .val (.ref (w 2)), .val .null, .val (.ref (w 2)), .unset] [(.ref (w 2))])) st103 ?_
          refine Go.on (T' := T103) (g' := (mkF m 52 #[.val (.int i0), .val (.int i1), .val (.ref (w 2)), .val .null, .val (.ref (w 2)), .val (.ref (w 2))] [])) (fun t k => XS.astore X103.here hx rfl (hb hby at_50) rfl rfl (l' := #[.val (.int i0), .val (.int i1), .val (.ref (w 2)), .val .null, .val (.ref (w 2)), .val (.ref (w 2))]) rfl k) ?_
          refine Go.on (T' := T103) (g' := (mkF m 54 #[.val (.int i0), .val (.int i1), .val (.ref (w 2)), .val .null, .val (.ref (w 2)), .val (.ref (w 2))] [(.ref (w 2))])) (fun t k => XS.aload X103.here hx rfl (hb hby at_52) rfl rfl k) ?_
          refine Go.on (T' := T103) (g' := (mkF m 56 #[.val (.int i0), .val (.int i1), .val (.ref (w 2)), .val .null, .val (.ref (w 2)), .val (.ref (w 2))] [(.ref (w 2)), (.ref (w 2))])) (fun t k => XS.aload X103.here hx rfl (hb hby at_54) rfl rfl k) ?_
          refine Go.on (T' := T103) (g' := (mkF m 59 #[.val (.int i0), .val (.int i1), .val (.ref (w 2)), .val .null, .val (.ref (w 2)), .val (.ref (w 2))] [])) (fun t k => Jvm.RoadKit.acmp (g := (mkF m 56 #[.val (.int i0), .val (.int i1), .val (.ref (w 2)), .val .null, .val (.ref (w 2)), .val (.ref (w 2))] [(.ref (w 2)), (.ref (w 2))])) X103 hx rfl rfl rfl (pc0 := 56) (pc' := 59) (same := true) rfl (hb hby at_56) rfl (decide_eq_true rfl) (by decide) (by decide) k) ?_
          refine Go.on (T' := T103) (g' := (mkF m 60 #[.val (.int i0), .val (.int i1), .val (.ref (w 2)), .val .null, .val (.ref (w 2)), .val (.ref (w 2))] [(.int (1 : Int32))])) (fun t k => XS.iconst X103.here hx rfl (hb hby at_59) k) ?_
          refine Go.on (T' := T103) (g' := (mkF m 64 #[.val (.int i0), .val (.int i1), .val (.ref (w 2)), .val .null, .val (.ref (w 2)), .val (.ref (w 2))] [(.int (1 : Int32))])) (fun t k => XS.goto X103.here hx rfl (pc0 := 60) (pc' := 64) rfl (hb hby at_60) (by decide) (by decide) k) ?_
          obtain ⟨fs, hr, hrun, hended, hW, hsame⟩ := X103.leave (v := some (.int (1 : Int32))) (fun h => by rw [Bd.returns] at h; cases h)
          exact ⟨_, _, retN X103 hx (t := .boolean) Bd.returns (by simp) (hb hby at_64) hr, hrun, hended, _, _, rfl, ⟨rfl, N100⟩, ⟨_, rfl⟩, hW, hsame.mono (by decide) (by decide)⟩
        · skip
          by_cases h104 : (i1 &&& (3 : Int32)) = (1 : Int32)
          · skip
            obtain ⟨_, _, ⟨T105, L105, k105, n105⟩, -, X105, ⟨Lc105, hQ105, l105, y105, z105⟩, st105⟩ := Jvm.LawKit.callS X93 hx (y := (⟨"com/example/rederive/rederive/ColumnTypeOfArithmeticPinLaw", "pick", "(I)Lcom/example/rederive/rederive/ColumnType;"⟩ : MethodName)) hown (mvT hZ (hw _ (List.mem_of_getElem? (i := 0) rfl))) (mvT hZ (hw _ (List.mem_of_getElem? (i := 1) rfl))) (mvT hZ (hw _ (List.mem_of_getElem? (i := 2) rfl))) (mvT hZ (hw _ (List.mem_of_getElem? (i := 3) rfl))) (by decide) (backOf (W := 0) (rm1_1 l Z a0 hw [] w h0 n0 (Nat.le_trans Z0 (own_ext0 h0).1) hP i1 h94 h104) hZ (hw _ (List.mem_of_getElem? (i := 3) rfl)) (hw _ (List.mem_of_getElem? (i := 2) rfl)) (by decide) (by decide)) (g := (mkF m 6 #[.val (.int i0), .val (.int i1), .val (.ref (w 2)), .unset, .unset, .unset] [(.int i1)])) rfl (by rw [hml]; rfl) (argsL := [(.int i1)]) (rest := []) (lenOf pd_0 rfl) rfl (by show 2 * 0 + _ ≤ _; exact Nat.le_of_eq rfl) (hb hby at_6) (fun _ _ => ⟨rfl, e93, (by decide : 0 + 0 ≤ _), (by decide : 0 + 0 ≤ _)⟩)
            dsimp only [Pt.U, Pt.locs, Pt.cells, Pt.slots] at X105 l105 y105 z105 st105 hQ105
            subst l105 y105 z105
            obtain ⟨rfl, N105q, e105⟩ := hQ105
            have N105 := Fr.app N93 N105q
            refine Go.on (T' := T105) (g' := (mkF m 9 #[.val (.int i0), .val (.int i1), .val (.ref (w 2)), .unset, .unset, .unset] [(.ref (w 3))])) st105 ?_
            refine Go.on (T' := T105) (g' := (mkF m 10 #[.val (.int i0), .val (.int i1), .val (.ref (w 2)), .val (.ref (w 3)), .unset, .unset] [])) (fun t k => XS.astoreN X105.here hx rfl (hb hby at_9) rfl rfl (l' := #[.val (.int i0), .val (.int i1), .val (.ref (w 2)), .val (.ref (w 3)), .unset, .unset]) rfl k) ?_
            refine Go.on (T' := T105) (g' := (mkF m 11 #[.val (.int i0), .val (.int i1), .val (.ref (w 2)), .val (.ref (w 3)), .unset, .unset] [(.ref (w 2))])) (fun t k => XS.aloadN X105.here hx rfl (hb hby at_10) rfl rfl k) ?_
            refine Go.on (T' := T105) (g' := (mkF m 12 #[.val (.int i0), .val (.int i1), .val (.ref (w 2)), .val (.ref (w 3)), .unset, .unset] [(.ref (w 3)), (.ref (w 2))])) (fun t k => XS.aloadN X105.here hx rfl (hb hby at_11) rfl rfl k) ?_
            obtain ⟨_, _, ⟨T112, L112, k112, n112⟩, -, X112, ⟨Lc112, hQ112, l112, y112, z112⟩, st112⟩ := Jvm.LawKit.callS X105 hx (y := (⟨"com/example/rederive/rederive/ColumnType", "ofArithmetic", "(Lcom/example/rederive/rederive/ColumnType;Lcom/example/rederive/rederive/ColumnType;)Lcom/example/rederive/rederive/ColumnType;"⟩ : MethodName)) hown (mvT hZ (hw _ (List.mem_of_getElem? (i := 7) rfl))) (mvT hZ (hw _ (List.mem_of_getElem? (i := 8) rfl))) (mvT hZ (hw _ (List.mem_of_getElem? (i := 5) rfl))) (mvT hZ (hw _ (List.mem_of_getElem? (i := 9) rfl))) (by decide) (backOf (W := 0) (rm2_9 l Z a0 hw [] w h0 n0 (Nat.le_trans Z0 (own_ext0 h0).1) hP) hZ (hw _ (List.mem_of_getElem? (i := 9) rfl)) (hw _ (List.mem_of_getElem? (i := 5) rfl)) (by decide) (by decide)) (g := (mkF m 12 #[.val (.int i0), .val (.int i1), .val (.ref (w 2)), .val (.ref (w 3)), .unset, .unset] [(.ref (w 3)), (.ref (w 2))])) rfl (by rw [hml]; rfl) (argsL := [(.ref (w 2)), (.ref (w 3))]) (rest := []) (lenOf pd_1 rfl) rfl (by show 2 * 0 + _ ≤ _; exact Nat.le_of_eq rfl) (hb hby at_12) (fun _ _ => ⟨rfl, e105, (by decide : 0 + 0 ≤ _), (by decide : 0 + 0 ≤ _)⟩)
            dsimp only [Pt.U, Pt.locs, Pt.cells, Pt.slots] at X112 l112 y112 z112 st112 hQ112
            subst l112 y112 z112
            obtain ⟨rfl, N112q, e112⟩ := hQ112
            have N112 := Fr.app N105 N112q
            refine Go.on (T' := T112) (g' := (mkF m 15 #[.val (.int i0), .val (.int i1), .val (.ref (w 2)), .val (.ref (w 3)), .unset, .unset] [(.ref (w 2))])) st112 ?_
            refine Go.on (T' := T112) (g' := (mkF m 17 #[.val (.int i0), .val (.int i1), .val (.ref (w 2)), .val (.ref (w 3)), .val (.ref (w 2)), .unset] [])) (fun t k => XS.astore X112.here hx rfl (hb hby at_15) rfl rfl (l' := #[.val (.int i0), .val (.int i1), .val (.ref (w 2)), .val (.ref (w 3)), .val (.ref (w 2)), .unset]) rfl k) ?_
            refine Go.on (T' := T112) (g' := (mkF m 18 #[.val (.int i0), .val (.int i1), .val (.ref (w 2)), .val (.ref (w 3)), .val (.ref (w 2)), .unset] [(.ref (w 2))])) (fun t k => XS.aloadN X112.here hx rfl (hb hby at_17) rfl rfl k) ?_
            obtain ⟨T113, X113, e113, st113⟩ := getS2 X112 hx hZ hown (host := "") (Or.inl (hw _ (List.mem_of_getElem? (i := 4) rfl))) Via.refl e112 (pin_0 hP) (g := (mkF m 18 #[.val (.int i0), .val (.int i1), .val (.ref (w 2)), .val (.ref (w 3)), .val (.ref (w 2)), .unset] [(.ref (w 2))])) rfl (hb hby at_18)
            refine Go.on (T' := T113) (g' := (mkF m 21 #[.val (.int i0), .val (.int i1), .val (.ref (w 2)), .val (.ref (w 3)), .val (.ref (w 2)), .unset] [(.ref (w 0)), (.ref (w 2))])) st113 ?_
            refine Go.on (T' := T113) (g' := (mkF m 32 #[.val (.int i0), .val (.int i1), .val (.ref (w 2)), .val (.ref (w 3)), .val (.ref (w 2)), .unset] [])) (fun t k => Jvm.RoadKit.acmp (g := (mkF m 21 #[.val (.int i0), .val (.int i1), .val (.ref (w 2)), .val (.ref (w 3)), .val (.ref (w 2)), .unset] [(.ref (w 0)), (.ref (w 2))])) X113 hx rfl rfl rfl (pc0 := 21) (pc' := 32) (same := false) rfl (hb hby at_21) rfl (decide_eq_false fun q => (own_ne (pin_10 hP) (pin_11 hP) (by decide)) (Value.ref.inj q)) (by decide) (by decide) k) ?_
            refine Go.on (T' := T113) (g' := (mkF m 33 #[.val (.int i0), .val (.int i1), .val (.ref (w 2)), .val (.ref (w 3)), .val (.ref (w 2)), .unset] [(.ref (w 3))])) (fun t k => XS.aloadN X113.here hx rfl (hb hby at_32) rfl rfl k) ?_
            obtain ⟨T114, X114, e114, st114⟩ := getS2 X113 hx hZ hown (host := "") (Or.inl (hw _ (List.mem_of_getElem? (i := 4) rfl))) Via.refl e113 (pin_0 hP) (g := (mkF m 33 #[.val (.int i0), .val (.int i1), .val (.ref (w 2)), .val (.ref (w 3)), .val (.ref (w 2)), .unset] [(.ref (w 3))])) rfl (hb hby at_33)
            refine Go.on (T' := T114) (g' := (mkF m 36 #[.val (.int i0), .val (.int i1), .val (.ref (w 2)), .val (.ref (w 3)), .val (.ref (w 2)), .unset] [(.ref (w 0)), (.ref (w 3))])) st114 ?_
            refine Go.on (T' := T114) (g' := (mkF m 47 #[.val (.int i0), .val (.int i1), .val (.ref (w 2)), .val (.ref (w 3)), .val (.ref (w 2)), .unset] [])) (fun t k => Jvm.RoadKit.acmp (g := (mkF m 36 #[.val (.int i0), .val (.int i1), .val (.ref (w 2)), .val (.ref (w 3)), .val (.ref (w 2)), .unset] [(.ref (w 0)), (.ref (w 3))])) X114 hx rfl rfl rfl (pc0 := 36) (pc' := 47) (same := false) rfl (hb hby at_36) rfl (decide_eq_false fun q => (own_ne (pin_12 hP) (pin_11 hP) (by decide)) (Value.ref.inj q)) (by decide) (by decide) k) ?_
            obtain ⟨T115, X115, e115, st115⟩ := getS2 X114 hx hZ hown (host := "") (Or.inl (hw _ (List.mem_of_getElem? (i := 12) rfl))) Via.refl e114 (pin_1 hP) (g := (mkF m 47 #[.val (.int i0), .val (.int i1), .val (.ref (w 2)), .val (.ref (w 3)), .val (.ref (w 2)), .unset] [])) rfl (hb hby at_47)
            refine Go.on (T' := T115) (g' := (mkF m 50 #[.val (.int i0), .val (.int i1), .val (.ref (w 2)), .val (.ref (w 3)), .val (.ref (w 2)), .unset] [(.ref (w 2))])) st115 ?_
            refine Go.on (T' := T115) (g' := (mkF m 52 #[.val (.int i0), .val (.int i1), .val (.ref (w 2)), .val (.ref (w 3)), .val (.ref (w 2)), .val (.ref (w 2))] [])) (fun t k => XS.astore X115.here hx rfl (hb hby at_50) rfl rfl (l' := #[.val (.int i0), .val (.int i1), .val (.ref (w 2)), .val (.ref (w 3)), .val (.ref (w 2)), .val (.ref (w 2))]) rfl k) ?_
            refine Go.on (T' := T115) (g' := (mkF m 54 #[.val (.int i0), .val (.int i1), .val (.ref (w 2)), .val (.ref (w 3)), .val (.ref (w 2)), .val (.ref (w 2))] [(.ref (w 2))])) (fun t k => XS.aload X115.here hx rfl (hb hby at_52) rfl rfl k) ?_
            refine Go.on (T' := T115) (g' := (mkF m 56 #[.val (.int i0), .val (.int i1), .val (.ref (w 2)), .val (.ref (w 3)), .val (.ref (w 2)), .val (.ref (w 2))] [(.ref (w 2)), (.ref (w 2))])) (fun t k => XS.aload X115.here hx rfl (hb hby at_54) rfl rfl k) ?_
            refine Go.on (T' := T115) (g' := (mkF m 59 #[.val (.int i0), .val (.int i1), .val (.ref (w 2)), .val (.ref (w 3)), .val (.ref (w 2)), .val (.ref (w 2))] [])) (fun t k => Jvm.RoadKit.acmp (g := (mkF m 56 #[.val (.int i0), .val (.int i1), .val (.ref (w 2)), .val (.ref (w 3)), .val (.ref (w 2)), .val (.ref (w 2))] [(.ref (w 2)), (.ref (w 2))])) X115 hx rfl rfl rfl (pc0 := 56) (pc' := 59) (same := true) rfl (hb hby at_56) rfl (decide_eq_true rfl) (by decide) (by decide) k) ?_
            refine Go.on (T' := T115) (g' := (mkF m 60 #[.val (.int i0), .val (.int i1), .val (.ref (w 2)), .val (.ref (w 3)), .val (.ref (w 2)), .val (.ref (w 2))] [(.int (1 : Int32))])) (fun t k => XS.iconst X115.here hx rfl (hb hby at_59) k) ?_
            refine Go.on (T' := T115) (g' := (mkF m 64 #[.val (.int i0), .val (.int i1), .val (.ref (w 2)), .val (.ref (w 3)), .val (.ref (w 2)), .val (.ref (w 2))] [(.int (1 : Int32))])) (fun t k => XS.goto X115.here hx rfl (pc0 := 60) (pc' := 64) rfl (hb hby at_60) (by decide) (by decide) k) ?_
            obtain ⟨fs, hr, hrun, hended, hW, hsame⟩ := X115.leave (v := some (.int (1 : Int32))) (fun h => by rw [Bd.returns] at h; cases h)
            exact ⟨_, _, retN X115 hx (t := .boolean) Bd.returns (by simp) (hb hby at_64) hr, hrun, hended, _, _, rfl, ⟨rfl, N112⟩, ⟨_, rfl⟩, hW, hsame.mono (by decide) (by decide)⟩
          · skip
            by_cases h116 : (i1 &&& (3 : Int32)) = (2 : Int32)
            · skip
              obtain ⟨_, _, ⟨T117, L117, k117, n117⟩, -, X117, ⟨Lc117, hQ117, l117, y117, z117⟩, st117⟩ := Jvm.LawKit.callS X93 hx (y := (⟨"com/example/rederive/rederive/ColumnTypeOfArithmeticPinLaw", "pick", "(I)Lcom/example/rederive/rederive/ColumnType;"⟩ : MethodName)) hown (mvT hZ (hw _ (List.mem_of_getElem? (i := 0) rfl))) (mvT hZ (hw _ (List.mem_of_getElem? (i := 1) rfl))) (mvT hZ (hw _ (List.mem_of_getElem? (i := 2) rfl))) (mvT hZ (hw _ (List.mem_of_getElem? (i := 3) rfl))) (by decide) (backOf (W := 0) (rm1_2 l Z a0 hw [] w h0 n0 (Nat.le_trans Z0 (own_ext0 h0).1) hP i1 h94 h104 h116) hZ (hw _ (List.mem_of_getElem? (i := 3) rfl)) (hw _ (List.mem_of_getElem? (i := 2) rfl)) (by decide) (by decide)) (g := (mkF m 6 #[.val (.int i0), .val (.int i1), .val (.ref (w 2)), .unset, .unset, .unset] [(.int i1)])) rfl (by rw [hml]; rfl) (argsL := [(.int i1)]) (rest := []) (lenOf pd_0 rfl) rfl (by show 2 * 0 + _ ≤ _; exact Nat.le_of_eq rfl) (hb hby at_6) (fun _ _ => ⟨rfl, e93, (by decide : 0 + 0 ≤ _), (by decide : 0 + 0 ≤ _)⟩)
              dsimp only [Pt.U, Pt.locs, Pt.cells, Pt.slots] at X117 l117 y117 z117 st117 hQ117
              subst l117 y117 z117
              obtain ⟨rfl, N117q, e117⟩ := hQ117
              have N117 := Fr.app N93 N117q
              refine Go.on (T' := T117) (g' := (mkF m 9 #[.val (.int i0), .val (.int i1), .val (.ref (w 2)), .unset, .unset, .unset] [(.ref (w 2))])) st117 ?_
              refine Go.on (T' := T117) (g' := (mkF m 10 #[.val (.int i0), .val (.int i1), .val (.ref (w 2)), .val (.ref (w 2)), .unset, .unset] [])) (fun t k => XS.astoreN X117.here hx rfl (hb hby at_9) rfl rfl (l' := #[.val (.int i0), .val (.int i1), .val (.ref (w 2)), .val (.ref (w 2)), .unset, .unset]) rfl k) ?_
              refine Go.on (T' := T117) (g' := (mkF m 11 #[.val (.int i0), .val (.int i1), .val (.ref (w 2)), .val (.ref (w 2)), .unset, .unset] [(.ref (w 2))])) (fun t k => XS.aloadN X117.here hx rfl (hb hby at_10) rfl rfl k) ?_
              refine Go.on (T' := T117) (g' := (mkF m 12 #[.val (.int i0), .val (.int i1), .val (.ref (w 2)), .val (.ref (w 2)), .unset, .unset] [(.ref (w 2)), (.ref (w 2))])) (fun t k => XS.aloadN X117.here hx rfl (hb hby at_11) rfl rfl k) ?_
              obtain ⟨_, _, ⟨T124, L124, k124, n124⟩, -, X124, ⟨Lc124, hQ124, l124, y124, z124⟩, st124⟩ := Jvm.LawKit.callS X117 hx (y := (⟨"com/example/rederive/rederive/ColumnType", "ofArithmetic", "(Lcom/example/rederive/rederive/ColumnType;Lcom/example/rederive/rederive/ColumnType;)Lcom/example/rederive/rederive/ColumnType;"⟩ : MethodName)) hown (mvT hZ (hw _ (List.mem_of_getElem? (i := 7) rfl))) (mvT hZ (hw _ (List.mem_of_getElem? (i := 8) rfl))) (mvT hZ (hw _ (List.mem_of_getElem? (i := 5) rfl))) (mvT hZ (hw _ (List.mem_of_getElem? (i := 9) rfl))) (by decide) (backOf (W := 0) (rm2_10 l Z a0 hw [] w h0 n0 (Nat.le_trans Z0 (own_ext0 h0).1) hP) hZ (hw _ (List.mem_of_getElem? (i := 9) rfl)) (hw _ (List.mem_of_getElem? (i := 5) rfl)) (by decide) (by decide)) (g := (mkF m 12 #[.val (.int i0), .val (.int i1), .val (.ref (w 2)), .val (.ref (w 2)), .unset, .unset] [(.ref (w 2)), (.ref (w 2))])) rfl (by rw [hml]; rfl) (argsL := [(.ref (w 2)), (.ref (w 2))]) (rest := []) (lenOf pd_1 rfl) rfl (by show 2 * 0 + _ ≤ _; exact Nat.le_of_eq rfl) (hb hby at_12) (fun _ _ => ⟨rfl, e117, (by decide : 0 + 0 ≤ _), (by decide : 0 + 0 ≤ _)⟩)
              dsimp only [Pt.U, Pt.locs, Pt.cells, Pt.slots] at X124 l124 y124 z124 st124 hQ124
              subst l124 y124 z124
              obtain ⟨rfl, N124q, e124⟩ := hQ124
              have N124 := Fr.app N117 N124q
              refine Go.on (T' := T124) (g' := (mkF m 15 #[.val (.int i0), .val (.int i1), .val (.ref (w 2)), .val (.ref (w 2)), .unset, .unset] [(.ref (w 2))])) st124 ?_
              refine Go.on (T' := T124) (g' := (mkF m 17 #[.val (.int i0), .val (.int i1), .val (.ref (w 2)), .val (.ref (w 2)), .val (.ref (w 2)), .unset] [])) (fun t k => XS.astore X124.here hx rfl (hb hby at_15) rfl rfl (l' := #[.val (.int i0), .val (.int i1), .val (.ref (w 2)), .val (.ref (w 2)), .val (.ref (w 2)), .unset]) rfl k) ?_
              refine Go.on (T' := T124) (g' := (mkF m 18 #[.val (.int i0), .val (.int i1), .val (.ref (w 2)), .val (.ref (w 2)), .val (.ref (w 2)), .unset] [(.ref (w 2))])) (fun t k => XS.aloadN X124.here hx rfl (hb hby at_17) rfl rfl k) ?_
              obtain ⟨T125, X125, e125, st125⟩ := getS2 X124 hx hZ hown (host := "") (Or.inl (hw _ (List.mem_of_getElem? (i := 4) rfl))) Via.refl e124 (pin_0 hP) (g := (mkF m 18 #[.val (.int i0), .val (.int i1), .val (.ref (w 2)), .val (.ref (w 2)), .val (.ref (w 2)), .unset] [(.ref (w 2))])) rfl (hb hby at_18)
              refine Go.on (T' := T125) (g' := (mkF m 21 #[.val (.int i0), .val (.int i1), .val (.ref (w 2)), .val (.ref (w 2)), .val (.ref (w 2)), .unset] [(.ref (w 0)), (.ref (w 2))])) st125 ?_
              refine Go.on (T' := T125) (g' := (mkF m 32 #[.val (.int i0), .val (.int i1), .val (.ref (w 2)), .val (.ref (w 2)), .val (.ref (w 2)), .unset] [])) (fun t k => Jvm.RoadKit.acmp (g := (mkF m 21 #[.val (.int i0), .val (.int i1), .val (.ref (w 2)), .val (.ref (w 2)), .val (.ref (w 2)), .unset] [(.ref (w 0)), (.ref (w 2))])) X125 hx rfl rfl rfl (pc0 := 21) (pc' := 32) (same := false) rfl (hb hby at_21) rfl (decide_eq_false fun q => (own_ne (pin_10 hP) (pin_11 hP) (by decide)) (Value.ref.inj q)) (by decide) (by decide) k) ?_
              refine Go.on (T' := T125) (g' := (mkF m 33 #[.val (.int i0), .val (.int i1), .val (.ref (w 2)), .val (.ref (w 2)), .val (.ref (w 2)), .unset] [(.ref (w 2))])) (fun t k => XS.aloadN X125.here hx rfl (hb hby at_32) rfl rfl k) ?_
              obtain ⟨T126, X126, e126, st126⟩ := getS2 X125 hx hZ hown (host := "") (Or.inl (hw _ (List.mem_of_getElem? (i := 4) rfl))) Via.refl e125 (pin_0 hP) (g := (mkF m 33 #[.val (.int i0), .val (.int i1), .val (.ref (w 2)), .val (.ref (w 2)), .val (.ref (w 2)), .unset] [(.ref (w 2))])) rfl (hb hby at_33)
              refine Go.on (T' := T126) (g' := (mkF m 36 #[.val (.int i0), .val (.int i1), .val (.ref (w 2)), .val (.ref (w 2)), .val (.ref (w 2)), .unset] [(.ref (w 0)), (.ref (w 2))])) st126 ?_
              refine Go.on (T' := T126) (g' := (mkF m 47 #[.val (.int i0), .val (.int i1), .val (.ref (w 2)), .val (.ref (w 2)), .val (.ref (w 2)), .unset] [])) (fun t k => Jvm.RoadKit.acmp (g := (mkF m 36 #[.val (.int i0), .val (.int i1), .val (.ref (w 2)), .val (.ref (w 2)), .val (.ref (w 2)), .unset] [(.ref (w 0)), (.ref (w 2))])) X126 hx rfl rfl rfl (pc0 := 36) (pc' := 47) (same := false) rfl (hb hby at_36) rfl (decide_eq_false fun q => (own_ne (pin_10 hP) (pin_11 hP) (by decide)) (Value.ref.inj q)) (by decide) (by decide) k) ?_
              obtain ⟨T127, X127, e127, st127⟩ := getS2 X126 hx hZ hown (host := "") (Or.inl (hw _ (List.mem_of_getElem? (i := 12) rfl))) Via.refl e126 (pin_1 hP) (g := (mkF m 47 #[.val (.int i0), .val (.int i1), .val (.ref (w 2)), .val (.ref (w 2)), .val (.ref (w 2)), .unset] [])) rfl (hb hby at_47)
              refine Go.on (T' := T127) (g' := (mkF m 50 #[.val (.int i0), .val (.int i1), .val (.ref (w 2)), .val (.ref (w 2)), .val (.ref (w 2)), .unset] [(.ref (w 2))])) st127 ?_
              refine Go.on (T' := T127) (g' := (mkF m 52 #[.val (.int i0), .val (.int i1), .val (.ref (w 2)), .val (.ref (w 2)), .val (.ref (w 2)), .val (.ref (w 2))] [])) (fun t k => XS.astore X127.here hx rfl (hb hby at_50) rfl rfl (l' := #[.val (.int i0), .val (.int i1), .val (.ref (w 2)), .val (.ref (w 2)), .val (.ref (w 2)), .val (.ref (w 2))]) rfl k) ?_
              refine Go.on (T' := T127) (g' := (mkF m 54 #[.val (.int i0), .val (.int i1), .val (.ref (w 2)), .val (.ref (w 2)), .val (.ref (w 2)), .val (.ref (w 2))] [(.ref (w 2))])) (fun t k => XS.aload X127.here hx rfl (hb hby at_52) rfl rfl k) ?_
              refine Go.on (T' := T127) (g' := (mkF m 56 #[.val (.int i0), .val (.int i1), .val (.ref (w 2)), .val (.ref (w 2)), .val (.ref (w 2)), .val (.ref (w 2))] [(.ref (w 2)), (.ref (w 2))])) (fun t k => XS.aload X127.here hx rfl (hb hby at_54) rfl rfl k) ?_
              refine Go.on (T' := T127) (g' := (mkF m 59 #[.val (.int i0), .val (.int i1), .val (.ref (w 2)), .val (.ref (w 2)), .val (.ref (w 2)), .val (.ref (w 2))] [])) (fun t k => Jvm.RoadKit.acmp (g := (mkF m 56 #[.val (.int i0), .val (.int i1), .val (.ref (w 2)), .val (.ref (w 2)), .val (.ref (w 2)), .val (.ref (w 2))] [(.ref (w 2)), (.ref (w 2))])) X127 hx rfl rfl rfl (pc0 := 56) (pc' := 59) (same := true) rfl (hb hby at_56) rfl (decide_eq_true rfl) (by decide) (by decide) k) ?_
              refine Go.on (T' := T127) (g' := (mkF m 60 #[.val (.int i0), .val (.int i1), .val (.ref (w 2)), .val (.ref (w 2)), .val (.ref (w 2)), .val (.ref (w 2))] [(.int (1 : Int32))])) (fun t k => XS.iconst X127.here hx rfl (hb hby at_59) k) ?_
              refine Go.on (T' := T127) (g' := (mkF m 64 #[.val (.int i0), .val (.int i1), .val (.ref (w 2)), .val (.ref (w 2)), .val (.ref (w 2)), .val (.ref (w 2))] [(.int (1 : Int32))])) (fun t k => XS.goto X127.here hx rfl (pc0 := 60) (pc' := 64) rfl (hb hby at_60) (by decide) (by decide) k) ?_
              obtain ⟨fs, hr, hrun, hended, hW, hsame⟩ := X127.leave (v := some (.int (1 : Int32))) (fun h => by rw [Bd.returns] at h; cases h)
              exact ⟨_, _, retN X127 hx (t := .boolean) Bd.returns (by simp) (hb hby at_64) hr, hrun, hended, _, _, rfl, ⟨rfl, N124⟩, ⟨_, rfl⟩, hW, hsame.mono (by decide) (by decide)⟩
            · skip
              obtain ⟨_, _, ⟨T128, L128, k128, n128⟩, -, X128, ⟨Lc128, hQ128, l128, y128, z128⟩, st128⟩ := Jvm.LawKit.callS X93 hx (y := (⟨"com/example/rederive/rederive/ColumnTypeOfArithmeticPinLaw", "pick", "(I)Lcom/example/rederive/rederive/ColumnType;"⟩ : MethodName)) hown (mvT hZ (hw _ (List.mem_of_getElem? (i := 0) rfl))) (mvT hZ (hw _ (List.mem_of_getElem? (i := 1) rfl))) (mvT hZ (hw _ (List.mem_of_getElem? (i := 2) rfl))) (mvT hZ (hw _ (List.mem_of_getElem? (i := 3) rfl))) (by decide) (backOf (W := 0) (rm1_3 l Z a0 hw [] w h0 n0 (Nat.le_trans Z0 (own_ext0 h0).1) hP i1 h94 h104 h116) hZ (hw _ (List.mem_of_getElem? (i := 3) rfl)) (hw _ (List.mem_of_getElem? (i := 2) rfl)) (by decide) (by decide)) (g := (mkF m 6 #[.val (.int i0), .val (.int i1), .val (.ref (w 2)), .unset, .unset, .unset] [(.int i1)])) rfl (by rw [hml]; rfl) (argsL := [(.int i1)]) (rest := []) (lenOf pd_0 rfl) rfl (by show 2 * 0 + _ ≤ _; exact Nat.le_of_eq rfl) (hb hby at_6) (fun _ _ => ⟨rfl, e93, (by decide : 0 + 0 ≤ _), (by decide : 0 + 0 ≤ _)⟩)
              dsimp only [Pt.U, Pt.locs, Pt.cells, Pt.slots] at X128 l128 y128 z128 st128 hQ128
              subst l128 y128 z128
              obtain ⟨rfl, N128q, e128⟩ := hQ128
              have N128 := Fr.app N93 N128q
              refine Go.on (T' := T128) (g' := (mkF m 9 #[.val (.int i0), .val (.int i1), .val (.ref (w 2)), .unset, .unset, .unset] [(.ref (w 0))])) st128 ?_
              refine Go.on (T' := T128) (g' := (mkF m 10 #[.val (.int i0), .val (.int i1), .val (.ref (w 2)), .val (.ref (w 0)), .unset, .unset] [])) (fun t k => XS.astoreN X128.here hx rfl (hb hby at_9) rfl rfl (l' := #[.val (.int i0), .val (.int i1), .val (.ref (w 2)), .val (.ref (w 0)), .unset, .unset]) rfl k) ?_
              refine Go.on (T' := T128) (g' := (mkF m 11 #[.val (.int i0), .val (.int i1), .val (.ref (w 2)), .val (.ref (w 0)), .unset, .unset] [(.ref (w 2))])) (fun t k => XS.aloadN X128.here hx rfl (hb hby at_10) rfl rfl k) ?_
              refine Go.on (T' := T128) (g' := (mkF m 12 #[.val (.int i0), .val (.int i1), .val (.ref (w 2)), .val (.ref (w 0)), .unset, .unset] [(.ref (w 0)), (.ref (w 2))])) (fun t k => XS.aloadN X128.here hx rfl (hb hby at_11) rfl rfl k) ?_
              obtain ⟨_, _, ⟨T133, L133, k133, n133⟩, -, X133, ⟨Lc133, hQ133, l133, y133, z133⟩, st133⟩ := Jvm.LawKit.callS X128 hx (y := (⟨"com/example/rederive/rederive/ColumnType", "ofArithmetic", "(Lcom/example/rederive/rederive/ColumnType;Lcom/example/rederive/rederive/ColumnType;)Lcom/example/rederive/rederive/ColumnType;"⟩ : MethodName)) hown (mvT hZ (hw _ (List.mem_of_getElem? (i := 7) rfl))) (mvT hZ (hw _ (List.mem_of_getElem? (i := 8) rfl))) (mvT hZ (hw _ (List.mem_of_getElem? (i := 5) rfl))) (mvT hZ (hw _ (List.mem_of_getElem? (i := 9) rfl))) (by decide) (backOf (W := 0) (rm2_11 l Z a0 hw [] w h0 n0 (Nat.le_trans Z0 (own_ext0 h0).1) hP) hZ (hw _ (List.mem_of_getElem? (i := 9) rfl)) (hw _ (List.mem_of_getElem? (i := 5) rfl)) (by decide) (by decide)) (g := (mkF m 12 #[.val (.int i0), .val (.int i1), .val (.ref (w 2)), .val (.ref (w 0)), .unset, .unset] [(.ref (w 0)), (.ref (w 2))])) rfl (by rw [hml]; rfl) (argsL := [(.ref (w 2)), (.ref (w 0))]) (rest := []) (lenOf pd_1 rfl) rfl (by show 2 * 0 + _ ≤ _; exact Nat.le_of_eq rfl) (hb hby at_12) (fun _ _ => ⟨rfl, e128, (by decide : 0 + 0 ≤ _), (by decide : 0 + 0 ≤ _)⟩)
              dsimp only [Pt.U, Pt.locs, Pt.cells, Pt.slots] at X133 l133 y133 z133 st133 hQ133
              subst l133 y133 z133
              obtain ⟨rfl, N133q, e133⟩ := hQ133
              have N133 := Fr.app N128 N133q
              refine Go.on (T' := T133) (g' := (mkF m 15 #[.val (.int i0), .val (.int i1), .val (.ref (w 2)), .val (.ref (w 0)), .unset, .unset] [(.ref (w 0))])) st133 ?_
              refine Go.on (T' := T133) (g' := (mkF m 17 #[.val (.int i0), .val (.int i1), .val (.ref (w 2)), .val (.ref (w 0)), .val (.ref (w 0)), .unset] [])) (fun t k => XS.astore X133.here hx rfl (hb hby at_15) rfl rfl (l' := #[.val (.int i0), .val (.int i1), .val (.ref (w 2)), .val (.ref (w 0)), .val (.ref (w 0)), .unset]) rfl k) ?_
              refine Go.on (T' := T133) (g' := (mkF m 18 #[.val (.int i0), .val (.int i1), .val (.ref (w 2)), .val (.ref (w 0)), .val (.ref (w 0)), .unset] [(.ref (w 2))])) (fun t k => XS.aloadN X133.here hx rfl (hb hby at_17) rfl rfl k) ?_
              obtain ⟨T134, X134, e134, st134⟩ := getS2 X133 hx hZ hown (host := "") (Or.inl (hw _ (List.mem_of_getElem? (i := 4) rfl))) Via.refl e133 (pin_0 hP) (g := (mkF m 18 #[.val (.int i0), .val (.int i1), .val (.ref (w 2)), .val (.ref (w 0)), .val (.ref (w 0)), .unset] [(.ref (w 2))])) rfl (hb hby at_18)
              refine Go.on (T' := T134) (g' := (mkF m 21 #[.val (.int i0), .val (.int i1), .val (.ref (w 2)), .val (.ref (w 0)), .val (.ref (w 0)), .unset] [(.ref (w 0)), (.ref (w 2))])) st134 ?_
              refine Go.on (T' := T134) (g' := (mkF m 32 #[.val (.int i0), .val (.int i1), .val (.ref (w 2)), .val (.ref (w 0)), .val (.ref (w 0)), .unset] [])) (fun t k => Jvm.RoadKit.acmp (g := (mkF m 21 #[.val (.int i0), .val (.int i1), .val (.ref (w 2)), .val (.ref (w 0)), .val (.ref (w 0)), .unset] [(.ref (w 0)), (.ref (w 2))])) X134 hx rfl rfl rfl (pc0 := 21) (pc' := 32) (same := false) rfl (hb hby at_21) rfl (decide_eq_false fun q => (own_ne (pin_10 hP) (pin_11 hP) (by decide)) (Value.ref.inj q)) (by decide) (by decide) k) ?_
              refine Go.on (T' := T134) (g' := (mkF m 33 #[.val (.int i0), .val (.int i1), .val (.ref (w 2)), .val (.ref (w 0)), .val (.ref (w 0)), .unset] [(.ref (w 0))])) (fun t k => XS.aloadN X134.here hx rfl (hb hby at_32) rfl rfl k) ?_
              obtain ⟨T135, X135, e135, st135⟩ := getS2 X134 hx hZ hown (host := "") (Or.inl (hw _ (List.mem_of_getElem? (i := 4) rfl))) Via.refl e134 (pin_0 hP) (g := (mkF m 33 #[.val (.int i0), .val (.int i1), .val (.ref (w 2)), .val (.ref (w 0)), .val (.ref (w 0)), .unset] [(.ref (w 0))])) rfl (hb hby at_33)
              refine Go.on (T' := T135) (g' := (mkF m 36 #[.val (.int i0), .val (.int i1), .val (.ref (w 2)), .val (.ref (w 0)), .val (.ref (w 0)), .unset] [(.ref (w 0)), (.ref (w 0))])) st135 ?_
              refine Go.on (T' := T135) (g' := (mkF m 39 #[.val (.int i0), .val (.int i1), .val (.ref (w 2)), .val (.ref (w 0)), .val (.ref (w 0)), .unset] [])) (fun t k => Jvm.RoadKit.acmp (g := (mkF m 36 #[.val (.int i0), .val (.int i1), .val (.ref (w 2)), .val (.ref (w 0)), .val (.ref (w 0)), .unset] [(.ref (w 0)), (.ref (w 0))])) X135 hx rfl rfl rfl (pc0 := 36) (pc' := 39) (same := true) rfl (hb hby at_36) rfl (decide_eq_true rfl) (by decide) (by decide) k) ?_
              obtain ⟨T136, X136, e136, st136⟩ := getS2 X135 hx hZ hown (host := "") (Or.inl (hw _ (List.mem_of_getElem? (i := 4) rfl))) Via.refl e135 (pin_0 hP) (g := (mkF m 39 #[.val (.int i0), .val (.int i1), .val (.ref (w 2)), .val (.ref (w 0)), .val (.ref (w 0)), .unset] [])) rfl (hb hby at_39)
              refine Go.on (T' := T136) (g' := (mkF m 42 #[.val (.int i0), .val (.int i1), .val (.ref (w 2)), .val (.ref (w 0)), .val (.ref (w 0)), .unset] [(.ref (w 0))])) st136 ?_
              refine Go.on (T' := T136) (g' := (mkF m 44 #[.val (.int i0), .val (.int i1), .val (.ref (w 2)), .val (.ref (w 0)), .val (.ref (w 0)), .val (.ref (w 0))] [])) (fun t k => XS.astore X136.here hx rfl (hb hby at_42) rfl rfl (l' := #[.val (.int i0), .val (.int i1), .val (.ref (w 2)), .val (.ref (w 0)), .val (.ref (w 0)), .val (.ref (w 0))]) rfl k) ?_
              refine Go.on (T' := T136) (g' := (mkF m 52 #[.val (.int i0), .val (.int i1), .val (.ref (w 2)), .val (.ref (w 0)), .val (.ref (w 0)), .val (.ref (w 0))] [])) (fun t k => XS.goto X136.here hx rfl (pc0 := 44) (pc' := 52) rfl (hb hby at_44) (by decide) (by decide) k) ?_
              refine Go.on (T' := T136) (g' := (mkF m 54 #[.val (.int i0), .val (.int i1), .val (.ref (w 2)), .val (.ref (w 0)), .val (.ref (w 0)), .val (.ref (w 0))] [(.ref (w 0))])) (fun t k => XS.aload X136.here hx rfl (hb hby at_52) rfl rfl k) ?_
              refine Go.on (T' := T136) (g' := (mkF m 56 #[.val (.int i0), .val (.int i1), .val (.ref (w 2)), .val (.ref (w 0)), .val (.ref (w 0)), .val (.ref (w 0))] [(.ref (w 0)), (.ref (w 0))])) (fun t k => XS.aload X136.here hx rfl (hb hby at_54) rfl rfl k) ?_
              refine Go.on (T' := T136) (g' := (mkF m 59 #[.val (.int i0), .val (.int i1), .val (.ref (w 2)), .val (.ref (w 0)), .val (.ref (w 0)), .val (.ref (w 0))] [])) (fun t k => Jvm.RoadKit.acmp (g := (mkF m 56 #[.val (.int i0), .val (.int i1), .val (.ref (w 2)), .val (.ref (w 0)), .val (.ref (w 0)), .val (.ref (w 0))] [(.ref (w 0)), (.ref (w 0))])) X136 hx rfl rfl rfl (pc0 := 56) (pc' := 59) (same := true) rfl (hb hby at_56) rfl (decide_eq_true rfl) (by decide) (by decide) k) ?_
              refine Go.on (T' := T136) (g' := (mkF m 60 #[.val (.int i0), .val (.int i1), .val (.ref (w 2)), .val (.ref (w 0)), .val (.ref (w 0)), .val (.ref (w 0))] [(.int (1 : Int32))])) (fun t k => XS.iconst X136.here hx rfl (hb hby at_59) k) ?_
              refine Go.on (T' := T136) (g' := (mkF m 64 #[.val (.int i0), .val (.int i1), .val (.ref (w 2)), .val (.ref (w 0)), .val (.ref (w 0)), .val (.ref (w 0))] [(.int (1 : Int32))])) (fun t k => XS.goto X136.here hx rfl (pc0 := 60) (pc' := 64) rfl (hb hby at_60) (by decide) (by decide) k) ?_
              obtain ⟨fs, hr, hrun, hended, hW, hsame⟩ := X136.leave (v := some (.int (1 : Int32))) (fun h => by rw [Bd.returns] at h; cases h)
              exact ⟨_, _, retN X136 hx (t := .boolean) Bd.returns (by simp) (hb hby at_64) hr, hrun, hended, _, _, rfl, ⟨rfl, N133⟩, ⟨_, rfl⟩, hW, hsame.mono (by decide) (by decide)⟩
      · skip
        obtain ⟨_, _, ⟨T137, L137, k137, n137⟩, -, X137, ⟨Lc137, hQ137, l137, y137, z137⟩, st137⟩ := Jvm.LawKit.callS X0 hx (y := (⟨"com/example/rederive/rederive/ColumnTypeOfArithmeticPinLaw", "pick", "(I)Lcom/example/rederive/rederive/ColumnType;"⟩ : MethodName)) hown (mvT hZ (hw _ (List.mem_of_getElem? (i := 0) rfl))) (mvT hZ (hw _ (List.mem_of_getElem? (i := 1) rfl))) (mvT hZ (hw _ (List.mem_of_getElem? (i := 2) rfl))) (mvT hZ (hw _ (List.mem_of_getElem? (i := 3) rfl))) (by decide) (backOf (W := 0) (rm1_3 l Z a0 hw [] w h0 n0 (Nat.le_trans Z0 (own_ext0 h0).1) hP i0 h7 h47 h92) hZ (hw _ (List.mem_of_getElem? (i := 3) rfl)) (hw _ (List.mem_of_getElem? (i := 2) rfl)) (by decide) (by decide)) (g := (mkF m 1 #[.val (.int i0), .val (.int i1), .unset, .unset, .unset, .unset] [(.int i0)])) rfl (by rw [hml]; rfl) (argsL := [(.int i0)]) (rest := []) (lenOf pd_0 rfl) rfl (by show 2 * 0 + _ ≤ _; exact Nat.le_of_eq rfl) (hb hby at_1) (fun _ _ => ⟨rfl, e0, (by decide : 0 + 0 ≤ _), (by decide : 0 + 0 ≤ _)⟩)
        dsimp only [Pt.U, Pt.locs, Pt.cells, Pt.slots] at X137 l137 y137 z137 st137 hQ137
        subst l137 y137 z137
        obtain ⟨rfl, N137q, e137⟩ := hQ137
        have N137 := Fr.app N0 N137q
        refine Go.on (T' := T137) (g' := (mkF m 4 #[.val (.int i0), .val (.int i1), .unset, .unset, .unset, .unset] [(.ref (w 0))])) st137 ?_
        refine Go.on (T' := T137) (g' := (mkF m 5 #[.val (.int i0), .val (.int i1), .val (.ref (w 0)), .unset, .unset, .unset] [])) (fun t k => XS.astoreN X137.here hx rfl (hb hby at_4) rfl rfl (l' := #[.val (.int i0), .val (.int i1), .val (.ref (w 0)), .unset, .unset, .unset]) rfl k) ?_
        refine Go.on (T' := T137) (g' := (mkF m 6 #[.val (.int i0), .val (.int i1), .val (.ref (w 0)), .unset, .unset, .unset] [(.int i1)])) (fun t k => XS.iloadN X137.here hx rfl (hb hby at_5) rfl k) ?_
        by_cases h138 : (i1 &&& (3 : Int32)) = (0 : Int32)
        · skip
          obtain ⟨_, _, ⟨T139, L139, k139, n139⟩, -, X139, ⟨Lc139, hQ139, l139, y139, z139⟩, st139⟩ := Jvm.LawKit.callS X137 hx (y := (⟨"com/example/rederive/rederive/ColumnTypeOfArithmeticPinLaw", "pick", "(I)Lcom/example/rederive/rederive/ColumnType;"⟩ : MethodName)) hown (mvT hZ (hw _ (List.mem_of_getElem? (i := 0) rfl))) (mvT hZ (hw _ (List.mem_of_getElem? (i := 1) rfl))) (mvT hZ (hw _ (List.mem_of_getElem? (i := 2) rfl))) (mvT hZ (hw _ (List.mem_of_getElem? (i := 3) rfl))) (by decide) (backOf (W := 0) (rm1_0 l Z a0 hw [] w h0 n0 (Nat.le_trans Z0 (own_ext0 h0).1) hP i1 h138) hZ (hw _ (List.mem_of_getElem? (i := 3) rfl)) (hw _ (List.mem_of_getElem? (i := 2) rfl)) (by decide) (by decide)) (g := (mkF m 6 #[.val (.int i0), .val (.int i1), .val (.ref (w 0)), .unset, .unset, .unset] [(.int i1)])) rfl (by rw [hml]; rfl) (argsL := [(.int i1)]) (rest := []) (lenOf pd_0 rfl) rfl (by show 2 * 0 + _ ≤ _; exact Nat.le_of_eq rfl) (hb hby at_6) (fun _ _ => ⟨rfl, e137, (by decide : 0 + 0 ≤ _), (by decide : 0 + 0 ≤ _)⟩)
          dsimp only [Pt.U, Pt.locs, Pt.cells, Pt.slots] at X139 l139 y139 z139 st139 hQ139
          subst l139 y139 z139
          obtain ⟨rfl, N139q, e139⟩ := hQ139
          have N139 := Fr.app N137 N139q
          refine Go.on (T' := T139) (g' := (mkF m 9 #[.val (.int i0), .val (.int i1), .val (.ref (w 0)), .unset, .unset, .unset] [.null])) st139 ?_
          refine Go.on (T' := T139) (g' := (mkF m 10 #[.val (.int i0), .val (.int i1), .val (.ref (w 0)), .val .null, .unset, .unset] [])) (fun t k => XS.astoreN X139.here hx rfl (hb hby at_9) rfl rfl (l' := #[.val (.int i0), .val (.int i1), .val (.ref (w 0)), .val .null, .unset, .unset]) rfl k) ?_
          refine Go.on (T' := T139) (g' := (mkF m 11 #[.val (.int i0), .val (.int i1), .val (.ref (w 0)), .val .null, .unset, .unset] [(.ref (w 0))])) (fun t k => XS.aloadN X139.here hx rfl (hb hby at_10) rfl rfl k) ?_
          refine Go.on (T' := T139) (g' := (mkF m 12 #[.val (.int i0), .val (.int i1), .val (.ref (w 0)), .val .null, .unset, .unset] [.null, (.ref (w 0))])) (fun t k => XS.aloadN X139.here hx rfl (hb hby at_11) rfl rfl k) ?_
          obtain ⟨_, _, ⟨T142, L142, k142, n142⟩, -, X142, ⟨Lc142, hQ142, l142, y142, z142⟩, st142⟩ := Jvm.LawKit.callS X139 hx (y := (⟨"com/example/rederive/rederive/ColumnType", "ofArithmetic", "(Lcom/example/rederive/rederive/ColumnType;Lcom/example/rederive/rederive/ColumnType;)Lcom/example/rederive/rederive/ColumnType;"⟩ : MethodName)) hown (mvT hZ (hw _ (List.mem_of_getElem? (i := 7) rfl))) (mvT hZ (hw _ (List.mem_of_getElem? (i := 8) rfl))) (mvT hZ (hw _ (List.mem_of_getElem? (i := 5) rfl))) (mvT hZ (hw _ (List.mem_of_getElem? (i := 9) rfl))) (by decide) (backOf (W := 0) (rm2_12 l Z a0 hw [] w h0 n0 (Nat.le_trans Z0 (own_ext0 h0).1) hP) hZ (hw _ (List.mem_of_getElem? (i := 9) rfl)) (hw _ (List.mem_of_getElem? (i := 5) rfl)) (by decide) (by decide)) (g := (mkF m 12 #[.val (.int i0), .val (.int i1), .val (.ref (w 0)), .val .null, .unset, .unset] [.null, (.ref (w 0))])) rfl (by rw [hml]; rfl) (argsL := [(.ref (w 0)), .null]) (rest := []) (lenOf pd_1 rfl) rfl (by show 2 * 0 + _ ≤ _; exact Nat.le_of_eq rfl) (hb hby at_12) (fun _ _ => ⟨rfl, e139, (by decide : 0 + 0 ≤ _), (by decide : 0 + 0 ≤ _)⟩)
          dsimp only [Pt.U, Pt.locs, Pt.cells, Pt.slots] at X142 l142 y142 z142 st142 hQ142
          subst l142 y142 z142
          obtain ⟨rfl, N142q, e142⟩ := hQ142
          have N142 := Fr.app N139 N142q
          refine Go.on (T' := T142) (g' := (mkF m 15 #[.val (.int i0), .val (.int i1), .val (.ref (w 0)), .val .null, .unset, .unset] [(.ref (w 0))])) st142 ?_
          refine Go.on (T' := T142) (g' := (mkF m 17 #[.val (.int i0), .val (.int i1), .val (.ref (w 0)), .val .null, .val (.ref (w 0)), .unset] [])) (fun t k => XS.astore X142.here hx rfl (hb hby at_15) rfl rfl (l' := #[.val (.int i0), .val (.int i1), .val (.ref (w 0)), .val .null, .val (.ref (w 0)), .unset]) rfl k) ?_
          refine Go.on (T' := T142) (g' := (mkF m 18 #[.val (.int i0), .val (.int i1), .val (.ref (w 0)), .val .null, .val (.ref (w 0)), .unset] [(.ref (w 0))])) (fun t k => XS.aloadN X142.here hx rfl (hb hby at_17) rfl rfl k) ?_
          obtain ⟨T143, X143, e143, st143⟩ := getS2 X142 hx hZ hown (host := "") (Or.inl (hw _ (List.mem_of_getElem? (i := 4) rfl))) Via.refl e142 (pin_0 hP) (g := (mkF m 18 #[.val (.int i0), .val (.int i1), .val (.ref (w 0)), .val .null, .val (.ref (w 0)), .unset] [(.ref (w 0))])) rfl (hb hby at_18)
          refine Go.on (T' := T143) (g' := (mkF m 21 #[.val (.int i0), .val (.int i1), .val (.ref (w 0)), .val .null, .val (.ref (w 0)), .unset] [(.ref (w 0)), (.ref (w 0))])) st143 ?_
          refine Go.on (T' := T143) (g' := (mkF m 24 #[.val (.int i0), .val (.int i1), .val (.ref (w 0)), .val .null, .val (.ref (w 0)), .unset] [])) (fun t k => Jvm.RoadKit.acmp (g := (mkF m 21 #[.val (.int i0), .val (.int i1), .val (.ref (w 0)), .val .null, .val (.ref (w 0)), .unset] [(.ref (w 0)), (.ref (w 0))])) X143 hx rfl rfl rfl (pc0 := 21) (pc' := 24) (same := true) rfl (hb hby at_21) rfl (decide_eq_true rfl) (by decide) (by decide) k) ?_
          obtain ⟨T144, X144, e144, st144⟩ := getS2 X143 hx hZ hown (host := "") (Or.inl (hw _ (List.mem_of_getElem? (i := 4) rfl))) Via.refl e143 (pin_0 hP) (g := (mkF m 24 #[.val (.int i0), .val (.int i1), .val (.ref (w 0)), .val .null, .val (.ref (w 0)), .unset] [])) rfl (hb hby at_24)
          refine Go.on (T' := T144) (g' := (mkF m 27 #[.val (.int i0), .val (.int i1), .val (.ref (w 0)), .val .null, .val (.ref (w 0)), .unset] [(.ref (w 0))])) st144 ?_
          refine Go.on (T' := T144) (g' := (mkF m 29 #[.val (.int i0), .val (.int i1), .val (.ref (w 0)), .val .null, .val (.ref (w 0)), .val (.ref (w 0))] [])) (fun t k => XS.astore X144.here hx rfl (hb hby at_27) rfl rfl (l' := #[.val (.int i0), .val (.int i1), .val (.ref (w 0)), .val .null, .val (.ref (w 0)), .val (.ref (w 0))]) rfl k) ?_
          refine Go.on (T' := T144) (g' := (mkF m 52 #[.val (.int i0), .val (.int i1), .val (.ref (w 0)), .val .null, .val (.ref (w 0)), .val (.ref (w 0))] [])) (fun t k => XS.goto X144.here hx rfl (pc0 := 29) (pc' := 52) rfl (hb hby at_29) (by decide) (by decide) k) ?_
          refine Go.on (T' := T144) (g' := (mkF m 54 #[.val (.int i0), .val (.int i1), .val (.ref (w 0)), .val .null, .val (.ref (w 0)), .val (.ref (w 0))] [(.ref (w 0))])) (fun t k => XS.aload X144.here hx rfl (hb hby at_52) rfl rfl k) ?_
          refine Go.on (T' := T144) (g' := (mkF m 56 #[.val (.int i0), .val (.int i1), .val (.ref (w 0)), .val .null, .val (.ref (w 0)), .val (.ref (w 0))] [(.ref (w 0)), (.ref (w 0))])) (fun t k => XS.aload X144.here hx rfl (hb hby at_54) rfl rfl k) ?_
          refine Go.on (T' := T144) (g' := (mkF m 59 #[.val (.int i0), .val (.int i1), .val (.ref (w 0)), .val .null, .val (.ref (w 0)), .val (.ref (w 0))] [])) (fun t k => Jvm.RoadKit.acmp (g := (mkF m 56 #[.val (.int i0), .val (.int i1), .val (.ref (w 0)), .val .null, .val (.ref (w 0)), .val (.ref (w 0))] [(.ref (w 0)), (.ref (w 0))])) X144 hx rfl rfl rfl (pc0 := 56) (pc' := 59) (same := true) rfl (hb hby at_56) rfl (decide_eq_true rfl) (by decide) (by decide) k) ?_
          refine Go.on (T' := T144) (g' := (mkF m 60 #[.val (.int i0), .val (.int i1), .val (.ref (w 0)), .val .null, .val (.ref (w 0)), .val (.ref (w 0))] [(.int (1 : Int32))])) (fun t k => XS.iconst X144.here hx rfl (hb hby at_59) k) ?_
          refine Go.on (T' := T144) (g' := (mkF m 64 #[.val (.int i0), .val (.int i1), .val (.ref (w 0)), .val .null, .val (.ref (w 0)), .val (.ref (w 0))] [(.int (1 : Int32))])) (fun t k => XS.goto X144.here hx rfl (pc0 := 60) (pc' := 64) rfl (hb hby at_60) (by decide) (by decide) k) ?_
          obtain ⟨fs, hr, hrun, hended, hW, hsame⟩ := X144.leave (v := some (.int (1 : Int32))) (fun h => by rw [Bd.returns] at h; cases h)
          exact ⟨_, _, retN X144 hx (t := .boolean) Bd.returns (by simp) (hb hby at_64) hr, hrun, hended, _, _, rfl, ⟨rfl, N142⟩, ⟨_, rfl⟩, hW, hsame.mono (by decide) (by decide)⟩
        · skip
          by_cases h145 : (i1 &&& (3 : Int32)) = (1 : Int32)
          · skip
            obtain ⟨_, _, ⟨T146, L146, k146, n146⟩, -, X146, ⟨Lc146, hQ146, l146, y146, z146⟩, st146⟩ := Jvm.LawKit.callS X137 hx (y := (⟨"com/example/rederive/rederive/ColumnTypeOfArithmeticPinLaw", "pick", "(I)Lcom/example/rederive/rederive/ColumnType;"⟩ : MethodName)) hown (mvT hZ (hw _ (List.mem_of_getElem? (i := 0) rfl))) (mvT hZ (hw _ (List.mem_of_getElem? (i := 1) rfl))) (mvT hZ (hw _ (List.mem_of_getElem? (i := 2) rfl))) (mvT hZ (hw _ (List.mem_of_getElem? (i := 3) rfl))) (by decide) (backOf (W := 0) (rm1_1 l Z a0 hw [] w h0 n0 (Nat.le_trans Z0 (own_ext0 h0).1) hP i1 h138 h145) hZ (hw _ (List.mem_of_getElem? (i := 3) rfl)) (hw _ (List.mem_of_getElem? (i := 2) rfl)) (by decide) (by decide)) (g := (mkF m 6 #[.val (.int i0), .val (.int i1), .val (.ref (w 0)), .unset, .unset, .unset] [(.int i1)])) rfl (by rw [hml]; rfl) (argsL := [(.int i1)]) (rest := []) (lenOf pd_0 rfl) rfl (by show 2 * 0 + _ ≤ _; exact Nat.le_of_eq rfl) (hb hby at_6) (fun _ _ => ⟨rfl, e137, (by decide : 0 + 0 ≤ _), (by decide : 0 + 0 ≤ _)⟩)
            dsimp only [Pt.U, Pt.locs, Pt.cells, Pt.slots] at X146 l146 y146 z146 st146 hQ146
            subst l146 y146 z146
            obtain ⟨rfl, N146q, e146⟩ := hQ146
            have N146 := Fr.app N137 N146q
            refine Go.on (T' := T146) (g' := (mkF m 9 #[.val (.int i0), .val (.int i1), .val (.ref (w 0)), .unset, .unset, .unset] [(.ref (w 3))])) st146 ?_
            refine Go.on (T' := T146) (g' := (mkF m 10 #[.val (.int i0), .val (.int i1), .val (.ref (w 0)), .val (.ref (w 3)), .unset, .unset] [])) (fun t k => XS.astoreN X146.here hx rfl (hb hby at_9) rfl rfl (l' := #[.val (.int i0), .val (.int i1), .val (.ref (w 0)), .val (.ref (w 3)), .unset, .unset]) rfl k) ?_
            refine Go.on (T' := T146) (g' := (mkF m 11 #[.val (.int i0), .val (.int i1), .val (.ref (w 0)), .val (.ref (w 3)), .unset, .unset] [(.ref (w 0))])) (fun t k => XS.aloadN X146.here hx rfl (hb hby at_10) rfl rfl k) ?_
            refine Go.on (T' := T146) (g' := (mkF m 12 #[.val (.int i0), .val (.int i1), .val (.ref (w 0)), .val (.ref (w 3)), .unset, .unset] [(.ref (w 3)), (.ref (w 0))])) (fun t k => XS.aloadN X146.here hx rfl (hb hby at_11) rfl rfl k) ?_
            obtain ⟨_, _, ⟨T149, L149, k149, n149⟩, -, X149, ⟨Lc149, hQ149, l149, y149, z149⟩, st149⟩ := Jvm.LawKit.callS X146 hx (y := (⟨"com/example/rederive/rederive/ColumnType", "ofArithmetic", "(Lcom/example/rederive/rederive/ColumnType;Lcom/example/rederive/rederive/ColumnType;)Lcom/example/rederive/rederive/ColumnType;"⟩ : MethodName)) hown (mvT hZ (hw _ (List.mem_of_getElem? (i := 7) rfl))) (mvT hZ (hw _ (List.mem_of_getElem? (i := 8) rfl))) (mvT hZ (hw _ (List.mem_of_getElem? (i := 5) rfl))) (mvT hZ (hw _ (List.mem_of_getElem? (i := 9) rfl))) (by decide) (backOf (W := 0) (rm2_13 l Z a0 hw [] w h0 n0 (Nat.le_trans Z0 (own_ext0 h0).1) hP) hZ (hw _ (List.mem_of_getElem? (i := 9) rfl)) (hw _ (List.mem_of_getElem? (i := 5) rfl)) (by decide) (by decide)) (g := (mkF m 12 #[.val (.int i0), .val (.int i1), .val (.ref (w 0)), .val (.ref (w 3)), .unset, .unset] [(.ref (w 3)), (.ref (w 0))])) rfl (by rw [hml]; rfl) (argsL := [(.ref (w 0)), (.ref (w 3))]) (rest := []) (lenOf pd_1 rfl) rfl (by show 2 * 0 + _ ≤ _; exact Nat.le_of_eq rfl) (hb hby at_12) (fun _ _ => ⟨rfl, e146, (by decide : 0 + 0 ≤ _), (by decide : 0 + 0 ≤ _)⟩)
            dsimp only [Pt.U, Pt.locs, Pt.cells, Pt.slots] at X149 l149 y149 z149 st149 hQ149
            subst l149 y149 z149
            obtain ⟨rfl, N149q, e149⟩ := hQ149
            have N149 := Fr.app N146 N149q
            refine Go.on (T' := T149) (g' := (mkF m 15 #[.val (.int i0), .val (.int i1), .val (.ref (w 0)), .val (.ref (w 3)), .unset, .unset] [(.ref (w 0))])) st149 ?_
            refine Go.on (T' := T149) (g' := (mkF m 17 #[.val (.int i0), .val (.int i1), .val (.ref (w 0)), .val (.ref (w 3)), .val (.ref (w 0)), .unset] [])) (fun t k => XS.astore X149.here hx rfl (hb hby at_15) rfl rfl (l' := #[.val (.int i0), .val (.int i1), .val (.ref (w 0)), .val (.ref (w 3)), .val (.ref (w 0)), .unset]) rfl k) ?_
            refine Go.on (T' := T149) (g' := (mkF m 18 #[.val (.int i0), .val (.int i1), .val (.ref (w 0)), .val (.ref (w 3)), .val (.ref (w 0)), .unset] [(.ref (w 0))])) (fun t k => XS.aloadN X149.here hx rfl (hb hby at_17) rfl rfl k) ?_
            obtain ⟨T150, X150, e150, st150⟩ := getS2 X149 hx hZ hown (host := "") (Or.inl (hw _ (List.mem_of_getElem? (i := 4) rfl))) Via.refl e149 (pin_0 hP) (g := (mkF m 18 #[.val (.int i0), .val (.int i1), .val (.ref (w 0)), .val (.ref (w 3)), .val (.ref (w 0)), .unset] [(.ref (w 0))])) rfl (hb hby at_18)
            refine Go.on (T' := T150) (g' := (mkF m 21 #[.val (.int i0), .val (.int i1), .val (.ref (w 0)), .val (.ref (w 3)), .val (.ref (w 0)), .unset] [(.ref (w 0)), (.ref (w 0))])) st150 ?_
            refine Go.on (T' := T150) (g' := (mkF m 24 #[.val (.int i0), .val (.int i1), .val (.ref (w 0)), .val (.ref (w 3)), .val (.ref (w 0)), .unset] [])) (fun t k => Jvm.RoadKit.acmp (g := (mkF m 21 #[.val (.int i0), .val (.int i1), .val (.ref (w 0)), .val (.ref (w 3)), .val (.ref (w 0)), .unset] [(.ref (w 0)), (.ref (w 0))])) X150 hx rfl rfl rfl (pc0 := 21) (pc' := 24) (same := true) rfl (hb hby at_21) rfl (decide_eq_true rfl) (by decide) (by decide) k) ?_
            obtain ⟨T151, X151, e151, st151⟩ := getS2 X150 hx hZ hown (host := "") (Or.inl (hw _ (List.mem_of_getElem? (i := 4) rfl))) Via.refl e150 (pin_0 hP) (g := (mkF m 24 #[.val (.int i0), .val (.int i1), .val (.ref (w 0)), .val (.ref (w 3)), .val (.ref (w 0)), .unset] [])) rfl (hb hby at_24)
            refine Go.on (T' := T151) (g' := (mkF m 27 #[.val (.int i0), .val (.int i1), .val (.ref (w 0)), .val (.ref (w 3)), .val (.ref (w 0)), .unset] [(.ref (w 0))])) st151 ?_
            refine Go.on (T' := T151) (g' := (mkF m 29 #[.val (.int i0), .val (.int i1), .val (.ref (w 0)), .val (.ref (w 3)), .val (.ref (w 0)), .val (.ref (w 0))] [])) (fun t k => XS.astore X151.here hx rfl (hb hby at_27) rfl rfl (l' := #[.val (.int i0), .val (.int i1), .val (.ref (w 0)), .val (.ref (w 3)), .val (.ref (w 0)), .val (.ref (w 0))]) rfl k) ?_
            refine Go.on (T' := T151) (g' := (mkF m 52 #[.val (.int i0), .val (.int i1), .val (.ref (w 0)), .val (.ref (w 3)), .val (.ref (w 0)), .val (.ref (w 0))] [])) (fun t k => XS.goto X151.here hx rfl (pc0 := 29) (pc' := 52) rfl (hb hby at_29) (by decide) (by decide) k) ?_
            refine Go.on (T' := T151) (g' := (mkF m 54 #[.val (.int i0), .val (.int i1), .val (.ref (w 0)), .val (.ref (w 3)), .val (.ref (w 0)), .val (.ref (w 0))] [(.ref (w 0))])) (fun t k => XS.aload X151.here hx rfl (hb hby at_52) rfl rfl k) ?_
            refine Go.on (T' := T151) (g' := (mkF m 56 #[.val (.int i0), .val (.int i1), .val (.ref (w 0)), .val (.ref (w 3)), .val (.ref (w 0)), .val (.ref (w 0))] [(.ref (w 0)), (.ref (w 0))])) (fun t k => XS.aload X151.here hx rfl (hb hby at_54) rfl rfl k) ?_
            refine Go.on (T' := T151) (g' := (mkF m 59 #[.val (.int i0), .val (.int i1), .val (.ref (w 0)), .val (.ref (w 3)), .val (.ref (w 0)), .val (.ref (w 0))] [])) (fun t k => Jvm.RoadKit.acmp (g := (mkF m 56 #[.val (.int i0), .val (.int i1), .val (.ref (w 0)), .val (.ref (w 3)), .val (.ref (w 0)), .val (.ref (w 0))] [(.ref (w 0)), (.ref (w 0))])) X151 hx rfl rfl rfl (pc0 := 56) (pc' := 59) (same := true) rfl (hb hby at_56) rfl (decide_eq_true rfl) (by decide) (by decide) k) ?_
            refine Go.on (T' := T151) (g' := (mkF m 60 #[.val (.int i0), .val (.int i1), .val (.ref (w 0)), .val (.ref (w 3)), .val (.ref (w 0)), .val (.ref (w 0))] [(.int (1 : Int32))])) (fun t k => XS.iconst X151.here hx rfl (hb hby at_59) k) ?_
            refine Go.on (T' := T151) (g' := (mkF m 64 #[.val (.int i0), .val (.int i1), .val (.ref (w 0)), .val (.ref (w 3)), .val (.ref (w 0)), .val (.ref (w 0))] [(.int (1 : Int32))])) (fun t k => XS.goto X151.here hx rfl (pc0 := 60) (pc' := 64) rfl (hb hby at_60) (by decide) (by decide) k) ?_
            obtain ⟨fs, hr, hrun, hended, hW, hsame⟩ := X151.leave (v := some (.int (1 : Int32))) (fun h => by rw [Bd.returns] at h; cases h)
            exact ⟨_, _, retN X151 hx (t := .boolean) Bd.returns (by simp) (hb hby at_64) hr, hrun, hended, _, _, rfl, ⟨rfl, N149⟩, ⟨_, rfl⟩, hW, hsame.mono (by decide) (by decide)⟩
          · skip
            by_cases h152 : (i1 &&& (3 : Int32)) = (2 : Int32)
            · skip
              obtain ⟨_, _, ⟨T153, L153, k153, n153⟩, -, X153, ⟨Lc153, hQ153, l153, y153, z153⟩, st153⟩ := Jvm.LawKit.callS X137 hx (y := (⟨"com/example/rederive/rederive/ColumnTypeOfArithmeticPinLaw", "pick", "(I)Lcom/example/rederive/rederive/ColumnType;"⟩ : MethodName)) hown (mvT hZ (hw _ (List.mem_of_getElem? (i := 0) rfl))) (mvT hZ (hw _ (List.mem_of_getElem? (i := 1) rfl))) (mvT hZ (hw _ (List.mem_of_getElem? (i := 2) rfl))) (mvT hZ (hw _ (List.mem_of_getElem? (i := 3) rfl))) (by decide) (backOf (W := 0) (rm1_2 l Z a0 hw [] w h0 n0 (Nat.le_trans Z0 (own_ext0 h0).1) hP i1 h138 h145 h152) hZ (hw _ (List.mem_of_getElem? (i := 3) rfl)) (hw _ (List.mem_of_getElem? (i := 2) rfl)) (by decide) (by decide)) (g := (mkF m 6 #[.val (.int i0), .val (.int i1), .val (.ref (w 0)), .unset, .unset, .unset] [(.int i1)])) rfl (by rw [hml]; rfl) (argsL := [(.int i1)]) (rest := []) (lenOf pd_0 rfl) rfl (by show 2 * 0 + _ ≤ _; exact Nat.le_of_eq rfl) (hb hby at_6) (fun _ _ => ⟨rfl, e137, (by decide : 0 + 0 ≤ _), (by decide : 0 + 0 ≤ _)⟩)
              dsimp only [Pt.U, Pt.locs, Pt.cells, Pt.slots] at X153 l153 y153 z153 st153 hQ153
              subst l153 y153 z153
              obtain ⟨rfl, N153q, e153⟩ := hQ153
              have N153 := Fr.app N137 N153q
              refine Go.on (T' := T153) (g' := (mkF m 9 #[.val (.int i0), .val (.int i1), .val (.ref (w 0)), .unset, .unset, .unset] [(.ref (w 2))])) st153 ?_
              refine Go.on (T' := T153) (g' := (mkF m 10 #[.val (.int i0), .val (.int i1), .val (.ref (w 0)), .val (.ref (w 2)), .unset, .unset] [])) (fun t k => XS.astoreN X153.here hx rfl (hb hby at_9) rfl rfl (l' := #[.val (.int i0), .val (.int i1), .val (.ref (w 0)), .val (.ref (w 2)), .unset, .unset]) rfl k) ?_
              refine Go.on (T' := T153) (g' := (mkF m 11 #[.val (.int i0), .val (.int i1), .val (.ref (w 0)), .val (.ref (w 2)), .unset, .unset] [(.ref (w 0))])) (fun t k => XS.aloadN X153.here hx rfl (hb hby at_10) rfl rfl k) ?_
              refine Go.on (T' := T153) (g' := (mkF m 12 #[.val (.int i0), .val (.int i1), .val (.ref (w 0)), .val (.ref (w 2)), .unset, .unset] [(.ref (w 2)), (.ref (w 0))])) (fun t k => XS.aloadN X153.here hx rfl (hb hby at_11) rfl rfl k) ?_
              obtain ⟨_, _, ⟨T156, L156, k156, n156⟩, -, X156, ⟨Lc156, hQ156, l156, y156, z156⟩, st156⟩ := Jvm.LawKit.callS X153 hx (y := (⟨"com/example/rederive/rederive/ColumnType", "ofArithmetic", "(Lcom/example/rederive/rederive/ColumnType;Lcom/example/rederive/rederive/ColumnType;)Lcom/example/rederive/rederive/ColumnType;"⟩ : MethodName)) hown (mvT hZ (hw _ (List.mem_of_getElem? (i := 7) rfl))) (mvT hZ (hw _ (List.mem_of_getElem? (i := 8) rfl))) (mvT hZ (hw _ (List.mem_of_getElem? (i := 5) rfl))) (mvT hZ (hw _ (List.mem_of_getElem? (i := 9) rfl))) (by decide) (backOf (W := 0) (rm2_14 l Z a0 hw [] w h0 n0 (Nat.le_trans Z0 (own_ext0 h0).1) hP) hZ (hw _ (List.mem_of_getElem? (i := 9) rfl)) (hw _ (List.mem_of_getElem? (i := 5) rfl)) (by decide) (by decide)) (g := (mkF m 12 #[.val (.int i0), .val (.int i1), .val (.ref (w 0)), .val (.ref (w 2)), .unset, .unset] [(.ref (w 2)), (.ref (w 0))])) rfl (by rw [hml]; rfl) (argsL := [(.ref (w 0)), (.ref (w 2))]) (rest := []) (lenOf pd_1 rfl) rfl (by show 2 * 0 + _ ≤ _; exact Nat.le_of_eq rfl) (hb hby at_12) (fun _ _ => ⟨rfl, e153, (by decide : 0 + 0 ≤ _), (by decide : 0 + 0 ≤ _)⟩)
              dsimp only [Pt.U, Pt.locs, Pt.cells, Pt.slots] at X156 l156 y156 z156 st156 hQ156
              subst l156 y156 z156
              obtain ⟨rfl, N156q, e156⟩ := hQ156
              have N156 := Fr.app N153 N156q
              refine Go.on (T' := T156) (g' := (mkF m 15 #[.val (.int i0), .val (.int i1), .val (.ref (w 0)), .val (.ref (w 2)), .unset, .unset] [(.ref (w 0))])) st156 ?_
              refine Go.on (T' := T156) (g' := (mkF m 17 #[.val (.int i0), .val (.int i1), .val (.ref (w 0)), .val (.ref (w 2)), .val (.ref (w 0)), .unset] [])) (fun t k => XS.astore X156.here hx rfl (hb hby at_15) rfl rfl (l' := #[.val (.int i0), .val (.int i1), .val (.ref (w 0)), .val (.ref (w 2)), .val (.ref (w 0)), .unset]) rfl k) ?_
              refine Go.on (T' := T156) (g' := (mkF m 18 #[.val (.int i0), .val (.int i1), .val (.ref (w 0)), .val (.ref (w 2)), .val (.ref (w 0)), .unset] [(.ref (w 0))])) (fun t k => XS.aloadN X156.here hx rfl (hb hby at_17) rfl rfl k) ?_
              obtain ⟨T157, X157, e157, st157⟩ := getS2 X156 hx hZ hown (host := "") (Or.inl (hw _ (List.mem_of_getElem? (i := 4) rfl))) Via.refl e156 (pin_0 hP) (g := (mkF m 18 #[.val (.int i0), .val (.int i1), .val (.ref (w 0)), .val (.ref (w 2)), .val (.ref (w 0)), .unset] [(.ref (w 0))])) rfl (hb hby at_18)
              refine Go.on (T' := T157) (g' := (mkF m 21 #[.val (.int i0), .val (.int i1), .val (.ref (w 0)), .val (.ref (w 2)), .val (.ref (w 0)), .unset] [(.ref (w 0)), (.ref (w 0))])) st157 ?_
              refine Go.on (T' := T157) (g' := (mkF m 24 #[.val (.int i0), .val (.int i1), .val (.ref (w 0)), .val (.ref (w 2)), .val (.ref (w 0)), .unset] [])) (fun t k => Jvm.RoadKit.acmp (g := (mkF m 21 #[.val (.int i0), .val (.int i1), .val (.ref (w 0)), .val (.ref (w 2)), .val (.ref (w 0)), .unset] [(.ref (w 0)), (.ref (w 0))])) X157 hx rfl rfl rfl (pc0 := 21) (pc' := 24) (same := true) rfl (hb hby at_21) rfl (decide_eq_true rfl) (by decide) (by decide) k) ?_
              obtain ⟨T158, X158, e158, st158⟩ := getS2 X157 hx hZ hown (host := "") (Or.inl (hw _ (List.mem_of_getElem? (i := 4) rfl))) Via.refl e157 (pin_0 hP) (g := (mkF m 24 #[.val (.int i0), .val (.int i1), .val (.ref (w 0)), .val (.ref (w 2)), .val (.ref (w 0)), .unset] [])) rfl (hb hby at_24)
              refine Go.on (T' := T158) (g' := (mkF m 27 #[.val (.int i0), .val (.int i1), .val (.ref (w 0)), .val (.ref (w 2)), .val (.ref (w 0)), .unset] [(.ref (w 0))])) st158 ?_
              refine Go.on (T' := T158) (g' := (mkF m 29 #[.val (.int i0), .val (.int i1), .val (.ref (w 0)), .val (.ref (w 2)), .val (.ref (w 0)), .val (.ref (w 0))] [])) (fun t k => XS.astore X158.here hx rfl (hb hby at_27) rfl rfl (l' := #[.val (.int i0), .val (.int i1), .val (.ref (w 0)), .val (.ref (w 2)), .val (.ref (w 0)), .val (.ref (w 0))]) rfl k) ?_
              refine Go.on (T' := T158) (g' := (mkF m 52 #[.val (.int i0), .val (.int i1), .val (.ref (w 0)), .val (.ref (w 2)), .val (.ref (w 0)), .val (.ref (w 0))] [])) (fun t k => XS.goto X158.here hx rfl (pc0 := 29) (pc' := 52) rfl (hb hby at_29) (by decide) (by decide) k) ?_
              refine Go.on (T' := T158) (g' := (mkF m 54 #[.val (.int i0), .val (.int i1), .val (.ref (w 0)), .val (.ref (w 2)), .val (.ref (w 0)), .val (.ref (w 0))] [(.ref (w 0))])) (fun t k => XS.aload X158.here hx rfl (hb hby at_52) rfl rfl k) ?_
              refine Go.on (T' := T158) (g' := (mkF m 56 #[.val (.int i0), .val (.int i1), .val (.ref (w 0)), .val (.ref (w 2)), .val (.ref (w 0)), .val (.ref (w 0))] [(.ref (w 0)), (.ref (w 0))])) (fun t k => XS.aload X158.here hx rfl (hb hby at_54) rfl rfl k) ?_
              refine Go.on (T' := T158) (g' := (mkF m 59 #[.val (.int i0), .val (.int i1), .val (.ref (w 0)), .val (.ref (w 2)), .val (.ref (w 0)), .val (.ref (w 0))] [])) (fun t k => Jvm.RoadKit.acmp (g := (mkF m 56 #[.val (.int i0), .val (.int i1), .val (.ref (w 0)), .val (.ref (w 2)), .val (.ref (w 0)), .val (.ref (w 0))] [(.ref (w 0)), (.ref (w 0))])) X158 hx rfl rfl rfl (pc0 := 56) (pc' := 59) (same := true) rfl (hb hby at_56) rfl (decide_eq_true rfl) (by decide) (by decide) k) ?_
              refine Go.on (T' := T158) (g' := (mkF m 60 #[.val (.int i0), .val (.int i1), .val (.ref (w 0)), .val (.ref (w 2)), .val (.ref (w 0)), .val (.ref (w 0))] [(.int (1 : Int32))])) (fun t k => XS.iconst X158.here hx rfl (hb hby at_59) k) ?_
              refine Go.on (T' := T158) (g' := (mkF m 64 #[.val (.int i0), .val (.int i1), .val (.ref (w 0)), .val (.ref (w 2)), .val (.ref (w 0)), .val (.ref (w 0))] [(.int (1 : Int32))])) (fun t k => XS.goto X158.here hx rfl (pc0 := 60) (pc' := 64) rfl (hb hby at_60) (by decide) (by decide) k) ?_
              obtain ⟨fs, hr, hrun, hended, hW, hsame⟩ := X158.leave (v := some (.int (1 : Int32))) (fun h => by rw [Bd.returns] at h; cases h)
              exact ⟨_, _, retN X158 hx (t := .boolean) Bd.returns (by simp) (hb hby at_64) hr, hrun, hended, _, _, rfl, ⟨rfl, N156⟩, ⟨_, rfl⟩, hW, hsame.mono (by decide) (by decide)⟩
            · skip
              obtain ⟨_, _, ⟨T159, L159, k159, n159⟩, -, X159, ⟨Lc159, hQ159, l159, y159, z159⟩, st159⟩ := Jvm.LawKit.callS X137 hx (y := (⟨"com/example/rederive/rederive/ColumnTypeOfArithmeticPinLaw", "pick", "(I)Lcom/example/rederive/rederive/ColumnType;"⟩ : MethodName)) hown (mvT hZ (hw _ (List.mem_of_getElem? (i := 0) rfl))) (mvT hZ (hw _ (List.mem_of_getElem? (i := 1) rfl))) (mvT hZ (hw _ (List.mem_of_getElem? (i := 2) rfl))) (mvT hZ (hw _ (List.mem_of_getElem? (i := 3) rfl))) (by decide) (backOf (W := 0) (rm1_3 l Z a0 hw [] w h0 n0 (Nat.le_trans Z0 (own_ext0 h0).1) hP i1 h138 h145 h152) hZ (hw _ (List.mem_of_getElem? (i := 3) rfl)) (hw _ (List.mem_of_getElem? (i := 2) rfl)) (by decide) (by decide)) (g := (mkF m 6 #[.val (.int i0), .val (.int i1), .val (.ref (w 0)), .unset, .unset, .unset] [(.int i1)])) rfl (by rw [hml]; rfl) (argsL := [(.int i1)]) (rest := []) (lenOf pd_0 rfl) rfl (by show 2 * 0 + _ ≤ _; exact Nat.le_of_eq rfl) (hb hby at_6) (fun _ _ => ⟨rfl, e137, (by decide : 0 + 0 ≤ _), (by decide : 0 + 0 ≤ _)⟩)
              dsimp only [Pt.U, Pt.locs, Pt.cells, Pt.slots] at X159 l159 y159 z159 st159 hQ159
              subst l159 y159 z159
              obtain ⟨rfl, N159q, e159⟩ := hQ159
              have N159 := Fr.app N137 N159q
              refine Go.on (T' := T159) (g' := (mkF m 9 #[.val (.int i0), .val (.int i1), .val (.ref (w 0)), .unset, .unset, .unset] [(.ref (w 0))])) st159 ?_
              refine Go.on (T' := T159) (g' := (mkF m 10 #[.val (.int i0), .val (.int i1), .val (.ref (w 0)), .val (.ref (w 0)), .unset, .unset] [])) (fun t k => XS.astoreN X159.here hx rfl (hb hby at_9) rfl rfl (l' := #[.val (.int i0), .val (.int i1), .val (.ref (w 0)), .val (.ref (w 0)), .unset, .unset]) rfl k) ?_
              refine Go.on (T' := T159) (g' := (mkF m 11 #[.val (.int i0), .val (.int i1), .val (.ref (w 0)), .val (.ref (w 0)), .unset, .unset] [(.ref (w 0))])) (fun t k => XS.aloadN X159.here hx rfl (hb hby at_10) rfl rfl k) ?_
              refine Go.on (T' := T159) (g' := (mkF m 12 #[.val (.int i0), .val (.int i1), .val (.ref (w 0)), .val (.ref (w 0)), .unset, .unset] [(.ref (w 0)), (.ref (w 0))])) (fun t k => XS.aloadN X159.here hx rfl (hb hby at_11) rfl rfl k) ?_
              obtain ⟨_, _, ⟨T162, L162, k162, n162⟩, -, X162, ⟨Lc162, hQ162, l162, y162, z162⟩, st162⟩ := Jvm.LawKit.callS X159 hx (y := (⟨"com/example/rederive/rederive/ColumnType", "ofArithmetic", "(Lcom/example/rederive/rederive/ColumnType;Lcom/example/rederive/rederive/ColumnType;)Lcom/example/rederive/rederive/ColumnType;"⟩ : MethodName)) hown (mvT hZ (hw _ (List.mem_of_getElem? (i := 7) rfl))) (mvT hZ (hw _ (List.mem_of_getElem? (i := 8) rfl))) (mvT hZ (hw _ (List.mem_of_getElem? (i := 5) rfl))) (mvT hZ (hw _ (List.mem_of_getElem? (i := 9) rfl))) (by decide) (backOf (W := 0) (rm2_15 l Z a0 hw [] w h0 n0 (Nat.le_trans Z0 (own_ext0 h0).1) hP) hZ (hw _ (List.mem_of_getElem? (i := 9) rfl)) (hw _ (List.mem_of_getElem? (i := 5) rfl)) (by decide) (by decide)) (g := (mkF m 12 #[.val (.int i0), .val (.int i1), .val (.ref (w 0)), .val (.ref (w 0)), .unset, .unset] [(.ref (w 0)), (.ref (w 0))])) rfl (by rw [hml]; rfl) (argsL := [(.ref (w 0)), (.ref (w 0))]) (rest := []) (lenOf pd_1 rfl) rfl (by show 2 * 0 + _ ≤ _; exact Nat.le_of_eq rfl) (hb hby at_12) (fun _ _ => ⟨rfl, e159, (by decide : 0 + 0 ≤ _), (by decide : 0 + 0 ≤ _)⟩)
              dsimp only [Pt.U, Pt.locs, Pt.cells, Pt.slots] at X162 l162 y162 z162 st162 hQ162
              subst l162 y162 z162
              obtain ⟨rfl, N162q, e162⟩ := hQ162
              have N162 := Fr.app N159 N162q
              refine Go.on (T' := T162) (g' := (mkF m 15 #[.val (.int i0), .val (.int i1), .val (.ref (w 0)), .val (.ref (w 0)), .unset, .unset] [(.ref (w 0))])) st162 ?_
              refine Go.on (T' := T162) (g' := (mkF m 17 #[.val (.int i0), .val (.int i1), .val (.ref (w 0)), .val (.ref (w 0)), .val (.ref (w 0)), .unset] [])) (fun t k => XS.astore X162.here hx rfl (hb hby at_15) rfl rfl (l' := #[.val (.int i0), .val (.int i1), .val (.ref (w 0)), .val (.ref (w 0)), .val (.ref (w 0)), .unset]) rfl k) ?_
              refine Go.on (T' := T162) (g' := (mkF m 18 #[.val (.int i0), .val (.int i1), .val (.ref (w 0)), .val (.ref (w 0)), .val (.ref (w 0)), .unset] [(.ref (w 0))])) (fun t k => XS.aloadN X162.here hx rfl (hb hby at_17) rfl rfl k) ?_
              obtain ⟨T163, X163, e163, st163⟩ := getS2 X162 hx hZ hown (host := "") (Or.inl (hw _ (List.mem_of_getElem? (i := 4) rfl))) Via.refl e162 (pin_0 hP) (g := (mkF m 18 #[.val (.int i0), .val (.int i1), .val (.ref (w 0)), .val (.ref (w 0)), .val (.ref (w 0)), .unset] [(.ref (w 0))])) rfl (hb hby at_18)
              refine Go.on (T' := T163) (g' := (mkF m 21 #[.val (.int i0), .val (.int i1), .val (.ref (w 0)), .val (.ref (w 0)), .val (.ref (w 0)), .unset] [(.ref (w 0)), (.ref (w 0))])) st163 ?_
              refine Go.on (T' := T163) (g' := (mkF m 24 #[.val (.int i0), .val (.int i1), .val (.ref (w 0)), .val (.ref (w 0)), .val (.ref (w 0)), .unset] [])) (fun t k => Jvm.RoadKit.acmp (g := (mkF m 21 #[.val (.int i0), .val (.int i1), .val (.ref (w 0)), .val (.ref (w 0)), .val (.ref (w 0)), .unset] [(.ref (w 0)), (.ref (w 0))])) X163 hx rfl rfl rfl (pc0 := 21) (pc' := 24) (same := true) rfl (hb hby at_21) rfl (decide_eq_true rfl) (by decide) (by decide) k) ?_
              obtain ⟨T164, X164, e164, st164⟩ := getS2 X163 hx hZ hown (host := "") (Or.inl (hw _ (List.mem_of_getElem? (i := 4) rfl))) Via.refl e163 (pin_0 hP) (g := (mkF m 24 #[.val (.int i0), .val (.int i1), .val (.ref (w 0)), .val (.ref (w 0)), .val (.ref (w 0)), .unset] [])) rfl (hb hby at_24)
              refine Go.on (T' := T164) (g' := (mkF m 27 #[.val (.int i0), .val (.int i1), .val (.ref (w 0)), .val (.ref (w 0)), .val (.ref (w 0)), .unset] [(.ref (w 0))])) st164 ?_
              refine Go.on (T' := T164) (g' := (mkF m 29 #[.val (.int i0), .val (.int i1), .val (.ref (w 0)), .val (.ref (w 0)), .val (.ref (w 0)), .val (.ref (w 0))] [])) (fun t k => XS.astore X164.here hx rfl (hb hby at_27) rfl rfl (l' := #[.val (.int i0), .val (.int i1), .val (.ref (w 0)), .val (.ref (w 0)), .val (.ref (w 0)), .val (.ref (w 0))]) rfl k) ?_
              refine Go.on (T' := T164) (g' := (mkF m 52 #[.val (.int i0), .val (.int i1), .val (.ref (w 0)), .val (.ref (w 0)), .val (.ref (w 0)), .val (.ref (w 0))] [])) (fun t k => XS.goto X164.here hx rfl (pc0 := 29) (pc' := 52) rfl (hb hby at_29) (by decide) (by decide) k) ?_
              refine Go.on (T' := T164) (g' := (mkF m 54 #[.val (.int i0), .val (.int i1), .val (.ref (w 0)), .val (.ref (w 0)), .val (.ref (w 0)), .val (.ref (w 0))] [(.ref (w 0))])) (fun t k => XS.aload X164.here hx rfl (hb hby at_52) rfl rfl k) ?_
              refine Go.on (T' := T164) (g' := (mkF m 56 #[.val (.int i0), .val (.int i1), .val (.ref (w 0)), .val (.ref (w 0)), .val (.ref (w 0)), .val (.ref (w 0))] [(.ref (w 0)), (.ref (w 0))])) (fun t k => XS.aload X164.here hx rfl (hb hby at_54) rfl rfl k) ?_
              refine Go.on (T' := T164) (g' := (mkF m 59 #[.val (.int i0), .val (.int i1), .val (.ref (w 0)), .val (.ref (w 0)), .val (.ref (w 0)), .val (.ref (w 0))] [])) (fun t k => Jvm.RoadKit.acmp (g := (mkF m 56 #[.val (.int i0), .val (.int i1), .val (.ref (w 0)), .val (.ref (w 0)), .val (.ref (w 0)), .val (.ref (w 0))] [(.ref (w 0)), (.ref (w 0))])) X164 hx rfl rfl rfl (pc0 := 56) (pc' := 59) (same := true) rfl (hb hby at_56) rfl (decide_eq_true rfl) (by decide) (by decide) k) ?_
              refine Go.on (T' := T164) (g' := (mkF m 60 #[.val (.int i0), .val (.int i1), .val (.ref (w 0)), .val (.ref (w 0)), .val (.ref (w 0)), .val (.ref (w 0))] [(.int (1 : Int32))])) (fun t k => XS.iconst X164.here hx rfl (hb hby at_59) k) ?_
              refine Go.on (T' := T164) (g' := (mkF m 64 #[.val (.int i0), .val (.int i1), .val (.ref (w 0)), .val (.ref (w 0)), .val (.ref (w 0)), .val (.ref (w 0))] [(.int (1 : Int32))])) (fun t k => XS.goto X164.here hx rfl (pc0 := 60) (pc' := 64) rfl (hb hby at_60) (by decide) (by decide) k) ?_
              obtain ⟨fs, hr, hrun, hended, hW, hsame⟩ := X164.leave (v := some (.int (1 : Int32))) (fun h => by rw [Bd.returns] at h; cases h)
              exact ⟨_, _, retN X164 hx (t := .boolean) Bd.returns (by simp) (hb hby at_64) hr, hrun, hended, _, _, rfl, ⟨rfl, N162⟩, ⟨_, rfl⟩, hW, hsame.mono (by decide) (by decide)⟩
set_option maxRecDepth 65536 in
set_option maxHeartbeats 40000000 in
theorem comes_1 {Post : Tables → Env → Array Value → State → Outcome → State → Prop} (hpost : ∀ tb e args s v u, (limb_1_1.after args s (.returned v) u = true ∧ limb_1_2.after args s (.returned v) u = true ∧ True) → FrameEnd s (.returned v) u (Jvm.fieldLocs frame_1_writes args s ++ Jvm.arrayLocs frame_1_arrays args s ++ Jvm.staticLocs frame_1_statics s) 0 0 → Post tb e args s (.returned v) u) :
    ArmFor flags0 classFile x code maxLocals ret World_1 tables_1 room_1 Calls_1 rest_1 Pre_1 Post := by
  intro l hfl _ _ p e ha hc hk s m args below hf hA hF happ hP
  obtain ⟨hcalls, hrest, hpre⟩ := hP
  obtain ⟨-, -, -, hnamed, -, -, -, hat⟩ := (Spec.applies_iff hf).mp happ
  obtain ⟨hg, hn⟩ := and_e (Cond.before_iff.mp (show (Jvm.Cond.and given_1 narrow_1).before args s = true from hpre))
  obtain ⟨u1, v1⟩ := and_e hg
  obtain ⟨u2, v2⟩ := and_e v1
  obtain ⟨w0, w1, rfl⟩ : ∃ w0 w1 : Value, args = #[w0, w1] := by
    have hs : args.size = 2 := by simpa [Cond.value, given_1] using u1
    obtain ⟨L⟩ := args
    match L, hs with
    | [w0, w1], _ => exact ⟨w0, w1, rfl⟩
  have hw := fun d (hd : d ∈ tables_1) => atoms_spec (ws := Jvm.Cond.code x code maxLocals ret :: tables_1) hat d (List.mem_cons_of_mem _ hd)
  have hfit : Fit s := fun {y c} hc i hi => by
    obtain ⟨ha, rfl⟩ := Array.getElem?_eq_some_iff.mp hc
    have q := List.all_eq_true.mp ((Array.all_eq_true_iff_forall_mem.mp hF) _ (Array.getElem_mem ha)) i (List.mem_range.mpr hi)
    simpa [Array.getElem?_eq_getElem hi] using q
  obtain ⟨i0, ei0⟩ := is_v u2
  obtain rfl : w0 = (.int i0) := Option.some.inj ei0
  obtain ⟨i1, ei1⟩ := is_v v2
  obtain rfl : w1 = (.int i1) := Option.some.inj ei1
  obtain ⟨u3, v3⟩ := and_e hn
  obtain ⟨u4, v4⟩ := and_e v3
  obtain ⟨u5, v5⟩ := and_e v4
  obtain ⟨u6, v6⟩ := and_e v5
  obtain ⟨u7, v7⟩ := and_e v6
  obtain ⟨u8, v8⟩ := and_e v7
  obtain ⟨u9, v9⟩ := and_e v8
  obtain ⟨u10, v10⟩ := and_e v9
  obtain ⟨x0, ev0⟩ := exa_v u3
  obtain ⟨x2, ev2⟩ := exa_v u5
  obtain ⟨x3, ev3⟩ := exa_v u6
  obtain ⟨x1, ev1⟩ := exa_v u4
  obtain ⟨w, hw_⟩ : ∃ w : Nat → Addr, w 0 = x0 ∧ w 1 = x1 ∧ w 2 = x2 ∧ w 3 = x3 ∧ True := ⟨fun k => [x0, x1, x2, x3].getD k 0, rfl, rfl, rfl, rfl, trivial⟩
  obtain ⟨rfl, rfl, rfl, rfl, -⟩ := hw_
  have hPin : Pins s s.heap w := ⟨Sta.start ev0 (Or.inr ⟨(hw _ (List.mem_of_getElem? (i := 5) rfl)), (hw _ (List.mem_of_getElem? (i := 6) rfl))⟩),
    Sta.start ev2 (Or.inr ⟨(hw _ (List.mem_of_getElem? (i := 5) rfl)), (hw _ (List.mem_of_getElem? (i := 13) rfl))⟩),
    Sta.start ev3 (Or.inr ⟨(hw _ (List.mem_of_getElem? (i := 5) rfl)), (hw _ (List.mem_of_getElem? (i := 15) rfl))⟩),
    Exa.start ev0 u3,
    Exa.start ev1 u4,
    Exa.start ev2 u5,
    Exa.start ev3 u6,
    Fld.start ((fld_at ev0).symm.trans (ev1)),
    Fld.start ((fld_at ev2).symm.trans (null_v u7)),
    Fld.start ((fld_at ev3).symm.trans (null_v u8)),
    Fld.start ((fld_at ev2).symm.trans (own_eqI u9)),
    Fld.start ((fld_at ev0).symm.trans (own_eqI u10)),
    Fld.start ((fld_at ev3).symm.trans (own_eqI v10)),
    trivial⟩
  obtain ⟨n, o, h1, h2, h3, _, L, rfl, ⟨rfl, N⟩, hq⟩ := rm0 l s _ hw tables_1 w s.heap s.heap.size (Nat.le_refl _) hPin i0 i1 p e ha hc hk s m _ below hf ((Spec.applies_iff_loose hf).mp happ).1 ⟨rfl, State.Warmed39.refl s, rfl⟩ trivial
  refine ⟨n, _, h1, h2, h3, hpost _ _ _ _ _ _ ⟨Cond.after_iff.mpr rfl, Cond.after_iff.mpr (eq_i res_at (Term.int_eval (1)) rfl), trivial⟩ ⟨hq.1, hq.2.1, (hq.2.2.sift fun y hy => Or.inr (N y hy)).mono (by decide) (by decide)⟩⟩
theorem main_1_1 : Claimed_1_1 := comes_1 fun _ _ _ _ _ _ h hF => ⟨h.1, hF⟩
theorem main_1_2 : Claimed_1_2 := comes_1 fun _ _ _ _ _ _ h hF => ⟨h.2.1, hF⟩
end Jvm.Pilot.@@N@@
namespace Jvm.Pilot.@@N@@
open Jvm Jvm.ClassFile Sem Op Lib Jvm.Free Jvm.Stand Jvm.Pilot.@@N@@.Jvm.D
/-! MADE BY PROGRAM (witnessworld.py) out of the Statement's table words and the real class files: 14 classes; the members and pool entries that the words name. The judged class is class 1, her method 2. -/
namespace start1
open Jvm.ClassFile
def u (s : String) : CpInfo := .utf8 (stringToUtf16 s)
/-- a pool by its gaps: so many unusable entries, then the entry; so many at the end -/
def gap : Nat → List CpInfo → List CpInfo
  | 0, r => r
  | n + 1, r => .unusable :: gap n r
def poolList (es : List (Nat × CpInfo)) (last : Nat) : List CpInfo := es.foldr (fun e r => gap e.1 (e.2 :: r)) (gap last [])
def pool (es : List (Nat × CpInfo)) (last : Nat) : Array CpInfo := ⟨poolList es last⟩
def fileOf (pool : Array CpInfo) (this : Nat) (attrs : Array Attribute := #[]) (ms : Array MethodInfo := #[]) (fl : Nat := 33) (sup : Nat := 0) (ifs : Array Nat := #[]) (fds : Array FieldInfo := #[]) : ClassFile where
  minorVersion := 0
  majorVersion := 65
  constantPool := pool
  accessFlags := fl
  thisClass := this
  superClass := sup
  interfaces := ifs
  fields := fds
  methods := ms
  attributes := attrs
def plain (name : String) (sup : Option ClassId) : Class where
  name := name
  kind := .ordinary
  loader := none
  accessFlags := 33
  super := sup
  interfaces := #[]
  cf := none
  fields := #[]
  methods := #[]
  instanceTypes := #[]
  staticTypes := #[]
  resolved := #[]
  callSites := []
  init := .initialized
  statics := none
  mirror := none

def pool0 : Array CpInfo := pool [(5, u "<init>"), (0, u "()V"), (1, .class_ 10), (1, u "java/lang/Object")] 113

def k0m0 : Method := { name := "<init>", desc := "()V", sig := { parameters := [], returnType := none }, accessFlags := 1, code := none }
/-- java/lang/Object -/
def k0 : Class := { plain "java/lang/Object" none with
  accessFlags := 33
  interfaces := #[]
  cf := some (fileOf pool0 8 #[] #[{ accessFlags := 1, nameIndex := 5, descriptorIndex := 6, attributes := #[] }] 33 0 #[] #[])
  fields := #[]
  methods := #[k0m0]
  instanceTypes := #[]
  staticTypes := #[]
  resolved := Array.replicate 124 none
  statics := none }

def pool1 : Array CpInfo := pool [(2, .class_ 4), (1, u "java/lang/Object"), (0, u "<init>"), (0, u "()V"), (0, .fieldref 8 9), (0, .class_ 10), (0, .nameAndType 11 12), (0, u "com/example/rederive/rederive/ColumnType"), (0, u "SYMBOL"), (0, u "Lcom/example/rederive/rederive/ColumnType;"), (0, .fieldref 8 14), (0, .nameAndType 15 12), (0, u "NUMBER"), (0, .fieldref 8 17), (0, .nameAndType 18 12), (0, u "CONST"), (0, .methodref 20 21), (0, .class_ 22), (0, .nameAndType 23 24), (0, u "com/example/rederive/rederive/ColumnTypeOfArithmeticPinLaw"), (0, u "pick"), (0, u "(I)Lcom/example/rederive/rederive/ColumnType;"), (0, .methodref 8 26), (0, .nameAndType 27 28), (0, u "ofArithmetic"), (0, u "(Lcom/example/rederive/rederive/ColumnType;Lcom/example/rederive/rederive/ColumnType;)Lcom/example/rederive/rederive/ColumnType;"), (3, u "law"), (0, u "(II)Z")] 2

def k1m0 : Method := { name := "<init>", desc := "()V", sig := { parameters := [], returnType := none }, accessFlags := 1, code := none }
def k1c1 : Code := { maxStack := 2, maxLocals := 2, code := method_2_code, exceptionTable := #[], attributes := #[] }
def k1m1 : Method := { name := "pick", desc := "(I)Lcom/example/rederive/rederive/ColumnType;", sig := { parameters := [.int], returnType := some (.object "com/example/rederive/rederive/ColumnType") }, accessFlags := 10, code := some k1c1 }
def k1c2 : Code := { maxStack := 2, maxLocals := 6, code := code, exceptionTable := #[], attributes := #[] }
def k1m2 : Method := { name := "law", desc := "(II)Z", sig := { parameters := [.int, .int], returnType := some .boolean }, accessFlags := 9, code := some k1c2 }
/-- com/example/rederive/rederive/ColumnTypeOfArithmeticPinLaw -/
def k1 : Class := { plain "com/example/rederive/rederive/ColumnTypeOfArithmeticPinLaw" (some 0) with
  accessFlags := 49
  interfaces := #[]
  cf := some (fileOf pool1 20 #[] #[{ accessFlags := 1, nameIndex := 5, descriptorIndex := 6, attributes := #[] }, { accessFlags := 10, nameIndex := 23, descriptorIndex := 24, attributes := #[] }, { accessFlags := 9, nameIndex := 32, descriptorIndex := 33, attributes := #[] }] 49 2 #[] #[])
  fields := #[]
  methods := #[k1m0, k1m1, k1m2]
  instanceTypes := #[]
  staticTypes := #[]
  resolved := Array.replicate 36 none
  statics := none }

def pool2 : Array CpInfo := pool [(1, .class_ 2), (0, u "java/lang/constant/Constable"), (0, .class_ 4), (0, u "java/lang/Object")] 6

/-- java/lang/constant/Constable -/
def k2 : Class := { plain "java/lang/constant/Constable" (some 0) with
  accessFlags := 1537
  interfaces := #[]
  cf := some (fileOf pool2 1 #[] #[] 1537 3 #[] #[])
  fields := #[]
  methods := #[]
  instanceTypes := #[]
  staticTypes := #[]
  resolved := Array.replicate 11 none
  statics := none }

def pool3 : Array CpInfo := pool [(1, .class_ 2), (0, u "java/lang/Comparable"), (0, .class_ 4), (0, u "java/lang/Object")] 7

/-- java/lang/Comparable -/
def k3 : Class := { plain "java/lang/Comparable" (some 0) with
  accessFlags := 1537
  interfaces := #[]
  cf := some (fileOf pool3 1 #[] #[] 1537 3 #[] #[])
  fields := #[]
  methods := #[]
  instanceTypes := #[]
  staticTypes := #[]
  resolved := Array.replicate 12 none
  statics := none }

def pool4 : Array CpInfo := pool [(1, .class_ 2), (0, u "java/io/Serializable"), (0, .class_ 4), (0, u "java/lang/Object")] 2

/-- java/io/Serializable -/
def k4 : Class := { plain "java/io/Serializable" (some 0) with
  accessFlags := 1537
  interfaces := #[]
  cf := some (fileOf pool4 1 #[] #[] 1537 3 #[] #[])
  fields := #[]
  methods := #[]
  instanceTypes := #[]
  staticTypes := #[]
  resolved := Array.replicate 7 none
  statics := none }

def pool5 : Array CpInfo := pool [(2, .class_ 4), (1, u "java/lang/Enum"), (0, u "name"), (0, u "Ljava/lang/String;"), (2, u "ordinal"), (0, u "I"), (1, .class_ 14), (1, u "java/lang/Object"), (4, u "hash"), (86, .class_ 108), (1, u "java/lang/Enum$EnumDesc"), (2, .class_ 112), (0, u "java/lang/constant/Constable"), (0, .class_ 114), (0, u "java/lang/Comparable"), (0, .class_ 116), (0, u "java/io/Serializable")] 87

/-- java/lang/Enum -/
def k5 : Class := { plain "java/lang/Enum" (some 0) with
  accessFlags := 1057
  interfaces := #[2, 3, 4]
  cf := some (fileOf pool5 2 #[.nestMembers #[106]] #[] 1057 12 #[111, 113, 115] #[{ accessFlags := 18, nameIndex := 5, descriptorIndex := 6, attributes := #[] }, { accessFlags := 18, nameIndex := 9, descriptorIndex := 10, attributes := #[] }, { accessFlags := 2, nameIndex := 19, descriptorIndex := 10, attributes := #[] }])
  fields := #[{ name := "name", type := (.object "java/lang/String"), accessFlags := 18, slot := 0, constantValue := 0 }, { name := "ordinal", type := .int, accessFlags := 18, slot := 1, constantValue := 0 }, { name := "hash", type := .int, accessFlags := 2, slot := 2, constantValue := 0 }]
  methods := #[]
  instanceTypes := #[(.object "java/lang/String"), .int, .int]
  staticTypes := #[]
  resolved := Array.replicate 204 none
  statics := none }

def pool6 : Array CpInfo := pool [(1, .class_ 2), (0, u "com/example/rederive/rederive/ColumnType"), (2, u "SYMBOL"), (0, u "Lcom/example/rederive/rederive/ColumnType;"), (0, .fieldref 1 8), (0, .nameAndType 9 6), (0, u "NUMBER"), (2, u "CONST"), (2, u "$VALUES"), (0, u "[Lcom/example/rederive/rederive/ColumnType;"), (6, .class_ 25), (1, u "java/lang/Enum"), (8, u "keyword"), (0, u "Ljava/lang/String;"), (0, .fieldref 1 37), (0, .nameAndType 38 39), (0, u "lattice"), (0, u "Lcom/example/rederive/rederive/Lattice;"), (76, u "ofArithmetic"), (0, u "(Lcom/example/rederive/rederive/ColumnType;Lcom/example/rederive/rederive/ColumnType;)Lcom/example/rederive/rederive/ColumnType;")] 22

def k6c0 : Code := { maxStack := 1, maxLocals := 3, code := prog_1_method_7_code, exceptionTable := #[], attributes := #[] }
def k6m0 : Method := { name := "ofArithmetic", desc := "(Lcom/example/rederive/rederive/ColumnType;Lcom/example/rederive/rederive/ColumnType;)Lcom/example/rederive/rederive/ColumnType;", sig := { parameters := [(.object "com/example/rederive/rederive/ColumnType"), (.object "com/example/rederive/rederive/ColumnType")], returnType := some (.object "com/example/rederive/rederive/ColumnType") }, accessFlags := 9, code := some k6c0 }
/-- com/example/rederive/rederive/ColumnType -/
def k6 : Class := { plain "com/example/rederive/rederive/ColumnType" (some 5) with
  accessFlags := 16433
  interfaces := #[]
  cf := some (fileOf pool6 1 #[] #[{ accessFlags := 9, nameIndex := 116, descriptorIndex := 117, attributes := #[] }] 16433 23 #[] #[{ accessFlags := 16409, nameIndex := 5, descriptorIndex := 6, attributes := #[] }, { accessFlags := 16409, nameIndex := 9, descriptorIndex := 6, attributes := #[] }, { accessFlags := 16409, nameIndex := 12, descriptorIndex := 6, attributes := #[] }, { accessFlags := 18, nameIndex := 34, descriptorIndex := 35, attributes := #[] }, { accessFlags := 18, nameIndex := 38, descriptorIndex := 39, attributes := #[] }, { accessFlags := 4122, nameIndex := 15, descriptorIndex := 16, attributes := #[] }])
  fields := #[{ name := "SYMBOL", type := (.object "com/example/rederive/rederive/ColumnType"), accessFlags := 16409, slot := 0, constantValue := 0 }, { name := "NUMBER", type := (.object "com/example/rederive/rederive/ColumnType"), accessFlags := 16409, slot := 1, constantValue := 0 }, { name := "CONST", type := (.object "com/example/rederive/rederive/ColumnType"), accessFlags := 16409, slot := 2, constantValue := 0 }, { name := "keyword", type := (.object "java/lang/String"), accessFlags := 18, slot := 3, constantValue := 0 }, { name := "lattice", type := (.object "com/example/rederive/rederive/Lattice"), accessFlags := 18, slot := 4, constantValue := 0 }, { name := "$VALUES", type := (.array (.object "com/example/rederive/rederive/ColumnType")), accessFlags := 4122, slot := 3, constantValue := 0 }]
  methods := #[k6m0]
  instanceTypes := #[(.object "java/lang/String"), .int, .int, (.object "java/lang/String"), (.object "com/example/rederive/rederive/Lattice")]
  staticTypes := #[(.object "com/example/rederive/rederive/ColumnType"), (.object "com/example/rederive/rederive/ColumnType"), (.object "com/example/rederive/rederive/ColumnType"), (.array (.object "com/example/rederive/rederive/ColumnType"))]
  resolved := Array.replicate 140 none
  statics := some 0 }

def pool7 : Array CpInfo := pool [(1, .class_ 2), (0, u "com/example/rederive/rederive/Lattice"), (0, .class_ 4), (0, u "java/lang/Object")] 19

/-- com/example/rederive/rederive/Lattice -/
def k7 : Class := { plain "com/example/rederive/rederive/Lattice" (some 0) with
  accessFlags := 1537
  interfaces := #[]
  cf := some (fileOf pool7 1 #[] #[] 1537 3 #[] #[])
  fields := #[]
  methods := #[]
  instanceTypes := #[]
  staticTypes := #[]
  resolved := Array.replicate 24 none
  statics := none }

def pool8 : Array CpInfo := pool [(2, .class_ 4), (1, u "java/lang/Object"), (0, u "<init>"), (0, u "()V"), (0, .class_ 8), (0, u "com/example/rederive/rederive/ConstantLattice"), (10, u "TOP"), (0, u "Lcom/example/rederive/rederive/ConstantLattice$Value;"), (26, .class_ 49), (1, u "com/example/rederive/rederive/ConstantLattice$Value"), (36, .class_ 87), (0, u "com/example/rederive/rederive/Lattice"), (0, u "TOP_TEXT"), (0, u "Ljava/lang/String;")] 32

def k8m0 : Method := { name := "<init>", desc := "()V", sig := { parameters := [], returnType := none }, accessFlags := 0, code := none }
/-- com/example/rederive/rederive/ConstantLattice -/
def k8 : Class := { plain "com/example/rederive/rederive/ConstantLattice" (some 0) with
  accessFlags := 32
  interfaces := #[7]
  cf := some (fileOf pool8 7 #[.nestMembers #[47]] #[{ accessFlags := 0, nameIndex := 5, descriptorIndex := 6, attributes := #[] }] 32 2 #[86] #[{ accessFlags := 26, nameIndex := 88, descriptorIndex := 89, attributes := #[] }, { accessFlags := 26, nameIndex := 19, descriptorIndex := 20, attributes := #[] }])
  fields := #[{ name := "TOP_TEXT", type := (.object "java/lang/String"), accessFlags := 26, slot := 0, constantValue := 0 }, { name := "TOP", type := (.object "com/example/rederive/rederive/ConstantLattice$Value"), accessFlags := 26, slot := 1, constantValue := 0 }]
  methods := #[k8m0]
  instanceTypes := #[]
  staticTypes := #[(.object "java/lang/String"), (.object "com/example/rederive/rederive/ConstantLattice$Value")]
  resolved := Array.replicate 122 none
  statics := none }

def pool9 : Array CpInfo := pool [(1, u "java/lang/Cloneable"), (0, .class_ 1), (0, u "java/lang/Object"), (0, .class_ 3)] 3

/-- java/lang/Cloneable -/
def k9 : Class := { plain "java/lang/Cloneable" (some 0) with
  accessFlags := 1537
  interfaces := #[]
  cf := some (fileOf pool9 2 #[] #[] 1537 4 #[] #[])
  fields := #[]
  methods := #[]
  instanceTypes := #[]
  staticTypes := #[]
  resolved := Array.replicate 8 none
  statics := none }

/-- the primitive byte -/
def k10 : Class := { plain "byte" none with kind := .primitive 'B', accessFlags := 0x411 }
/-- [B -/
def k11 : Class := { plain "[B" (some 0) with kind := .array 10 .byte, interfaces := #[9, 4], accessFlags := 1041 }

/-- the primitive int -/
def k12 : Class := { plain "int" none with kind := .primitive 'I', accessFlags := 0x411 }
/-- [I -/
def k13 : Class := { plain "[I" (some 0) with kind := .array 12 .int, interfaces := #[9, 4], accessFlags := 1041 }

def heap : Heap := #[{ cls := 6, slots := #[.ref 4, .ref 3, .ref 1, .null], vm := .statics 6 },
  { cls := 6, slots := #[.null, .int 2, .int 0, .null, .ref 2], vm := .none },
  { cls := 8, slots := #[], vm := .none },
  { cls := 6, slots := #[.null, .int 1, .int 0, .null, .null], vm := .none },
  { cls := 6, slots := #[.null, .int 0, .int 0, .null, .null], vm := .none }]
def classes : Array Class := #[k0, k1, k2, k3, k4, k5, k6, k7, k8, k9, k10, k11, k12, k13]
def interned : List (Array UInt16 × Addr) := []
def slotsUsed : Nat := 19
def theMethod : MethodId := ⟨1, 2⟩
def args0 : Array Value := #[.int 5, .int 8]
def aboutOver (below : List Frame) : State where
  vm := { classes := classes, interned := interned.toArray }
  heap := heap
  slotsUsed := slotsUsed
  threads := #[{ frames := .invoking theMethod args0 :: below }]
def below0 : List Frame := [.native { method := ⟨0, 0⟩, args := #[] }]
def about1 : State := aboutOver below0
def p0 : Program := .bare "" "" ""
def e0 : Env := launch0.env 0 0 0
theorem w_frames : about1.frames = Frame.invoking theMethod args0 :: below0 := rfl
set_option maxRecDepth 65536 in
theorem w_args : argsFit about1.vm theMethod args0 = true := by decide +kernel
set_option maxRecDepth 65536 in
theorem w_heap : heapFits about1 = true := by decide +kernel
set_option maxRecDepth 65536 in
theorem w_runnable : about1.curStatus? = some .runnable := by decide +kernel
set_option maxRecDepth 65536 in
theorem w_alone : about1.alone = true := by decide +kernel
set_option maxRecDepth 65536 in
theorem w_named : about1.methodNamed? x = some theMethod := by decide +kernel
set_option maxRecDepth 65536 in
theorem w_hears : about1.hears theMethod below0 = true := by decide +kernel
set_option maxRecDepth 65536 in
theorem w_ripe : about1.ripe theMethod args0 below0 = true := by decide +kernel
theorem w_running : about1.status = .running := rfl
set_option maxRecDepth 65536 in
theorem w_room : about1.hasRoom e0.platform room_1 = true :=
  launch0.hasRoom_least _ room_1 (by decide +kernel) (by decide +kernel) (by decide +kernel) (by decide +kernel) (by decide +kernel) (by decide +kernel)
theorem allAtoms_all (ts : List Jvm.Cond) (a : Array Jvm.Value) (st : Jvm.State) : (allAtoms ts).before a st = ts.all (fun c => c.before a st) := by
  induction ts with
  | nil => rfl
  | cons c t ih =>
    show (Jvm.Cond.and c (allAtoms t)).before a st = _
    rw [Jvm.Cond.before_and, ih, List.all_cons]
def words1 : List Jvm.Cond := Jvm.Cond.code x code maxLocals ret :: tables_1
/-- a 'code' word, met by the world's own term for the bytes: nothing is compared byte by byte -/
theorem code_word {y : MethodName} {bytes : ByteArray} {mx : Nat} {rt : Option FieldType} {a : Array Value} {s : State} {m : MethodId} {meth : Method} {c : Code} (h1 : s.methodNamed? y = some m) (h2 : s.vm.method? m = some meth) (h3 : meth.code = some c) (h4 : c.code = bytes)
    (h5 : (c.maxLocals == mx && c.exceptionTable.isEmpty && decide (c.maxStack ≤ mostOperands) && decide (meth.sig.returnType = rt) && !meth.locks && decide (parseMethodDescriptor y.desc = some meth.sig)) = true) : (Jvm.Cond.code y bytes mx rt).before a s = true := by
  simp only [Bool.and_eq_true, beq_iff_eq, Bool.not_eq_true', decide_eq_true_eq] at h5
  obtain ⟨⟨⟨⟨⟨g1, g2⟩, g3⟩, g4⟩, g5⟩, g6⟩ := h5
  simp [Cond.before, Cond.holds, Cond.value, h1, h2, h3, h4, g1, g2, g3, g4, g5, g6]
def isCode : Jvm.Cond → Bool
  | .code _ _ _ _ => true
  | _ => false
theorem all_split {L : List Jvm.Cond} {P : Jvm.Cond → Bool} (h1 : L.all (fun c => isCode c || P c) = true) (h2 : ∀ c ∈ L.filter isCode, P c = true) : L.all P = true := by
  refine List.all_eq_true.mpr fun c hc => ?_
  have h := List.all_eq_true.mp h1 c hc
  rcases Bool.eq_false_or_eq_true (isCode c) with hi | hi
  · exact h2 c (List.mem_filter.mpr ⟨hc, hi⟩)
  · simpa [hi] using h
set_option maxRecDepth 65536 in
theorem w_c0 : (Jvm.Cond.code x code maxLocals ret).before args0 about1 = true := code_word (m := ⟨1, 2⟩) (meth := k1m2) (c := k1c2) (by decide +kernel) rfl rfl rfl (by decide +kernel)
set_option maxRecDepth 65536 in
theorem w_c1 : (Jvm.Cond.code ({ cls := "com/example/rederive/rederive/ColumnTypeOfArithmeticPinLaw", name := "pick", desc := "(I)Lcom/example/rederive/rederive/ColumnType;" } : Jvm.MethodName) method_2_code (2 : Nat) (Option.some (Jvm.ClassFile.FieldType.object "com/example/rederive/rederive/ColumnType"))).before args0 about1 = true := code_word (m := ⟨1, 1⟩) (meth := k1m1) (c := k1c1) (by decide +kernel) rfl rfl rfl (by decide +kernel)
set_option maxRecDepth 65536 in
theorem w_c2 : (Jvm.Cond.code ({ cls := "com/example/rederive/rederive/ColumnType", name := "ofArithmetic", desc := "(Lcom/example/rederive/rederive/ColumnType;Lcom/example/rederive/rederive/ColumnType;)Lcom/example/rederive/rederive/ColumnType;" } : Jvm.MethodName) prog_1_method_7_code (3 : Nat) (Option.some (Jvm.ClassFile.FieldType.object "com/example/rederive/rederive/ColumnType"))).before args0 about1 = true := code_word (m := ⟨6, 0⟩) (meth := k6m0) (c := k6c0) (by decide +kernel) rfl rfl rfl (by decide +kernel)
def codes1 : List Jvm.Cond := [Jvm.Cond.code x code maxLocals ret, Jvm.Cond.code ({ cls := "com/example/rederive/rederive/ColumnTypeOfArithmeticPinLaw", name := "pick", desc := "(I)Lcom/example/rederive/rederive/ColumnType;" } : Jvm.MethodName) method_2_code (2 : Nat) (Option.some (Jvm.ClassFile.FieldType.object "com/example/rederive/rederive/ColumnType")), Jvm.Cond.code ({ cls := "com/example/rederive/rederive/ColumnType", name := "ofArithmetic", desc := "(Lcom/example/rederive/rederive/ColumnType;Lcom/example/rederive/rederive/ColumnType;)Lcom/example/rederive/rederive/ColumnType;" } : Jvm.MethodName) prog_1_method_7_code (3 : Nat) (Option.some (Jvm.ClassFile.FieldType.object "com/example/rederive/rederive/ColumnType"))]
set_option maxRecDepth 65536 in
theorem codes_eq : words1.filter isCode = codes1 := rfl
theorem w_codes : ∀ c ∈ words1.filter isCode, c.before args0 about1 = true := by
  rw [codes_eq]
  intro c hc
  simp only [codes1, List.mem_cons, List.not_mem_nil, or_false] at hc
  rcases hc with rfl | rfl | rfl
  · exact w_c0
  · exact w_c1
  · exact w_c2
set_option maxRecDepth 65536 in
theorem w_t1 : words1.all (fun c => isCode c || c.before args0 about1) = true := by decide +kernel
theorem w_tables : (allAtoms (Jvm.Cond.code x code maxLocals ret :: tables_1)).before args0 about1 = true := by
  rw [allAtoms_all]
  show words1.all (fun c => c.before args0 about1) = true
  refine all_split ?_ w_codes
  rw [w_t1]
set_option maxRecDepth 65536 in
theorem w_case : (Jvm.Cond.and given_1 narrow_1).before args0 about1 = true := by decide +kernel
theorem w_applies : (headSpec (Jvm.Cond.code x code maxLocals ret :: tables_1) room_1).applies x e0.platform about1 = true :=
  (Spec.applies_iff w_frames).mpr ⟨w_running, w_runnable, w_alone, w_named, w_hears, w_ripe, w_room, w_tables⟩
theorem atStart : AtStart classFile x code maxLocals ret World_1 tables_1 room_1 Calls_1 rest_1 Pre_1 launch0 p0 e0 about1 theMethod args0 below0 :=
  ⟨lists_1, trivial, launch0.admits_env _ _ _, launch0.least_env, fairChoices_fair.cas, fairChoices_fair.clock, w_frames, w_args, w_heap, w_applies, trivial, trivial, w_case⟩
end start1
theorem witness_1 : WitnessClaimed_1 := ⟨start1.p0, start1.e0, start1.about1, start1.theMethod, start1.args0, start1.below0, start1.atStart⟩
end Jvm.Pilot.@@N@@
