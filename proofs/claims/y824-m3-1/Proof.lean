import JvmDerived
import JvmDerived.Pilot.@@N@@Statement
import JvmDerived.Pilot.@@N@@Code
set_option linter.unusedVariables false
set_option linter.unusedSimpArgs false

namespace Jvm.Pilot.@@N@@
open Jvm Jvm.ClassFile Sem Op Lib Jvm.Free Jvm.Stand Jvm.LawKit Jvm.RoadKit Bundle Jvm.Pilot.@@N@@.Jvm.D
/-- from here the run comes to its end, and G holds there -/
def Go (p : Program) (e : Env) (below : List Frame) (G : Outcome → State → Prop) (T : State) (g : JFrame) : Prop := ∃ s₂ o, Steps p.tables e below (T.setTop g) s₂ ∧ s₂.status = .running ∧ Ended s₂ below o ∧ G o s₂
theorem Go.on {p : Program} {e : Env} {below : List Frame} {G : Outcome → State → Prop} {T T' : State} {g g' : JFrame} (h : ∀ t, Steps p.tables e below (T'.setTop g') t → Steps p.tables e below (T.setTop g) t) (k : Go p e below G T' g') : Go p e below G T g := by
  obtain ⟨s2, o, k1, k2⟩ := k
  exact ⟨s2, o, h _ k1, k2⟩
/-- a body that writes nothing: what it returns; the heap as it was -/
def Qp (r : Option Value) (h0 : Heap) (n0 : Nat) (v : Option Value) (h : Heap) (L : List Loc) : Prop := v = r ∧ Fr n0 L ∧ h = h0
def Ql (r : Option Value) (n0 : Nat) (v : Option Value) (L : List Loc) : Prop := v = r ∧ Fr n0 L
/-- a body that only makes new cells -/
def Qx (r : Option Value) (F : Heap → Prop) (h0 : Heap) (n0 : Nat) (v : Option Value) (h : Heap) (L : List Loc) : Prop := v = r ∧ Fr n0 L ∧ Ext h0 h ∧ F h
theorem own_ext0 (h : Heap) : Ext h h := ⟨Nat.le_refl _, fun _ _ q => q⟩
theorem own_ext2 {a b c : Heap} (E : Ext a b) (F : Ext b c) : Ext a c := ⟨Nat.le_trans E.1 F.1, fun x y q => F.2 x y (E.2 x y q)⟩
theorem own_extw {h0 h h' : Heap} {a : Addr} {sl : Nat} {v : Value} (E : Ext h0 h) (W : Wr h h' a sl v) (q : h0.size ≤ a) : Ext h0 h' := by
  refine ⟨by rw [W.size]; exact E.1, fun x c hx => ?_⟩
  obtain ⟨c', g1, -, -, -, g5, -⟩ := wr_at W (E.2 x c hx)
  have hne : x ≠ a := Nat.ne_of_lt (Nat.lt_of_lt_of_le (Array.getElem?_eq_some_iff.mp hx).1 q)
  rw [g1, g5 hne]
theorem own_extE {h a b : Heap} (e : a = b) (X : Ext h b) : Ext h a := e ▸ X
theorem own_arrE {Z : State} {a b : Heap} {x : Addr} {c : Cell} {ty : FieldType} (e : a = b) (A : Arr Z b x c ty) : Arr Z a x c ty := e ▸ A
theorem own_ne {Z : State} {h : Heap} {a b : Addr} {C n d : String} {v v' : Value} (F : Fld Z h a C n d v) (G : Fld Z h b C n d v') (hv : v ≠ v') : ¬ (a = b) := by
  rintro rfl
  obtain ⟨cell, cf, k, i, f, h1, h2, -, -, -, -, h7⟩ := F
  obtain ⟨cell', cf', k', i', f', g1, g2, -, -, -, -, g7⟩ := G
  cases h1.symm.trans g1
  cases h2.symm.trans g2
  exact hv (Option.some.inj (h7.symm.trans g7))
theorem own_irrI (x : Int32) : ¬ (x < x) := by simp
theorem own_irrJ (x : Int64) : ¬ (x < x) := by simp
theorem own_eqI {args : Array Value} {s : State} {t : Term} {n : Int32} (h : (Jvm.Cond.eq t (.int n)).value args s none s [] = some true) : t.eval args s none [] s = some (.int n) := by
  exact eqv_i (Term.int_eval n) h
theorem own_len {args : Array Value} {s : State} {t : Term} {n : Int32} {a : Addr} {cl : Cell} {ty : FieldType} {k : Nat} (h : (Term.length t).eval args s none [] s = some (.int n)) (ht : t.eval args s none [] s = some (.ref a)) (A : Arr s s.heap a cl ty) (hk : n.toInt = k) : cl.slots.size = k := by
  have ha := A.fin (U := s) (Vm.Alike.refl _)
  by_cases hl : cl.slots.size < 2 ^ 31
  · have e := (len_f ht ha hl).symm.trans h
    have e2 : cl.slots.size.toInt32 = n := by simpa using e
    have e3 := len_toInt hl
    rw [e2, hk] at e3
    omega
  · simp [Term.eval, ht, ha, hl] at h
theorem own_slots {cl : Cell} {vs : List Value} (h1 : cl.slots.size = vs.length) (h2 : ∀ (i : Nat) (v : Value), vs[i]? = some v → cl.slots[i]? = some v) : cl.slots = vs.toArray := by
  apply Array.ext
  · simp [h1]
  · intro i hi hj
    have hj' : i < vs.length := by simpa using hj
    have q := h2 i vs[i] (by simp [hj'])
    rw [Array.getElem?_eq_getElem hi] at q
    simpa using q
theorem own_eqR {args : Array Value} {s : State} {t u : Term} {a : Addr} (h : (Jvm.Cond.eq t u).value args s none s [] = some true) (hu : u.eval args s none [] s = some (.ref a)) : t.eval args s none [] s = some (.ref a) := by
  obtain ⟨x, y, h1, h2, k1, k2⟩ := cmp_v (Or.inl h)
  cases h2.symm.trans hu
  have q := gotT (eq_R h1 h2 k2.2 rfl) h
  rw [h1, q]
def Pins (Z : State) (h : Heap) (w : Nat → Addr) : Prop :=
  Sta Z h "com/example/stubwright/stubwright/ParameterType" "$VALUES" "[Lcom/example/stubwright/stubwright/ParameterType;" (.ref (w 0)) ∧
  Sta Z h "com/example/stubwright/stubwright/ParameterType" "DOUBLE" "Lcom/example/stubwright/stubwright/ParameterType;" (.ref (w 4)) ∧
  Sta Z h "com/example/stubwright/stubwright/ParameterType" "WSTRING" "Lcom/example/stubwright/stubwright/ParameterType;" (.ref (w 2)) ∧
  Sta Z h "com/example/stubwright/stubwright/ParameterType" "INT" "Lcom/example/stubwright/stubwright/ParameterType;" (.ref (w 3)) ∧
  Sta Z h "com/example/stubwright/stubwright/ParameterType" "STRING" "Lcom/example/stubwright/stubwright/ParameterType;" (.ref (w 1)) ∧
  Sta Z h "com/example/stubwright/stubwright/ParameterType" "BYTE" "Lcom/example/stubwright/stubwright/ParameterType;" (.ref (w 5)) ∧
  Sta Z h "com/example/stubwright/stubwright/ParameterType" "BINARY" "Lcom/example/stubwright/stubwright/ParameterType;" (.ref (w 6)) ∧
  Exa Z h (w 0) "[Lcom/example/stubwright/stubwright/ParameterType;" ∧
  Exa Z h (w 1) "com/example/stubwright/stubwright/ParameterType$1" ∧
  Exa Z h (w 2) "com/example/stubwright/stubwright/ParameterType$2" ∧
  Exa Z h (w 3) "com/example/stubwright/stubwright/ParameterType$3" ∧
  Exa Z h (w 4) "com/example/stubwright/stubwright/ParameterType$4" ∧
  Exa Z h (w 5) "com/example/stubwright/stubwright/ParameterType$5" ∧
  Exa Z h (w 6) "com/example/stubwright/stubwright/ParameterType$6" ∧
  Fld Z h (w 1) "com/example/stubwright/stubwright/ParameterType" "code" "I" (.int (1 : Int32)) ∧
  Fld Z h (w 2) "com/example/stubwright/stubwright/ParameterType" "code" "I" (.int (2 : Int32)) ∧
  Fld Z h (w 3) "com/example/stubwright/stubwright/ParameterType" "code" "I" (.int (3 : Int32)) ∧
  Fld Z h (w 4) "com/example/stubwright/stubwright/ParameterType" "code" "I" (.int (4 : Int32)) ∧
  Fld Z h (w 5) "com/example/stubwright/stubwright/ParameterType" "code" "I" (.int (5 : Int32)) ∧
  Fld Z h (w 6) "com/example/stubwright/stubwright/ParameterType" "code" "I" (.int (6 : Int32)) ∧
  (∃ cl : Cell, Arr Z h (w 0) cl (.object "com/example/stubwright/stubwright/ParameterType") ∧ cl.slots = #[(.ref (w 1)), (.ref (w 2)), (.ref (w 3)), (.ref (w 4)), (.ref (w 5)), (.ref (w 6))] ∧ FitC Z cl) ∧
  True
theorem pin_0 {Z : State} {h : Heap} {w : Nat → Addr} (P : Pins Z h w) : Sta Z h "com/example/stubwright/stubwright/ParameterType" "$VALUES" "[Lcom/example/stubwright/stubwright/ParameterType;" (.ref (w 0)) := P.1
theorem pin_1 {Z : State} {h : Heap} {w : Nat → Addr} (P : Pins Z h w) : Sta Z h "com/example/stubwright/stubwright/ParameterType" "DOUBLE" "Lcom/example/stubwright/stubwright/ParameterType;" (.ref (w 4)) := P.2.1
theorem pin_2 {Z : State} {h : Heap} {w : Nat → Addr} (P : Pins Z h w) : Sta Z h "com/example/stubwright/stubwright/ParameterType" "WSTRING" "Lcom/example/stubwright/stubwright/ParameterType;" (.ref (w 2)) := P.2.2.1
theorem pin_3 {Z : State} {h : Heap} {w : Nat → Addr} (P : Pins Z h w) : Sta Z h "com/example/stubwright/stubwright/ParameterType" "INT" "Lcom/example/stubwright/stubwright/ParameterType;" (.ref (w 3)) := P.2.2.2.1
theorem pin_4 {Z : State} {h : Heap} {w : Nat → Addr} (P : Pins Z h w) : Sta Z h "com/example/stubwright/stubwright/ParameterType" "STRING" "Lcom/example/stubwright/stubwright/ParameterType;" (.ref (w 1)) := P.2.2.2.2.1
theorem pin_5 {Z : State} {h : Heap} {w : Nat → Addr} (P : Pins Z h w) : Sta Z h "com/example/stubwright/stubwright/ParameterType" "BYTE" "Lcom/example/stubwright/stubwright/ParameterType;" (.ref (w 5)) := P.2.2.2.2.2.1
theorem pin_6 {Z : State} {h : Heap} {w : Nat → Addr} (P : Pins Z h w) : Sta Z h "com/example/stubwright/stubwright/ParameterType" "BINARY" "Lcom/example/stubwright/stubwright/ParameterType;" (.ref (w 6)) := P.2.2.2.2.2.2.1
theorem pin_7 {Z : State} {h : Heap} {w : Nat → Addr} (P : Pins Z h w) : Exa Z h (w 0) "[Lcom/example/stubwright/stubwright/ParameterType;" := P.2.2.2.2.2.2.2.1
theorem pin_8 {Z : State} {h : Heap} {w : Nat → Addr} (P : Pins Z h w) : Exa Z h (w 1) "com/example/stubwright/stubwright/ParameterType$1" := P.2.2.2.2.2.2.2.2.1
theorem pin_9 {Z : State} {h : Heap} {w : Nat → Addr} (P : Pins Z h w) : Exa Z h (w 2) "com/example/stubwright/stubwright/ParameterType$2" := P.2.2.2.2.2.2.2.2.2.1
theorem pin_10 {Z : State} {h : Heap} {w : Nat → Addr} (P : Pins Z h w) : Exa Z h (w 3) "com/example/stubwright/stubwright/ParameterType$3" := P.2.2.2.2.2.2.2.2.2.2.1
theorem pin_11 {Z : State} {h : Heap} {w : Nat → Addr} (P : Pins Z h w) : Exa Z h (w 4) "com/example/stubwright/stubwright/ParameterType$4" := P.2.2.2.2.2.2.2.2.2.2.2.1
theorem pin_12 {Z : State} {h : Heap} {w : Nat → Addr} (P : Pins Z h w) : Exa Z h (w 5) "com/example/stubwright/stubwright/ParameterType$5" := P.2.2.2.2.2.2.2.2.2.2.2.2.1
theorem pin_13 {Z : State} {h : Heap} {w : Nat → Addr} (P : Pins Z h w) : Exa Z h (w 6) "com/example/stubwright/stubwright/ParameterType$6" := P.2.2.2.2.2.2.2.2.2.2.2.2.2.1
theorem pin_14 {Z : State} {h : Heap} {w : Nat → Addr} (P : Pins Z h w) : Fld Z h (w 1) "com/example/stubwright/stubwright/ParameterType" "code" "I" (.int (1 : Int32)) := P.2.2.2.2.2.2.2.2.2.2.2.2.2.2.1
theorem pin_15 {Z : State} {h : Heap} {w : Nat → Addr} (P : Pins Z h w) : Fld Z h (w 2) "com/example/stubwright/stubwright/ParameterType" "code" "I" (.int (2 : Int32)) := P.2.2.2.2.2.2.2.2.2.2.2.2.2.2.2.1
theorem pin_16 {Z : State} {h : Heap} {w : Nat → Addr} (P : Pins Z h w) : Fld Z h (w 3) "com/example/stubwright/stubwright/ParameterType" "code" "I" (.int (3 : Int32)) := P.2.2.2.2.2.2.2.2.2.2.2.2.2.2.2.2.1
theorem pin_17 {Z : State} {h : Heap} {w : Nat → Addr} (P : Pins Z h w) : Fld Z h (w 4) "com/example/stubwright/stubwright/ParameterType" "code" "I" (.int (4 : Int32)) := P.2.2.2.2.2.2.2.2.2.2.2.2.2.2.2.2.2.1
theorem pin_18 {Z : State} {h : Heap} {w : Nat → Addr} (P : Pins Z h w) : Fld Z h (w 5) "com/example/stubwright/stubwright/ParameterType" "code" "I" (.int (5 : Int32)) := P.2.2.2.2.2.2.2.2.2.2.2.2.2.2.2.2.2.2.1
theorem pin_19 {Z : State} {h : Heap} {w : Nat → Addr} (P : Pins Z h w) : Fld Z h (w 6) "com/example/stubwright/stubwright/ParameterType" "code" "I" (.int (6 : Int32)) := P.2.2.2.2.2.2.2.2.2.2.2.2.2.2.2.2.2.2.2.1
theorem pin_20 {Z : State} {h : Heap} {w : Nat → Addr} (P : Pins Z h w) : (∃ cl : Cell, Arr Z h (w 0) cl (.object "com/example/stubwright/stubwright/ParameterType") ∧ cl.slots = #[(.ref (w 1)), (.ref (w 2)), (.ref (w 3)), (.ref (w 4)), (.ref (w 5)), (.ref (w 6))] ∧ FitC Z cl) := P.2.2.2.2.2.2.2.2.2.2.2.2.2.2.2.2.2.2.2.2.1
theorem pins_ext {Z : State} {h h' : Heap} {w : Nat → Addr} (E : Ext h h') (P : Pins Z h w) : Pins Z h' w :=
  ⟨(pin_0 P).ext E, (pin_1 P).ext E, (pin_2 P).ext E, (pin_3 P).ext E, (pin_4 P).ext E, (pin_5 P).ext E, (pin_6 P).ext E, (pin_7 P).ext E, (pin_8 P).ext E, (pin_9 P).ext E, (pin_10 P).ext E, (pin_11 P).ext E, (pin_12 P).ext E, (pin_13 P).ext E, (pin_14 P).ext E, (pin_15 P).ext E, (pin_16 P).ext E, (pin_17 P).ext E, (pin_18 P).ext E, (pin_19 P).ext E, (let ⟨c, A, r⟩ := pin_20 P; ⟨c, A.ext E, r⟩), trivial⟩
theorem d1_0 : decode prog_37_method_7_code 0 = .ok (.invokestatic 64, 3) := by decide +kernel
theorem d2_0 : decode prog_37_method_1_code 0 = .ok (.getstatic 22, 3) := by decide +kernel
theorem d2_3 : decode prog_37_method_1_code 3 = .ok (.invokevirtual 26, 3) := by decide +kernel
theorem d2_6 : decode prog_37_method_1_code 6 = .ok (.checkcast 27, 3) := by decide +kernel
theorem d2_9 : decode prog_37_method_1_code 9 = .ok (.areturn, 1) := by decide +kernel
theorem pn_0 : plainName "com/example/stubwright/stubwright/ParameterType" = true := by first | (simp [plainName, overriddenIn]; done) | decide +kernel
set_option maxRecDepth 65536 in
set_option maxHeartbeats 40000000 in
theorem rm2_0 (l : Launch) (Z : State) (a0 : Array Value) (hw : ∀ d ∈ tables_1, d.before a0 Z = true) (ws : List Jvm.Cond) (w : Nat → Addr) (h0 : Heap) (n0 : Nat) (Z0 : n0 ≤ h0.size) (hP : Pins Z h0 w) :
    MetFree l (⟨"com/example/stubwright/stubwright/ParameterType", "values", "()[Lcom/example/stubwright/stubwright/ParameterType;"⟩ : MethodName) (head1 (Jvm.Cond.code (⟨"com/example/stubwright/stubwright/ParameterType", "values", "()[Lcom/example/stubwright/stubwright/ParameterType;"⟩ : MethodName) prog_37_method_1_code 0 (some (.array (.object "com/example/stubwright/stubwright/ParameterType"))) :: ws) ({ frames := 1, cells := 1, slots := 6, locals := 14 } : Room)) (fun a U => a = #[] ∧ Z.Warmed39 U.vm ∧ U.heap = h0) (fun _ _ _ _ _ => True) (fun _ U o U' => ∃ v L, o = .returned v ∧ Qx (some (.ref (h0.size))) (fun h => ∃ kc, Arr Z h (h0.size) ({ cls := kc, slots := #[(.ref (w 1)), (.ref (w 2)), (.ref (w 3)), (.ref (w 4)), (.ref (w 5)), (.ref (w 6))] } : Cell) (.object "com/example/stubwright/stubwright/ParameterType")) h0 n0 v U'.heap L ∧ FrameEnd U o U' L ({ frames := 1, cells := 1, slots := 6, locals := 14 } : Room).cells ({ frames := 1, cells := 1, slots := 6, locals := 14 } : Room).slots) := by
  refine MetFree.of_bodySF (plainFor_of_name pn_0) hisR ?_
  intro p e s m args below meth c s₁ Bd hml0 hP0 hK
  obtain ⟨rfl, hZ, hh⟩ := hP0
  have hx := Bd.exec
  have hby := Bd.bytes
  have hml : c.maxLocals = 0 := hml0
  have hown : s.vm.findClass "com/example/stubwright/stubwright/ParameterType" = some m.cls := findClass_of_methodNamed Bd.named
  have hnm := (name_of_methodNamed Bd.named Bd.method).1
  have X0 : Stand p l e ({ frames := 1, cells := 1, slots := 6, locals := 14 } : Room) s m #[] below meth c s₁ [] 0 0 := Stand.of_body Bd
  have e0 : s₁.heap = h0 := by rw [← hh, Bd.state]; rfl
  have N0 := Fr.nil n0
  suffices hgo : Go p e below (fun o U' => ∃ v L, o = .returned v ∧ Qx (some (.ref (h0.size))) (fun h => ∃ kc, Arr Z h (h0.size) ({ cls := kc, slots := #[(.ref (w 1)), (.ref (w 2)), (.ref (w 3)), (.ref (w 4)), (.ref (w 5)), (.ref (w 6))] } : Cell) (.object "com/example/stubwright/stubwright/ParameterType")) h0 n0 v U'.heap L ∧ FrameEnd s o U' L ({ frames := 1, cells := 1, slots := 6, locals := 14 } : Room).cells ({ frames := 1, cells := 1, slots := 6, locals := 14 } : Room).slots) s₁ (mkF m 0 #[] []) by
    obtain ⟨s2, o, g1, g2, g3, g4⟩ := hgo
    refine ⟨s2, o, castTop (?_ : entryFrame m #[] 0 = _) g1, g2, g3, g4⟩
    first | (simp [entryFrame, mkF, argsToLocals, Value.category]; done) | rfl
  obtain ⟨T19, X19, e19, st19⟩ := getS2 X0 hx hZ hown (host := "") (Or.inl (hw _ (List.mem_of_getElem? (i := 7) rfl))) Via.refl e0 (pin_0 hP) (g := (mkF m 0 #[] [])) rfl (hb hby d2_0)
  refine Go.on (T' := T19) (g' := (mkF m 3 #[] [(.ref (w 0))])) st19 ?_
  obtain ⟨cl20, Aq20, sq20, Fq20⟩ := (pin_20 hP)
  obtain ⟨T20, h20, X20, e20, E20, A20, EX20, st20⟩ := cloneA X19 hx hZ hown (hw _ (List.mem_of_getElem? (i := 9) rfl)) (hw _ (List.mem_of_getElem? (i := 10) rfl)) (hw _ (List.mem_of_getElem? (i := 14) rfl)) (hw _ (List.mem_of_getElem? (i := 12) rfl)) (hw _ (List.mem_of_getElem? (i := 13) rfl)) (hw _ (List.mem_of_getElem? (i := 15) rfl)) e19 Aq20 (pin_7 hP) Fq20 (g := (mkF m 3 #[] [(.ref (w 0))])) rfl (by rw [hml]; rfl) rfl (hb hby d2_3) (by decide) (W := 0) (by show 2 * 0 + _ ≤ _; exact Nat.le_of_eq rfl) (by decide) (cap := 6) (by rw [sq20]; exact Nat.le_of_ble_eq_true rfl) (by decide) (by decide)
  have sz20 : h0.size ≤ (h0.size) := (own_ext0 h0).1
  have XT20 := own_ext2 (own_ext0 h0) E20
  have Ar20_0 : Arr Z h20 (h0.size) ({ cls := cl20.cls, slots := #[(.ref (w 1)), (.ref (w 2)), (.ref (w 3)), (.ref (w 4)), (.ref (w 5)), (.ref (w 6))] } : Cell) (.object "com/example/stubwright/stubwright/ParameterType") := (by rw [← sq20]; exact A20)
  refine Go.on (T' := T20) (g' := (mkF m 6 #[] [(.ref (h0.size))])) st20 ?_
  obtain ⟨T21, X21, e21, st21⟩ := castY X20 hx hZ hown (hw _ (List.mem_of_getElem? (i := 17) rfl)) e20 (Ins.self EX20) (g := (mkF m 6 #[] [(.ref (h0.size))])) rfl rfl (hb hby d2_6)
  refine Go.on (T' := T21) (g' := (mkF m 9 #[] [(.ref (h0.size))])) st21 ?_
  obtain ⟨fs, hr, hrun, hended, hW, hsame⟩ := X21.leave (v := some (.ref (h0.size))) (fun h => by rw [Bd.returns] at h; cases h)
  exact ⟨_, _, retOut X21 hx Bd.returns rfl (Or.inr (Or.inr (Or.inr (Or.inr ⟨rfl, rfl, rfl⟩)))) (hb hby d2_9) hr, hrun, hended, _, _, rfl, ⟨rfl, N0, own_extE e21 XT20, ⟨_, own_arrE e21 Ar20_0⟩⟩, ⟨_, rfl⟩, hW, hsame.mono (by decide) (by decide)⟩
theorem pd_0 : parseMethodDescriptor "()[Lcom/example/stubwright/stubwright/ParameterType;" = some ⟨[], some (.array (.object "com/example/stubwright/stubwright/ParameterType"))⟩ := by decide +kernel
theorem d1_3 : decode prog_37_method_7_code 3 = .ok (.astore_n 1, 1) := by decide +kernel
theorem d1_4 : decode prog_37_method_7_code 4 = .ok (.aload_n 1, 1) := by decide +kernel
theorem d1_5 : decode prog_37_method_7_code 5 = .ok (.arraylength, 1) := by decide +kernel
theorem d1_6 : decode prog_37_method_7_code 6 = .ok (.istore_n 2, 1) := by decide +kernel
theorem d1_7 : decode prog_37_method_7_code 7 = .ok (.iconst 0, 1) := by decide +kernel
theorem d1_8 : decode prog_37_method_7_code 8 = .ok (.istore_n 3, 1) := by decide +kernel
theorem d1_9 : decode prog_37_method_7_code 9 = .ok (.iload_n 3, 1) := by decide +kernel
theorem d1_10 : decode prog_37_method_7_code 10 = .ok (.iload_n 2, 1) := by decide +kernel
theorem d1_11 : decode prog_37_method_7_code 11 = .ok (.if_icmp .ge 26, 3) := by decide +kernel
theorem d1_14 : decode prog_37_method_7_code 14 = .ok (.aload_n 1, 1) := by decide +kernel
theorem d1_15 : decode prog_37_method_7_code 15 = .ok (.iload_n 3, 1) := by decide +kernel
theorem d1_16 : decode prog_37_method_7_code 16 = .ok (.aaload, 1) := by decide +kernel
theorem d1_17 : decode prog_37_method_7_code 17 = .ok (.astore 4, 2) := by decide +kernel
theorem d1_19 : decode prog_37_method_7_code 19 = .ok (.aload 4, 2) := by decide +kernel
theorem d1_21 : decode prog_37_method_7_code 21 = .ok (.getfield 41, 3) := by decide +kernel
theorem d1_24 : decode prog_37_method_7_code 24 = .ok (.iload_n 0, 1) := by decide +kernel
theorem d1_25 : decode prog_37_method_7_code 25 = .ok (.if_icmp .ne 6, 3) := by decide +kernel
theorem d1_28 : decode prog_37_method_7_code 28 = .ok (.aload 4, 2) := by decide +kernel
theorem d1_30 : decode prog_37_method_7_code 30 = .ok (.areturn, 1) := by decide +kernel
set_option maxRecDepth 65536 in
set_option maxHeartbeats 40000000 in
theorem rm1_0 (l : Launch) (Z : State) (a0 : Array Value) (hw : ∀ d ∈ tables_1, d.before a0 Z = true) (ws : List Jvm.Cond) (w : Nat → Addr) (h0 : Heap) (n0 : Nat) (Z0 : n0 ≤ h0.size) (hP : Pins Z h0 w) (pa0 : Int32) (hp0 : (1 : Int32) = pa0) :
    MetFree l (⟨"com/example/stubwright/stubwright/ParameterType", "fromCode", "(I)Lcom/example/stubwright/stubwright/ParameterType;"⟩ : MethodName) (head1 (Jvm.Cond.code (⟨"com/example/stubwright/stubwright/ParameterType", "fromCode", "(I)Lcom/example/stubwright/stubwright/ParameterType;"⟩ : MethodName) prog_37_method_7_code 5 (some (.object "com/example/stubwright/stubwright/ParameterType")) :: ws) ({ frames := 2, cells := 1, slots := 6, locals := 25 } : Room)) (fun a U => a = #[(.int pa0)] ∧ Z.Warmed39 U.vm ∧ U.heap = h0) (fun _ _ _ _ _ => True) (fun _ U o U' => ∃ v L, o = .returned v ∧ Qx (some (.ref (w 1))) (fun h => True) h0 n0 v U'.heap L ∧ FrameEnd U o U' L ({ frames := 2, cells := 1, slots := 6, locals := 25 } : Room).cells ({ frames := 2, cells := 1, slots := 6, locals := 25 } : Room).slots) := by
  refine MetFree.of_bodySF (plainFor_of_name pn_0) hisR ?_
  intro p e s m args below meth c s₁ Bd hml0 hP0 hK
  obtain ⟨rfl, hZ, hh⟩ := hP0
  have hx := Bd.exec
  have hby := Bd.bytes
  have hml : c.maxLocals = 5 := hml0
  have hown : s.vm.findClass "com/example/stubwright/stubwright/ParameterType" = some m.cls := findClass_of_methodNamed Bd.named
  have hnm := (name_of_methodNamed Bd.named Bd.method).1
  have X0 : Stand p l e ({ frames := 2, cells := 1, slots := 6, locals := 25 } : Room) s m #[(.int pa0)] below meth c s₁ [] 0 0 := Stand.of_body Bd
  have e0 : s₁.heap = h0 := by rw [← hh, Bd.state]; rfl
  have N0 := Fr.nil n0
  suffices hgo : Go p e below (fun o U' => ∃ v L, o = .returned v ∧ Qx (some (.ref (w 1))) (fun h => True) h0 n0 v U'.heap L ∧ FrameEnd s o U' L ({ frames := 2, cells := 1, slots := 6, locals := 25 } : Room).cells ({ frames := 2, cells := 1, slots := 6, locals := 25 } : Room).slots) s₁ (mkF m 0 #[.val (.int pa0), .unset, .unset, .unset, .unset] []) by
    obtain ⟨s2, o, g1, g2, g3, g4⟩ := hgo
    refine ⟨s2, o, castTop (?_ : entryFrame m #[(.int pa0)] 5 = _) g1, g2, g3, g4⟩
    first | (simp [entryFrame, mkF, argsToLocals, Value.category]; done) | rfl
  obtain ⟨_, _, ⟨T22, L22, k22, n22⟩, -, X22, ⟨Lc22, hQ22, l22, y22, z22⟩, st22⟩ := Jvm.LawKit.callS X0 hx (y := (⟨"com/example/stubwright/stubwright/ParameterType", "values", "()[Lcom/example/stubwright/stubwright/ParameterType;"⟩ : MethodName)) hown (mvT hZ (hw _ (List.mem_of_getElem? (i := 4) rfl))) (mvT hZ (hw _ (List.mem_of_getElem? (i := 5) rfl))) (mvT hZ (hw _ (List.mem_of_getElem? (i := 2) rfl))) (mvT hZ (hw _ (List.mem_of_getElem? (i := 6) rfl))) (by decide) (backOf (W := 0) (rm2_0 l Z a0 hw [] w h0 n0 (Nat.le_trans Z0 (own_ext0 h0).1) hP) hZ (hw _ (List.mem_of_getElem? (i := 6) rfl)) (hw _ (List.mem_of_getElem? (i := 2) rfl)) (by decide) (by decide)) (g := (mkF m 0 #[.val (.int pa0), .unset, .unset, .unset, .unset] [])) rfl (by rw [hml]; rfl) (argsL := []) (rest := []) (lenOf pd_0 rfl) rfl (by show 2 * 0 + _ ≤ _; exact Nat.le_of_eq rfl) (hb hby d1_0) (fun _ _ => ⟨rfl, e0, (by decide : 0 + 1 ≤ _), (by decide : 0 + 6 ≤ _)⟩)
  dsimp only [Pt.U, Pt.locs, Pt.cells, Pt.slots] at X22 l22 y22 z22 st22 hQ22
  subst l22 y22 z22
  obtain ⟨rfl, N22q, x22, f22⟩ := hQ22
  have N22 := Fr.app N0 N22q
  have e22 : T22.heap = T22.heap := rfl
  have sz22 : h0.size ≤ h0.size := (own_ext0 h0).1
  have XT22 := own_ext2 (own_ext0 h0) x22
  obtain ⟨k22, A22⟩ := f22
  refine Go.on (T' := T22) (g' := (mkF m 3 #[.val (.int pa0), .unset, .unset, .unset, .unset] [(.ref (h0.size))])) st22 ?_
  refine Go.on (T' := T22) (g' := (mkF m 4 #[.val (.int pa0), .val (.ref (h0.size)), .unset, .unset, .unset] [])) (fun t k => XS.astoreN X22.here hx rfl (hb hby d1_3) rfl rfl (l' := #[.val (.int pa0), .val (.ref (h0.size)), .unset, .unset, .unset]) rfl k) ?_
  refine Go.on (T' := T22) (g' := (mkF m 5 #[.val (.int pa0), .val (.ref (h0.size)), .unset, .unset, .unset] [(.ref (h0.size))])) (fun t k => XS.aloadN X22.here hx rfl (hb hby d1_4) rfl rfl k) ?_
  refine Go.on (T' := T22) (g' := (mkF m 6 #[.val (.int pa0), .val (.ref (h0.size)), .unset, .unset, .unset] [(.int (6 : Int32))])) (fun t k => X22.arraylength hx (by rw [e22]; exact A22.1) (State.isArrayOf_alike hZ.alike A22.2.1) (g := (mkF m 5 #[.val (.int pa0), .val (.ref (h0.size)), .unset, .unset, .unset] [(.ref (h0.size))])) rfl rfl (hb hby d1_5) t k) ?_
  refine Go.on (T' := T22) (g' := (mkF m 7 #[.val (.int pa0), .val (.ref (h0.size)), .val (.int (6 : Int32)), .unset, .unset] [])) (fun t k => XS.istoreN X22.here hx rfl (hb hby d1_6) rfl (l' := #[.val (.int pa0), .val (.ref (h0.size)), .val (.int (6 : Int32)), .unset, .unset]) rfl k) ?_
  refine Go.on (T' := T22) (g' := (mkF m 8 #[.val (.int pa0), .val (.ref (h0.size)), .val (.int (6 : Int32)), .unset, .unset] [(.int (0 : Int32))])) (fun t k => XS.iconst X22.here hx rfl (hb hby d1_7) k) ?_
  refine Go.on (T' := T22) (g' := (mkF m 9 #[.val (.int pa0), .val (.ref (h0.size)), .val (.int (6 : Int32)), .val (.int (0 : Int32)), .unset] [])) (fun t k => XS.istoreN X22.here hx rfl (hb hby d1_8) rfl (l' := #[.val (.int pa0), .val (.ref (h0.size)), .val (.int (6 : Int32)), .val (.int (0 : Int32)), .unset]) rfl k) ?_
  refine Go.on (T' := T22) (g' := (mkF m 10 #[.val (.int pa0), .val (.ref (h0.size)), .val (.int (6 : Int32)), .val (.int (0 : Int32)), .unset] [(.int (0 : Int32))])) (fun t k => XS.iloadN X22.here hx rfl (hb hby d1_9) rfl k) ?_
  refine Go.on (T' := T22) (g' := (mkF m 11 #[.val (.int pa0), .val (.ref (h0.size)), .val (.int (6 : Int32)), .val (.int (0 : Int32)), .unset] [(.int (6 : Int32)), (.int (0 : Int32))])) (fun t k => XS.iloadN X22.here hx rfl (hb hby d1_10) rfl k) ?_
  refine Go.on (T' := T22) (g' := (mkF m 14 #[.val (.int pa0), .val (.ref (h0.size)), .val (.int (6 : Int32)), .val (.int (0 : Int32)), .unset] [])) (fun t k => XS.icmpNo X22.here hx rfl (hb hby d1_11) rfl (tlt (by decide : (0 : Int32) < (6 : Int32))).2.1 k) ?_
  refine Go.on (T' := T22) (g' := (mkF m 15 #[.val (.int pa0), .val (.ref (h0.size)), .val (.int (6 : Int32)), .val (.int (0 : Int32)), .unset] [(.ref (h0.size))])) (fun t k => XS.aloadN X22.here hx rfl (hb hby d1_14) rfl rfl k) ?_
  refine Go.on (T' := T22) (g' := (mkF m 16 #[.val (.int pa0), .val (.ref (h0.size)), .val (.int (6 : Int32)), .val (.int (0 : Int32)), .unset] [(.int (0 : Int32)), (.ref (h0.size))])) (fun t k => XS.iloadN X22.here hx rfl (hb hby d1_15) rfl k) ?_
  refine Go.on (T' := T22) (g' := (mkF m 17 #[.val (.int pa0), .val (.ref (h0.size)), .val (.int (6 : Int32)), .val (.int (0 : Int32)), .unset] [(.ref (w 1))])) (fun t k => X22.aaload hx (j := (0 : Int32)) (v := (.ref (w 1))) (by rw [e22]; exact A22.1) (State.isArrayOf_alike hZ.alike A22.2.1) rfl A22.2.2 (by show ¬ (_ ∨ (6 : Nat) ≤ _); decide) rfl (g := (mkF m 16 #[.val (.int pa0), .val (.ref (h0.size)), .val (.int (6 : Int32)), .val (.int (0 : Int32)), .unset] [(.int (0 : Int32)), (.ref (h0.size))])) rfl rfl (hb hby d1_16) t k) ?_
  refine Go.on (T' := T22) (g' := (mkF m 19 #[.val (.int pa0), .val (.ref (h0.size)), .val (.int (6 : Int32)), .val (.int (0 : Int32)), .val (.ref (w 1))] [])) (fun t k => XS.astore X22.here hx rfl (hb hby d1_17) rfl rfl (l' := #[.val (.int pa0), .val (.ref (h0.size)), .val (.int (6 : Int32)), .val (.int (0 : Int32)), .val (.ref (w 1))]) rfl k) ?_
  refine Go.on (T' := T22) (g' := (mkF m 21 #[.val (.int pa0), .val (.ref (h0.size)), .val (.int (6 : Int32)), .val (.int (0 : Int32)), .val (.ref (w 1))] [(.ref (w 1))])) (fun t k => XS.aload X22.here hx rfl (hb hby d1_19) rfl rfl k) ?_
  obtain ⟨T23, X23, e23, st23⟩ := getF X22 hx hZ hown (host := "") (Or.inl (hw _ (List.mem_of_getElem? (i := 19) rfl))) Via.refl e22 (pin_14 (pins_ext XT22 hP)) (g := (mkF m 21 #[.val (.int pa0), .val (.ref (h0.size)), .val (.int (6 : Int32)), .val (.int (0 : Int32)), .val (.ref (w 1))] [(.ref (w 1))])) rfl rfl (hb hby d1_21)
  refine Go.on (T' := T23) (g' := (mkF m 24 #[.val (.int pa0), .val (.ref (h0.size)), .val (.int (6 : Int32)), .val (.int (0 : Int32)), .val (.ref (w 1))] [(.int (1 : Int32))])) st23 ?_
  refine Go.on (T' := T23) (g' := (mkF m 25 #[.val (.int pa0), .val (.ref (h0.size)), .val (.int (6 : Int32)), .val (.int (0 : Int32)), .val (.ref (w 1))] [(.int pa0), (.int (1 : Int32))])) (fun t k => XS.iloadN X23.here hx rfl (hb hby d1_24) rfl k) ?_
  refine Go.on (T' := T23) (g' := (mkF m 28 #[.val (.int pa0), .val (.ref (h0.size)), .val (.int (6 : Int32)), .val (.int (0 : Int32)), .val (.ref (w 1))] [])) (fun t k => XS.icmpNo X23.here hx rfl (hb hby d1_25) rfl (teq hp0).2 k) ?_
  refine Go.on (T' := T23) (g' := (mkF m 30 #[.val (.int pa0), .val (.ref (h0.size)), .val (.int (6 : Int32)), .val (.int (0 : Int32)), .val (.ref (w 1))] [(.ref (w 1))])) (fun t k => XS.aload X23.here hx rfl (hb hby d1_28) rfl rfl k) ?_
  obtain ⟨fs, hr, hrun, hended, hW, hsame⟩ := X23.leave (v := some (.ref (w 1))) (fun h => by rw [Bd.returns] at h; cases h)
  exact ⟨_, _, retOut X23 hx Bd.returns rfl (Or.inr (Or.inr (Or.inr (Or.inr ⟨rfl, rfl, rfl⟩)))) (hb hby d1_30) hr, hrun, hended, _, _, rfl, ⟨rfl, N22, own_extE e23 XT22, trivial⟩, ⟨_, rfl⟩, hW, hsame.mono (by decide) (by decide)⟩
theorem pd_1 : parseMethodDescriptor "(I)Lcom/example/stubwright/stubwright/ParameterType;" = some ⟨[.int], some (.object "com/example/stubwright/stubwright/ParameterType")⟩ := by decide +kernel
theorem d3_0 : decode method_2_code 0 = .ok (.iload_n 0, 1) := by decide +kernel
theorem d3_1 : decode method_2_code 1 = .ok (.iconst 1, 1) := by decide +kernel
theorem d3_2 : decode method_2_code 2 = .ok (.if_icmp .ne 7, 3) := by decide +kernel
theorem d3_5 : decode method_2_code 5 = .ok (.getstatic 7, 3) := by decide +kernel
theorem d3_8 : decode method_2_code 8 = .ok (.areturn, 1) := by decide +kernel
theorem pn_1 : plainName "com/example/stubwright/stubwright/ParameterTypeFromCodePinLaw" = true := by first | (simp [plainName, overriddenIn]; done) | decide +kernel
set_option maxRecDepth 65536 in
set_option maxHeartbeats 40000000 in
theorem rm3_0 (l : Launch) (Z : State) (a0 : Array Value) (hw : ∀ d ∈ tables_1, d.before a0 Z = true) (ws : List Jvm.Cond) (w : Nat → Addr) (h0 : Heap) (n0 : Nat) (Z0 : n0 ≤ h0.size) (hP : Pins Z h0 w) (pa0 : Int32) (hp0 : pa0 = (1 : Int32)) :
    MetFree l (⟨"com/example/stubwright/stubwright/ParameterTypeFromCodePinLaw", "expected", "(I)Lcom/example/stubwright/stubwright/ParameterType;"⟩ : MethodName) (head1 (Jvm.Cond.code (⟨"com/example/stubwright/stubwright/ParameterTypeFromCodePinLaw", "expected", "(I)Lcom/example/stubwright/stubwright/ParameterType;"⟩ : MethodName) method_2_code 1 (some (.object "com/example/stubwright/stubwright/ParameterType")) :: ws) ({ frames := 0, cells := 0, slots := 0, locals := 0 } : Room)) (fun a U => a = #[(.int pa0)] ∧ Z.Warmed39 U.vm ∧ U.heap = h0) (fun _ _ _ _ _ => True) (fun _ U o U' => ∃ v L, o = .returned v ∧ Qp (some (.ref (w 1))) h0 n0 v U'.heap L ∧ FrameEnd U o U' L ({ frames := 0, cells := 0, slots := 0, locals := 0 } : Room).cells ({ frames := 0, cells := 0, slots := 0, locals := 0 } : Room).slots) := by
  refine MetFree.of_bodySF (plainFor_of_name pn_1) hisR ?_
  intro p e s m args below meth c s₁ Bd hml0 hP0 hK
  obtain ⟨rfl, hZ, hh⟩ := hP0
  have hx := Bd.exec
  have hby := Bd.bytes
  have hml : c.maxLocals = 1 := hml0
  have hown : s.vm.findClass "com/example/stubwright/stubwright/ParameterTypeFromCodePinLaw" = some m.cls := findClass_of_methodNamed Bd.named
  have hnm := (name_of_methodNamed Bd.named Bd.method).1
  have X0 : Stand p l e ({ frames := 0, cells := 0, slots := 0, locals := 0 } : Room) s m #[(.int pa0)] below meth c s₁ [] 0 0 := Stand.of_body Bd
  have e0 : s₁.heap = h0 := by rw [← hh, Bd.state]; rfl
  have N0 := Fr.nil n0
  suffices hgo : Go p e below (fun o U' => ∃ v L, o = .returned v ∧ Qp (some (.ref (w 1))) h0 n0 v U'.heap L ∧ FrameEnd s o U' L ({ frames := 0, cells := 0, slots := 0, locals := 0 } : Room).cells ({ frames := 0, cells := 0, slots := 0, locals := 0 } : Room).slots) s₁ (mkF m 0 #[.val (.int pa0)] []) by
    obtain ⟨s2, o, g1, g2, g3, g4⟩ := hgo
    refine ⟨s2, o, castTop (?_ : entryFrame m #[(.int pa0)] 1 = _) g1, g2, g3, g4⟩
    first | (simp [entryFrame, mkF, argsToLocals, Value.category]; done) | rfl
  refine Go.on (T' := s₁) (g' := (mkF m 1 #[.val (.int pa0)] [(.int pa0)])) (fun t k => XS.iloadN X0.here hx rfl (hb hby d3_0) rfl k) ?_
  refine Go.on (T' := s₁) (g' := (mkF m 2 #[.val (.int pa0)] [(.int (1 : Int32)), (.int pa0)])) (fun t k => XS.iconst X0.here hx rfl (hb hby d3_1) k) ?_
  refine Go.on (T' := s₁) (g' := (mkF m 5 #[.val (.int pa0)] [])) (fun t k => XS.icmpNo X0.here hx rfl (hb hby d3_2) rfl (teq hp0).2 k) ?_
  obtain ⟨T37, X37, e37, st37⟩ := getS2 X0 hx hZ hown (host := "") (Or.inl (hw _ (List.mem_of_getElem? (i := 36) rfl))) Via.refl e0 (pin_4 hP) (g := (mkF m 5 #[.val (.int pa0)] [])) rfl (hb hby d3_5)
  refine Go.on (T' := T37) (g' := (mkF m 8 #[.val (.int pa0)] [(.ref (w 1))])) st37 ?_
  obtain ⟨fs, hr, hrun, hended, hW, hsame⟩ := X37.leave (v := some (.ref (w 1))) (fun h => by rw [Bd.returns] at h; cases h)
  exact ⟨_, _, retOut X37 hx Bd.returns rfl (Or.inr (Or.inr (Or.inr (Or.inr ⟨rfl, rfl, rfl⟩)))) (hb hby d3_8) hr, hrun, hended, _, _, rfl, ⟨rfl, N0, e37⟩, ⟨_, rfl⟩, hW, hsame.mono (by decide) (by decide)⟩
theorem d1_31 : decode prog_37_method_7_code 31 = .ok (.iinc 3 1, 3) := by decide +kernel
theorem d1_34 : decode prog_37_method_7_code 34 = .ok (.goto (-25), 3) := by decide +kernel
set_option maxRecDepth 65536 in
set_option maxHeartbeats 40000000 in
theorem rm1_1 (l : Launch) (Z : State) (a0 : Array Value) (hw : ∀ d ∈ tables_1, d.before a0 Z = true) (ws : List Jvm.Cond) (w : Nat → Addr) (h0 : Heap) (n0 : Nat) (Z0 : n0 ≤ h0.size) (hP : Pins Z h0 w) (pa0 : Int32) (hp0 : ¬ ((1 : Int32) = pa0)) (hp1 : (2 : Int32) = pa0) :
    MetFree l (⟨"com/example/stubwright/stubwright/ParameterType", "fromCode", "(I)Lcom/example/stubwright/stubwright/ParameterType;"⟩ : MethodName) (head1 (Jvm.Cond.code (⟨"com/example/stubwright/stubwright/ParameterType", "fromCode", "(I)Lcom/example/stubwright/stubwright/ParameterType;"⟩ : MethodName) prog_37_method_7_code 5 (some (.object "com/example/stubwright/stubwright/ParameterType")) :: ws) ({ frames := 2, cells := 1, slots := 6, locals := 25 } : Room)) (fun a U => a = #[(.int pa0)] ∧ Z.Warmed39 U.vm ∧ U.heap = h0) (fun _ _ _ _ _ => True) (fun _ U o U' => ∃ v L, o = .returned v ∧ Qx (some (.ref (w 2))) (fun h => True) h0 n0 v U'.heap L ∧ FrameEnd U o U' L ({ frames := 2, cells := 1, slots := 6, locals := 25 } : Room).cells ({ frames := 2, cells := 1, slots := 6, locals := 25 } : Room).slots) := by
  refine MetFree.of_bodySF (plainFor_of_name pn_0) hisR ?_
  intro p e s m args below meth c s₁ Bd hml0 hP0 hK
  obtain ⟨rfl, hZ, hh⟩ := hP0
  have hx := Bd.exec
  have hby := Bd.bytes
  have hml : c.maxLocals = 5 := hml0
  have hown : s.vm.findClass "com/example/stubwright/stubwright/ParameterType" = some m.cls := findClass_of_methodNamed Bd.named
  have hnm := (name_of_methodNamed Bd.named Bd.method).1
  have X0 : Stand p l e ({ frames := 2, cells := 1, slots := 6, locals := 25 } : Room) s m #[(.int pa0)] below meth c s₁ [] 0 0 := Stand.of_body Bd
  have e0 : s₁.heap = h0 := by rw [← hh, Bd.state]; rfl
  have N0 := Fr.nil n0
  suffices hgo : Go p e below (fun o U' => ∃ v L, o = .returned v ∧ Qx (some (.ref (w 2))) (fun h => True) h0 n0 v U'.heap L ∧ FrameEnd s o U' L ({ frames := 2, cells := 1, slots := 6, locals := 25 } : Room).cells ({ frames := 2, cells := 1, slots := 6, locals := 25 } : Room).slots) s₁ (mkF m 0 #[.val (.int pa0), .unset, .unset, .unset, .unset] []) by
    obtain ⟨s2, o, g1, g2, g3, g4⟩ := hgo
    refine ⟨s2, o, castTop (?_ : entryFrame m #[(.int pa0)] 5 = _) g1, g2, g3, g4⟩
    first | (simp [entryFrame, mkF, argsToLocals, Value.category]; done) | rfl
  obtain ⟨_, _, ⟨T40, L40, k40, n40⟩, -, X40, ⟨Lc40, hQ40, l40, y40, z40⟩, st40⟩ := Jvm.LawKit.callS X0 hx (y := (⟨"com/example/stubwright/stubwright/ParameterType", "values", "()[Lcom/example/stubwright/stubwright/ParameterType;"⟩ : MethodName)) hown (mvT hZ (hw _ (List.mem_of_getElem? (i := 4) rfl))) (mvT hZ (hw _ (List.mem_of_getElem? (i := 5) rfl))) (mvT hZ (hw _ (List.mem_of_getElem? (i := 2) rfl))) (mvT hZ (hw _ (List.mem_of_getElem? (i := 6) rfl))) (by decide) (backOf (W := 0) (rm2_0 l Z a0 hw [] w h0 n0 (Nat.le_trans Z0 (own_ext0 h0).1) hP) hZ (hw _ (List.mem_of_getElem? (i := 6) rfl)) (hw _ (List.mem_of_getElem? (i := 2) rfl)) (by decide) (by decide)) (g := (mkF m 0 #[.val (.int pa0), .unset, .unset, .unset, .unset] [])) rfl (by rw [hml]; rfl) (argsL := []) (rest := []) (lenOf pd_0 rfl) rfl (by show 2 * 0 + _ ≤ _; exact Nat.le_of_eq rfl) (hb hby d1_0) (fun _ _ => ⟨rfl, e0, (by decide : 0 + 1 ≤ _), (by decide : 0 + 6 ≤ _)⟩)
  dsimp only [Pt.U, Pt.locs, Pt.cells, Pt.slots] at X40 l40 y40 z40 st40 hQ40
  subst l40 y40 z40
  obtain ⟨rfl, N40q, x40, f40⟩ := hQ40
  have N40 := Fr.app N0 N40q
  have e40 : T40.heap = T40.heap := rfl
  have sz40 : h0.size ≤ h0.size := (own_ext0 h0).1
  have XT40 := own_ext2 (own_ext0 h0) x40
  obtain ⟨k40, A40⟩ := f40
  refine Go.on (T' := T40) (g' := (mkF m 3 #[.val (.int pa0), .unset, .unset, .unset, .unset] [(.ref (h0.size))])) st40 ?_
  refine Go.on (T' := T40) (g' := (mkF m 4 #[.val (.int pa0), .val (.ref (h0.size)), .unset, .unset, .unset] [])) (fun t k => XS.astoreN X40.here hx rfl (hb hby d1_3) rfl rfl (l' := #[.val (.int pa0), .val (.ref (h0.size)), .unset, .unset, .unset]) rfl k) ?_
  refine Go.on (T' := T40) (g' := (mkF m 5 #[.val (.int pa0), .val (.ref (h0.size)), .unset, .unset, .unset] [(.ref (h0.size))])) (fun t k => XS.aloadN X40.here hx rfl (hb hby d1_4) rfl rfl k) ?_
  refine Go.on (T' := T40) (g' := (mkF m 6 #[.val (.int pa0), .val (.ref (h0.size)), .unset, .unset, .unset] [(.int (6 : Int32))])) (fun t k => X40.arraylength hx (by rw [e40]; exact A40.1) (State.isArrayOf_alike hZ.alike A40.2.1) (g := (mkF m 5 #[.val (.int pa0), .val (.ref (h0.size)), .unset, .unset, .unset] [(.ref (h0.size))])) rfl rfl (hb hby d1_5) t k) ?_
  refine Go.on (T' := T40) (g' := (mkF m 7 #[.val (.int pa0), .val (.ref (h0.size)), .val (.int (6 : Int32)), .unset, .unset] [])) (fun t k => XS.istoreN X40.here hx rfl (hb hby d1_6) rfl (l' := #[.val (.int pa0), .val (.ref (h0.size)), .val (.int (6 : Int32)), .unset, .unset]) rfl k) ?_
  refine Go.on (T' := T40) (g' := (mkF m 8 #[.val (.int pa0), .val (.ref (h0.size)), .val (.int (6 : Int32)), .unset, .unset] [(.int (0 : Int32))])) (fun t k => XS.iconst X40.here hx rfl (hb hby d1_7) k) ?_
  refine Go.on (T' := T40) (g' := (mkF m 9 #[.val (.int pa0), .val (.ref (h0.size)), .val (.int (6 : Int32)), .val (.int (0 : Int32)), .unset] [])) (fun t k => XS.istoreN X40.here hx rfl (hb hby d1_8) rfl (l' := #[.val (.int pa0), .val (.ref (h0.size)), .val (.int (6 : Int32)), .val (.int (0 : Int32)), .unset]) rfl k) ?_
  refine Go.on (T' := T40) (g' := (mkF m 10 #[.val (.int pa0), .val (.ref (h0.size)), .val (.int (6 : Int32)), .val (.int (0 : Int32)), .unset] [(.int (0 : Int32))])) (fun t k => XS.iloadN X40.here hx rfl (hb hby d1_9) rfl k) ?_
  refine Go.on (T' := T40) (g' := (mkF m 11 #[.val (.int pa0), .val (.ref (h0.size)), .val (.int (6 : Int32)), .val (.int (0 : Int32)), .unset] [(.int (6 : Int32)), (.int (0 : Int32))])) (fun t k => XS.iloadN X40.here hx rfl (hb hby d1_10) rfl k) ?_
  refine Go.on (T' := T40) (g' := (mkF m 14 #[.val (.int pa0), .val (.ref (h0.size)), .val (.int (6 : Int32)), .val (.int (0 : Int32)), .unset] [])) (fun t k => XS.icmpNo X40.here hx rfl (hb hby d1_11) rfl (tlt (by decide : (0 : Int32) < (6 : Int32))).2.1 k) ?_
  refine Go.on (T' := T40) (g' := (mkF m 15 #[.val (.int pa0), .val (.ref (h0.size)), .val (.int (6 : Int32)), .val (.int (0 : Int32)), .unset] [(.ref (h0.size))])) (fun t k => XS.aloadN X40.here hx rfl (hb hby d1_14) rfl rfl k) ?_
  refine Go.on (T' := T40) (g' := (mkF m 16 #[.val (.int pa0), .val (.ref (h0.size)), .val (.int (6 : Int32)), .val (.int (0 : Int32)), .unset] [(.int (0 : Int32)), (.ref (h0.size))])) (fun t k => XS.iloadN X40.here hx rfl (hb hby d1_15) rfl k) ?_
  refine Go.on (T' := T40) (g' := (mkF m 17 #[.val (.int pa0), .val (.ref (h0.size)), .val (.int (6 : Int32)), .val (.int (0 : Int32)), .unset] [(.ref (w 1))])) (fun t k => X40.aaload hx (j := (0 : Int32)) (v := (.ref (w 1))) (by rw [e40]; exact A40.1) (State.isArrayOf_alike hZ.alike A40.2.1) rfl A40.2.2 (by show ¬ (_ ∨ (6 : Nat) ≤ _); decide) rfl (g := (mkF m 16 #[.val (.int pa0), .val (.ref (h0.size)), .val (.int (6 : Int32)), .val (.int (0 : Int32)), .unset] [(.int (0 : Int32)), (.ref (h0.size))])) rfl rfl (hb hby d1_16) t k) ?_
  refine Go.on (T' := T40) (g' := (mkF m 19 #[.val (.int pa0), .val (.ref (h0.size)), .val (.int (6 : Int32)), .val (.int (0 : Int32)), .val (.ref (w 1))] [])) (fun t k => XS.astore X40.here hx rfl (hb hby d1_17) rfl rfl (l' := #[.val (.int pa0), .val (.ref (h0.size)), .val (.int (6 : Int32)), .val (.int (0 : Int32)), .val (.ref (w 1))]) rfl k) ?_
  refine Go.on (T' := T40) (g' := (mkF m 21 #[.val (.int pa0), .val (.ref (h0.size)), .val (.int (6 : Int32)), .val (.int (0 : Int32)), .val (.ref (w 1))] [(.ref (w 1))])) (fun t k => XS.aload X40.here hx rfl (hb hby d1_19) rfl rfl k) ?_
  obtain ⟨T41, X41, e41, st41⟩ := getF X40 hx hZ hown (host := "") (Or.inl (hw _ (List.mem_of_getElem? (i := 19) rfl))) Via.refl e40 (pin_14 (pins_ext XT40 hP)) (g := (mkF m 21 #[.val (.int pa0), .val (.ref (h0.size)), .val (.int (6 : Int32)), .val (.int (0 : Int32)), .val (.ref (w 1))] [(.ref (w 1))])) rfl rfl (hb hby d1_21)
  refine Go.on (T' := T41) (g' := (mkF m 24 #[.val (.int pa0), .val (.ref (h0.size)), .val (.int (6 : Int32)), .val (.int (0 : Int32)), .val (.ref (w 1))] [(.int (1 : Int32))])) st41 ?_
  refine Go.on (T' := T41) (g' := (mkF m 25 #[.val (.int pa0), .val (.ref (h0.size)), .val (.int (6 : Int32)), .val (.int (0 : Int32)), .val (.ref (w 1))] [(.int pa0), (.int (1 : Int32))])) (fun t k => XS.iloadN X41.here hx rfl (hb hby d1_24) rfl k) ?_
  refine Go.on (T' := T41) (g' := (mkF m 31 #[.val (.int pa0), .val (.ref (h0.size)), .val (.int (6 : Int32)), .val (.int (0 : Int32)), .val (.ref (w 1))] [])) (fun t k => XS.icmpYes X41.here hx rfl (pc0 := 25) (pc' := 31) rfl (hb hby d1_25) rfl (feq hp0).2 (by decide) (by decide) k) ?_
  refine Go.on (T' := T41) (g' := (mkF m 34 #[.val (.int pa0), .val (.ref (h0.size)), .val (.int (6 : Int32)), .val (.int (1 : Int32)), .val (.ref (w 1))] [])) (fun t k => XS.iinc X41.here hx rfl (hb hby d1_31) rfl (l' := #[.val (.int pa0), .val (.ref (h0.size)), .val (.int (6 : Int32)), .val (.int (1 : Int32)), .val (.ref (w 1))]) rfl k) ?_
  refine Go.on (T' := T41) (g' := (mkF m 9 #[.val (.int pa0), .val (.ref (h0.size)), .val (.int (6 : Int32)), .val (.int (1 : Int32)), .val (.ref (w 1))] [])) (fun t k => XS.goto X41.here hx rfl (pc0 := 34) (pc' := 9) rfl (hb hby d1_34) (by decide) (by decide) k) ?_
  refine Go.on (T' := T41) (g' := (mkF m 10 #[.val (.int pa0), .val (.ref (h0.size)), .val (.int (6 : Int32)), .val (.int (1 : Int32)), .val (.ref (w 1))] [(.int (1 : Int32))])) (fun t k => XS.iloadN X41.here hx rfl (hb hby d1_9) rfl k) ?_
  refine Go.on (T' := T41) (g' := (mkF m 11 #[.val (.int pa0), .val (.ref (h0.size)), .val (.int (6 : Int32)), .val (.int (1 : Int32)), .val (.ref (w 1))] [(.int (6 : Int32)), (.int (1 : Int32))])) (fun t k => XS.iloadN X41.here hx rfl (hb hby d1_10) rfl k) ?_
  refine Go.on (T' := T41) (g' := (mkF m 14 #[.val (.int pa0), .val (.ref (h0.size)), .val (.int (6 : Int32)), .val (.int (1 : Int32)), .val (.ref (w 1))] [])) (fun t k => XS.icmpNo X41.here hx rfl (hb hby d1_11) rfl (tlt (by decide : (1 : Int32) < (6 : Int32))).2.1 k) ?_
  refine Go.on (T' := T41) (g' := (mkF m 15 #[.val (.int pa0), .val (.ref (h0.size)), .val (.int (6 : Int32)), .val (.int (1 : Int32)), .val (.ref (w 1))] [(.ref (h0.size))])) (fun t k => XS.aloadN X41.here hx rfl (hb hby d1_14) rfl rfl k) ?_
  refine Go.on (T' := T41) (g' := (mkF m 16 #[.val (.int pa0), .val (.ref (h0.size)), .val (.int (6 : Int32)), .val (.int (1 : Int32)), .val (.ref (w 1))] [(.int (1 : Int32)), (.ref (h0.size))])) (fun t k => XS.iloadN X41.here hx rfl (hb hby d1_15) rfl k) ?_
  refine Go.on (T' := T41) (g' := (mkF m 17 #[.val (.int pa0), .val (.ref (h0.size)), .val (.int (6 : Int32)), .val (.int (1 : Int32)), .val (.ref (w 1))] [(.ref (w 2))])) (fun t k => X41.aaload hx (j := (1 : Int32)) (v := (.ref (w 2))) (by rw [e41]; exact A40.1) (State.isArrayOf_alike hZ.alike A40.2.1) rfl A40.2.2 (by show ¬ (_ ∨ (6 : Nat) ≤ _); decide) rfl (g := (mkF m 16 #[.val (.int pa0), .val (.ref (h0.size)), .val (.int (6 : Int32)), .val (.int (1 : Int32)), .val (.ref (w 1))] [(.int (1 : Int32)), (.ref (h0.size))])) rfl rfl (hb hby d1_16) t k) ?_
  refine Go.on (T' := T41) (g' := (mkF m 19 #[.val (.int pa0), .val (.ref (h0.size)), .val (.int (6 : Int32)), .val (.int (1 : Int32)), .val (.ref (w 2))] [])) (fun t k => XS.astore X41.here hx rfl (hb hby d1_17) rfl rfl (l' := #[.val (.int pa0), .val (.ref (h0.size)), .val (.int (6 : Int32)), .val (.int (1 : Int32)), .val (.ref (w 2))]) rfl k) ?_
  refine Go.on (T' := T41) (g' := (mkF m 21 #[.val (.int pa0), .val (.ref (h0.size)), .val (.int (6 : Int32)), .val (.int (1 : Int32)), .val (.ref (w 2))] [(.ref (w 2))])) (fun t k => XS.aload X41.here hx rfl (hb hby d1_19) rfl rfl k) ?_
  obtain ⟨T42, X42, e42, st42⟩ := getF X41 hx hZ hown (host := "") (Or.inl (hw _ (List.mem_of_getElem? (i := 19) rfl))) Via.refl e41 (pin_15 (pins_ext XT40 hP)) (g := (mkF m 21 #[.val (.int pa0), .val (.ref (h0.size)), .val (.int (6 : Int32)), .val (.int (1 : Int32)), .val (.ref (w 2))] [(.ref (w 2))])) rfl rfl (hb hby d1_21)
  refine Go.on (T' := T42) (g' := (mkF m 24 #[.val (.int pa0), .val (.ref (h0.size)), .val (.int (6 : Int32)), .val (.int (1 : Int32)), .val (.ref (w 2))] [(.int (2 : Int32))])) st42 ?_
  refine Go.on (T' := T42) (g' := (mkF m 25 #[.val (.int pa0), .val (.ref (h0.size)), .val (.int (6 : Int32)), .val (.int (1 : Int32)), .val (.ref (w 2))] [(.int pa0), (.int (2 : Int32))])) (fun t k => XS.iloadN X42.here hx rfl (hb hby d1_24) rfl k) ?_
  refine Go.on (T' := T42) (g' := (mkF m 28 #[.val (.int pa0), .val (.ref (h0.size)), .val (.int (6 : Int32)), .val (.int (1 : Int32)), .val (.ref (w 2))] [])) (fun t k => XS.icmpNo X42.here hx rfl (hb hby d1_25) rfl (teq hp1).2 k) ?_
  refine Go.on (T' := T42) (g' := (mkF m 30 #[.val (.int pa0), .val (.ref (h0.size)), .val (.int (6 : Int32)), .val (.int (1 : Int32)), .val (.ref (w 2))] [(.ref (w 2))])) (fun t k => XS.aload X42.here hx rfl (hb hby d1_28) rfl rfl k) ?_
  obtain ⟨fs, hr, hrun, hended, hW, hsame⟩ := X42.leave (v := some (.ref (w 2))) (fun h => by rw [Bd.returns] at h; cases h)
  exact ⟨_, _, retOut X42 hx Bd.returns rfl (Or.inr (Or.inr (Or.inr (Or.inr ⟨rfl, rfl, rfl⟩)))) (hb hby d1_30) hr, hrun, hended, _, _, rfl, ⟨rfl, N40, own_extE e42 XT40, trivial⟩, ⟨_, rfl⟩, hW, hsame.mono (by decide) (by decide)⟩
theorem d3_9 : decode method_2_code 9 = .ok (.iload_n 0, 1) := by decide +kernel
theorem d3_10 : decode method_2_code 10 = .ok (.iconst 2, 1) := by decide +kernel
theorem d3_11 : decode method_2_code 11 = .ok (.if_icmp .ne 7, 3) := by decide +kernel
theorem d3_14 : decode method_2_code 14 = .ok (.getstatic 13, 3) := by decide +kernel
theorem d3_17 : decode method_2_code 17 = .ok (.areturn, 1) := by decide +kernel
set_option maxRecDepth 65536 in
set_option maxHeartbeats 40000000 in
theorem rm3_1 (l : Launch) (Z : State) (a0 : Array Value) (hw : ∀ d ∈ tables_1, d.before a0 Z = true) (ws : List Jvm.Cond) (w : Nat → Addr) (h0 : Heap) (n0 : Nat) (Z0 : n0 ≤ h0.size) (hP : Pins Z h0 w) (pa0 : Int32) (hp0 : ¬ (pa0 = (1 : Int32))) (hp1 : pa0 = (2 : Int32)) :
    MetFree l (⟨"com/example/stubwright/stubwright/ParameterTypeFromCodePinLaw", "expected", "(I)Lcom/example/stubwright/stubwright/ParameterType;"⟩ : MethodName) (head1 (Jvm.Cond.code (⟨"com/example/stubwright/stubwright/ParameterTypeFromCodePinLaw", "expected", "(I)Lcom/example/stubwright/stubwright/ParameterType;"⟩ : MethodName) method_2_code 1 (some (.object "com/example/stubwright/stubwright/ParameterType")) :: ws) ({ frames := 0, cells := 0, slots := 0, locals := 0 } : Room)) (fun a U => a = #[(.int pa0)] ∧ Z.Warmed39 U.vm ∧ U.heap = h0) (fun _ _ _ _ _ => True) (fun _ U o U' => ∃ v L, o = .returned v ∧ Qp (some (.ref (w 2))) h0 n0 v U'.heap L ∧ FrameEnd U o U' L ({ frames := 0, cells := 0, slots := 0, locals := 0 } : Room).cells ({ frames := 0, cells := 0, slots := 0, locals := 0 } : Room).slots) := by
  refine MetFree.of_bodySF (plainFor_of_name pn_1) hisR ?_
  intro p e s m args below meth c s₁ Bd hml0 hP0 hK
  obtain ⟨rfl, hZ, hh⟩ := hP0
  have hx := Bd.exec
  have hby := Bd.bytes
  have hml : c.maxLocals = 1 := hml0
  have hown : s.vm.findClass "com/example/stubwright/stubwright/ParameterTypeFromCodePinLaw" = some m.cls := findClass_of_methodNamed Bd.named
  have hnm := (name_of_methodNamed Bd.named Bd.method).1
  have X0 : Stand p l e ({ frames := 0, cells := 0, slots := 0, locals := 0 } : Room) s m #[(.int pa0)] below meth c s₁ [] 0 0 := Stand.of_body Bd
  have e0 : s₁.heap = h0 := by rw [← hh, Bd.state]; rfl
  have N0 := Fr.nil n0
  suffices hgo : Go p e below (fun o U' => ∃ v L, o = .returned v ∧ Qp (some (.ref (w 2))) h0 n0 v U'.heap L ∧ FrameEnd s o U' L ({ frames := 0, cells := 0, slots := 0, locals := 0 } : Room).cells ({ frames := 0, cells := 0, slots := 0, locals := 0 } : Room).slots) s₁ (mkF m 0 #[.val (.int pa0)] []) by
    obtain ⟨s2, o, g1, g2, g3, g4⟩ := hgo
    refine ⟨s2, o, castTop (?_ : entryFrame m #[(.int pa0)] 1 = _) g1, g2, g3, g4⟩
    first | (simp [entryFrame, mkF, argsToLocals, Value.category]; done) | rfl
  refine Go.on (T' := s₁) (g' := (mkF m 1 #[.val (.int pa0)] [(.int pa0)])) (fun t k => XS.iloadN X0.here hx rfl (hb hby d3_0) rfl k) ?_
  refine Go.on (T' := s₁) (g' := (mkF m 2 #[.val (.int pa0)] [(.int (1 : Int32)), (.int pa0)])) (fun t k => XS.iconst X0.here hx rfl (hb hby d3_1) k) ?_
  refine Go.on (T' := s₁) (g' := (mkF m 9 #[.val (.int pa0)] [])) (fun t k => XS.icmpYes X0.here hx rfl (pc0 := 2) (pc' := 9) rfl (hb hby d3_2) rfl (feq hp0).2 (by decide) (by decide) k) ?_
  refine Go.on (T' := s₁) (g' := (mkF m 10 #[.val (.int pa0)] [(.int pa0)])) (fun t k => XS.iloadN X0.here hx rfl (hb hby d3_9) rfl k) ?_
  refine Go.on (T' := s₁) (g' := (mkF m 11 #[.val (.int pa0)] [(.int (2 : Int32)), (.int pa0)])) (fun t k => XS.iconst X0.here hx rfl (hb hby d3_10) k) ?_
  refine Go.on (T' := s₁) (g' := (mkF m 14 #[.val (.int pa0)] [])) (fun t k => XS.icmpNo X0.here hx rfl (hb hby d3_11) rfl (teq hp1).2 k) ?_
  obtain ⟨T44, X44, e44, st44⟩ := getS2 X0 hx hZ hown (host := "") (Or.inl (hw _ (List.mem_of_getElem? (i := 32) rfl))) Via.refl e0 (pin_2 hP) (g := (mkF m 14 #[.val (.int pa0)] [])) rfl (hb hby d3_14)
  refine Go.on (T' := T44) (g' := (mkF m 17 #[.val (.int pa0)] [(.ref (w 2))])) st44 ?_
  obtain ⟨fs, hr, hrun, hended, hW, hsame⟩ := X44.leave (v := some (.ref (w 2))) (fun h => by rw [Bd.returns] at h; cases h)
  exact ⟨_, _, retOut X44 hx Bd.returns rfl (Or.inr (Or.inr (Or.inr (Or.inr ⟨rfl, rfl, rfl⟩)))) (hb hby d3_17) hr, hrun, hended, _, _, rfl, ⟨rfl, N0, e44⟩, ⟨_, rfl⟩, hW, hsame.mono (by decide) (by decide)⟩
set_option maxRecDepth 65536 in
set_option maxHeartbeats 40000000 in
theorem rm1_2 (l : Launch) (Z : State) (a0 : Array Value) (hw : ∀ d ∈ tables_1, d.before a0 Z = true) (ws : List Jvm.Cond) (w : Nat → Addr) (h0 : Heap) (n0 : Nat) (Z0 : n0 ≤ h0.size) (hP : Pins Z h0 w) (pa0 : Int32) (hp0 : ¬ ((1 : Int32) = pa0)) (hp1 : ¬ ((2 : Int32) = pa0)) (hp2 : (3 : Int32) = pa0) :
    MetFree l (⟨"com/example/stubwright/stubwright/ParameterType", "fromCode", "(I)Lcom/example/stubwright/stubwright/ParameterType;"⟩ : MethodName) (head1 (Jvm.Cond.code (⟨"com/example/stubwright/stubwright/ParameterType", "fromCode", "(I)Lcom/example/stubwright/stubwright/ParameterType;"⟩ : MethodName) prog_37_method_7_code 5 (some (.object "com/example/stubwright/stubwright/ParameterType")) :: ws) ({ frames := 2, cells := 1, slots := 6, locals := 25 } : Room)) (fun a U => a = #[(.int pa0)] ∧ Z.Warmed39 U.vm ∧ U.heap = h0) (fun _ _ _ _ _ => True) (fun _ U o U' => ∃ v L, o = .returned v ∧ Qx (some (.ref (w 3))) (fun h => True) h0 n0 v U'.heap L ∧ FrameEnd U o U' L ({ frames := 2, cells := 1, slots := 6, locals := 25 } : Room).cells ({ frames := 2, cells := 1, slots := 6, locals := 25 } : Room).slots) := by
  refine MetFree.of_bodySF (plainFor_of_name pn_0) hisR ?_
  intro p e s m args below meth c s₁ Bd hml0 hP0 hK
  obtain ⟨rfl, hZ, hh⟩ := hP0
  have hx := Bd.exec
  have hby := Bd.bytes
  have hml : c.maxLocals = 5 := hml0
  have hown : s.vm.findClass "com/example/stubwright/stubwright/ParameterType" = some m.cls := findClass_of_methodNamed Bd.named
  have hnm := (name_of_methodNamed Bd.named Bd.method).1
  have X0 : Stand p l e ({ frames := 2, cells := 1, slots := 6, locals := 25 } : Room) s m #[(.int pa0)] below meth c s₁ [] 0 0 := Stand.of_body Bd
  have e0 : s₁.heap = h0 := by rw [← hh, Bd.state]; rfl
  have N0 := Fr.nil n0
  suffices hgo : Go p e below (fun o U' => ∃ v L, o = .returned v ∧ Qx (some (.ref (w 3))) (fun h => True) h0 n0 v U'.heap L ∧ FrameEnd s o U' L ({ frames := 2, cells := 1, slots := 6, locals := 25 } : Room).cells ({ frames := 2, cells := 1, slots := 6, locals := 25 } : Room).slots) s₁ (mkF m 0 #[.val (.int pa0), .unset, .unset, .unset, .unset] []) by
    obtain ⟨s2, o, g1, g2, g3, g4⟩ := hgo
    refine ⟨s2, o, castTop (?_ : entryFrame m #[(.int pa0)] 5 = _) g1, g2, g3, g4⟩
    first | (simp [entryFrame, mkF, argsToLocals, Value.category]; done) | rfl
  obtain ⟨_, _, ⟨T47, L47, k47, n47⟩, -, X47, ⟨Lc47, hQ47, l47, y47, z47⟩, st47⟩ := Jvm.LawKit.callS X0 hx (y := (⟨"com/example/stubwright/stubwright/ParameterType", "values", "()[Lcom/example/stubwright/stubwright/ParameterType;"⟩ : MethodName)) hown (mvT hZ (hw _ (List.mem_of_getElem? (i := 4) rfl))) (mvT hZ (hw _ (List.mem_of_getElem? (i := 5) rfl))) (mvT hZ (hw _ (List.mem_of_getElem? (i := 2) rfl))) (mvT hZ (hw _ (List.mem_of_getElem? (i := 6) rfl))) (by decide) (backOf (W := 0) (rm2_0 l Z a0 hw [] w h0 n0 (Nat.le_trans Z0 (own_ext0 h0).1) hP) hZ (hw _ (List.mem_of_getElem? (i := 6) rfl)) (hw _ (List.mem_of_getElem? (i := 2) rfl)) (by decide) (by decide)) (g := (mkF m 0 #[.val (.int pa0), .unset, .unset, .unset, .unset] [])) rfl (by rw [hml]; rfl) (argsL := []) (rest := []) (lenOf pd_0 rfl) rfl (by show 2 * 0 + _ ≤ _; exact Nat.le_of_eq rfl) (hb hby d1_0) (fun _ _ => ⟨rfl, e0, (by decide : 0 + 1 ≤ _), (by decide : 0 + 6 ≤ _)⟩)
  dsimp only [Pt.U, Pt.locs, Pt.cells, Pt.slots] at X47 l47 y47 z47 st47 hQ47
  subst l47 y47 z47
  obtain ⟨rfl, N47q, x47, f47⟩ := hQ47
  have N47 := Fr.app N0 N47q
  have e47 : T47.heap = T47.heap := rfl
  have sz47 : h0.size ≤ h0.size := (own_ext0 h0).1
  have XT47 := own_ext2 (own_ext0 h0) x47
  obtain ⟨k47, A47⟩ := f47
  refine Go.on (T' := T47) (g' := (mkF m 3 #[.val (.int pa0), .unset, .unset, .unset, .unset] [(.ref (h0.size))])) st47 ?_
  refine Go.on (T' := T47) (g' := (mkF m 4 #[.val (.int pa0), .val (.ref (h0.size)), .unset, .unset, .unset] [])) (fun t k => XS.astoreN X47.here hx rfl (hb hby d1_3) rfl rfl (l' := #[.val (.int pa0), .val (.ref (h0.size)), .unset, .unset, .unset]) rfl k) ?_
  refine Go.on (T' := T47) (g' := (mkF m 5 #[.val (.int pa0), .val (.ref (h0.size)), .unset, .unset, .unset] [(.ref (h0.size))])) (fun t k => XS.aloadN X47.here hx rfl (hb hby d1_4) rfl rfl k) ?_
  refine Go.on (T' := T47) (g' := (mkF m 6 #[.val (.int pa0), .val (.ref (h0.size)), .unset, .unset, .unset] [(.int (6 : Int32))])) (fun t k => X47.arraylength hx (by rw [e47]; exact A47.1) (State.isArrayOf_alike hZ.alike A47.2.1) (g := (mkF m 5 #[.val (.int pa0), .val (.ref (h0.size)), .unset, .unset, .unset] [(.ref (h0.size))])) rfl rfl (hb hby d1_5) t k) ?_
  refine Go.on (T' := T47) (g' := (mkF m 7 #[.val (.int pa0), .val (.ref (h0.size)), .val (.int (6 : Int32)), .unset, .unset] [])) (fun t k => XS.istoreN X47.here hx rfl (hb hby d1_6) rfl (l' := #[.val (.int pa0), .val (.ref (h0.size)), .val (.int (6 : Int32)), .unset, .unset]) rfl k) ?_
  refine Go.on (T' := T47) (g' := (mkF m 8 #[.val (.int pa0), .val (.ref (h0.size)), .val (.int (6 : Int32)), .unset, .unset] [(.int (0 : Int32))])) (fun t k => XS.iconst X47.here hx rfl (hb hby d1_7) k) ?_
  refine Go.on (T' := T47) (g' := (mkF m 9 #[.val (.int pa0), .val (.ref (h0.size)), .val (.int (6 : Int32)), .val (.int (0 : Int32)), .unset] [])) (fun t k => XS.istoreN X47.here hx rfl (hb hby d1_8) rfl (l' := #[.val (.int pa0), .val (.ref (h0.size)), .val (.int (6 : Int32)), .val (.int (0 : Int32)), .unset]) rfl k) ?_
  refine Go.on (T' := T47) (g' := (mkF m 10 #[.val (.int pa0), .val (.ref (h0.size)), .val (.int (6 : Int32)), .val (.int (0 : Int32)), .unset] [(.int (0 : Int32))])) (fun t k => XS.iloadN X47.here hx rfl (hb hby d1_9) rfl k) ?_
  refine Go.on (T' := T47) (g' := (mkF m 11 #[.val (.int pa0), .val (.ref (h0.size)), .val (.int (6 : Int32)), .val (.int (0 : Int32)), .unset] [(.int (6 : Int32)), (.int (0 : Int32))])) (fun t k => XS.iloadN X47.here hx rfl (hb hby d1_10) rfl k) ?_
  refine Go.on (T' := T47) (g' := (mkF m 14 #[.val (.int pa0), .val (.ref (h0.size)), .val (.int (6 : Int32)), .val (.int (0 : Int32)), .unset] [])) (fun t k => XS.icmpNo X47.here hx rfl (hb hby d1_11) rfl (tlt (by decide : (0 : Int32) < (6 : Int32))).2.1 k) ?_
  refine Go.on (T' := T47) (g' := (mkF m 15 #[.val (.int pa0), .val (.ref (h0.size)), .val (.int (6 : Int32)), .val (.int (0 : Int32)), .unset] [(.ref (h0.size))])) (fun t k => XS.aloadN X47.here hx rfl (hb hby d1_14) rfl rfl k) ?_
  refine Go.on (T' := T47) (g' := (mkF m 16 #[.val (.int pa0), .val (.ref (h0.size)), .val (.int (6 : Int32)), .val (.int (0 : Int32)), .unset] [(.int (0 : Int32)), (.ref (h0.size))])) (fun t k => XS.iloadN X47.here hx rfl (hb hby d1_15) rfl k) ?_
  refine Go.on (T' := T47) (g' := (mkF m 17 #[.val (.int pa0), .val (.ref (h0.size)), .val (.int (6 : Int32)), .val (.int (0 : Int32)), .unset] [(.ref (w 1))])) (fun t k => X47.aaload hx (j := (0 : Int32)) (v := (.ref (w 1))) (by rw [e47]; exact A47.1) (State.isArrayOf_alike hZ.alike A47.2.1) rfl A47.2.2 (by show ¬ (_ ∨ (6 : Nat) ≤ _); decide) rfl (g := (mkF m 16 #[.val (.int pa0), .val (.ref (h0.size)), .val (.int (6 : Int32)), .val (.int (0 : Int32)), .unset] [(.int (0 : Int32)), (.ref (h0.size))])) rfl rfl (hb hby d1_16) t k) ?_
  refine Go.on (T' := T47) (g' := (mkF m 19 #[.val (.int pa0), .val (.ref (h0.size)), .val (.int (6 : Int32)), .val (.int (0 : Int32)), .val (.ref (w 1))] [])) (fun t k => XS.astore X47.here hx rfl (hb hby d1_17) rfl rfl (l' := #[.val (.int pa0), .val (.ref (h0.size)), .val (.int (6 : Int32)), .val (.int (0 : Int32)), .val (.ref (w 1))]) rfl k) ?_
  refine Go.on (T' := T47) (g' := (mkF m 21 #[.val (.int pa0), .val (.ref (h0.size)), .val (.int (6 : Int32)), .val (.int (0 : Int32)), .val (.ref (w 1))] [(.ref (w 1))])) (fun t k => XS.aload X47.here hx rfl (hb hby d1_19) rfl rfl k) ?_
  obtain ⟨T48, X48, e48, st48⟩ := getF X47 hx hZ hown (host := "") (Or.inl (hw _ (List.mem_of_getElem? (i := 19) rfl))) Via.refl e47 (pin_14 (pins_ext XT47 hP)) (g := (mkF m 21 #[.val (.int pa0), .val (.ref (h0.size)), .val (.int (6 : Int32)), .val (.int (0 : Int32)), .val (.ref (w 1))] [(.ref (w 1))])) rfl rfl (hb hby d1_21)
  refine Go.on (T' := T48) (g' := (mkF m 24 #[.val (.int pa0), .val (.ref (h0.size)), .val (.int (6 : Int32)), .val (.int (0 : Int32)), .val (.ref (w 1))] [(.int (1 : Int32))])) st48 ?_
  refine Go.on (T' := T48) (g' := (mkF m 25 #[.val (.int pa0), .val (.ref (h0.size)), .val (.int (6 : Int32)), .val (.int (0 : Int32)), .val (.ref (w 1))] [(.int pa0), (.int (1 : Int32))])) (fun t k => XS.iloadN X48.here hx rfl (hb hby d1_24) rfl k) ?_
  refine Go.on (T' := T48) (g' := (mkF m 31 #[.val (.int pa0), .val (.ref (h0.size)), .val (.int (6 : Int32)), .val (.int (0 : Int32)), .val (.ref (w 1))] [])) (fun t k => XS.icmpYes X48.here hx rfl (pc0 := 25) (pc' := 31) rfl (hb hby d1_25) rfl (feq hp0).2 (by decide) (by decide) k) ?_
  refine Go.on (T' := T48) (g' := (mkF m 34 #[.val (.int pa0), .val (.ref (h0.size)), .val (.int (6 : Int32)), .val (.int (1 : Int32)), .val (.ref (w 1))] [])) (fun t k => XS.iinc X48.here hx rfl (hb hby d1_31) rfl (l' := #[.val (.int pa0), .val (.ref (h0.size)), .val (.int (6 : Int32)), .val (.int (1 : Int32)), .val (.ref (w 1))]) rfl k) ?_
  refine Go.on (T' := T48) (g' := (mkF m 9 #[.val (.int pa0), .val (.ref (h0.size)), .val (.int (6 : Int32)), .val (.int (1 : Int32)), .val (.ref (w 1))] [])) (fun t k => XS.goto X48.here hx rfl (pc0 := 34) (pc' := 9) rfl (hb hby d1_34) (by decide) (by decide) k) ?_
  refine Go.on (T' := T48) (g' := (mkF m 10 #[.val (.int pa0), .val (.ref (h0.size)), .val (.int (6 : Int32)), .val (.int (1 : Int32)), .val (.ref (w 1))] [(.int (1 : Int32))])) (fun t k => XS.iloadN X48.here hx rfl (hb hby d1_9) rfl k) ?_
  refine Go.on (T' := T48) (g' := (mkF m 11 #[.val (.int pa0), .val (.ref (h0.size)), .val (.int (6 : Int32)), .val (.int (1 : Int32)), .val (.ref (w 1))] [(.int (6 : Int32)), (.int (1 : Int32))])) (fun t k => XS.iloadN X48.here hx rfl (hb hby d1_10) rfl k) ?_
  refine Go.on (T' := T48) (g' := (mkF m 14 #[.val (.int pa0), .val (.ref (h0.size)), .val (.int (6 : Int32)), .val (.int (1 : Int32)), .val (.ref (w 1))] [])) (fun t k => XS.icmpNo X48.here hx rfl (hb hby d1_11) rfl (tlt (by decide : (1 : Int32) < (6 : Int32))).2.1 k) ?_
  refine Go.on (T' := T48) (g' := (mkF m 15 #[.val (.int pa0), .val (.ref (h0.size)), .val (.int (6 : Int32)), .val (.int (1 : Int32)), .val (.ref (w 1))] [(.ref (h0.size))])) (fun t k => XS.aloadN X48.here hx rfl (hb hby d1_14) rfl rfl k) ?_
  refine Go.on (T' := T48) (g' := (mkF m 16 #[.val (.int pa0), .val (.ref (h0.size)), .val (.int (6 : Int32)), .val (.int (1 : Int32)), .val (.ref (w 1))] [(.int (1 : Int32)), (.ref (h0.size))])) (fun t k => XS.iloadN X48.here hx rfl (hb hby d1_15) rfl k) ?_
  refine Go.on (T' := T48) (g' := (mkF m 17 #[.val (.int pa0), .val (.ref (h0.size)), .val (.int (6 : Int32)), .val (.int (1 : Int32)), .val (.ref (w 1))] [(.ref (w 2))])) (fun t k => X48.aaload hx (j := (1 : Int32)) (v := (.ref (w 2))) (by rw [e48]; exact A47.1) (State.isArrayOf_alike hZ.alike A47.2.1) rfl A47.2.2 (by show ¬ (_ ∨ (6 : Nat) ≤ _); decide) rfl (g := (mkF m 16 #[.val (.int pa0), .val (.ref (h0.size)), .val (.int (6 : Int32)), .val (.int (1 : Int32)), .val (.ref (w 1))] [(.int (1 : Int32)), (.ref (h0.size))])) rfl rfl (hb hby d1_16) t k) ?_
  refine Go.on (T' := T48) (g' := (mkF m 19 #[.val (.int pa0), .val (.ref (h0.size)), .val (.int (6 : Int32)), .val (.int (1 : Int32)), .val (.ref (w 2))] [])) (fun t k => XS.astore X48.here hx rfl (hb hby d1_17) rfl rfl (l' := #[.val (.int pa0), .val (.ref (h0.size)), .val (.int (6 : Int32)), .val (.int (1 : Int32)), .val (.ref (w 2))]) rfl k) ?_
  refine Go.on (T' := T48) (g' := (mkF m 21 #[.val (.int pa0), .val (.ref (h0.size)), .val (.int (6 : Int32)), .val (.int (1 : Int32)), .val (.ref (w 2))] [(.ref (w 2))])) (fun t k => XS.aload X48.here hx rfl (hb hby d1_19) rfl rfl k) ?_
  obtain ⟨T49, X49, e49, st49⟩ := getF X48 hx hZ hown (host := "") (Or.inl (hw _ (List.mem_of_getElem? (i := 19) rfl))) Via.refl e48 (pin_15 (pins_ext XT47 hP)) (g := (mkF m 21 #[.val (.int pa0), .val (.ref (h0.size)), .val (.int (6 : Int32)), .val (.int (1 : Int32)), .val (.ref (w 2))] [(.ref (w 2))])) rfl rfl (hb hby d1_21)
  refine Go.on (T' := T49) (g' := (mkF m 24 #[.val (.int pa0), .val (.ref (h0.size)), .val (.int (6 : Int32)), .val (.int (1 : Int32)), .val (.ref (w 2))] [(.int (2 : Int32))])) st49 ?_
  refine Go.on (T' := T49) (g' := (mkF m 25 #[.val (.int pa0), .val (.ref (h0.size)), .val (.int (6 : Int32)), .val (.int (1 : Int32)), .val (.ref (w 2))] [(.int pa0), (.int (2 : Int32))])) (fun t k => XS.iloadN X49.here hx rfl (hb hby d1_24) rfl k) ?_
  refine Go.on (T' := T49) (g' := (mkF m 31 #[.val (.int pa0), .val (.ref (h0.size)), .val (.int (6 : Int32)), .val (.int (1 : Int32)), .val (.ref (w 2))] [])) (fun t k => XS.icmpYes X49.here hx rfl (pc0 := 25) (pc' := 31) rfl (hb hby d1_25) rfl (feq hp1).2 (by decide) (by decide) k) ?_
  refine Go.on (T' := T49) (g' := (mkF m 34 #[.val (.int pa0), .val (.ref (h0.size)), .val (.int (6 : Int32)), .val (.int (2 : Int32)), .val (.ref (w 2))] [])) (fun t k => XS.iinc X49.here hx rfl (hb hby d1_31) rfl (l' := #[.val (.int pa0), .val (.ref (h0.size)), .val (.int (6 : Int32)), .val (.int (2 : Int32)), .val (.ref (w 2))]) rfl k) ?_
  refine Go.on (T' := T49) (g' := (mkF m 9 #[.val (.int pa0), .val (.ref (h0.size)), .val (.int (6 : Int32)), .val (.int (2 : Int32)), .val (.ref (w 2))] [])) (fun t k => XS.goto X49.here hx rfl (pc0 := 34) (pc' := 9) rfl (hb hby d1_34) (by decide) (by decide) k) ?_
  refine Go.on (T' := T49) (g' := (mkF m 10 #[.val (.int pa0), .val (.ref (h0.size)), .val (.int (6 : Int32)), .val (.int (2 : Int32)), .val (.ref (w 2))] [(.int (2 : Int32))])) (fun t k => XS.iloadN X49.here hx rfl (hb hby d1_9) rfl k) ?_
  refine Go.on (T' := T49) (g' := (mkF m 11 #[.val (.int pa0), .val (.ref (h0.size)), .val (.int (6 : Int32)), .val (.int (2 : Int32)), .val (.ref (w 2))] [(.int (6 : Int32)), (.int (2 : Int32))])) (fun t k => XS.iloadN X49.here hx rfl (hb hby d1_10) rfl k) ?_
  refine Go.on (T' := T49) (g' := (mkF m 14 #[.val (.int pa0), .val (.ref (h0.size)), .val (.int (6 : Int32)), .val (.int (2 : Int32)), .val (.ref (w 2))] [])) (fun t k => XS.icmpNo X49.here hx rfl (hb hby d1_11) rfl (tlt (by decide : (2 : Int32) < (6 : Int32))).2.1 k) ?_
  refine Go.on (T' := T49) (g' := (mkF m 15 #[.val (.int pa0), .val (.ref (h0.size)), .val (.int (6 : Int32)), .val (.int (2 : Int32)), .val (.ref (w 2))] [(.ref (h0.size))])) (fun t k => XS.aloadN X49.here hx rfl (hb hby d1_14) rfl rfl k) ?_
  refine Go.on (T' := T49) (g' := (mkF m 16 #[.val (.int pa0), .val (.ref (h0.size)), .val (.int (6 : Int32)), .val (.int (2 : Int32)), .val (.ref (w 2))] [(.int (2 : Int32)), (.ref (h0.size))])) (fun t k => XS.iloadN X49.here hx rfl (hb hby d1_15) rfl k) ?_
  refine Go.on (T' := T49) (g' := (mkF m 17 #[.val (.int pa0), .val (.ref (h0.size)), .val (.int (6 : Int32)), .val (.int (2 : Int32)), .val (.ref (w 2))] [(.ref (w 3))])) (fun t k => X49.aaload hx (j := (2 : Int32)) (v := (.ref (w 3))) (by rw [e49]; exact A47.1) (State.isArrayOf_alike hZ.alike A47.2.1) rfl A47.2.2 (by show ¬ (_ ∨ (6 : Nat) ≤ _); decide) rfl (g := (mkF m 16 #[.val (.int pa0), .val (.ref (h0.size)), .val (.int (6 : Int32)), .val (.int (2 : Int32)), .val (.ref (w 2))] [(.int (2 : Int32)), (.ref (h0.size))])) rfl rfl (hb hby d1_16) t k) ?_
  refine Go.on (T' := T49) (g' := (mkF m 19 #[.val (.int pa0), .val (.ref (h0.size)), .val (.int (6 : Int32)), .val (.int (2 : Int32)), .val (.ref (w 3))] [])) (fun t k => XS.astore X49.here hx rfl (hb hby d1_17) rfl rfl (l' := #[.val (.int pa0), .val (.ref (h0.size)), .val (.int (6 : Int32)), .val (.int (2 : Int32)), .val (.ref (w 3))]) rfl k) ?_
  refine Go.on (T' := T49) (g' := (mkF m 21 #[.val (.int pa0), .val (.ref (h0.size)), .val (.int (6 : Int32)), .val (.int (2 : Int32)), .val (.ref (w 3))] [(.ref (w 3))])) (fun t k => XS.aload X49.here hx rfl (hb hby d1_19) rfl rfl k) ?_
  obtain ⟨T50, X50, e50, st50⟩ := getF X49 hx hZ hown (host := "") (Or.inl (hw _ (List.mem_of_getElem? (i := 19) rfl))) Via.refl e49 (pin_16 (pins_ext XT47 hP)) (g := (mkF m 21 #[.val (.int pa0), .val (.ref (h0.size)), .val (.int (6 : Int32)), .val (.int (2 : Int32)), .val (.ref (w 3))] [(.ref (w 3))])) rfl rfl (hb hby d1_21)
  refine Go.on (T' := T50) (g' := (mkF m 24 #[.val (.int pa0), .val (.ref (h0.size)), .val (.int (6 : Int32)), .val (.int (2 : Int32)), .val (.ref (w 3))] [(.int (3 : Int32))])) st50 ?_
  refine Go.on (T' := T50) (g' := (mkF m 25 #[.val (.int pa0), .val (.ref (h0.size)), .val (.int (6 : Int32)), .val (.int (2 : Int32)), .val (.ref (w 3))] [(.int pa0), (.int (3 : Int32))])) (fun t k => XS.iloadN X50.here hx rfl (hb hby d1_24) rfl k) ?_
  refine Go.on (T' := T50) (g' := (mkF m 28 #[.val (.int pa0), .val (.ref (h0.size)), .val (.int (6 : Int32)), .val (.int (2 : Int32)), .val (.ref (w 3))] [])) (fun t k => XS.icmpNo X50.here hx rfl (hb hby d1_25) rfl (teq hp2).2 k) ?_
  refine Go.on (T' := T50) (g' := (mkF m 30 #[.val (.int pa0), .val (.ref (h0.size)), .val (.int (6 : Int32)), .val (.int (2 : Int32)), .val (.ref (w 3))] [(.ref (w 3))])) (fun t k => XS.aload X50.here hx rfl (hb hby d1_28) rfl rfl k) ?_
  obtain ⟨fs, hr, hrun, hended, hW, hsame⟩ := X50.leave (v := some (.ref (w 3))) (fun h => by rw [Bd.returns] at h; cases h)
  exact ⟨_, _, retOut X50 hx Bd.returns rfl (Or.inr (Or.inr (Or.inr (Or.inr ⟨rfl, rfl, rfl⟩)))) (hb hby d1_30) hr, hrun, hended, _, _, rfl, ⟨rfl, N47, own_extE e50 XT47, trivial⟩, ⟨_, rfl⟩, hW, hsame.mono (by decide) (by decide)⟩
theorem d3_18 : decode method_2_code 18 = .ok (.iload_n 0, 1) := by decide +kernel
theorem d3_19 : decode method_2_code 19 = .ok (.iconst 3, 1) := by decide +kernel
theorem d3_20 : decode method_2_code 20 = .ok (.if_icmp .ne 7, 3) := by decide +kernel
theorem d3_23 : decode method_2_code 23 = .ok (.getstatic 16, 3) := by decide +kernel
theorem d3_26 : decode method_2_code 26 = .ok (.areturn, 1) := by decide +kernel
set_option maxRecDepth 65536 in
set_option maxHeartbeats 40000000 in
theorem rm3_2 (l : Launch) (Z : State) (a0 : Array Value) (hw : ∀ d ∈ tables_1, d.before a0 Z = true) (ws : List Jvm.Cond) (w : Nat → Addr) (h0 : Heap) (n0 : Nat) (Z0 : n0 ≤ h0.size) (hP : Pins Z h0 w) (pa0 : Int32) (hp0 : ¬ (pa0 = (1 : Int32))) (hp1 : ¬ (pa0 = (2 : Int32))) (hp2 : pa0 = (3 : Int32)) :
    MetFree l (⟨"com/example/stubwright/stubwright/ParameterTypeFromCodePinLaw", "expected", "(I)Lcom/example/stubwright/stubwright/ParameterType;"⟩ : MethodName) (head1 (Jvm.Cond.code (⟨"com/example/stubwright/stubwright/ParameterTypeFromCodePinLaw", "expected", "(I)Lcom/example/stubwright/stubwright/ParameterType;"⟩ : MethodName) method_2_code 1 (some (.object "com/example/stubwright/stubwright/ParameterType")) :: ws) ({ frames := 0, cells := 0, slots := 0, locals := 0 } : Room)) (fun a U => a = #[(.int pa0)] ∧ Z.Warmed39 U.vm ∧ U.heap = h0) (fun _ _ _ _ _ => True) (fun _ U o U' => ∃ v L, o = .returned v ∧ Qp (some (.ref (w 3))) h0 n0 v U'.heap L ∧ FrameEnd U o U' L ({ frames := 0, cells := 0, slots := 0, locals := 0 } : Room).cells ({ frames := 0, cells := 0, slots := 0, locals := 0 } : Room).slots) := by
  refine MetFree.of_bodySF (plainFor_of_name pn_1) hisR ?_
  intro p e s m args below meth c s₁ Bd hml0 hP0 hK
  obtain ⟨rfl, hZ, hh⟩ := hP0
  have hx := Bd.exec
  have hby := Bd.bytes
  have hml : c.maxLocals = 1 := hml0
  have hown : s.vm.findClass "com/example/stubwright/stubwright/ParameterTypeFromCodePinLaw" = some m.cls := findClass_of_methodNamed Bd.named
  have hnm := (name_of_methodNamed Bd.named Bd.method).1
  have X0 : Stand p l e ({ frames := 0, cells := 0, slots := 0, locals := 0 } : Room) s m #[(.int pa0)] below meth c s₁ [] 0 0 := Stand.of_body Bd
  have e0 : s₁.heap = h0 := by rw [← hh, Bd.state]; rfl
  have N0 := Fr.nil n0
  suffices hgo : Go p e below (fun o U' => ∃ v L, o = .returned v ∧ Qp (some (.ref (w 3))) h0 n0 v U'.heap L ∧ FrameEnd s o U' L ({ frames := 0, cells := 0, slots := 0, locals := 0 } : Room).cells ({ frames := 0, cells := 0, slots := 0, locals := 0 } : Room).slots) s₁ (mkF m 0 #[.val (.int pa0)] []) by
    obtain ⟨s2, o, g1, g2, g3, g4⟩ := hgo
    refine ⟨s2, o, castTop (?_ : entryFrame m #[(.int pa0)] 1 = _) g1, g2, g3, g4⟩
    first | (simp [entryFrame, mkF, argsToLocals, Value.category]; done) | rfl
  refine Go.on (T' := s₁) (g' := (mkF m 1 #[.val (.int pa0)] [(.int pa0)])) (fun t k => XS.iloadN X0.here hx rfl (hb hby d3_0) rfl k) ?_
  refine Go.on (T' := s₁) (g' := (mkF m 2 #[.val (.int pa0)] [(.int (1 : Int32)), (.int pa0)])) (fun t k => XS.iconst X0.here hx rfl (hb hby d3_1) k) ?_
  refine Go.on (T' := s₁) (g' := (mkF m 9 #[.val (.int pa0)] [])) (fun t k => XS.icmpYes X0.here hx rfl (pc0 := 2) (pc' := 9) rfl (hb hby d3_2) rfl (feq hp0).2 (by decide) (by decide) k) ?_
  refine Go.on (T' := s₁) (g' := (mkF m 10 #[.val (.int pa0)] [(.int pa0)])) (fun t k => XS.iloadN X0.here hx rfl (hb hby d3_9) rfl k) ?_
  refine Go.on (T' := s₁) (g' := (mkF m 11 #[.val (.int pa0)] [(.int (2 : Int32)), (.int pa0)])) (fun t k => XS.iconst X0.here hx rfl (hb hby d3_10) k) ?_
  refine Go.on (T' := s₁) (g' := (mkF m 18 #[.val (.int pa0)] [])) (fun t k => XS.icmpYes X0.here hx rfl (pc0 := 11) (pc' := 18) rfl (hb hby d3_11) rfl (feq hp1).2 (by decide) (by decide) k) ?_
  refine Go.on (T' := s₁) (g' := (mkF m 19 #[.val (.int pa0)] [(.int pa0)])) (fun t k => XS.iloadN X0.here hx rfl (hb hby d3_18) rfl k) ?_
  refine Go.on (T' := s₁) (g' := (mkF m 20 #[.val (.int pa0)] [(.int (3 : Int32)), (.int pa0)])) (fun t k => XS.iconst X0.here hx rfl (hb hby d3_19) k) ?_
  refine Go.on (T' := s₁) (g' := (mkF m 23 #[.val (.int pa0)] [])) (fun t k => XS.icmpNo X0.here hx rfl (hb hby d3_20) rfl (teq hp2).2 k) ?_
  obtain ⟨T52, X52, e52, st52⟩ := getS2 X0 hx hZ hown (host := "") (Or.inl (hw _ (List.mem_of_getElem? (i := 34) rfl))) Via.refl e0 (pin_3 hP) (g := (mkF m 23 #[.val (.int pa0)] [])) rfl (hb hby d3_23)
  refine Go.on (T' := T52) (g' := (mkF m 26 #[.val (.int pa0)] [(.ref (w 3))])) st52 ?_
  obtain ⟨fs, hr, hrun, hended, hW, hsame⟩ := X52.leave (v := some (.ref (w 3))) (fun h => by rw [Bd.returns] at h; cases h)
  exact ⟨_, _, retOut X52 hx Bd.returns rfl (Or.inr (Or.inr (Or.inr (Or.inr ⟨rfl, rfl, rfl⟩)))) (hb hby d3_26) hr, hrun, hended, _, _, rfl, ⟨rfl, N0, e52⟩, ⟨_, rfl⟩, hW, hsame.mono (by decide) (by decide)⟩
set_option maxRecDepth 65536 in
set_option maxHeartbeats 40000000 in
theorem rm1_3 (l : Launch) (Z : State) (a0 : Array Value) (hw : ∀ d ∈ tables_1, d.before a0 Z = true) (ws : List Jvm.Cond) (w : Nat → Addr) (h0 : Heap) (n0 : Nat) (Z0 : n0 ≤ h0.size) (hP : Pins Z h0 w) (pa0 : Int32) (hp0 : ¬ ((1 : Int32) = pa0)) (hp1 : ¬ ((2 : Int32) = pa0)) (hp2 : ¬ ((3 : Int32) = pa0)) (hp3 : (4 : Int32) = pa0) :
    MetFree l (⟨"com/example/stubwright/stubwright/ParameterType", "fromCode", "(I)Lcom/example/stubwright/stubwright/ParameterType;"⟩ : MethodName) (head1 (Jvm.Cond.code (⟨"com/example/stubwright/stubwright/ParameterType", "fromCode", "(I)Lcom/example/stubwright/stubwright/ParameterType;"⟩ : MethodName) prog_37_method_7_code 5 (some (.object "com/example/stubwright/stubwright/ParameterType")) :: ws) ({ frames := 2, cells := 1, slots := 6, locals := 25 } : Room)) (fun a U => a = #[(.int pa0)] ∧ Z.Warmed39 U.vm ∧ U.heap = h0) (fun _ _ _ _ _ => True) (fun _ U o U' => ∃ v L, o = .returned v ∧ Qx (some (.ref (w 4))) (fun h => True) h0 n0 v U'.heap L ∧ FrameEnd U o U' L ({ frames := 2, cells := 1, slots := 6, locals := 25 } : Room).cells ({ frames := 2, cells := 1, slots := 6, locals := 25 } : Room).slots) := by
  refine MetFree.of_bodySF (plainFor_of_name pn_0) hisR ?_
  intro p e s m args below meth c s₁ Bd hml0 hP0 hK
  obtain ⟨rfl, hZ, hh⟩ := hP0
  have hx := Bd.exec
  have hby := Bd.bytes
  have hml : c.maxLocals = 5 := hml0
  have hown : s.vm.findClass "com/example/stubwright/stubwright/ParameterType" = some m.cls := findClass_of_methodNamed Bd.named
  have hnm := (name_of_methodNamed Bd.named Bd.method).1
  have X0 : Stand p l e ({ frames := 2, cells := 1, slots := 6, locals := 25 } : Room) s m #[(.int pa0)] below meth c s₁ [] 0 0 := Stand.of_body Bd
  have e0 : s₁.heap = h0 := by rw [← hh, Bd.state]; rfl
  have N0 := Fr.nil n0
  suffices hgo : Go p e below (fun o U' => ∃ v L, o = .returned v ∧ Qx (some (.ref (w 4))) (fun h => True) h0 n0 v U'.heap L ∧ FrameEnd s o U' L ({ frames := 2, cells := 1, slots := 6, locals := 25 } : Room).cells ({ frames := 2, cells := 1, slots := 6, locals := 25 } : Room).slots) s₁ (mkF m 0 #[.val (.int pa0), .unset, .unset, .unset, .unset] []) by
    obtain ⟨s2, o, g1, g2, g3, g4⟩ := hgo
    refine ⟨s2, o, castTop (?_ : entryFrame m #[(.int pa0)] 5 = _) g1, g2, g3, g4⟩
    first | (simp [entryFrame, mkF, argsToLocals, Value.category]; done) | rfl
  obtain ⟨_, _, ⟨T55, L55, k55, n55⟩, -, X55, ⟨Lc55, hQ55, l55, y55, z55⟩, st55⟩ := Jvm.LawKit.callS X0 hx (y := (⟨"com/example/stubwright/stubwright/ParameterType", "values", "()[Lcom/example/stubwright/stubwright/ParameterType;"⟩ : MethodName)) hown (mvT hZ (hw _ (List.mem_of_getElem? (i := 4) rfl))) (mvT hZ (hw _ (List.mem_of_getElem? (i := 5) rfl))) (mvT hZ (hw _ (List.mem_of_getElem? (i := 2) rfl))) (mvT hZ (hw _ (List.mem_of_getElem? (i := 6) rfl))) (by decide) (backOf (W := 0) (rm2_0 l Z a0 hw [] w h0 n0 (Nat.le_trans Z0 (own_ext0 h0).1) hP) hZ (hw _ (List.mem_of_getElem? (i := 6) rfl)) (hw _ (List.mem_of_getElem? (i := 2) rfl)) (by decide) (by decide)) (g := (mkF m 0 #[.val (.int pa0), .unset, .unset, .unset, .unset] [])) rfl (by rw [hml]; rfl) (argsL := []) (rest := []) (lenOf pd_0 rfl) rfl (by show 2 * 0 + _ ≤ _; exact Nat.le_of_eq rfl) (hb hby d1_0) (fun _ _ => ⟨rfl, e0, (by decide : 0 + 1 ≤ _), (by decide : 0 + 6 ≤ _)⟩)
  dsimp only [Pt.U, Pt.locs, Pt.cells, Pt.slots] at X55 l55 y55 z55 st55 hQ55
  subst l55 y55 z55
  obtain ⟨rfl, N55q, x55, f55⟩ := hQ55
  have N55 := Fr.app N0 N55q
  have e55 : T55.heap = T55.heap := rfl
  have sz55 : h0.size ≤ h0.size := (own_ext0 h0).1
  have XT55 := own_ext2 (own_ext0 h0) x55
  obtain ⟨k55, A55⟩ := f55
  refine Go.on (T' := T55) (g' := (mkF m 3 #[.val (.int pa0), .unset, .unset, .unset, .unset] [(.ref (h0.size))])) st55 ?_
  refine Go.on (T' := T55) (g' := (mkF m 4 #[.val (.int pa0), .val (.ref (h0.size)), .unset, .unset, .unset] [])) (fun t k => XS.astoreN X55.here hx rfl (hb hby d1_3) rfl rfl (l' := #[.val (.int pa0), .val (.ref (h0.size)), .unset, .unset, .unset]) rfl k) ?_
  refine Go.on (T' := T55) (g' := (mkF m 5 #[.val (.int pa0), .val (.ref (h0.size)), .unset, .unset, .unset] [(.ref (h0.size))])) (fun t k => XS.aloadN X55.here hx rfl (hb hby d1_4) rfl rfl k) ?_
  refine Go.on (T' := T55) (g' := (mkF m 6 #[.val (.int pa0), .val (.ref (h0.size)), .unset, .unset, .unset] [(.int (6 : Int32))])) (fun t k => X55.arraylength hx (by rw [e55]; exact A55.1) (State.isArrayOf_alike hZ.alike A55.2.1) (g := (mkF m 5 #[.val (.int pa0), .val (.ref (h0.size)), .unset, .unset, .unset] [(.ref (h0.size))])) rfl rfl (hb hby d1_5) t k) ?_
  refine Go.on (T' := T55) (g' := (mkF m 7 #[.val (.int pa0), .val (.ref (h0.size)), .val (.int (6 : Int32)), .unset, .unset] [])) (fun t k => XS.istoreN X55.here hx rfl (hb hby d1_6) rfl (l' := #[.val (.int pa0), .val (.ref (h0.size)), .val (.int (6 : Int32)), .unset, .unset]) rfl k) ?_
  refine Go.on (T' := T55) (g' := (mkF m 8 #[.val (.int pa0), .val (.ref (h0.size)), .val (.int (6 : Int32)), .unset, .unset] [(.int (0 : Int32))])) (fun t k => XS.iconst X55.here hx rfl (hb hby d1_7) k) ?_
  refine Go.on (T' := T55) (g' := (mkF m 9 #[.val (.int pa0), .val (.ref (h0.size)), .val (.int (6 : Int32)), .val (.int (0 : Int32)), .unset] [])) (fun t k => XS.istoreN X55.here hx rfl (hb hby d1_8) rfl (l' := #[.val (.int pa0), .val (.ref (h0.size)), .val (.int (6 : Int32)), .val (.int (0 : Int32)), .unset]) rfl k) ?_
  refine Go.on (T' := T55) (g' := (mkF m 10 #[.val (.int pa0), .val (.ref (h0.size)), .val (.int (6 : Int32)), .val (.int (0 : Int32)), .unset] [(.int (0 : Int32))])) (fun t k => XS.iloadN X55.here hx rfl (hb hby d1_9) rfl k) ?_
  refine Go.on (T' := T55) (g' := (mkF m 11 #[.val (.int pa0), .val (.ref (h0.size)), .val (.int (6 : Int32)), .val (.int (0 : Int32)), .unset] [(.int (6 : Int32)), (.int (0 : Int32))])) (fun t k => XS.iloadN X55.here hx rfl (hb hby d1_10) rfl k) ?_
  refine Go.on (T' := T55) (g' := (mkF m 14 #[.val (.int pa0), .val (.ref (h0.size)), .val (.int (6 : Int32)), .val (.int (0 : Int32)), .unset] [])) (fun t k => XS.icmpNo X55.here hx rfl (hb hby d1_11) rfl (tlt (by decide : (0 : Int32) < (6 : Int32))).2.1 k) ?_
  refine Go.on (T' := T55) (g' := (mkF m 15 #[.val (.int pa0), .val (.ref (h0.size)), .val (.int (6 : Int32)), .val (.int (0 : Int32)), .unset] [(.ref (h0.size))])) (fun t k => XS.aloadN X55.here hx rfl (hb hby d1_14) rfl rfl k) ?_
  refine Go.on (T' := T55) (g' := (mkF m 16 #[.val (.int pa0), .val (.ref (h0.size)), .val (.int (6 : Int32)), .val (.int (0 : Int32)), .unset] [(.int (0 : Int32)), (.ref (h0.size))])) (fun t k => XS.iloadN X55.here hx rfl (hb hby d1_15) rfl k) ?_
  refine Go.on (T' := T55) (g' := (mkF m 17 #[.val (.int pa0), .val (.ref (h0.size)), .val (.int (6 : Int32)), .val (.int (0 : Int32)), .unset] [(.ref (w 1))])) (fun t k => X55.aaload hx (j := (0 : Int32)) (v := (.ref (w 1))) (by rw [e55]; exact A55.1) (State.isArrayOf_alike hZ.alike A55.2.1) rfl A55.2.2 (by show ¬ (_ ∨ (6 : Nat) ≤ _); decide) rfl (g := (mkF m 16 #[.val (.int pa0), .val (.ref (h0.size)), .val (.int (6 : Int32)), .val (.int (0 : Int32)), .unset] [(.int (0 : Int32)), (.ref (h0.size))])) rfl rfl (hb hby d1_16) t k) ?_
  refine Go.on (T' := T55) (g' := (mkF m 19 #[.val (.int pa0), .val (.ref (h0.size)), .val (.int (6 : Int32)), .val (.int (0 : Int32)), .val (.ref (w 1))] [])) (fun t k => XS.astore X55.here hx rfl (hb hby d1_17) rfl rfl (l' := #[.val (.int pa0), .val (.ref (h0.size)), .val (.int (6 : Int32)), .val (.int (0 : Int32)), .val (.ref (w 1))]) rfl k) ?_
  refine Go.on (T' := T55) (g' := (mkF m 21 #[.val (.int pa0), .val (.ref (h0.size)), .val (.int (6 : Int32)), .val (.int (0 : Int32)), .val (.ref (w 1))] [(.ref (w 1))])) (fun t k => XS.aload X55.here hx rfl (hb hby d1_19) rfl rfl k) ?_
  obtain ⟨T56, X56, e56, st56⟩ := getF X55 hx hZ hown (host := "") (Or.inl (hw _ (List.mem_of_getElem? (i := 19) rfl))) Via.refl e55 (pin_14 (pins_ext XT55 hP)) (g := (mkF m 21 #[.val (.int pa0), .val (.ref (h0.size)), .val (.int (6 : Int32)), .val (.int (0 : Int32)), .val (.ref (w 1))] [(.ref (w 1))])) rfl rfl (hb hby d1_21)
  refine Go.on (T' := T56) (g' := (mkF m 24 #[.val (.int pa0), .val (.ref (h0.size)), .val (.int (6 : Int32)), .val (.int (0 : Int32)), .val (.ref (w 1))] [(.int (1 : Int32))])) st56 ?_
  refine Go.on (T' := T56) (g' := (mkF m 25 #[.val (.int pa0), .val (.ref (h0.size)), .val (.int (6 : Int32)), .val (.int (0 : Int32)), .val (.ref (w 1))] [(.int pa0), (.int (1 : Int32))])) (fun t k => XS.iloadN X56.here hx rfl (hb hby d1_24) rfl k) ?_
  refine Go.on (T' := T56) (g' := (mkF m 31 #[.val (.int pa0), .val (.ref (h0.size)), .val (.int (6 : Int32)), .val (.int (0 : Int32)), .val (.ref (w 1))] [])) (fun t k => XS.icmpYes X56.here hx rfl (pc0 := 25) (pc' := 31) rfl (hb hby d1_25) rfl (feq hp0).2 (by decide) (by decide) k) ?_
  refine Go.on (T' := T56) (g' := (mkF m 34 #[.val (.int pa0), .val (.ref (h0.size)), .val (.int (6 : Int32)), .val (.int (1 : Int32)), .val (.ref (w 1))] [])) (fun t k => XS.iinc X56.here hx rfl (hb hby d1_31) rfl (l' := #[.val (.int pa0), .val (.ref (h0.size)), .val (.int (6 : Int32)), .val (.int (1 : Int32)), .val (.ref (w 1))]) rfl k) ?_
  refine Go.on (T' := T56) (g' := (mkF m 9 #[.val (.int pa0), .val (.ref (h0.size)), .val (.int (6 : Int32)), .val (.int (1 : Int32)), .val (.ref (w 1))] [])) (fun t k => XS.goto X56.here hx rfl (pc0 := 34) (pc' := 9) rfl (hb hby d1_34) (by decide) (by decide) k) ?_
  refine Go.on (T' := T56) (g' := (mkF m 10 #[.val (.int pa0), .val (.ref (h0.size)), .val (.int (6 : Int32)), .val (.int (1 : Int32)), .val (.ref (w 1))] [(.int (1 : Int32))])) (fun t k => XS.iloadN X56.here hx rfl (hb hby d1_9) rfl k) ?_
  refine Go.on (T' := T56) (g' := (mkF m 11 #[.val (.int pa0), .val (.ref (h0.size)), .val (.int (6 : Int32)), .val (.int (1 : Int32)), .val (.ref (w 1))] [(.int (6 : Int32)), (.int (1 : Int32))])) (fun t k => XS.iloadN X56.here hx rfl (hb hby d1_10) rfl k) ?_
  refine Go.on (T' := T56) (g' := (mkF m 14 #[.val (.int pa0), .val (.ref (h0.size)), .val (.int (6 : Int32)), .val (.int (1 : Int32)), .val (.ref (w 1))] [])) (fun t k => XS.icmpNo X56.here hx rfl (hb hby d1_11) rfl (tlt (by decide : (1 : Int32) < (6 : Int32))).2.1 k) ?_
  refine Go.on (T' := T56) (g' := (mkF m 15 #[.val (.int pa0), .val (.ref (h0.size)), .val (.int (6 : Int32)), .val (.int (1 : Int32)), .val (.ref (w 1))] [(.ref (h0.size))])) (fun t k => XS.aloadN X56.here hx rfl (hb hby d1_14) rfl rfl k) ?_
  refine Go.on (T' := T56) (g' := (mkF m 16 #[.val (.int pa0), .val (.ref (h0.size)), .val (.int (6 : Int32)), .val (.int (1 : Int32)), .val (.ref (w 1))] [(.int (1 : Int32)), (.ref (h0.size))])) (fun t k => XS.iloadN X56.here hx rfl (hb hby d1_15) rfl k) ?_
  refine Go.on (T' := T56) (g' := (mkF m 17 #[.val (.int pa0), .val (.ref (h0.size)), .val (.int (6 : Int32)), .val (.int (1 : Int32)), .val (.ref (w 1))] [(.ref (w 2))])) (fun t k => X56.aaload hx (j := (1 : Int32)) (v := (.ref (w 2))) (by rw [e56]; exact A55.1) (State.isArrayOf_alike hZ.alike A55.2.1) rfl A55.2.2 (by show ¬ (_ ∨ (6 : Nat) ≤ _); decide) rfl (g := (mkF m 16 #[.val (.int pa0), .val (.ref (h0.size)), .val (.int (6 : Int32)), .val (.int (1 : Int32)), .val (.ref (w 1))] [(.int (1 : Int32)), (.ref (h0.size))])) rfl rfl (hb hby d1_16) t k) ?_
  refine Go.on (T' := T56) (g' := (mkF m 19 #[.val (.int pa0), .val (.ref (h0.size)), .val (.int (6 : Int32)), .val (.int (1 : Int32)), .val (.ref (w 2))] [])) (fun t k => XS.astore X56.here hx rfl (hb hby d1_17) rfl rfl (l' := #[.val (.int pa0), .val (.ref (h0.size)), .val (.int (6 : Int32)), .val (.int (1 : Int32)), .val (.ref (w 2))]) rfl k) ?_
  refine Go.on (T' := T56) (g' := (mkF m 21 #[.val (.int pa0), .val (.ref (h0.size)), .val (.int (6 : Int32)), .val (.int (1 : Int32)), .val (.ref (w 2))] [(.ref (w 2))])) (fun t k => XS.aload X56.here hx rfl (hb hby d1_19) rfl rfl k) ?_
  obtain ⟨T57, X57, e57, st57⟩ := getF X56 hx hZ hown (host := "") (Or.inl (hw _ (List.mem_of_getElem? (i := 19) rfl))) Via.refl e56 (pin_15 (pins_ext XT55 hP)) (g := (mkF m 21 #[.val (.int pa0), .val (.ref (h0.size)), .val (.int (6 : Int32)), .val (.int (1 : Int32)), .val (.ref (w 2))] [(.ref (w 2))])) rfl rfl (hb hby d1_21)
  refine Go.on (T' := T57) (g' := (mkF m 24 #[.val (.int pa0), .val (.ref (h0.size)), .val (.int (6 : Int32)), .val (.int (1 : Int32)), .val (.ref (w 2))] [(.int (2 : Int32))])) st57 ?_
  refine Go.on (T' := T57) (g' := (mkF m 25 #[.val (.int pa0), .val (.ref (h0.size)), .val (.int (6 : Int32)), .val (.int (1 : Int32)), .val (.ref (w 2))] [(.int pa0), (.int (2 : Int32))])) (fun t k => XS.iloadN X57.here hx rfl (hb hby d1_24) rfl k) ?_
  refine Go.on (T' := T57) (g' := (mkF m 31 #[.val (.int pa0), .val (.ref (h0.size)), .val (.int (6 : Int32)), .val (.int (1 : Int32)), .val (.ref (w 2))] [])) (fun t k => XS.icmpYes X57.here hx rfl (pc0 := 25) (pc' := 31) rfl (hb hby d1_25) rfl (feq hp1).2 (by decide) (by decide) k) ?_
  refine Go.on (T' := T57) (g' := (mkF m 34 #[.val (.int pa0), .val (.ref (h0.size)), .val (.int (6 : Int32)), .val (.int (2 : Int32)), .val (.ref (w 2))] [])) (fun t k => XS.iinc X57.here hx rfl (hb hby d1_31) rfl (l' := #[.val (.int pa0), .val (.ref (h0.size)), .val (.int (6 : Int32)), .val (.int (2 : Int32)), .val (.ref (w 2))]) rfl k) ?_
  refine Go.on (T' := T57) (g' := (mkF m 9 #[.val (.int pa0), .val (.ref (h0.size)), .val (.int (6 : Int32)), .val (.int (2 : Int32)), .val (.ref (w 2))] [])) (fun t k => XS.goto X57.here hx rfl (pc0 := 34) (pc' := 9) rfl (hb hby d1_34) (by decide) (by decide) k) ?_
  refine Go.on (T' := T57) (g' := (mkF m 10 #[.val (.int pa0), .val (.ref (h0.size)), .val (.int (6 : Int32)), .val (.int (2 : Int32)), .val (.ref (w 2))] [(.int (2 : Int32))])) (fun t k => XS.iloadN X57.here hx rfl (hb hby d1_9) rfl k) ?_
  refine Go.on (T' := T57) (g' := (mkF m 11 #[.val (.int pa0), .val (.ref (h0.size)), .val (.int (6 : Int32)), .val (.int (2 : Int32)), .val (.ref (w 2))] [(.int (6 : Int32)), (.int (2 : Int32))])) (fun t k => XS.iloadN X57.here hx rfl (hb hby d1_10) rfl k) ?_
  refine Go.on (T' := T57) (g' := (mkF m 14 #[.val (.int pa0), .val (.ref (h0.size)), .val (.int (6 : Int32)), .val (.int (2 : Int32)), .val (.ref (w 2))] [])) (fun t k => XS.icmpNo X57.here hx rfl (hb hby d1_11) rfl (tlt (by decide : (2 : Int32) < (6 : Int32))).2.1 k) ?_
  refine Go.on (T' := T57) (g' := (mkF m 15 #[.val (.int pa0), .val (.ref (h0.size)), .val (.int (6 : Int32)), .val (.int (2 : Int32)), .val (.ref (w 2))] [(.ref (h0.size))])) (fun t k => XS.aloadN X57.here hx rfl (hb hby d1_14) rfl rfl k) ?_
  refine Go.on (T' := T57) (g' := (mkF m 16 #[.val (.int pa0), .val (.ref (h0.size)), .val (.int (6 : Int32)), .val (.int (2 : Int32)), .val (.ref (w 2))] [(.int (2 : Int32)), (.ref (h0.size))])) (fun t k => XS.iloadN X57.here hx rfl (hb hby d1_15) rfl k) ?_
  refine Go.on (T' := T57) (g' := (mkF m 17 #[.val (.int pa0), .val (.ref (h0.size)), .val (.int (6 : Int32)), .val (.int (2 : Int32)), .val (.ref (w 2))] [(.ref (w 3))])) (fun t k => X57.aaload hx (j := (2 : Int32)) (v := (.ref (w 3))) (by rw [e57]; exact A55.1) (State.isArrayOf_alike hZ.alike A55.2.1) rfl A55.2.2 (by show ¬ (_ ∨ (6 : Nat) ≤ _); decide) rfl (g := (mkF m 16 #[.val (.int pa0), .val (.ref (h0.size)), .val (.int (6 : Int32)), .val (.int (2 : Int32)), .val (.ref (w 2))] [(.int (2 : Int32)), (.ref (h0.size))])) rfl rfl (hb hby d1_16) t k) ?_
  refine Go.on (T' := T57) (g' := (mkF m 19 #[.val (.int pa0), .val (.ref (h0.size)), .val (.int (6 : Int32)), .val (.int (2 : Int32)), .val (.ref (w 3))] [])) (fun t k => XS.astore X57.here hx rfl (hb hby d1_17) rfl rfl (l' := #[.val (.int pa0), .val (.ref (h0.size)), .val (.int (6 : Int32)), .val (.int (2 : Int32)), .val (.ref (w 3))]) rfl k) ?_
  refine Go.on (T' := T57) (g' := (mkF m 21 #[.val (.int pa0), .val (.ref (h0.size)), .val (.int (6 : Int32)), .val (.int (2 : Int32)), .val (.ref (w 3))] [(.ref (w 3))])) (fun t k => XS.aload X57.here hx rfl (hb hby d1_19) rfl rfl k) ?_
  obtain ⟨T58, X58, e58, st58⟩ := getF X57 hx hZ hown (host := "") (Or.inl (hw _ (List.mem_of_getElem? (i := 19) rfl))) Via.refl e57 (pin_16 (pins_ext XT55 hP)) (g := (mkF m 21 #[.val (.int pa0), .val (.ref (h0.size)), .val (.int (6 : Int32)), .val (.int (2 : Int32)), .val (.ref (w 3))] [(.ref (w 3))])) rfl rfl (hb hby d1_21)
  refine Go.on (T' := T58) (g' := (mkF m 24 #[.val (.int pa0), .val (.ref (h0.size)), .val (.int (6 : Int32)), .val (.int (2 : Int32)), .val (.ref (w 3))] [(.int (3 : Int32))])) st58 ?_
  refine Go.on (T' := T58) (g' := (mkF m 25 #[.val (.int pa0), .val (.ref (h0.size)), .val (.int (6 : Int32)), .val (.int (2 : Int32)), .val (.ref (w 3))] [(.int pa0), (.int (3 : Int32))])) (fun t k => XS.iloadN X58.here hx rfl (hb hby d1_24) rfl k) ?_
  refine Go.on (T' := T58) (g' := (mkF m 31 #[.val (.int pa0), .val (.ref (h0.size)), .val (.int (6 : Int32)), .val (.int (2 : Int32)), .val (.ref (w 3))] [])) (fun t k => XS.icmpYes X58.here hx rfl (pc0 := 25) (pc' := 31) rfl (hb hby d1_25) rfl (feq hp2).2 (by decide) (by decide) k) ?_
  refine Go.on (T' := T58) (g' := (mkF m 34 #[.val (.int pa0), .val (.ref (h0.size)), .val (.int (6 : Int32)), .val (.int (3 : Int32)), .val (.ref (w 3))] [])) (fun t k => XS.iinc X58.here hx rfl (hb hby d1_31) rfl (l' := #[.val (.int pa0), .val (.ref (h0.size)), .val (.int (6 : Int32)), .val (.int (3 : Int32)), .val (.ref (w 3))]) rfl k) ?_
  refine Go.on (T' := T58) (g' := (mkF m 9 #[.val (.int pa0), .val (.ref (h0.size)), .val (.int (6 : Int32)), .val (.int (3 : Int32)), .val (.ref (w 3))] [])) (fun t k => XS.goto X58.here hx rfl (pc0 := 34) (pc' := 9) rfl (hb hby d1_34) (by decide) (by decide) k) ?_
  refine Go.on (T' := T58) (g' := (mkF m 10 #[.val (.int pa0), .val (.ref (h0.size)), .val (.int (6 : Int32)), .val (.int (3 : Int32)), .val (.ref (w 3))] [(.int (3 : Int32))])) (fun t k => XS.iloadN X58.here hx rfl (hb hby d1_9) rfl k) ?_
  refine Go.on (T' := T58) (g' := (mkF m 11 #[.val (.int pa0), .val (.ref (h0.size)), .val (.int (6 : Int32)), .val (.int (3 : Int32)), .val (.ref (w 3))] [(.int (6 : Int32)), (.int (3 : Int32))])) (fun t k => XS.iloadN X58.here hx rfl (hb hby d1_10) rfl k) ?_
  refine Go.on (T' := T58) (g' := (mkF m 14 #[.val (.int pa0), .val (.ref (h0.size)), .val (.int (6 : Int32)), .val (.int (3 : Int32)), .val (.ref (w 3))] [])) (fun t k => XS.icmpNo X58.here hx rfl (hb hby d1_11) rfl (tlt (by decide : (3 : Int32) < (6 : Int32))).2.1 k) ?_
  refine Go.on (T' := T58) (g' := (mkF m 15 #[.val (.int pa0), .val (.ref (h0.size)), .val (.int (6 : Int32)), .val (.int (3 : Int32)), .val (.ref (w 3))] [(.ref (h0.size))])) (fun t k => XS.aloadN X58.here hx rfl (hb hby d1_14) rfl rfl k) ?_
  refine Go.on (T' := T58) (g' := (mkF m 16 #[.val (.int pa0), .val (.ref (h0.size)), .val (.int (6 : Int32)), .val (.int (3 : Int32)), .val (.ref (w 3))] [(.int (3 : Int32)), (.ref (h0.size))])) (fun t k => XS.iloadN X58.here hx rfl (hb hby d1_15) rfl k) ?_
  refine Go.on (T' := T58) (g' := (mkF m 17 #[.val (.int pa0), .val (.ref (h0.size)), .val (.int (6 : Int32)), .val (.int (3 : Int32)), .val (.ref (w 3))] [(.ref (w 4))])) (fun t k => X58.aaload hx (j := (3 : Int32)) (v := (.ref (w 4))) (by rw [e58]; exact A55.1) (State.isArrayOf_alike hZ.alike A55.2.1) rfl A55.2.2 (by show ¬ (_ ∨ (6 : Nat) ≤ _); decide) rfl (g := (mkF m 16 #[.val (.int pa0), .val (.ref (h0.size)), .val (.int (6 : Int32)), .val (.int (3 : Int32)), .val (.ref (w 3))] [(.int (3 : Int32)), (.ref (h0.size))])) rfl rfl (hb hby d1_16) t k) ?_
  refine Go.on (T' := T58) (g' := (mkF m 19 #[.val (.int pa0), .val (.ref (h0.size)), .val (.int (6 : Int32)), .val (.int (3 : Int32)), .val (.ref (w 4))] [])) (fun t k => XS.astore X58.here hx rfl (hb hby d1_17) rfl rfl (l' := #[.val (.int pa0), .val (.ref (h0.size)), .val (.int (6 : Int32)), .val (.int (3 : Int32)), .val (.ref (w 4))]) rfl k) ?_
  refine Go.on (T' := T58) (g' := (mkF m 21 #[.val (.int pa0), .val (.ref (h0.size)), .val (.int (6 : Int32)), .val (.int (3 : Int32)), .val (.ref (w 4))] [(.ref (w 4))])) (fun t k => XS.aload X58.here hx rfl (hb hby d1_19) rfl rfl k) ?_
  obtain ⟨T59, X59, e59, st59⟩ := getF X58 hx hZ hown (host := "") (Or.inl (hw _ (List.mem_of_getElem? (i := 19) rfl))) Via.refl e58 (pin_17 (pins_ext XT55 hP)) (g := (mkF m 21 #[.val (.int pa0), .val (.ref (h0.size)), .val (.int (6 : Int32)), .val (.int (3 : Int32)), .val (.ref (w 4))] [(.ref (w 4))])) rfl rfl (hb hby d1_21)
  refine Go.on (T' := T59) (g' := (mkF m 24 #[.val (.int pa0), .val (.ref (h0.size)), .val (.int (6 : Int32)), .val (.int (3 : Int32)), .val (.ref (w 4))] [(.int (4 : Int32))])) st59 ?_
  refine Go.on (T' := T59) (g' := (mkF m 25 #[.val (.int pa0), .val (.ref (h0.size)), .val (.int (6 : Int32)), .val (.int (3 : Int32)), .val (.ref (w 4))] [(.int pa0), (.int (4 : Int32))])) (fun t k => XS.iloadN X59.here hx rfl (hb hby d1_24) rfl k) ?_
  refine Go.on (T' := T59) (g' := (mkF m 28 #[.val (.int pa0), .val (.ref (h0.size)), .val (.int (6 : Int32)), .val (.int (3 : Int32)), .val (.ref (w 4))] [])) (fun t k => XS.icmpNo X59.here hx rfl (hb hby d1_25) rfl (teq hp3).2 k) ?_
  refine Go.on (T' := T59) (g' := (mkF m 30 #[.val (.int pa0), .val (.ref (h0.size)), .val (.int (6 : Int32)), .val (.int (3 : Int32)), .val (.ref (w 4))] [(.ref (w 4))])) (fun t k => XS.aload X59.here hx rfl (hb hby d1_28) rfl rfl k) ?_
  obtain ⟨fs, hr, hrun, hended, hW, hsame⟩ := X59.leave (v := some (.ref (w 4))) (fun h => by rw [Bd.returns] at h; cases h)
  exact ⟨_, _, retOut X59 hx Bd.returns rfl (Or.inr (Or.inr (Or.inr (Or.inr ⟨rfl, rfl, rfl⟩)))) (hb hby d1_30) hr, hrun, hended, _, _, rfl, ⟨rfl, N55, own_extE e59 XT55, trivial⟩, ⟨_, rfl⟩, hW, hsame.mono (by decide) (by decide)⟩
theorem d3_27 : decode method_2_code 27 = .ok (.iload_n 0, 1) := by decide +kernel
theorem d3_28 : decode method_2_code 28 = .ok (.iconst 4, 1) := by decide +kernel
theorem d3_29 : decode method_2_code 29 = .ok (.if_icmp .ne 7, 3) := by decide +kernel
theorem d3_32 : decode method_2_code 32 = .ok (.getstatic 19, 3) := by decide +kernel
theorem d3_35 : decode method_2_code 35 = .ok (.areturn, 1) := by decide +kernel
set_option maxRecDepth 65536 in
set_option maxHeartbeats 40000000 in
theorem rm3_3 (l : Launch) (Z : State) (a0 : Array Value) (hw : ∀ d ∈ tables_1, d.before a0 Z = true) (ws : List Jvm.Cond) (w : Nat → Addr) (h0 : Heap) (n0 : Nat) (Z0 : n0 ≤ h0.size) (hP : Pins Z h0 w) (pa0 : Int32) (hp0 : ¬ (pa0 = (1 : Int32))) (hp1 : ¬ (pa0 = (2 : Int32))) (hp2 : ¬ (pa0 = (3 : Int32))) (hp3 : pa0 = (4 : Int32)) :
    MetFree l (⟨"com/example/stubwright/stubwright/ParameterTypeFromCodePinLaw", "expected", "(I)Lcom/example/stubwright/stubwright/ParameterType;"⟩ : MethodName) (head1 (Jvm.Cond.code (⟨"com/example/stubwright/stubwright/ParameterTypeFromCodePinLaw", "expected", "(I)Lcom/example/stubwright/stubwright/ParameterType;"⟩ : MethodName) method_2_code 1 (some (.object "com/example/stubwright/stubwright/ParameterType")) :: ws) ({ frames := 0, cells := 0, slots := 0, locals := 0 } : Room)) (fun a U => a = #[(.int pa0)] ∧ Z.Warmed39 U.vm ∧ U.heap = h0) (fun _ _ _ _ _ => True) (fun _ U o U' => ∃ v L, o = .returned v ∧ Qp (some (.ref (w 4))) h0 n0 v U'.heap L ∧ FrameEnd U o U' L ({ frames := 0, cells := 0, slots := 0, locals := 0 } : Room).cells ({ frames := 0, cells := 0, slots := 0, locals := 0 } : Room).slots) := by
  refine MetFree.of_bodySF (plainFor_of_name pn_1) hisR ?_
  intro p e s m args below meth c s₁ Bd hml0 hP0 hK
  obtain ⟨rfl, hZ, hh⟩ := hP0
  have hx := Bd.exec
  have hby := Bd.bytes
  have hml : c.maxLocals = 1 := hml0
  have hown : s.vm.findClass "com/example/stubwright/stubwright/ParameterTypeFromCodePinLaw" = some m.cls := findClass_of_methodNamed Bd.named
  have hnm := (name_of_methodNamed Bd.named Bd.method).1
  have X0 : Stand p l e ({ frames := 0, cells := 0, slots := 0, locals := 0 } : Room) s m #[(.int pa0)] below meth c s₁ [] 0 0 := Stand.of_body Bd
  have e0 : s₁.heap = h0 := by rw [← hh, Bd.state]; rfl
  have N0 := Fr.nil n0
  suffices hgo : Go p e below (fun o U' => ∃ v L, o = .returned v ∧ Qp (some (.ref (w 4))) h0 n0 v U'.heap L ∧ FrameEnd s o U' L ({ frames := 0, cells := 0, slots := 0, locals := 0 } : Room).cells ({ frames := 0, cells := 0, slots := 0, locals := 0 } : Room).slots) s₁ (mkF m 0 #[.val (.int pa0)] []) by
    obtain ⟨s2, o, g1, g2, g3, g4⟩ := hgo
    refine ⟨s2, o, castTop (?_ : entryFrame m #[(.int pa0)] 1 = _) g1, g2, g3, g4⟩
    first | (simp [entryFrame, mkF, argsToLocals, Value.category]; done) | rfl
  refine Go.on (T' := s₁) (g' := (mkF m 1 #[.val (.int pa0)] [(.int pa0)])) (fun t k => XS.iloadN X0.here hx rfl (hb hby d3_0) rfl k) ?_
  refine Go.on (T' := s₁) (g' := (mkF m 2 #[.val (.int pa0)] [(.int (1 : Int32)), (.int pa0)])) (fun t k => XS.iconst X0.here hx rfl (hb hby d3_1) k) ?_
  refine Go.on (T' := s₁) (g' := (mkF m 9 #[.val (.int pa0)] [])) (fun t k => XS.icmpYes X0.here hx rfl (pc0 := 2) (pc' := 9) rfl (hb hby d3_2) rfl (feq hp0).2 (by decide) (by decide) k) ?_
  refine Go.on (T' := s₁) (g' := (mkF m 10 #[.val (.int pa0)] [(.int pa0)])) (fun t k => XS.iloadN X0.here hx rfl (hb hby d3_9) rfl k) ?_
  refine Go.on (T' := s₁) (g' := (mkF m 11 #[.val (.int pa0)] [(.int (2 : Int32)), (.int pa0)])) (fun t k => XS.iconst X0.here hx rfl (hb hby d3_10) k) ?_
  refine Go.on (T' := s₁) (g' := (mkF m 18 #[.val (.int pa0)] [])) (fun t k => XS.icmpYes X0.here hx rfl (pc0 := 11) (pc' := 18) rfl (hb hby d3_11) rfl (feq hp1).2 (by decide) (by decide) k) ?_
  refine Go.on (T' := s₁) (g' := (mkF m 19 #[.val (.int pa0)] [(.int pa0)])) (fun t k => XS.iloadN X0.here hx rfl (hb hby d3_18) rfl k) ?_
  refine Go.on (T' := s₁) (g' := (mkF m 20 #[.val (.int pa0)] [(.int (3 : Int32)), (.int pa0)])) (fun t k => XS.iconst X0.here hx rfl (hb hby d3_19) k) ?_
  refine Go.on (T' := s₁) (g' := (mkF m 27 #[.val (.int pa0)] [])) (fun t k => XS.icmpYes X0.here hx rfl (pc0 := 20) (pc' := 27) rfl (hb hby d3_20) rfl (feq hp2).2 (by decide) (by decide) k) ?_
  refine Go.on (T' := s₁) (g' := (mkF m 28 #[.val (.int pa0)] [(.int pa0)])) (fun t k => XS.iloadN X0.here hx rfl (hb hby d3_27) rfl k) ?_
  refine Go.on (T' := s₁) (g' := (mkF m 29 #[.val (.int pa0)] [(.int (4 : Int32)), (.int pa0)])) (fun t k => XS.iconst X0.here hx rfl (hb hby d3_28) k) ?_
  refine Go.on (T' := s₁) (g' := (mkF m 32 #[.val (.int pa0)] [])) (fun t k => XS.icmpNo X0.here hx rfl (hb hby d3_29) rfl (teq hp3).2 k) ?_
  obtain ⟨T61, X61, e61, st61⟩ := getS2 X0 hx hZ hown (host := "") (Or.inl (hw _ (List.mem_of_getElem? (i := 30) rfl))) Via.refl e0 (pin_1 hP) (g := (mkF m 32 #[.val (.int pa0)] [])) rfl (hb hby d3_32)
  refine Go.on (T' := T61) (g' := (mkF m 35 #[.val (.int pa0)] [(.ref (w 4))])) st61 ?_
  obtain ⟨fs, hr, hrun, hended, hW, hsame⟩ := X61.leave (v := some (.ref (w 4))) (fun h => by rw [Bd.returns] at h; cases h)
  exact ⟨_, _, retOut X61 hx Bd.returns rfl (Or.inr (Or.inr (Or.inr (Or.inr ⟨rfl, rfl, rfl⟩)))) (hb hby d3_35) hr, hrun, hended, _, _, rfl, ⟨rfl, N0, e61⟩, ⟨_, rfl⟩, hW, hsame.mono (by decide) (by decide)⟩
set_option maxRecDepth 65536 in
set_option maxHeartbeats 40000000 in
theorem rm1_4 (l : Launch) (Z : State) (a0 : Array Value) (hw : ∀ d ∈ tables_1, d.before a0 Z = true) (ws : List Jvm.Cond) (w : Nat → Addr) (h0 : Heap) (n0 : Nat) (Z0 : n0 ≤ h0.size) (hP : Pins Z h0 w) (pa0 : Int32) (hp0 : ¬ ((1 : Int32) = pa0)) (hp1 : ¬ ((2 : Int32) = pa0)) (hp2 : ¬ ((3 : Int32) = pa0)) (hp3 : ¬ ((4 : Int32) = pa0)) (hp4 : (5 : Int32) = pa0) :
    MetFree l (⟨"com/example/stubwright/stubwright/ParameterType", "fromCode", "(I)Lcom/example/stubwright/stubwright/ParameterType;"⟩ : MethodName) (head1 (Jvm.Cond.code (⟨"com/example/stubwright/stubwright/ParameterType", "fromCode", "(I)Lcom/example/stubwright/stubwright/ParameterType;"⟩ : MethodName) prog_37_method_7_code 5 (some (.object "com/example/stubwright/stubwright/ParameterType")) :: ws) ({ frames := 2, cells := 1, slots := 6, locals := 25 } : Room)) (fun a U => a = #[(.int pa0)] ∧ Z.Warmed39 U.vm ∧ U.heap = h0) (fun _ _ _ _ _ => True) (fun _ U o U' => ∃ v L, o = .returned v ∧ Qx (some (.ref (w 5))) (fun h => True) h0 n0 v U'.heap L ∧ FrameEnd U o U' L ({ frames := 2, cells := 1, slots := 6, locals := 25 } : Room).cells ({ frames := 2, cells := 1, slots := 6, locals := 25 } : Room).slots) := by
  refine MetFree.of_bodySF (plainFor_of_name pn_0) hisR ?_
  intro p e s m args below meth c s₁ Bd hml0 hP0 hK
  obtain ⟨rfl, hZ, hh⟩ := hP0
  have hx := Bd.exec
  have hby := Bd.bytes
  have hml : c.maxLocals = 5 := hml0
  have hown : s.vm.findClass "com/example/stubwright/stubwright/ParameterType" = some m.cls := findClass_of_methodNamed Bd.named
  have hnm := (name_of_methodNamed Bd.named Bd.method).1
  have X0 : Stand p l e ({ frames := 2, cells := 1, slots := 6, locals := 25 } : Room) s m #[(.int pa0)] below meth c s₁ [] 0 0 := Stand.of_body Bd
  have e0 : s₁.heap = h0 := by rw [← hh, Bd.state]; rfl
  have N0 := Fr.nil n0
  suffices hgo : Go p e below (fun o U' => ∃ v L, o = .returned v ∧ Qx (some (.ref (w 5))) (fun h => True) h0 n0 v U'.heap L ∧ FrameEnd s o U' L ({ frames := 2, cells := 1, slots := 6, locals := 25 } : Room).cells ({ frames := 2, cells := 1, slots := 6, locals := 25 } : Room).slots) s₁ (mkF m 0 #[.val (.int pa0), .unset, .unset, .unset, .unset] []) by
    obtain ⟨s2, o, g1, g2, g3, g4⟩ := hgo
    refine ⟨s2, o, castTop (?_ : entryFrame m #[(.int pa0)] 5 = _) g1, g2, g3, g4⟩
    first | (simp [entryFrame, mkF, argsToLocals, Value.category]; done) | rfl
  obtain ⟨_, _, ⟨T64, L64, k64, n64⟩, -, X64, ⟨Lc64, hQ64, l64, y64, z64⟩, st64⟩ := Jvm.LawKit.callS X0 hx (y := (⟨"com/example/stubwright/stubwright/ParameterType", "values", "()[Lcom/example/stubwright/stubwright/ParameterType;"⟩ : MethodName)) hown (mvT hZ (hw _ (List.mem_of_getElem? (i := 4) rfl))) (mvT hZ (hw _ (List.mem_of_getElem? (i := 5) rfl))) (mvT hZ (hw _ (List.mem_of_getElem? (i := 2) rfl))) (mvT hZ (hw _ (List.mem_of_getElem? (i := 6) rfl))) (by decide) (backOf (W := 0) (rm2_0 l Z a0 hw [] w h0 n0 (Nat.le_trans Z0 (own_ext0 h0).1) hP) hZ (hw _ (List.mem_of_getElem? (i := 6) rfl)) (hw _ (List.mem_of_getElem? (i := 2) rfl)) (by decide) (by decide)) (g := (mkF m 0 #[.val (.int pa0), .unset, .unset, .unset, .unset] [])) rfl (by rw [hml]; rfl) (argsL := []) (rest := []) (lenOf pd_0 rfl) rfl (by show 2 * 0 + _ ≤ _; exact Nat.le_of_eq rfl) (hb hby d1_0) (fun _ _ => ⟨rfl, e0, (by decide : 0 + 1 ≤ _), (by decide : 0 + 6 ≤ _)⟩)
  dsimp only [Pt.U, Pt.locs, Pt.cells, Pt.slots] at X64 l64 y64 z64 st64 hQ64
  subst l64 y64 z64
  obtain ⟨rfl, N64q, x64, f64⟩ := hQ64
  have N64 := Fr.app N0 N64q
  have e64 : T64.heap = T64.heap := rfl
  have sz64 : h0.size ≤ h0.size := (own_ext0 h0).1
  have XT64 := own_ext2 (own_ext0 h0) x64
  obtain ⟨k64, A64⟩ := f64
  refine Go.on (T' := T64) (g' := (mkF m 3 #[.val (.int pa0), .unset, .unset, .unset, .unset] [(.ref (h0.size))])) st64 ?_
  refine Go.on (T' := T64) (g' := (mkF m 4 #[.val (.int pa0), .val (.ref (h0.size)), .unset, .unset, .unset] [])) (fun t k => XS.astoreN X64.here hx rfl (hb hby d1_3) rfl rfl (l' := #[.val (.int pa0), .val (.ref (h0.size)), .unset, .unset, .unset]) rfl k) ?_
  refine Go.on (T' := T64) (g' := (mkF m 5 #[.val (.int pa0), .val (.ref (h0.size)), .unset, .unset, .unset] [(.ref (h0.size))])) (fun t k => XS.aloadN X64.here hx rfl (hb hby d1_4) rfl rfl k) ?_
  refine Go.on (T' := T64) (g' := (mkF m 6 #[.val (.int pa0), .val (.ref (h0.size)), .unset, .unset, .unset] [(.int (6 : Int32))])) (fun t k => X64.arraylength hx (by rw [e64]; exact A64.1) (State.isArrayOf_alike hZ.alike A64.2.1) (g := (mkF m 5 #[.val (.int pa0), .val (.ref (h0.size)), .unset, .unset, .unset] [(.ref (h0.size))])) rfl rfl (hb hby d1_5) t k) ?_
  refine Go.on (T' := T64) (g' := (mkF m 7 #[.val (.int pa0), .val (.ref (h0.size)), .val (.int (6 : Int32)), .unset, .unset] [])) (fun t k => XS.istoreN X64.here hx rfl (hb hby d1_6) rfl (l' := #[.val (.int pa0), .val (.ref (h0.size)), .val (.int (6 : Int32)), .unset, .unset]) rfl k) ?_
  refine Go.on (T' := T64) (g' := (mkF m 8 #[.val (.int pa0), .val (.ref (h0.size)), .val (.int (6 : Int32)), .unset, .unset] [(.int (0 : Int32))])) (fun t k => XS.iconst X64.here hx rfl (hb hby d1_7) k) ?_
  refine Go.on (T' := T64) (g' := (mkF m 9 #[.val (.int pa0), .val (.ref (h0.size)), .val (.int (6 : Int32)), .val (.int (0 : Int32)), .unset] [])) (fun t k => XS.istoreN X64.here hx rfl (hb hby d1_8) rfl (l' := #[.val (.int pa0), .val (.ref (h0.size)), .val (.int (6 : Int32)), .val (.int (0 : Int32)), .unset]) rfl k) ?_
  refine Go.on (T' := T64) (g' := (mkF m 10 #[.val (.int pa0), .val (.ref (h0.size)), .val (.int (6 : Int32)), .val (.int (0 : Int32)), .unset] [(.int (0 : Int32))])) (fun t k => XS.iloadN X64.here hx rfl (hb hby d1_9) rfl k) ?_
  refine Go.on (T' := T64) (g' := (mkF m 11 #[.val (.int pa0), .val (.ref (h0.size)), .val (.int (6 : Int32)), .val (.int (0 : Int32)), .unset] [(.int (6 : Int32)), (.int (0 : Int32))])) (fun t k => XS.iloadN X64.here hx rfl (hb hby d1_10) rfl k) ?_
  refine Go.on (T' := T64) (g' := (mkF m 14 #[.val (.int pa0), .val (.ref (h0.size)), .val (.int (6 : Int32)), .val (.int (0 : Int32)), .unset] [])) (fun t k => XS.icmpNo X64.here hx rfl (hb hby d1_11) rfl (tlt (by decide : (0 : Int32) < (6 : Int32))).2.1 k) ?_
  refine Go.on (T' := T64) (g' := (mkF m 15 #[.val (.int pa0), .val (.ref (h0.size)), .val (.int (6 : Int32)), .val (.int (0 : Int32)), .unset] [(.ref (h0.size))])) (fun t k => XS.aloadN X64.here hx rfl (hb hby d1_14) rfl rfl k) ?_
  refine Go.on (T' := T64) (g' := (mkF m 16 #[.val (.int pa0), .val (.ref (h0.size)), .val (.int (6 : Int32)), .val (.int (0 : Int32)), .unset] [(.int (0 : Int32)), (.ref (h0.size))])) (fun t k => XS.iloadN X64.here hx rfl (hb hby d1_15) rfl k) ?_
  refine Go.on (T' := T64) (g' := (mkF m 17 #[.val (.int pa0), .val (.ref (h0.size)), .val (.int (6 : Int32)), .val (.int (0 : Int32)), .unset] [(.ref (w 1))])) (fun t k => X64.aaload hx (j := (0 : Int32)) (v := (.ref (w 1))) (by rw [e64]; exact A64.1) (State.isArrayOf_alike hZ.alike A64.2.1) rfl A64.2.2 (by show ¬ (_ ∨ (6 : Nat) ≤ _); decide) rfl (g := (mkF m 16 #[.val (.int pa0), .val (.ref (h0.size)), .val (.int (6 : Int32)), .val (.int (0 : Int32)), .unset] [(.int (0 : Int32)), (.ref (h0.size))])) rfl rfl (hb hby d1_16) t k) ?_
  refine Go.on (T' := T64) (g' := (mkF m 19 #[.val (.int pa0), .val (.ref (h0.size)), .val (.int (6 : Int32)), .val (.int (0 : Int32)), .val (.ref (w 1))] [])) (fun t k => XS.astore X64.here hx rfl (hb hby d1_17) rfl rfl (l' := #[.val (.int pa0), .val (.ref (h0.size)), .val (.int (6 : Int32)), .val (.int (0 : Int32)), .val (.ref (w 1))]) rfl k) ?_
  refine Go.on (T' := T64) (g' := (mkF m 21 #[.val (.int pa0), .val (.ref (h0.size)), .val (.int (6 : Int32)), .val (.int (0 : Int32)), .val (.ref (w 1))] [(.ref (w 1))])) (fun t k => XS.aload X64.here hx rfl (hb hby d1_19) rfl rfl k) ?_
  obtain ⟨T65, X65, e65, st65⟩ := getF X64 hx hZ hown (host := "") (Or.inl (hw _ (List.mem_of_getElem? (i := 19) rfl))) Via.refl e64 (pin_14 (pins_ext XT64 hP)) (g := (mkF m 21 #[.val (.int pa0), .val (.ref (h0.size)), .val (.int (6 : Int32)), .val (.int (0 : Int32)), .val (.ref (w 1))] [(.ref (w 1))])) rfl rfl (hb hby d1_21)
  refine Go.on (T' := T65) (g' := (mkF m 24 #[.val (.int pa0), .val (.ref (h0.size)), .val (.int (6 : Int32)), .val (.int (0 : Int32)), .val (.ref (w 1))] [(.int (1 : Int32))])) st65 ?_
  refine Go.on (T' := T65) (g' := (mkF m 25 #[.val (.int pa0), .val (.ref (h0.size)), .val (.int (6 : Int32)), .val (.int (0 : Int32)), .val (.ref (w 1))] [(.int pa0), (.int (1 : Int32))])) (fun t k => XS.iloadN X65.here hx rfl (hb hby d1_24) rfl k) ?_
  refine Go.on (T' := T65) (g' := (mkF m 31 #[.val (.int pa0), .val (.ref (h0.size)), .val (.int (6 : Int32)), .val (.int (0 : Int32)), .val (.ref (w 1))] [])) (fun t k => XS.icmpYes X65.here hx rfl (pc0 := 25) (pc' := 31) rfl (hb hby d1_25) rfl (feq hp0).2 (by decide) (by decide) k) ?_
  refine Go.on (T' := T65) (g' := (mkF m 34 #[.val (.int pa0), .val (.ref (h0.size)), .val (.int (6 : Int32)), .val (.int (1 : Int32)), .val (.ref (w 1))] [])) (fun t k => XS.iinc X65.here hx rfl (hb hby d1_31) rfl (l' := #[.val (.int pa0), .val (.ref (h0.size)), .val (.int (6 : Int32)), .val (.int (1 : Int32)), .val (.ref (w 1))]) rfl k) ?_
  refine Go.on (T' := T65) (g' := (mkF m 9 #[.val (.int pa0), .val (.ref (h0.size)), .val (.int (6 : Int32)), .val (.int (1 : Int32)), .val (.ref (w 1))] [])) (fun t k => XS.goto X65.here hx rfl (pc0 := 34) (pc' := 9) rfl (hb hby d1_34) (by decide) (by decide) k) ?_
  refine Go.on (T' := T65) (g' := (mkF m 10 #[.val (.int pa0), .val (.ref (h0.size)), .val (.int (6 : Int32)), .val (.int (1 : Int32)), .val (.ref (w 1))] [(.int (1 : Int32))])) (fun t k => XS.iloadN X65.here hx rfl (hb hby d1_9) rfl k) ?_
  refine Go.on (T' := T65) (g' := (mkF m 11 #[.val (.int pa0), .val (.ref (h0.size)), .val (.int (6 : Int32)), .val (.int (1 : Int32)), .val (.ref (w 1))] [(.int (6 : Int32)), (.int (1 : Int32))])) (fun t k => XS.iloadN X65.here hx rfl (hb hby d1_10) rfl k) ?_
  refine Go.on (T' := T65) (g' := (mkF m 14 #[.val (.int pa0), .val (.ref (h0.size)), .val (.int (6 : Int32)), .val (.int (1 : Int32)), .val (.ref (w 1))] [])) (fun t k => XS.icmpNo X65.here hx rfl (hb hby d1_11) rfl (tlt (by decide : (1 : Int32) < (6 : Int32))).2.1 k) ?_
  refine Go.on (T' := T65) (g' := (mkF m 15 #[.val (.int pa0), .val (.ref (h0.size)), .val (.int (6 : Int32)), .val (.int (1 : Int32)), .val (.ref (w 1))] [(.ref (h0.size))])) (fun t k => XS.aloadN X65.here hx rfl (hb hby d1_14) rfl rfl k) ?_
  refine Go.on (T' := T65) (g' := (mkF m 16 #[.val (.int pa0), .val (.ref (h0.size)), .val (.int (6 : Int32)), .val (.int (1 : Int32)), .val (.ref (w 1))] [(.int (1 : Int32)), (.ref (h0.size))])) (fun t k => XS.iloadN X65.here hx rfl (hb hby d1_15) rfl k) ?_
  refine Go.on (T' := T65) (g' := (mkF m 17 #[.val (.int pa0), .val (.ref (h0.size)), .val (.int (6 : Int32)), .val (.int (1 : Int32)), .val (.ref (w 1))] [(.ref (w 2))])) (fun t k => X65.aaload hx (j := (1 : Int32)) (v := (.ref (w 2))) (by rw [e65]; exact A64.1) (State.isArrayOf_alike hZ.alike A64.2.1) rfl A64.2.2 (by show ¬ (_ ∨ (6 : Nat) ≤ _); decide) rfl (g := (mkF m 16 #[.val (.int pa0), .val (.ref (h0.size)), .val (.int (6 : Int32)), .val (.int (1 : Int32)), .val (.ref (w 1))] [(.int (1 : Int32)), (.ref (h0.size))])) rfl rfl (hb hby d1_16) t k) ?_
  refine Go.on (T' := T65) (g' := (mkF m 19 #[.val (.int pa0), .val (.ref (h0.size)), .val (.int (6 : Int32)), .val (.int (1 : Int32)), .val (.ref (w 2))] [])) (fun t k => XS.astore X65.here hx rfl (hb hby d1_17) rfl rfl (l' := #[.val (.int pa0), .val (.ref (h0.size)), .val (.int (6 : Int32)), .val (.int (1 : Int32)), .val (.ref (w 2))]) rfl k) ?_
  refine Go.on (T' := T65) (g' := (mkF m 21 #[.val (.int pa0), .val (.ref (h0.size)), .val (.int (6 : Int32)), .val (.int (1 : Int32)), .val (.ref (w 2))] [(.ref (w 2))])) (fun t k => XS.aload X65.here hx rfl (hb hby d1_19) rfl rfl k) ?_
  obtain ⟨T66, X66, e66, st66⟩ := getF X65 hx hZ hown (host := "") (Or.inl (hw _ (List.mem_of_getElem? (i := 19) rfl))) Via.refl e65 (pin_15 (pins_ext XT64 hP)) (g := (mkF m 21 #[.val (.int pa0), .val (.ref (h0.size)), .val (.int (6 : Int32)), .val (.int (1 : Int32)), .val (.ref (w 2))] [(.ref (w 2))])) rfl rfl (hb hby d1_21)
  refine Go.on (T' := T66) (g' := (mkF m 24 #[.val (.int pa0), .val (.ref (h0.size)), .val (.int (6 : Int32)), .val (.int (1 : Int32)), .val (.ref (w 2))] [(.int (2 : Int32))])) st66 ?_
  refine Go.on (T' := T66) (g' := (mkF m 25 #[.val (.int pa0), .val (.ref (h0.size)), .val (.int (6 : Int32)), .val (.int (1 : Int32)), .val (.ref (w 2))] [(.int pa0), (.int (2 : Int32))])) (fun t k => XS.iloadN X66.here hx rfl (hb hby d1_24) rfl k) ?_
  refine Go.on (T' := T66) (g' := (mkF m 31 #[.val (.int pa0), .val (.ref (h0.size)), .val (.int (6 : Int32)), .val (.int (1 : Int32)), .val (.ref (w 2))] [])) (fun t k => XS.icmpYes X66.here hx rfl (pc0 := 25) (pc' := 31) rfl (hb hby d1_25) rfl (feq hp1).2 (by decide) (by decide) k) ?_
  refine Go.on (T' := T66) (g' := (mkF m 34 #[.val (.int pa0), .val (.ref (h0.size)), .val (.int (6 : Int32)), .val (.int (2 : Int32)), .val (.ref (w 2))] [])) (fun t k => XS.iinc X66.here hx rfl (hb hby d1_31) rfl (l' := #[.val (.int pa0), .val (.ref (h0.size)), .val (.int (6 : Int32)), .val (.int (2 : Int32)), .val (.ref (w 2))]) rfl k) ?_
  refine Go.on (T' := T66) (g' := (mkF m 9 #[.val (.int pa0), .val (.ref (h0.size)), .val (.int (6 : Int32)), .val (.int (2 : Int32)), .val (.ref (w 2))] [])) (fun t k => XS.goto X66.here hx rfl (pc0 := 34) (pc' := 9) rfl (hb hby d1_34) (by decide) (by decide) k) ?_
  refine Go.on (T' := T66) (g' := (mkF m 10 #[.val (.int pa0), .val (.ref (h0.size)), .val (.int (6 : Int32)), .val (.int (2 : Int32)), .val (.ref (w 2))] [(.int (2 : Int32))])) (fun t k => XS.iloadN X66.here hx rfl (hb hby d1_9) rfl k) ?_
  refine Go.on (T' := T66) (g' := (mkF m 11 #[.val (.int pa0), .val (.ref (h0.size)), .val (.int (6 : Int32)), .val (.int (2 : Int32)), .val (.ref (w 2))] [(.int (6 : Int32)), (.int (2 : Int32))])) (fun t k => XS.iloadN X66.here hx rfl (hb hby d1_10) rfl k) ?_
  refine Go.on (T' := T66) (g' := (mkF m 14 #[.val (.int pa0), .val (.ref (h0.size)), .val (.int (6 : Int32)), .val (.int (2 : Int32)), .val (.ref (w 2))] [])) (fun t k => XS.icmpNo X66.here hx rfl (hb hby d1_11) rfl (tlt (by decide : (2 : Int32) < (6 : Int32))).2.1 k) ?_
  refine Go.on (T' := T66) (g' := (mkF m 15 #[.val (.int pa0), .val (.ref (h0.size)), .val (.int (6 : Int32)), .val (.int (2 : Int32)), .val (.ref (w 2))] [(.ref (h0.size))])) (fun t k => XS.aloadN X66.here hx rfl (hb hby d1_14) rfl rfl k) ?_
  refine Go.on (T' := T66) (g' := (mkF m 16 #[.val (.int pa0), .val (.ref (h0.size)), .val (.int (6 : Int32)), .val (.int (2 : Int32)), .val (.ref (w 2))] [(.int (2 : Int32)), (.ref (h0.size))])) (fun t k => XS.iloadN X66.here hx rfl (hb hby d1_15) rfl k) ?_
  refine Go.on (T' := T66) (g' := (mkF m 17 #[.val (.int pa0), .val (.ref (h0.size)), .val (.int (6 : Int32)), .val (.int (2 : Int32)), .val (.ref (w 2))] [(.ref (w 3))])) (fun t k => X66.aaload hx (j := (2 : Int32)) (v := (.ref (w 3))) (by rw [e66]; exact A64.1) (State.isArrayOf_alike hZ.alike A64.2.1) rfl A64.2.2 (by show ¬ (_ ∨ (6 : Nat) ≤ _); decide) rfl (g := (mkF m 16 #[.val (.int pa0), .val (.ref (h0.size)), .val (.int (6 : Int32)), .val (.int (2 : Int32)), .val (.ref (w 2))] [(.int (2 : Int32)), (.ref (h0.size))])) rfl rfl (hb hby d1_16) t k) ?_
  refine Go.on (T' := T66) (g' := (mkF m 19 #[.val (.int pa0), .val (.ref (h0.size)), .val (.int (6 : Int32)), .val (.int (2 : Int32)), .val (.ref (w 3))] [])) (fun t k => XS.astore X66.here hx rfl (hb hby d1_17) rfl rfl (l' := #[.val (.int pa0), .val (.ref (h0.size)), .val (.int (6 : Int32)), .val (.int (2 : Int32)), .val (.ref (w 3))]) rfl k) ?_
  refine Go.on (T' := T66) (g' := (mkF m 21 #[.val (.int pa0), .val (.ref (h0.size)), .val (.int (6 : Int32)), .val (.int (2 : Int32)), .val (.ref (w 3))] [(.ref (w 3))])) (fun t k => XS.aload X66.here hx rfl (hb hby d1_19) rfl rfl k) ?_
  obtain ⟨T67, X67, e67, st67⟩ := getF X66 hx hZ hown (host := "") (Or.inl (hw _ (List.mem_of_getElem? (i := 19) rfl))) Via.refl e66 (pin_16 (pins_ext XT64 hP)) (g := (mkF m 21 #[.val (.int pa0), .val (.ref (h0.size)), .val (.int (6 : Int32)), .val (.int (2 : Int32)), .val (.ref (w 3))] [(.ref (w 3))])) rfl rfl (hb hby d1_21)
  refine Go.on (T' := T67) (g' := (mkF m 24 #[.val (.int pa0), .val (.ref (h0.size)), .val (.int (6 : Int32)), .val (.int (2 : Int32)), .val (.ref (w 3))] [(.int (3 : Int32))])) st67 ?_
  refine Go.on (T' := T67) (g' := (mkF m 25 #[.val (.int pa0), .val (.ref (h0.size)), .val (.int (6 : Int32)), .val (.int (2 : Int32)), .val (.ref (w 3))] [(.int pa0), (.int (3 : Int32))])) (fun t k => XS.iloadN X67.here hx rfl (hb hby d1_24) rfl k) ?_
  refine Go.on (T' := T67) (g' := (mkF m 31 #[.val (.int pa0), .val (.ref (h0.size)), .val (.int (6 : Int32)), .val (.int (2 : Int32)), .val (.ref (w 3))] [])) (fun t k => XS.icmpYes X67.here hx rfl (pc0 := 25) (pc' := 31) rfl (hb hby d1_25) rfl (feq hp2).2 (by decide) (by decide) k) ?_
  refine Go.on (T' := T67) (g' := (mkF m 34 #[.val (.int pa0), .val (.ref (h0.size)), .val (.int (6 : Int32)), .val (.int (3 : Int32)), .val (.ref (w 3))] [])) (fun t k => XS.iinc X67.here hx rfl (hb hby d1_31) rfl (l' := #[.val (.int pa0), .val (.ref (h0.size)), .val (.int (6 : Int32)), .val (.int (3 : Int32)), .val (.ref (w 3))]) rfl k) ?_
  refine Go.on (T' := T67) (g' := (mkF m 9 #[.val (.int pa0), .val (.ref (h0.size)), .val (.int (6 : Int32)), .val (.int (3 : Int32)), .val (.ref (w 3))] [])) (fun t k => XS.goto X67.here hx rfl (pc0 := 34) (pc' := 9) rfl (hb hby d1_34) (by decide) (by decide) k) ?_
  refine Go.on (T' := T67) (g' := (mkF m 10 #[.val (.int pa0), .val (.ref (h0.size)), .val (.int (6 : Int32)), .val (.int (3 : Int32)), .val (.ref (w 3))] [(.int (3 : Int32))])) (fun t k => XS.iloadN X67.here hx rfl (hb hby d1_9) rfl k) ?_
  refine Go.on (T' := T67) (g' := (mkF m 11 #[.val (.int pa0), .val (.ref (h0.size)), .val (.int (6 : Int32)), .val (.int (3 : Int32)), .val (.ref (w 3))] [(.int (6 : Int32)), (.int (3 : Int32))])) (fun t k => XS.iloadN X67.here hx rfl (hb hby d1_10) rfl k) ?_
  refine Go.on (T' := T67) (g' := (mkF m 14 #[.val (.int pa0), .val (.ref (h0.size)), .val (.int (6 : Int32)), .val (.int (3 : Int32)), .val (.ref (w 3))] [])) (fun t k => XS.icmpNo X67.here hx rfl (hb hby d1_11) rfl (tlt (by decide : (3 : Int32) < (6 : Int32))).2.1 k) ?_
  refine Go.on (T' := T67) (g' := (mkF m 15 #[.val (.int pa0), .val (.ref (h0.size)), .val (.int (6 : Int32)), .val (.int (3 : Int32)), .val (.ref (w 3))] [(.ref (h0.size))])) (fun t k => XS.aloadN X67.here hx rfl (hb hby d1_14) rfl rfl k) ?_
  refine Go.on (T' := T67) (g' := (mkF m 16 #[.val (.int pa0), .val (.ref (h0.size)), .val (.int (6 : Int32)), .val (.int (3 : Int32)), .val (.ref (w 3))] [(.int (3 : Int32)), (.ref (h0.size))])) (fun t k => XS.iloadN X67.here hx rfl (hb hby d1_15) rfl k) ?_
  refine Go.on (T' := T67) (g' := (mkF m 17 #[.val (.int pa0), .val (.ref (h0.size)), .val (.int (6 : Int32)), .val (.int (3 : Int32)), .val (.ref (w 3))] [(.ref (w 4))])) (fun t k => X67.aaload hx (j := (3 : Int32)) (v := (.ref (w 4))) (by rw [e67]; exact A64.1) (State.isArrayOf_alike hZ.alike A64.2.1) rfl A64.2.2 (by show ¬ (_ ∨ (6 : Nat) ≤ _); decide) rfl (g := (mkF m 16 #[.val (.int pa0), .val (.ref (h0.size)), .val (.int (6 : Int32)), .val (.int (3 : Int32)), .val (.ref (w 3))] [(.int (3 : Int32)), (.ref (h0.size))])) rfl rfl (hb hby d1_16) t k) ?_
  refine Go.on (T' := T67) (g' := (mkF m 19 #[.val (.int pa0), .val (.ref (h0.size)), .val (.int (6 : Int32)), .val (.int (3 : Int32)), .val (.ref (w 4))] [])) (fun t k => XS.astore X67.here hx rfl (hb hby d1_17) rfl rfl (l' := #[.val (.int pa0), .val (.ref (h0.size)), .val (.int (6 : Int32)), .val (.int (3 : Int32)), .val (.ref (w 4))]) rfl k) ?_
  refine Go.on (T' := T67) (g' := (mkF m 21 #[.val (.int pa0), .val (.ref (h0.size)), .val (.int (6 : Int32)), .val (.int (3 : Int32)), .val (.ref (w 4))] [(.ref (w 4))])) (fun t k => XS.aload X67.here hx rfl (hb hby d1_19) rfl rfl k) ?_
  obtain ⟨T68, X68, e68, st68⟩ := getF X67 hx hZ hown (host := "") (Or.inl (hw _ (List.mem_of_getElem? (i := 19) rfl))) Via.refl e67 (pin_17 (pins_ext XT64 hP)) (g := (mkF m 21 #[.val (.int pa0), .val (.ref (h0.size)), .val (.int (6 : Int32)), .val (.int (3 : Int32)), .val (.ref (w 4))] [(.ref (w 4))])) rfl rfl (hb hby d1_21)
  refine Go.on (T' := T68) (g' := (mkF m 24 #[.val (.int pa0), .val (.ref (h0.size)), .val (.int (6 : Int32)), .val (.int (3 : Int32)), .val (.ref (w 4))] [(.int (4 : Int32))])) st68 ?_
  refine Go.on (T' := T68) (g' := (mkF m 25 #[.val (.int pa0), .val (.ref (h0.size)), .val (.int (6 : Int32)), .val (.int (3 : Int32)), .val (.ref (w 4))] [(.int pa0), (.int (4 : Int32))])) (fun t k => XS.iloadN X68.here hx rfl (hb hby d1_24) rfl k) ?_
  refine Go.on (T' := T68) (g' := (mkF m 31 #[.val (.int pa0), .val (.ref (h0.size)), .val (.int (6 : Int32)), .val (.int (3 : Int32)), .val (.ref (w 4))] [])) (fun t k => XS.icmpYes X68.here hx rfl (pc0 := 25) (pc' := 31) rfl (hb hby d1_25) rfl (feq hp3).2 (by decide) (by decide) k) ?_
  refine Go.on (T' := T68) (g' := (mkF m 34 #[.val (.int pa0), .val (.ref (h0.size)), .val (.int (6 : Int32)), .val (.int (4 : Int32)), .val (.ref (w 4))] [])) (fun t k => XS.iinc X68.here hx rfl (hb hby d1_31) rfl (l' := #[.val (.int pa0), .val (.ref (h0.size)), .val (.int (6 : Int32)), .val (.int (4 : Int32)), .val (.ref (w 4))]) rfl k) ?_
  refine Go.on (T' := T68) (g' := (mkF m 9 #[.val (.int pa0), .val (.ref (h0.size)), .val (.int (6 : Int32)), .val (.int (4 : Int32)), .val (.ref (w 4))] [])) (fun t k => XS.goto X68.here hx rfl (pc0 := 34) (pc' := 9) rfl (hb hby d1_34) (by decide) (by decide) k) ?_
  refine Go.on (T' := T68) (g' := (mkF m 10 #[.val (.int pa0), .val (.ref (h0.size)), .val (.int (6 : Int32)), .val (.int (4 : Int32)), .val (.ref (w 4))] [(.int (4 : Int32))])) (fun t k => XS.iloadN X68.here hx rfl (hb hby d1_9) rfl k) ?_
  refine Go.on (T' := T68) (g' := (mkF m 11 #[.val (.int pa0), .val (.ref (h0.size)), .val (.int (6 : Int32)), .val (.int (4 : Int32)), .val (.ref (w 4))] [(.int (6 : Int32)), (.int (4 : Int32))])) (fun t k => XS.iloadN X68.here hx rfl (hb hby d1_10) rfl k) ?_
  refine Go.on (T' := T68) (g' := (mkF m 14 #[.val (.int pa0), .val (.ref (h0.size)), .val (.int (6 : Int32)), .val (.int (4 : Int32)), .val (.ref (w 4))] [])) (fun t k => XS.icmpNo X68.here hx rfl (hb hby d1_11) rfl (tlt (by decide : (4 : Int32) < (6 : Int32))).2.1 k) ?_
  refine Go.on (T' := T68) (g' := (mkF m 15 #[.val (.int pa0), .val (.ref (h0.size)), .val (.int (6 : Int32)), .val (.int (4 : Int32)), .val (.ref (w 4))] [(.ref (h0.size))])) (fun t k => XS.aloadN X68.here hx rfl (hb hby d1_14) rfl rfl k) ?_
  refine Go.on (T' := T68) (g' := (mkF m 16 #[.val (.int pa0), .val (.ref (h0.size)), .val (.int (6 : Int32)), .val (.int (4 : Int32)), .val (.ref (w 4))] [(.int (4 : Int32)), (.ref (h0.size))])) (fun t k => XS.iloadN X68.here hx rfl (hb hby d1_15) rfl k) ?_
  refine Go.on (T' := T68) (g' := (mkF m 17 #[.val (.int pa0), .val (.ref (h0.size)), .val (.int (6 : Int32)), .val (.int (4 : Int32)), .val (.ref (w 4))] [(.ref (w 5))])) (fun t k => X68.aaload hx (j := (4 : Int32)) (v := (.ref (w 5))) (by rw [e68]; exact A64.1) (State.isArrayOf_alike hZ.alike A64.2.1) rfl A64.2.2 (by show ¬ (_ ∨ (6 : Nat) ≤ _); decide) rfl (g := (mkF m 16 #[.val (.int pa0), .val (.ref (h0.size)), .val (.int (6 : Int32)), .val (.int (4 : Int32)), .val (.ref (w 4))] [(.int (4 : Int32)), (.ref (h0.size))])) rfl rfl (hb hby d1_16) t k) ?_
  refine Go.on (T' := T68) (g' := (mkF m 19 #[.val (.int pa0), .val (.ref (h0.size)), .val (.int (6 : Int32)), .val (.int (4 : Int32)), .val (.ref (w 5))] [])) (fun t k => XS.astore X68.here hx rfl (hb hby d1_17) rfl rfl (l' := #[.val (.int pa0), .val (.ref (h0.size)), .val (.int (6 : Int32)), .val (.int (4 : Int32)), .val (.ref (w 5))]) rfl k) ?_
  refine Go.on (T' := T68) (g' := (mkF m 21 #[.val (.int pa0), .val (.ref (h0.size)), .val (.int (6 : Int32)), .val (.int (4 : Int32)), .val (.ref (w 5))] [(.ref (w 5))])) (fun t k => XS.aload X68.here hx rfl (hb hby d1_19) rfl rfl k) ?_
  obtain ⟨T69, X69, e69, st69⟩ := getF X68 hx hZ hown (host := "") (Or.inl (hw _ (List.mem_of_getElem? (i := 19) rfl))) Via.refl e68 (pin_18 (pins_ext XT64 hP)) (g := (mkF m 21 #[.val (.int pa0), .val (.ref (h0.size)), .val (.int (6 : Int32)), .val (.int (4 : Int32)), .val (.ref (w 5))] [(.ref (w 5))])) rfl rfl (hb hby d1_21)
  refine Go.on (T' := T69) (g' := (mkF m 24 #[.val (.int pa0), .val (.ref (h0.size)), .val (.int (6 : Int32)), .val (.int (4 : Int32)), .val (.ref (w 5))] [(.int (5 : Int32))])) st69 ?_
  refine Go.on (T' := T69) (g' := (mkF m 25 #[.val (.int pa0), .val (.ref (h0.size)), .val (.int (6 : Int32)), .val (.int (4 : Int32)), .val (.ref (w 5))] [(.int pa0), (.int (5 : Int32))])) (fun t k => XS.iloadN X69.here hx rfl (hb hby d1_24) rfl k) ?_
  refine Go.on (T' := T69) (g' := (mkF m 28 #[.val (.int pa0), .val (.ref (h0.size)), .val (.int (6 : Int32)), .val (.int (4 : Int32)), .val (.ref (w 5))] [])) (fun t k => XS.icmpNo X69.here hx rfl (hb hby d1_25) rfl (teq hp4).2 k) ?_
  refine Go.on (T' := T69) (g' := (mkF m 30 #[.val (.int pa0), .val (.ref (h0.size)), .val (.int (6 : Int32)), .val (.int (4 : Int32)), .val (.ref (w 5))] [(.ref (w 5))])) (fun t k => XS.aload X69.here hx rfl (hb hby d1_28) rfl rfl k) ?_
  obtain ⟨fs, hr, hrun, hended, hW, hsame⟩ := X69.leave (v := some (.ref (w 5))) (fun h => by rw [Bd.returns] at h; cases h)
  exact ⟨_, _, retOut X69 hx Bd.returns rfl (Or.inr (Or.inr (Or.inr (Or.inr ⟨rfl, rfl, rfl⟩)))) (hb hby d1_30) hr, hrun, hended, _, _, rfl, ⟨rfl, N64, own_extE e69 XT64, trivial⟩, ⟨_, rfl⟩, hW, hsame.mono (by decide) (by decide)⟩
theorem d3_36 : decode method_2_code 36 = .ok (.iload_n 0, 1) := by decide +kernel
theorem d3_37 : decode method_2_code 37 = .ok (.iconst 5, 1) := by decide +kernel
theorem d3_38 : decode method_2_code 38 = .ok (.if_icmp .ne 7, 3) := by decide +kernel
theorem d3_41 : decode method_2_code 41 = .ok (.getstatic 22, 3) := by decide +kernel
theorem d3_44 : decode method_2_code 44 = .ok (.areturn, 1) := by decide +kernel
set_option maxRecDepth 65536 in
set_option maxHeartbeats 40000000 in
theorem rm3_4 (l : Launch) (Z : State) (a0 : Array Value) (hw : ∀ d ∈ tables_1, d.before a0 Z = true) (ws : List Jvm.Cond) (w : Nat → Addr) (h0 : Heap) (n0 : Nat) (Z0 : n0 ≤ h0.size) (hP : Pins Z h0 w) (pa0 : Int32) (hp0 : ¬ (pa0 = (1 : Int32))) (hp1 : ¬ (pa0 = (2 : Int32))) (hp2 : ¬ (pa0 = (3 : Int32))) (hp3 : ¬ (pa0 = (4 : Int32))) (hp4 : pa0 = (5 : Int32)) :
    MetFree l (⟨"com/example/stubwright/stubwright/ParameterTypeFromCodePinLaw", "expected", "(I)Lcom/example/stubwright/stubwright/ParameterType;"⟩ : MethodName) (head1 (Jvm.Cond.code (⟨"com/example/stubwright/stubwright/ParameterTypeFromCodePinLaw", "expected", "(I)Lcom/example/stubwright/stubwright/ParameterType;"⟩ : MethodName) method_2_code 1 (some (.object "com/example/stubwright/stubwright/ParameterType")) :: ws) ({ frames := 0, cells := 0, slots := 0, locals := 0 } : Room)) (fun a U => a = #[(.int pa0)] ∧ Z.Warmed39 U.vm ∧ U.heap = h0) (fun _ _ _ _ _ => True) (fun _ U o U' => ∃ v L, o = .returned v ∧ Qp (some (.ref (w 5))) h0 n0 v U'.heap L ∧ FrameEnd U o U' L ({ frames := 0, cells := 0, slots := 0, locals := 0 } : Room).cells ({ frames := 0, cells := 0, slots := 0, locals := 0 } : Room).slots) := by
  refine MetFree.of_bodySF (plainFor_of_name pn_1) hisR ?_
  intro p e s m args below meth c s₁ Bd hml0 hP0 hK
  obtain ⟨rfl, hZ, hh⟩ := hP0
  have hx := Bd.exec
  have hby := Bd.bytes
  have hml : c.maxLocals = 1 := hml0
  have hown : s.vm.findClass "com/example/stubwright/stubwright/ParameterTypeFromCodePinLaw" = some m.cls := findClass_of_methodNamed Bd.named
  have hnm := (name_of_methodNamed Bd.named Bd.method).1
  have X0 : Stand p l e ({ frames := 0, cells := 0, slots := 0, locals := 0 } : Room) s m #[(.int pa0)] below meth c s₁ [] 0 0 := Stand.of_body Bd
  have e0 : s₁.heap = h0 := by rw [← hh, Bd.state]; rfl
  have N0 := Fr.nil n0
  suffices hgo : Go p e below (fun o U' => ∃ v L, o = .returned v ∧ Qp (some (.ref (w 5))) h0 n0 v U'.heap L ∧ FrameEnd s o U' L ({ frames := 0, cells := 0, slots := 0, locals := 0 } : Room).cells ({ frames := 0, cells := 0, slots := 0, locals := 0 } : Room).slots) s₁ (mkF m 0 #[.val (.int pa0)] []) by
    obtain ⟨s2, o, g1, g2, g3, g4⟩ := hgo
    refine ⟨s2, o, castTop (?_ : entryFrame m #[(.int pa0)] 1 = _) g1, g2, g3, g4⟩
    first | (simp [entryFrame, mkF, argsToLocals, Value.category]; done) | rfl
  refine Go.on (T' := s₁) (g' := (mkF m 1 #[.val (.int pa0)] [(.int pa0)])) (fun t k => XS.iloadN X0.here hx rfl (hb hby d3_0) rfl k) ?_
  refine Go.on (T' := s₁) (g' := (mkF m 2 #[.val (.int pa0)] [(.int (1 : Int32)), (.int pa0)])) (fun t k => XS.iconst X0.here hx rfl (hb hby d3_1) k) ?_
  refine Go.on (T' := s₁) (g' := (mkF m 9 #[.val (.int pa0)] [])) (fun t k => XS.icmpYes X0.here hx rfl (pc0 := 2) (pc' := 9) rfl (hb hby d3_2) rfl (feq hp0).2 (by decide) (by decide) k) ?_
  refine Go.on (T' := s₁) (g' := (mkF m 10 #[.val (.int pa0)] [(.int pa0)])) (fun t k => XS.iloadN X0.here hx rfl (hb hby d3_9) rfl k) ?_
  refine Go.on (T' := s₁) (g' := (mkF m 11 #[.val (.int pa0)] [(.int (2 : Int32)), (.int pa0)])) (fun t k => XS.iconst X0.here hx rfl (hb hby d3_10) k) ?_
  refine Go.on (T' := s₁) (g' := (mkF m 18 #[.val (.int pa0)] [])) (fun t k => XS.icmpYes X0.here hx rfl (pc0 := 11) (pc' := 18) rfl (hb hby d3_11) rfl (feq hp1).2 (by decide) (by decide) k) ?_
  refine Go.on (T' := s₁) (g' := (mkF m 19 #[.val (.int pa0)] [(.int pa0)])) (fun t k => XS.iloadN X0.here hx rfl (hb hby d3_18) rfl k) ?_
  refine Go.on (T' := s₁) (g' := (mkF m 20 #[.val (.int pa0)] [(.int (3 : Int32)), (.int pa0)])) (fun t k => XS.iconst X0.here hx rfl (hb hby d3_19) k) ?_
  refine Go.on (T' := s₁) (g' := (mkF m 27 #[.val (.int pa0)] [])) (fun t k => XS.icmpYes X0.here hx rfl (pc0 := 20) (pc' := 27) rfl (hb hby d3_20) rfl (feq hp2).2 (by decide) (by decide) k) ?_
  refine Go.on (T' := s₁) (g' := (mkF m 28 #[.val (.int pa0)] [(.int pa0)])) (fun t k => XS.iloadN X0.here hx rfl (hb hby d3_27) rfl k) ?_
  refine Go.on (T' := s₁) (g' := (mkF m 29 #[.val (.int pa0)] [(.int (4 : Int32)), (.int pa0)])) (fun t k => XS.iconst X0.here hx rfl (hb hby d3_28) k) ?_
  refine Go.on (T' := s₁) (g' := (mkF m 36 #[.val (.int pa0)] [])) (fun t k => XS.icmpYes X0.here hx rfl (pc0 := 29) (pc' := 36) rfl (hb hby d3_29) rfl (feq hp3).2 (by decide) (by decide) k) ?_
  refine Go.on (T' := s₁) (g' := (mkF m 37 #[.val (.int pa0)] [(.int pa0)])) (fun t k => XS.iloadN X0.here hx rfl (hb hby d3_36) rfl k) ?_
  refine Go.on (T' := s₁) (g' := (mkF m 38 #[.val (.int pa0)] [(.int (5 : Int32)), (.int pa0)])) (fun t k => XS.iconst X0.here hx rfl (hb hby d3_37) k) ?_
  refine Go.on (T' := s₁) (g' := (mkF m 41 #[.val (.int pa0)] [])) (fun t k => XS.icmpNo X0.here hx rfl (hb hby d3_38) rfl (teq hp4).2 k) ?_
  obtain ⟨T71, X71, e71, st71⟩ := getS2 X0 hx hZ hown (host := "") (Or.inl (hw _ (List.mem_of_getElem? (i := 38) rfl))) Via.refl e0 (pin_5 hP) (g := (mkF m 41 #[.val (.int pa0)] [])) rfl (hb hby d3_41)
  refine Go.on (T' := T71) (g' := (mkF m 44 #[.val (.int pa0)] [(.ref (w 5))])) st71 ?_
  obtain ⟨fs, hr, hrun, hended, hW, hsame⟩ := X71.leave (v := some (.ref (w 5))) (fun h => by rw [Bd.returns] at h; cases h)
  exact ⟨_, _, retOut X71 hx Bd.returns rfl (Or.inr (Or.inr (Or.inr (Or.inr ⟨rfl, rfl, rfl⟩)))) (hb hby d3_44) hr, hrun, hended, _, _, rfl, ⟨rfl, N0, e71⟩, ⟨_, rfl⟩, hW, hsame.mono (by decide) (by decide)⟩
set_option maxRecDepth 65536 in
set_option maxHeartbeats 40000000 in
theorem rm1_5 (l : Launch) (Z : State) (a0 : Array Value) (hw : ∀ d ∈ tables_1, d.before a0 Z = true) (ws : List Jvm.Cond) (w : Nat → Addr) (h0 : Heap) (n0 : Nat) (Z0 : n0 ≤ h0.size) (hP : Pins Z h0 w) (pa0 : Int32) (hp0 : ¬ ((1 : Int32) = pa0)) (hp1 : ¬ ((2 : Int32) = pa0)) (hp2 : ¬ ((3 : Int32) = pa0)) (hp3 : ¬ ((4 : Int32) = pa0)) (hp4 : ¬ ((5 : Int32) = pa0)) (hp5 : (6 : Int32) = pa0) :
    MetFree l (⟨"com/example/stubwright/stubwright/ParameterType", "fromCode", "(I)Lcom/example/stubwright/stubwright/ParameterType;"⟩ : MethodName) (head1 (Jvm.Cond.code (⟨"com/example/stubwright/stubwright/ParameterType", "fromCode", "(I)Lcom/example/stubwright/stubwright/ParameterType;"⟩ : MethodName) prog_37_method_7_code 5 (some (.object "com/example/stubwright/stubwright/ParameterType")) :: ws) ({ frames := 2, cells := 1, slots := 6, locals := 25 } : Room)) (fun a U => a = #[(.int pa0)] ∧ Z.Warmed39 U.vm ∧ U.heap = h0) (fun _ _ _ _ _ => True) (fun _ U o U' => ∃ v L, o = .returned v ∧ Qx (some (.ref (w 6))) (fun h => True) h0 n0 v U'.heap L ∧ FrameEnd U o U' L ({ frames := 2, cells := 1, slots := 6, locals := 25 } : Room).cells ({ frames := 2, cells := 1, slots := 6, locals := 25 } : Room).slots) := by
  refine MetFree.of_bodySF (plainFor_of_name pn_0) hisR ?_
  intro p e s m args below meth c s₁ Bd hml0 hP0 hK
  obtain ⟨rfl, hZ, hh⟩ := hP0
  have hx := Bd.exec
  have hby := Bd.bytes
  have hml : c.maxLocals = 5 := hml0
  have hown : s.vm.findClass "com/example/stubwright/stubwright/ParameterType" = some m.cls := findClass_of_methodNamed Bd.named
  have hnm := (name_of_methodNamed Bd.named Bd.method).1
  have X0 : Stand p l e ({ frames := 2, cells := 1, slots := 6, locals := 25 } : Room) s m #[(.int pa0)] below meth c s₁ [] 0 0 := Stand.of_body Bd
  have e0 : s₁.heap = h0 := by rw [← hh, Bd.state]; rfl
  have N0 := Fr.nil n0
  suffices hgo : Go p e below (fun o U' => ∃ v L, o = .returned v ∧ Qx (some (.ref (w 6))) (fun h => True) h0 n0 v U'.heap L ∧ FrameEnd s o U' L ({ frames := 2, cells := 1, slots := 6, locals := 25 } : Room).cells ({ frames := 2, cells := 1, slots := 6, locals := 25 } : Room).slots) s₁ (mkF m 0 #[.val (.int pa0), .unset, .unset, .unset, .unset] []) by
    obtain ⟨s2, o, g1, g2, g3, g4⟩ := hgo
    refine ⟨s2, o, castTop (?_ : entryFrame m #[(.int pa0)] 5 = _) g1, g2, g3, g4⟩
    first | (simp [entryFrame, mkF, argsToLocals, Value.category]; done) | rfl
  obtain ⟨_, _, ⟨T74, L74, k74, n74⟩, -, X74, ⟨Lc74, hQ74, l74, y74, z74⟩, st74⟩ := Jvm.LawKit.callS X0 hx (y := (⟨"com/example/stubwright/stubwright/ParameterType", "values", "()[Lcom/example/stubwright/stubwright/ParameterType;"⟩ : MethodName)) hown (mvT hZ (hw _ (List.mem_of_getElem? (i := 4) rfl))) (mvT hZ (hw _ (List.mem_of_getElem? (i := 5) rfl))) (mvT hZ (hw _ (List.mem_of_getElem? (i := 2) rfl))) (mvT hZ (hw _ (List.mem_of_getElem? (i := 6) rfl))) (by decide) (backOf (W := 0) (rm2_0 l Z a0 hw [] w h0 n0 (Nat.le_trans Z0 (own_ext0 h0).1) hP) hZ (hw _ (List.mem_of_getElem? (i := 6) rfl)) (hw _ (List.mem_of_getElem? (i := 2) rfl)) (by decide) (by decide)) (g := (mkF m 0 #[.val (.int pa0), .unset, .unset, .unset, .unset] [])) rfl (by rw [hml]; rfl) (argsL := []) (rest := []) (lenOf pd_0 rfl) rfl (by show 2 * 0 + _ ≤ _; exact Nat.le_of_eq rfl) (hb hby d1_0) (fun _ _ => ⟨rfl, e0, (by decide : 0 + 1 ≤ _), (by decide : 0 + 6 ≤ _)⟩)
  dsimp only [Pt.U, Pt.locs, Pt.cells, Pt.slots] at X74 l74 y74 z74 st74 hQ74
  subst l74 y74 z74
  obtain ⟨rfl, N74q, x74, f74⟩ := hQ74
  have N74 := Fr.app N0 N74q
  have e74 : T74.heap = T74.heap := rfl
  have sz74 : h0.size ≤ h0.size := (own_ext0 h0).1
  have XT74 := own_ext2 (own_ext0 h0) x74
  obtain ⟨k74, A74⟩ := f74
  refine Go.on (T' := T74) (g' := (mkF m 3 #[.val (.int pa0), .unset, .unset, .unset, .unset] [(.ref (h0.size))])) st74 ?_
  refine Go.on (T' := T74) (g' := (mkF m 4 #[.val (.int pa0), .val (.ref (h0.size)), .unset, .unset, .unset] [])) (fun t k => XS.astoreN X74.here hx rfl (hb hby d1_3) rfl rfl (l' := #[.val (.int pa0), .val (.ref (h0.size)), .unset, .unset, .unset]) rfl k) ?_
  refine Go.on (T' := T74) (g' := (mkF m 5 #[.val (.int pa0), .val (.ref (h0.size)), .unset, .unset, .unset] [(.ref (h0.size))])) (fun t k => XS.aloadN X74.here hx rfl (hb hby d1_4) rfl rfl k) ?_
  refine Go.on (T' := T74) (g' := (mkF m 6 #[.val (.int pa0), .val (.ref (h0.size)), .unset, .unset, .unset] [(.int (6 : Int32))])) (fun t k => X74.arraylength hx (by rw [e74]; exact A74.1) (State.isArrayOf_alike hZ.alike A74.2.1) (g := (mkF m 5 #[.val (.int pa0), .val (.ref (h0.size)), .unset, .unset, .unset] [(.ref (h0.size))])) rfl rfl (hb hby d1_5) t k) ?_
  refine Go.on (T' := T74) (g' := (mkF m 7 #[.val (.int pa0), .val (.ref (h0.size)), .val (.int (6 : Int32)), .unset, .unset] [])) (fun t k => XS.istoreN X74.here hx rfl (hb hby d1_6) rfl (l' := #[.val (.int pa0), .val (.ref (h0.size)), .val (.int (6 : Int32)), .unset, .unset]) rfl k) ?_
  refine Go.on (T' := T74) (g' := (mkF m 8 #[.val (.int pa0), .val (.ref (h0.size)), .val (.int (6 : Int32)), .unset, .unset] [(.int (0 : Int32))])) (fun t k => XS.iconst X74.here hx rfl (hb hby d1_7) k) ?_
  refine Go.on (T' := T74) (g' := (mkF m 9 #[.val (.int pa0), .val (.ref (h0.size)), .val (.int (6 : Int32)), .val (.int (0 : Int32)), .unset] [])) (fun t k => XS.istoreN X74.here hx rfl (hb hby d1_8) rfl (l' := #[.val (.int pa0), .val (.ref (h0.size)), .val (.int (6 : Int32)), .val (.int (0 : Int32)), .unset]) rfl k) ?_
  refine Go.on (T' := T74) (g' := (mkF m 10 #[.val (.int pa0), .val (.ref (h0.size)), .val (.int (6 : Int32)), .val (.int (0 : Int32)), .unset] [(.int (0 : Int32))])) (fun t k => XS.iloadN X74.here hx rfl (hb hby d1_9) rfl k) ?_
  refine Go.on (T' := T74) (g' := (mkF m 11 #[.val (.int pa0), .val (.ref (h0.size)), .val (.int (6 : Int32)), .val (.int (0 : Int32)), .unset] [(.int (6 : Int32)), (.int (0 : Int32))])) (fun t k => XS.iloadN X74.here hx rfl (hb hby d1_10) rfl k) ?_
  refine Go.on (T' := T74) (g' := (mkF m 14 #[.val (.int pa0), .val (.ref (h0.size)), .val (.int (6 : Int32)), .val (.int (0 : Int32)), .unset] [])) (fun t k => XS.icmpNo X74.here hx rfl (hb hby d1_11) rfl (tlt (by decide : (0 : Int32) < (6 : Int32))).2.1 k) ?_
  refine Go.on (T' := T74) (g' := (mkF m 15 #[.val (.int pa0), .val (.ref (h0.size)), .val (.int (6 : Int32)), .val (.int (0 : Int32)), .unset] [(.ref (h0.size))])) (fun t k => XS.aloadN X74.here hx rfl (hb hby d1_14) rfl rfl k) ?_
  refine Go.on (T' := T74) (g' := (mkF m 16 #[.val (.int pa0), .val (.ref (h0.size)), .val (.int (6 : Int32)), .val (.int (0 : Int32)), .unset] [(.int (0 : Int32)), (.ref (h0.size))])) (fun t k => XS.iloadN X74.here hx rfl (hb hby d1_15) rfl k) ?_
  refine Go.on (T' := T74) (g' := (mkF m 17 #[.val (.int pa0), .val (.ref (h0.size)), .val (.int (6 : Int32)), .val (.int (0 : Int32)), .unset] [(.ref (w 1))])) (fun t k => X74.aaload hx (j := (0 : Int32)) (v := (.ref (w 1))) (by rw [e74]; exact A74.1) (State.isArrayOf_alike hZ.alike A74.2.1) rfl A74.2.2 (by show ¬ (_ ∨ (6 : Nat) ≤ _); decide) rfl (g := (mkF m 16 #[.val (.int pa0), .val (.ref (h0.size)), .val (.int (6 : Int32)), .val (.int (0 : Int32)), .unset] [(.int (0 : Int32)), (.ref (h0.size))])) rfl rfl (hb hby d1_16) t k) ?_
  refine Go.on (T' := T74) (g' := (mkF m 19 #[.val (.int pa0), .val (.ref (h0.size)), .val (.int (6 : Int32)), .val (.int (0 : Int32)), .val (.ref (w 1))] [])) (fun t k => XS.astore X74.here hx rfl (hb hby d1_17) rfl rfl (l' := #[.val (.int pa0), .val (.ref (h0.size)), .val (.int (6 : Int32)), .val (.int (0 : Int32)), .val (.ref (w 1))]) rfl k) ?_
  refine Go.on (T' := T74) (g' := (mkF m 21 #[.val (.int pa0), .val (.ref (h0.size)), .val (.int (6 : Int32)), .val (.int (0 : Int32)), .val (.ref (w 1))] [(.ref (w 1))])) (fun t k => XS.aload X74.here hx rfl (hb hby d1_19) rfl rfl k) ?_
  obtain ⟨T75, X75, e75, st75⟩ := getF X74 hx hZ hown (host := "") (Or.inl (hw _ (List.mem_of_getElem? (i := 19) rfl))) Via.refl e74 (pin_14 (pins_ext XT74 hP)) (g := (mkF m 21 #[.val (.int pa0), .val (.ref (h0.size)), .val (.int (6 : Int32)), .val (.int (0 : Int32)), .val (.ref (w 1))] [(.ref (w 1))])) rfl rfl (hb hby d1_21)
  refine Go.on (T' := T75) (g' := (mkF m 24 #[.val (.int pa0), .val (.ref (h0.size)), .val (.int (6 : Int32)), .val (.int (0 : Int32)), .val (.ref (w 1))] [(.int (1 : Int32))])) st75 ?_
  refine Go.on (T' := T75) (g' := (mkF m 25 #[.val (.int pa0), .val (.ref (h0.size)), .val (.int (6 : Int32)), .val (.int (0 : Int32)), .val (.ref (w 1))] [(.int pa0), (.int (1 : Int32))])) (fun t k => XS.iloadN X75.here hx rfl (hb hby d1_24) rfl k) ?_
  refine Go.on (T' := T75) (g' := (mkF m 31 #[.val (.int pa0), .val (.ref (h0.size)), .val (.int (6 : Int32)), .val (.int (0 : Int32)), .val (.ref (w 1))] [])) (fun t k => XS.icmpYes X75.here hx rfl (pc0 := 25) (pc' := 31) rfl (hb hby d1_25) rfl (feq hp0).2 (by decide) (by decide) k) ?_
  refine Go.on (T' := T75) (g' := (mkF m 34 #[.val (.int pa0), .val (.ref (h0.size)), .val (.int (6 : Int32)), .val (.int (1 : Int32)), .val (.ref (w 1))] [])) (fun t k => XS.iinc X75.here hx rfl (hb hby d1_31) rfl (l' := #[.val (.int pa0), .val (.ref (h0.size)), .val (.int (6 : Int32)), .val (.int (1 : Int32)), .val (.ref (w 1))]) rfl k) ?_
  refine Go.on (T' := T75) (g' := (mkF m 9 #[.val (.int pa0), .val (.ref (h0.size)), .val (.int (6 : Int32)), .val (.int (1 : Int32)), .val (.ref (w 1))] [])) (fun t k => XS.goto X75.here hx rfl (pc0 := 34) (pc' := 9) rfl (hb hby d1_34) (by decide) (by decide) k) ?_
  refine Go.on (T' := T75) (g' := (mkF m 10 #[.val (.int pa0), .val (.ref (h0.size)), .val (.int (6 : Int32)), .val (.int (1 : Int32)), .val (.ref (w 1))] [(.int (1 : Int32))])) (fun t k => XS.iloadN X75.here hx rfl (hb hby d1_9) rfl k) ?_
  refine Go.on (T' := T75) (g' := (mkF m 11 #[.val (.int pa0), .val (.ref (h0.size)), .val (.int (6 : Int32)), .val (.int (1 : Int32)), .val (.ref (w 1))] [(.int (6 : Int32)), (.int (1 : Int32))])) (fun t k => XS.iloadN X75.here hx rfl (hb hby d1_10) rfl k) ?_
  refine Go.on (T' := T75) (g' := (mkF m 14 #[.val (.int pa0), .val (.ref (h0.size)), .val (.int (6 : Int32)), .val (.int (1 : Int32)), .val (.ref (w 1))] [])) (fun t k => XS.icmpNo X75.here hx rfl (hb hby d1_11) rfl (tlt (by decide : (1 : Int32) < (6 : Int32))).2.1 k) ?_
  refine Go.on (T' := T75) (g' := (mkF m 15 #[.val (.int pa0), .val (.ref (h0.size)), .val (.int (6 : Int32)), .val (.int (1 : Int32)), .val (.ref (w 1))] [(.ref (h0.size))])) (fun t k => XS.aloadN X75.here hx rfl (hb hby d1_14) rfl rfl k) ?_
  refine Go.on (T' := T75) (g' := (mkF m 16 #[.val (.int pa0), .val (.ref (h0.size)), .val (.int (6 : Int32)), .val (.int (1 : Int32)), .val (.ref (w 1))] [(.int (1 : Int32)), (.ref (h0.size))])) (fun t k => XS.iloadN X75.here hx rfl (hb hby d1_15) rfl k) ?_
  refine Go.on (T' := T75) (g' := (mkF m 17 #[.val (.int pa0), .val (.ref (h0.size)), .val (.int (6 : Int32)), .val (.int (1 : Int32)), .val (.ref (w 1))] [(.ref (w 2))])) (fun t k => X75.aaload hx (j := (1 : Int32)) (v := (.ref (w 2))) (by rw [e75]; exact A74.1) (State.isArrayOf_alike hZ.alike A74.2.1) rfl A74.2.2 (by show ¬ (_ ∨ (6 : Nat) ≤ _); decide) rfl (g := (mkF m 16 #[.val (.int pa0), .val (.ref (h0.size)), .val (.int (6 : Int32)), .val (.int (1 : Int32)), .val (.ref (w 1))] [(.int (1 : Int32)), (.ref (h0.size))])) rfl rfl (hb hby d1_16) t k) ?_
  refine Go.on (T' := T75) (g' := (mkF m 19 #[.val (.int pa0), .val (.ref (h0.size)), .val (.int (6 : Int32)), .val (.int (1 : Int32)), .val (.ref (w 2))] [])) (fun t k => XS.astore X75.here hx rfl (hb hby d1_17) rfl rfl (l' := #[.val (.int pa0), .val (.ref (h0.size)), .val (.int (6 : Int32)), .val (.int (1 : Int32)), .val (.ref (w 2))]) rfl k) ?_
  refine Go.on (T' := T75) (g' := (mkF m 21 #[.val (.int pa0), .val (.ref (h0.size)), .val (.int (6 : Int32)), .val (.int (1 : Int32)), .val (.ref (w 2))] [(.ref (w 2))])) (fun t k => XS.aload X75.here hx rfl (hb hby d1_19) rfl rfl k) ?_
  obtain ⟨T76, X76, e76, st76⟩ := getF X75 hx hZ hown (host := "") (Or.inl (hw _ (List.mem_of_getElem? (i := 19) rfl))) Via.refl e75 (pin_15 (pins_ext XT74 hP)) (g := (mkF m 21 #[.val (.int pa0), .val (.ref (h0.size)), .val (.int (6 : Int32)), .val (.int (1 : Int32)), .val (.ref (w 2))] [(.ref (w 2))])) rfl rfl (hb hby d1_21)
  refine Go.on (T' := T76) (g' := (mkF m 24 #[.val (.int pa0), .val (.ref (h0.size)), .val (.int (6 : Int32)), .val (.int (1 : Int32)), .val (.ref (w 2))] [(.int (2 : Int32))])) st76 ?_
  refine Go.on (T' := T76) (g' := (mkF m 25 #[.val (.int pa0), .val (.ref (h0.size)), .val (.int (6 : Int32)), .val (.int (1 : Int32)), .val (.ref (w 2))] [(.int pa0), (.int (2 : Int32))])) (fun t k => XS.iloadN X76.here hx rfl (hb hby d1_24) rfl k) ?_
  refine Go.on (T' := T76) (g' := (mkF m 31 #[.val (.int pa0), .val (.ref (h0.size)), .val (.int (6 : Int32)), .val (.int (1 : Int32)), .val (.ref (w 2))] [])) (fun t k => XS.icmpYes X76.here hx rfl (pc0 := 25) (pc' := 31) rfl (hb hby d1_25) rfl (feq hp1).2 (by decide) (by decide) k) ?_
  refine Go.on (T' := T76) (g' := (mkF m 34 #[.val (.int pa0), .val (.ref (h0.size)), .val (.int (6 : Int32)), .val (.int (2 : Int32)), .val (.ref (w 2))] [])) (fun t k => XS.iinc X76.here hx rfl (hb hby d1_31) rfl (l' := #[.val (.int pa0), .val (.ref (h0.size)), .val (.int (6 : Int32)), .val (.int (2 : Int32)), .val (.ref (w 2))]) rfl k) ?_
  refine Go.on (T' := T76) (g' := (mkF m 9 #[.val (.int pa0), .val (.ref (h0.size)), .val (.int (6 : Int32)), .val (.int (2 : Int32)), .val (.ref (w 2))] [])) (fun t k => XS.goto X76.here hx rfl (pc0 := 34) (pc' := 9) rfl (hb hby d1_34) (by decide) (by decide) k) ?_
  refine Go.on (T' := T76) (g' := (mkF m 10 #[.val (.int pa0), .val (.ref (h0.size)), .val (.int (6 : Int32)), .val (.int (2 : Int32)), .val (.ref (w 2))] [(.int (2 : Int32))])) (fun t k => XS.iloadN X76.here hx rfl (hb hby d1_9) rfl k) ?_
  refine Go.on (T' := T76) (g' := (mkF m 11 #[.val (.int pa0), .val (.ref (h0.size)), .val (.int (6 : Int32)), .val (.int (2 : Int32)), .val (.ref (w 2))] [(.int (6 : Int32)), (.int (2 : Int32))])) (fun t k => XS.iloadN X76.here hx rfl (hb hby d1_10) rfl k) ?_
  refine Go.on (T' := T76) (g' := (mkF m 14 #[.val (.int pa0), .val (.ref (h0.size)), .val (.int (6 : Int32)), .val (.int (2 : Int32)), .val (.ref (w 2))] [])) (fun t k => XS.icmpNo X76.here hx rfl (hb hby d1_11) rfl (tlt (by decide : (2 : Int32) < (6 : Int32))).2.1 k) ?_
  refine Go.on (T' := T76) (g' := (mkF m 15 #[.val (.int pa0), .val (.ref (h0.size)), .val (.int (6 : Int32)), .val (.int (2 : Int32)), .val (.ref (w 2))] [(.ref (h0.size))])) (fun t k => XS.aloadN X76.here hx rfl (hb hby d1_14) rfl rfl k) ?_
  refine Go.on (T' := T76) (g' := (mkF m 16 #[.val (.int pa0), .val (.ref (h0.size)), .val (.int (6 : Int32)), .val (.int (2 : Int32)), .val (.ref (w 2))] [(.int (2 : Int32)), (.ref (h0.size))])) (fun t k => XS.iloadN X76.here hx rfl (hb hby d1_15) rfl k) ?_
  refine Go.on (T' := T76) (g' := (mkF m 17 #[.val (.int pa0), .val (.ref (h0.size)), .val (.int (6 : Int32)), .val (.int (2 : Int32)), .val (.ref (w 2))] [(.ref (w 3))])) (fun t k => X76.aaload hx (j := (2 : Int32)) (v := (.ref (w 3))) (by rw [e76]; exact A74.1) (State.isArrayOf_alike hZ.alike A74.2.1) rfl A74.2.2 (by show ¬ (_ ∨ (6 : Nat) ≤ _); decide) rfl (g := (mkF m 16 #[.val (.int pa0), .val (.ref (h0.size)), .val (.int (6 : Int32)), .val (.int (2 : Int32)), .val (.ref (w 2))] [(.int (2 : Int32)), (.ref (h0.size))])) rfl rfl (hb hby d1_16) t k) ?_
  refine Go.on (T' := T76) (g' := (mkF m 19 #[.val (.int pa0), .val (.ref (h0.size)), .val (.int (6 : Int32)), .val (.int (2 : Int32)), .val (.ref (w 3))] [])) (fun t k => XS.astore X76.here hx rfl (hb hby d1_17) rfl rfl (l' := #[.val (.int pa0), .val (.ref (h0.size)), .val (.int (6 : Int32)), .val (.int (2 : Int32)), .val (.ref (w 3))]) rfl k) ?_
  refine Go.on (T' := T76) (g' := (mkF m 21 #[.val (.int pa0), .val (.ref (h0.size)), .val (.int (6 : Int32)), .val (.int (2 : Int32)), .val (.ref (w 3))] [(.ref (w 3))])) (fun t k => XS.aload X76.here hx rfl (hb hby d1_19) rfl rfl k) ?_
  obtain ⟨T77, X77, e77, st77⟩ := getF X76 hx hZ hown (host := "") (Or.inl (hw _ (List.mem_of_getElem? (i := 19) rfl))) Via.refl e76 (pin_16 (pins_ext XT74 hP)) (g := (mkF m 21 #[.val (.int pa0), .val (.ref (h0.size)), .val (.int (6 : Int32)), .val (.int (2 : Int32)), .val (.ref (w 3))] [(.ref (w 3))])) rfl rfl (hb hby d1_21)
  refine Go.on (T' := T77) (g' := (mkF m 24 #[.val (.int pa0), .val (.ref (h0.size)), .val (.int (6 : Int32)), .val (.int (2 : Int32)), .val (.ref (w 3))] [(.int (3 : Int32))])) st77 ?_
  refine Go.on (T' := T77) (g' := (mkF m 25 #[.val (.int pa0), .val (.ref (h0.size)), .val (.int (6 : Int32)), .val (.int (2 : Int32)), .val (.ref (w 3))] [(.int pa0), (.int (3 : Int32))])) (fun t k => XS.iloadN X77.here hx rfl (hb hby d1_24) rfl k) ?_
  refine Go.on (T' := T77) (g' := (mkF m 31 #[.val (.int pa0), .val (.ref (h0.size)), .val (.int (6 : Int32)), .val (.int (2 : Int32)), .val (.ref (w 3))] [])) (fun t k => XS.icmpYes X77.here hx rfl (pc0 := 25) (pc' := 31) rfl (hb hby d1_25) rfl (feq hp2).2 (by decide) (by decide) k) ?_
  refine Go.on (T' := T77) (g' := (mkF m 34 #[.val (.int pa0), .val (.ref (h0.size)), .val (.int (6 : Int32)), .val (.int (3 : Int32)), .val (.ref (w 3))] [])) (fun t k => XS.iinc X77.here hx rfl (hb hby d1_31) rfl (l' := #[.val (.int pa0), .val (.ref (h0.size)), .val (.int (6 : Int32)), .val (.int (3 : Int32)), .val (.ref (w 3))]) rfl k) ?_
  refine Go.on (T' := T77) (g' := (mkF m 9 #[.val (.int pa0), .val (.ref (h0.size)), .val (.int (6 : Int32)), .val (.int (3 : Int32)), .val (.ref (w 3))] [])) (fun t k => XS.goto X77.here hx rfl (pc0 := 34) (pc' := 9) rfl (hb hby d1_34) (by decide) (by decide) k) ?_
  refine Go.on (T' := T77) (g' := (mkF m 10 #[.val (.int pa0), .val (.ref (h0.size)), .val (.int (6 : Int32)), .val (.int (3 : Int32)), .val (.ref (w 3))] [(.int (3 : Int32))])) (fun t k => XS.iloadN X77.here hx rfl (hb hby d1_9) rfl k) ?_
  refine Go.on (T' := T77) (g' := (mkF m 11 #[.val (.int pa0), .val (.ref (h0.size)), .val (.int (6 : Int32)), .val (.int (3 : Int32)), .val (.ref (w 3))] [(.int (6 : Int32)), (.int (3 : Int32))])) (fun t k => XS.iloadN X77.here hx rfl (hb hby d1_10) rfl k) ?_
  refine Go.on (T' := T77) (g' := (mkF m 14 #[.val (.int pa0), .val (.ref (h0.size)), .val (.int (6 : Int32)), .val (.int (3 : Int32)), .val (.ref (w 3))] [])) (fun t k => XS.icmpNo X77.here hx rfl (hb hby d1_11) rfl (tlt (by decide : (3 : Int32) < (6 : Int32))).2.1 k) ?_
  refine Go.on (T' := T77) (g' := (mkF m 15 #[.val (.int pa0), .val (.ref (h0.size)), .val (.int (6 : Int32)), .val (.int (3 : Int32)), .val (.ref (w 3))] [(.ref (h0.size))])) (fun t k => XS.aloadN X77.here hx rfl (hb hby d1_14) rfl rfl k) ?_
  refine Go.on (T' := T77) (g' := (mkF m 16 #[.val (.int pa0), .val (.ref (h0.size)), .val (.int (6 : Int32)), .val (.int (3 : Int32)), .val (.ref (w 3))] [(.int (3 : Int32)), (.ref (h0.size))])) (fun t k => XS.iloadN X77.here hx rfl (hb hby d1_15) rfl k) ?_
  refine Go.on (T' := T77) (g' := (mkF m 17 #[.val (.int pa0), .val (.ref (h0.size)), .val (.int (6 : Int32)), .val (.int (3 : Int32)), .val (.ref (w 3))] [(.ref (w 4))])) (fun t k => X77.aaload hx (j := (3 : Int32)) (v := (.ref (w 4))) (by rw [e77]; exact A74.1) (State.isArrayOf_alike hZ.alike A74.2.1) rfl A74.2.2 (by show ¬ (_ ∨ (6 : Nat) ≤ _); decide) rfl (g := (mkF m 16 #[.val (.int pa0), .val (.ref (h0.size)), .val (.int (6 : Int32)), .val (.int (3 : Int32)), .val (.ref (w 3))] [(.int (3 : Int32)), (.ref (h0.size))])) rfl rfl (hb hby d1_16) t k) ?_
  refine Go.on (T' := T77) (g' := (mkF m 19 #[.val (.int pa0), .val (.ref (h0.size)), .val (.int (6 : Int32)), .val (.int (3 : Int32)), .val (.ref (w 4))] [])) (fun t k => XS.astore X77.here hx rfl (hb hby d1_17) rfl rfl (l' := #[.val (.int pa0), .val (.ref (h0.size)), .val (.int (6 : Int32)), .val (.int (3 : Int32)), .val (.ref (w 4))]) rfl k) ?_
  refine Go.on (T' := T77) (g' := (mkF m 21 #[.val (.int pa0), .val (.ref (h0.size)), .val (.int (6 : Int32)), .val (.int (3 : Int32)), .val (.ref (w 4))] [(.ref (w 4))])) (fun t k => XS.aload X77.here hx rfl (hb hby d1_19) rfl rfl k) ?_
  obtain ⟨T78, X78, e78, st78⟩ := getF X77 hx hZ hown (host := "") (Or.inl (hw _ (List.mem_of_getElem? (i := 19) rfl))) Via.refl e77 (pin_17 (pins_ext XT74 hP)) (g := (mkF m 21 #[.val (.int pa0), .val (.ref (h0.size)), .val (.int (6 : Int32)), .val (.int (3 : Int32)), .val (.ref (w 4))] [(.ref (w 4))])) rfl rfl (hb hby d1_21)
  refine Go.on (T' := T78) (g' := (mkF m 24 #[.val (.int pa0), .val (.ref (h0.size)), .val (.int (6 : Int32)), .val (.int (3 : Int32)), .val (.ref (w 4))] [(.int (4 : Int32))])) st78 ?_
  refine Go.on (T' := T78) (g' := (mkF m 25 #[.val (.int pa0), .val (.ref (h0.size)), .val (.int (6 : Int32)), .val (.int (3 : Int32)), .val (.ref (w 4))] [(.int pa0), (.int (4 : Int32))])) (fun t k => XS.iloadN X78.here hx rfl (hb hby d1_24) rfl k) ?_
  refine Go.on (T' := T78) (g' := (mkF m 31 #[.val (.int pa0), .val (.ref (h0.size)), .val (.int (6 : Int32)), .val (.int (3 : Int32)), .val (.ref (w 4))] [])) (fun t k => XS.icmpYes X78.here hx rfl (pc0 := 25) (pc' := 31) rfl (hb hby d1_25) rfl (feq hp3).2 (by decide) (by decide) k) ?_
  refine Go.on (T' := T78) (g' := (mkF m 34 #[.val (.int pa0), .val (.ref (h0.size)), .val (.int (6 : Int32)), .val (.int (4 : Int32)), .val (.ref (w 4))] [])) (fun t k => XS.iinc X78.here hx rfl (hb hby d1_31) rfl (l' := #[.val (.int pa0), .val (.ref (h0.size)), .val (.int (6 : Int32)), .val (.int (4 : Int32)), .val (.ref (w 4))]) rfl k) ?_
  refine Go.on (T' := T78) (g' := (mkF m 9 #[.val (.int pa0), .val (.ref (h0.size)), .val (.int (6 : Int32)), .val (.int (4 : Int32)), .val (.ref (w 4))] [])) (fun t k => XS.goto X78.here hx rfl (pc0 := 34) (pc' := 9) rfl (hb hby d1_34) (by decide) (by decide) k) ?_
  refine Go.on (T' := T78) (g' := (mkF m 10 #[.val (.int pa0), .val (.ref (h0.size)), .val (.int (6 : Int32)), .val (.int (4 : Int32)), .val (.ref (w 4))] [(.int (4 : Int32))])) (fun t k => XS.iloadN X78.here hx rfl (hb hby d1_9) rfl k) ?_
  refine Go.on (T' := T78) (g' := (mkF m 11 #[.val (.int pa0), .val (.ref (h0.size)), .val (.int (6 : Int32)), .val (.int (4 : Int32)), .val (.ref (w 4))] [(.int (6 : Int32)), (.int (4 : Int32))])) (fun t k => XS.iloadN X78.here hx rfl (hb hby d1_10) rfl k) ?_
  refine Go.on (T' := T78) (g' := (mkF m 14 #[.val (.int pa0), .val (.ref (h0.size)), .val (.int (6 : Int32)), .val (.int (4 : Int32)), .val (.ref (w 4))] [])) (fun t k => XS.icmpNo X78.here hx rfl (hb hby d1_11) rfl (tlt (by decide : (4 : Int32) < (6 : Int32))).2.1 k) ?_
  refine Go.on (T' := T78) (g' := (mkF m 15 #[.val (.int pa0), .val (.ref (h0.size)), .val (.int (6 : Int32)), .val (.int (4 : Int32)), .val (.ref (w 4))] [(.ref (h0.size))])) (fun t k => XS.aloadN X78.here hx rfl (hb hby d1_14) rfl rfl k) ?_
  refine Go.on (T' := T78) (g' := (mkF m 16 #[.val (.int pa0), .val (.ref (h0.size)), .val (.int (6 : Int32)), .val (.int (4 : Int32)), .val (.ref (w 4))] [(.int (4 : Int32)), (.ref (h0.size))])) (fun t k => XS.iloadN X78.here hx rfl (hb hby d1_15) rfl k) ?_
  refine Go.on (T' := T78) (g' := (mkF m 17 #[.val (.int pa0), .val (.ref (h0.size)), .val (.int (6 : Int32)), .val (.int (4 : Int32)), .val (.ref (w 4))] [(.ref (w 5))])) (fun t k => X78.aaload hx (j := (4 : Int32)) (v := (.ref (w 5))) (by rw [e78]; exact A74.1) (State.isArrayOf_alike hZ.alike A74.2.1) rfl A74.2.2 (by show ¬ (_ ∨ (6 : Nat) ≤ _); decide) rfl (g := (mkF m 16 #[.val (.int pa0), .val (.ref (h0.size)), .val (.int (6 : Int32)), .val (.int (4 : Int32)), .val (.ref (w 4))] [(.int (4 : Int32)), (.ref (h0.size))])) rfl rfl (hb hby d1_16) t k) ?_
  refine Go.on (T' := T78) (g' := (mkF m 19 #[.val (.int pa0), .val (.ref (h0.size)), .val (.int (6 : Int32)), .val (.int (4 : Int32)), .val (.ref (w 5))] [])) (fun t k => XS.astore X78.here hx rfl (hb hby d1_17) rfl rfl (l' := #[.val (.int pa0), .val (.ref (h0.size)), .val (.int (6 : Int32)), .val (.int (4 : Int32)), .val (.ref (w 5))]) rfl k) ?_
  refine Go.on (T' := T78) (g' := (mkF m 21 #[.val (.int pa0), .val (.ref (h0.size)), .val (.int (6 : Int32)), .val (.int (4 : Int32)), .val (.ref (w 5))] [(.ref (w 5))])) (fun t k => XS.aload X78.here hx rfl (hb hby d1_19) rfl rfl k) ?_
  obtain ⟨T79, X79, e79, st79⟩ := getF X78 hx hZ hown (host := "") (Or.inl (hw _ (List.mem_of_getElem? (i := 19) rfl))) Via.refl e78 (pin_18 (pins_ext XT74 hP)) (g := (mkF m 21 #[.val (.int pa0), .val (.ref (h0.size)), .val (.int (6 : Int32)), .val (.int (4 : Int32)), .val (.ref (w 5))] [(.ref (w 5))])) rfl rfl (hb hby d1_21)
  refine Go.on (T' := T79) (g' := (mkF m 24 #[.val (.int pa0), .val (.ref (h0.size)), .val (.int (6 : Int32)), .val (.int (4 : Int32)), .val (.ref (w 5))] [(.int (5 : Int32))])) st79 ?_
  refine Go.on (T' := T79) (g' := (mkF m 25 #[.val (.int pa0), .val (.ref (h0.size)), .val (.int (6 : Int32)), .val (.int (4 : Int32)), .val (.ref (w 5))] [(.int pa0), (.int (5 : Int32))])) (fun t k => XS.iloadN X79.here hx rfl (hb hby d1_24) rfl k) ?_
  refine Go.on (T' := T79) (g' := (mkF m 31 #[.val (.int pa0), .val (.ref (h0.size)), .val (.int (6 : Int32)), .val (.int (4 : Int32)), .val (.ref (w 5))] [])) (fun t k => XS.icmpYes X79.here hx rfl (pc0 := 25) (pc' := 31) rfl (hb hby d1_25) rfl (feq hp4).2 (by decide) (by decide) k) ?_
  refine Go.on (T' := T79) (g' := (mkF m 34 #[.val (.int pa0), .val (.ref (h0.size)), .val (.int (6 : Int32)), .val (.int (5 : Int32)), .val (.ref (w 5))] [])) (fun t k => XS.iinc X79.here hx rfl (hb hby d1_31) rfl (l' := #[.val (.int pa0), .val (.ref (h0.size)), .val (.int (6 : Int32)), .val (.int (5 : Int32)), .val (.ref (w 5))]) rfl k) ?_
  refine Go.on (T' := T79) (g' := (mkF m 9 #[.val (.int pa0), .val (.ref (h0.size)), .val (.int (6 : Int32)), .val (.int (5 : Int32)), .val (.ref (w 5))] [])) (fun t k => XS.goto X79.here hx rfl (pc0 := 34) (pc' := 9) rfl (hb hby d1_34) (by decide) (by decide) k) ?_
  refine Go.on (T' := T79) (g' := (mkF m 10 #[.val (.int pa0), .val (.ref (h0.size)), .val (.int (6 : Int32)), .val (.int (5 : Int32)), .val (.ref (w 5))] [(.int (5 : Int32))])) (fun t k => XS.iloadN X79.here hx rfl (hb hby d1_9) rfl k) ?_
  refine Go.on (T' := T79) (g' := (mkF m 11 #[.val (.int pa0), .val (.ref (h0.size)), .val (.int (6 : Int32)), .val (.int (5 : Int32)), .val (.ref (w 5))] [(.int (6 : Int32)), (.int (5 : Int32))])) (fun t k => XS.iloadN X79.here hx rfl (hb hby d1_10) rfl k) ?_
  refine Go.on (T' := T79) (g' := (mkF m 14 #[.val (.int pa0), .val (.ref (h0.size)), .val (.int (6 : Int32)), .val (.int (5 : Int32)), .val (.ref (w 5))] [])) (fun t k => XS.icmpNo X79.here hx rfl (hb hby d1_11) rfl (tlt (by decide : (5 : Int32) < (6 : Int32))).2.1 k) ?_
  refine Go.on (T' := T79) (g' := (mkF m 15 #[.val (.int pa0), .val (.ref (h0.size)), .val (.int (6 : Int32)), .val (.int (5 : Int32)), .val (.ref (w 5))] [(.ref (h0.size))])) (fun t k => XS.aloadN X79.here hx rfl (hb hby d1_14) rfl rfl k) ?_
  refine Go.on (T' := T79) (g' := (mkF m 16 #[.val (.int pa0), .val (.ref (h0.size)), .val (.int (6 : Int32)), .val (.int (5 : Int32)), .val (.ref (w 5))] [(.int (5 : Int32)), (.ref (h0.size))])) (fun t k => XS.iloadN X79.here hx rfl (hb hby d1_15) rfl k) ?_
  refine Go.on (T' := T79) (g' := (mkF m 17 #[.val (.int pa0), .val (.ref (h0.size)), .val (.int (6 : Int32)), .val (.int (5 : Int32)), .val (.ref (w 5))] [(.ref (w 6))])) (fun t k => X79.aaload hx (j := (5 : Int32)) (v := (.ref (w 6))) (by rw [e79]; exact A74.1) (State.isArrayOf_alike hZ.alike A74.2.1) rfl A74.2.2 (by show ¬ (_ ∨ (6 : Nat) ≤ _); decide) rfl (g := (mkF m 16 #[.val (.int pa0), .val (.ref (h0.size)), .val (.int (6 : Int32)), .val (.int (5 : Int32)), .val (.ref (w 5))] [(.int (5 : Int32)), (.ref (h0.size))])) rfl rfl (hb hby d1_16) t k) ?_
  refine Go.on (T' := T79) (g' := (mkF m 19 #[.val (.int pa0), .val (.ref (h0.size)), .val (.int (6 : Int32)), .val (.int (5 : Int32)), .val (.ref (w 6))] [])) (fun t k => XS.astore X79.here hx rfl (hb hby d1_17) rfl rfl (l' := #[.val (.int pa0), .val (.ref (h0.size)), .val (.int (6 : Int32)), .val (.int (5 : Int32)), .val (.ref (w 6))]) rfl k) ?_
  refine Go.on (T' := T79) (g' := (mkF m 21 #[.val (.int pa0), .val (.ref (h0.size)), .val (.int (6 : Int32)), .val (.int (5 : Int32)), .val (.ref (w 6))] [(.ref (w 6))])) (fun t k => XS.aload X79.here hx rfl (hb hby d1_19) rfl rfl k) ?_
  obtain ⟨T80, X80, e80, st80⟩ := getF X79 hx hZ hown (host := "") (Or.inl (hw _ (List.mem_of_getElem? (i := 19) rfl))) Via.refl e79 (pin_19 (pins_ext XT74 hP)) (g := (mkF m 21 #[.val (.int pa0), .val (.ref (h0.size)), .val (.int (6 : Int32)), .val (.int (5 : Int32)), .val (.ref (w 6))] [(.ref (w 6))])) rfl rfl (hb hby d1_21)
  refine Go.on (T' := T80) (g' := (mkF m 24 #[.val (.int pa0), .val (.ref (h0.size)), .val (.int (6 : Int32)), .val (.int (5 : Int32)), .val (.ref (w 6))] [(.int (6 : Int32))])) st80 ?_
  refine Go.on (T' := T80) (g' := (mkF m 25 #[.val (.int pa0), .val (.ref (h0.size)), .val (.int (6 : Int32)), .val (.int (5 : Int32)), .val (.ref (w 6))] [(.int pa0), (.int (6 : Int32))])) (fun t k => XS.iloadN X80.here hx rfl (hb hby d1_24) rfl k) ?_
  refine Go.on (T' := T80) (g' := (mkF m 28 #[.val (.int pa0), .val (.ref (h0.size)), .val (.int (6 : Int32)), .val (.int (5 : Int32)), .val (.ref (w 6))] [])) (fun t k => XS.icmpNo X80.here hx rfl (hb hby d1_25) rfl (teq hp5).2 k) ?_
  refine Go.on (T' := T80) (g' := (mkF m 30 #[.val (.int pa0), .val (.ref (h0.size)), .val (.int (6 : Int32)), .val (.int (5 : Int32)), .val (.ref (w 6))] [(.ref (w 6))])) (fun t k => XS.aload X80.here hx rfl (hb hby d1_28) rfl rfl k) ?_
  obtain ⟨fs, hr, hrun, hended, hW, hsame⟩ := X80.leave (v := some (.ref (w 6))) (fun h => by rw [Bd.returns] at h; cases h)
  exact ⟨_, _, retOut X80 hx Bd.returns rfl (Or.inr (Or.inr (Or.inr (Or.inr ⟨rfl, rfl, rfl⟩)))) (hb hby d1_30) hr, hrun, hended, _, _, rfl, ⟨rfl, N74, own_extE e80 XT74, trivial⟩, ⟨_, rfl⟩, hW, hsame.mono (by decide) (by decide)⟩
theorem d3_45 : decode method_2_code 45 = .ok (.iload_n 0, 1) := by decide +kernel
theorem d3_46 : decode method_2_code 46 = .ok (.bipush 6, 2) := by decide +kernel
theorem d3_48 : decode method_2_code 48 = .ok (.if_icmp .ne 7, 3) := by decide +kernel
theorem d3_51 : decode method_2_code 51 = .ok (.getstatic 25, 3) := by decide +kernel
theorem d3_54 : decode method_2_code 54 = .ok (.areturn, 1) := by decide +kernel
set_option maxRecDepth 65536 in
set_option maxHeartbeats 40000000 in
theorem rm3_5 (l : Launch) (Z : State) (a0 : Array Value) (hw : ∀ d ∈ tables_1, d.before a0 Z = true) (ws : List Jvm.Cond) (w : Nat → Addr) (h0 : Heap) (n0 : Nat) (Z0 : n0 ≤ h0.size) (hP : Pins Z h0 w) (pa0 : Int32) (hp0 : ¬ (pa0 = (1 : Int32))) (hp1 : ¬ (pa0 = (2 : Int32))) (hp2 : ¬ (pa0 = (3 : Int32))) (hp3 : ¬ (pa0 = (4 : Int32))) (hp4 : ¬ (pa0 = (5 : Int32))) (hp5 : pa0 = (6 : Int32)) :
    MetFree l (⟨"com/example/stubwright/stubwright/ParameterTypeFromCodePinLaw", "expected", "(I)Lcom/example/stubwright/stubwright/ParameterType;"⟩ : MethodName) (head1 (Jvm.Cond.code (⟨"com/example/stubwright/stubwright/ParameterTypeFromCodePinLaw", "expected", "(I)Lcom/example/stubwright/stubwright/ParameterType;"⟩ : MethodName) method_2_code 1 (some (.object "com/example/stubwright/stubwright/ParameterType")) :: ws) ({ frames := 0, cells := 0, slots := 0, locals := 0 } : Room)) (fun a U => a = #[(.int pa0)] ∧ Z.Warmed39 U.vm ∧ U.heap = h0) (fun _ _ _ _ _ => True) (fun _ U o U' => ∃ v L, o = .returned v ∧ Qp (some (.ref (w 6))) h0 n0 v U'.heap L ∧ FrameEnd U o U' L ({ frames := 0, cells := 0, slots := 0, locals := 0 } : Room).cells ({ frames := 0, cells := 0, slots := 0, locals := 0 } : Room).slots) := by
  refine MetFree.of_bodySF (plainFor_of_name pn_1) hisR ?_
  intro p e s m args below meth c s₁ Bd hml0 hP0 hK
  obtain ⟨rfl, hZ, hh⟩ := hP0
  have hx := Bd.exec
  have hby := Bd.bytes
  have hml : c.maxLocals = 1 := hml0
  have hown : s.vm.findClass "com/example/stubwright/stubwright/ParameterTypeFromCodePinLaw" = some m.cls := findClass_of_methodNamed Bd.named
  have hnm := (name_of_methodNamed Bd.named Bd.method).1
  have X0 : Stand p l e ({ frames := 0, cells := 0, slots := 0, locals := 0 } : Room) s m #[(.int pa0)] below meth c s₁ [] 0 0 := Stand.of_body Bd
  have e0 : s₁.heap = h0 := by rw [← hh, Bd.state]; rfl
  have N0 := Fr.nil n0
  suffices hgo : Go p e below (fun o U' => ∃ v L, o = .returned v ∧ Qp (some (.ref (w 6))) h0 n0 v U'.heap L ∧ FrameEnd s o U' L ({ frames := 0, cells := 0, slots := 0, locals := 0 } : Room).cells ({ frames := 0, cells := 0, slots := 0, locals := 0 } : Room).slots) s₁ (mkF m 0 #[.val (.int pa0)] []) by
    obtain ⟨s2, o, g1, g2, g3, g4⟩ := hgo
    refine ⟨s2, o, castTop (?_ : entryFrame m #[(.int pa0)] 1 = _) g1, g2, g3, g4⟩
    first | (simp [entryFrame, mkF, argsToLocals, Value.category]; done) | rfl
  refine Go.on (T' := s₁) (g' := (mkF m 1 #[.val (.int pa0)] [(.int pa0)])) (fun t k => XS.iloadN X0.here hx rfl (hb hby d3_0) rfl k) ?_
  refine Go.on (T' := s₁) (g' := (mkF m 2 #[.val (.int pa0)] [(.int (1 : Int32)), (.int pa0)])) (fun t k => XS.iconst X0.here hx rfl (hb hby d3_1) k) ?_
  refine Go.on (T' := s₁) (g' := (mkF m 9 #[.val (.int pa0)] [])) (fun t k => XS.icmpYes X0.here hx rfl (pc0 := 2) (pc' := 9) rfl (hb hby d3_2) rfl (feq hp0).2 (by decide) (by decide) k) ?_
  refine Go.on (T' := s₁) (g' := (mkF m 10 #[.val (.int pa0)] [(.int pa0)])) (fun t k => XS.iloadN X0.here hx rfl (hb hby d3_9) rfl k) ?_
  refine Go.on (T' := s₁) (g' := (mkF m 11 #[.val (.int pa0)] [(.int (2 : Int32)), (.int pa0)])) (fun t k => XS.iconst X0.here hx rfl (hb hby d3_10) k) ?_
  refine Go.on (T' := s₁) (g' := (mkF m 18 #[.val (.int pa0)] [])) (fun t k => XS.icmpYes X0.here hx rfl (pc0 := 11) (pc' := 18) rfl (hb hby d3_11) rfl (feq hp1).2 (by decide) (by decide) k) ?_
  refine Go.on (T' := s₁) (g' := (mkF m 19 #[.val (.int pa0)] [(.int pa0)])) (fun t k => XS.iloadN X0.here hx rfl (hb hby d3_18) rfl k) ?_
  refine Go.on (T' := s₁) (g' := (mkF m 20 #[.val (.int pa0)] [(.int (3 : Int32)), (.int pa0)])) (fun t k => XS.iconst X0.here hx rfl (hb hby d3_19) k) ?_
  refine Go.on (T' := s₁) (g' := (mkF m 27 #[.val (.int pa0)] [])) (fun t k => XS.icmpYes X0.here hx rfl (pc0 := 20) (pc' := 27) rfl (hb hby d3_20) rfl (feq hp2).2 (by decide) (by decide) k) ?_
  refine Go.on (T' := s₁) (g' := (mkF m 28 #[.val (.int pa0)] [(.int pa0)])) (fun t k => XS.iloadN X0.here hx rfl (hb hby d3_27) rfl k) ?_
  refine Go.on (T' := s₁) (g' := (mkF m 29 #[.val (.int pa0)] [(.int (4 : Int32)), (.int pa0)])) (fun t k => XS.iconst X0.here hx rfl (hb hby d3_28) k) ?_
  refine Go.on (T' := s₁) (g' := (mkF m 36 #[.val (.int pa0)] [])) (fun t k => XS.icmpYes X0.here hx rfl (pc0 := 29) (pc' := 36) rfl (hb hby d3_29) rfl (feq hp3).2 (by decide) (by decide) k) ?_
  refine Go.on (T' := s₁) (g' := (mkF m 37 #[.val (.int pa0)] [(.int pa0)])) (fun t k => XS.iloadN X0.here hx rfl (hb hby d3_36) rfl k) ?_
  refine Go.on (T' := s₁) (g' := (mkF m 38 #[.val (.int pa0)] [(.int (5 : Int32)), (.int pa0)])) (fun t k => XS.iconst X0.here hx rfl (hb hby d3_37) k) ?_
  refine Go.on (T' := s₁) (g' := (mkF m 45 #[.val (.int pa0)] [])) (fun t k => XS.icmpYes X0.here hx rfl (pc0 := 38) (pc' := 45) rfl (hb hby d3_38) rfl (feq hp4).2 (by decide) (by decide) k) ?_
  refine Go.on (T' := s₁) (g' := (mkF m 46 #[.val (.int pa0)] [(.int pa0)])) (fun t k => XS.iloadN X0.here hx rfl (hb hby d3_45) rfl k) ?_
  refine Go.on (T' := s₁) (g' := (mkF m 48 #[.val (.int pa0)] [(.int (6 : Int32)), (.int pa0)])) (fun t k => XS.bipush X0.here hx rfl (hb hby d3_46) k) ?_
  refine Go.on (T' := s₁) (g' := (mkF m 51 #[.val (.int pa0)] [])) (fun t k => XS.icmpNo X0.here hx rfl (hb hby d3_48) rfl (teq hp5).2 k) ?_
  obtain ⟨T82, X82, e82, st82⟩ := getS2 X0 hx hZ hown (host := "") (Or.inl (hw _ (List.mem_of_getElem? (i := 40) rfl))) Via.refl e0 (pin_6 hP) (g := (mkF m 51 #[.val (.int pa0)] [])) rfl (hb hby d3_51)
  refine Go.on (T' := T82) (g' := (mkF m 54 #[.val (.int pa0)] [(.ref (w 6))])) st82 ?_
  obtain ⟨fs, hr, hrun, hended, hW, hsame⟩ := X82.leave (v := some (.ref (w 6))) (fun h => by rw [Bd.returns] at h; cases h)
  exact ⟨_, _, retOut X82 hx Bd.returns rfl (Or.inr (Or.inr (Or.inr (Or.inr ⟨rfl, rfl, rfl⟩)))) (hb hby d3_54) hr, hrun, hended, _, _, rfl, ⟨rfl, N0, e82⟩, ⟨_, rfl⟩, hW, hsame.mono (by decide) (by decide)⟩
theorem d1_37 : decode prog_37_method_7_code 37 = .ok (.aconst_null, 1) := by decide +kernel
theorem d1_38 : decode prog_37_method_7_code 38 = .ok (.areturn, 1) := by decide +kernel
set_option maxRecDepth 65536 in
set_option maxHeartbeats 40000000 in
theorem rm1_6 (l : Launch) (Z : State) (a0 : Array Value) (hw : ∀ d ∈ tables_1, d.before a0 Z = true) (ws : List Jvm.Cond) (w : Nat → Addr) (h0 : Heap) (n0 : Nat) (Z0 : n0 ≤ h0.size) (hP : Pins Z h0 w) (pa0 : Int32) (hp0 : ¬ ((1 : Int32) = pa0)) (hp1 : ¬ ((2 : Int32) = pa0)) (hp2 : ¬ ((3 : Int32) = pa0)) (hp3 : ¬ ((4 : Int32) = pa0)) (hp4 : ¬ ((5 : Int32) = pa0)) (hp5 : ¬ ((6 : Int32) = pa0)) :
    MetFree l (⟨"com/example/stubwright/stubwright/ParameterType", "fromCode", "(I)Lcom/example/stubwright/stubwright/ParameterType;"⟩ : MethodName) (head1 (Jvm.Cond.code (⟨"com/example/stubwright/stubwright/ParameterType", "fromCode", "(I)Lcom/example/stubwright/stubwright/ParameterType;"⟩ : MethodName) prog_37_method_7_code 5 (some (.object "com/example/stubwright/stubwright/ParameterType")) :: ws) ({ frames := 2, cells := 1, slots := 6, locals := 25 } : Room)) (fun a U => a = #[(.int pa0)] ∧ Z.Warmed39 U.vm ∧ U.heap = h0) (fun _ _ _ _ _ => True) (fun _ U o U' => ∃ v L, o = .returned v ∧ Qx (some .null) (fun h => True) h0 n0 v U'.heap L ∧ FrameEnd U o U' L ({ frames := 2, cells := 1, slots := 6, locals := 25 } : Room).cells ({ frames := 2, cells := 1, slots := 6, locals := 25 } : Room).slots) := by
  refine MetFree.of_bodySF (plainFor_of_name pn_0) hisR ?_
  intro p e s m args below meth c s₁ Bd hml0 hP0 hK
  obtain ⟨rfl, hZ, hh⟩ := hP0
  have hx := Bd.exec
  have hby := Bd.bytes
  have hml : c.maxLocals = 5 := hml0
  have hown : s.vm.findClass "com/example/stubwright/stubwright/ParameterType" = some m.cls := findClass_of_methodNamed Bd.named
  have hnm := (name_of_methodNamed Bd.named Bd.method).1
  have X0 : Stand p l e ({ frames := 2, cells := 1, slots := 6, locals := 25 } : Room) s m #[(.int pa0)] below meth c s₁ [] 0 0 := Stand.of_body Bd
  have e0 : s₁.heap = h0 := by rw [← hh, Bd.state]; rfl
  have N0 := Fr.nil n0
  suffices hgo : Go p e below (fun o U' => ∃ v L, o = .returned v ∧ Qx (some .null) (fun h => True) h0 n0 v U'.heap L ∧ FrameEnd s o U' L ({ frames := 2, cells := 1, slots := 6, locals := 25 } : Room).cells ({ frames := 2, cells := 1, slots := 6, locals := 25 } : Room).slots) s₁ (mkF m 0 #[.val (.int pa0), .unset, .unset, .unset, .unset] []) by
    obtain ⟨s2, o, g1, g2, g3, g4⟩ := hgo
    refine ⟨s2, o, castTop (?_ : entryFrame m #[(.int pa0)] 5 = _) g1, g2, g3, g4⟩
    first | (simp [entryFrame, mkF, argsToLocals, Value.category]; done) | rfl
  obtain ⟨_, _, ⟨T84, L84, k84, n84⟩, -, X84, ⟨Lc84, hQ84, l84, y84, z84⟩, st84⟩ := Jvm.LawKit.callS X0 hx (y := (⟨"com/example/stubwright/stubwright/ParameterType", "values", "()[Lcom/example/stubwright/stubwright/ParameterType;"⟩ : MethodName)) hown (mvT hZ (hw _ (List.mem_of_getElem? (i := 4) rfl))) (mvT hZ (hw _ (List.mem_of_getElem? (i := 5) rfl))) (mvT hZ (hw _ (List.mem_of_getElem? (i := 2) rfl))) (mvT hZ (hw _ (List.mem_of_getElem? (i := 6) rfl))) (by decide) (backOf (W := 0) (rm2_0 l Z a0 hw [] w h0 n0 (Nat.le_trans Z0 (own_ext0 h0).1) hP) hZ (hw _ (List.mem_of_getElem? (i := 6) rfl)) (hw _ (List.mem_of_getElem? (i := 2) rfl)) (by decide) (by decide)) (g := (mkF m 0 #[.val (.int pa0), .unset, .unset, .unset, .unset] [])) rfl (by rw [hml]; rfl) (argsL := []) (rest := []) (lenOf pd_0 rfl) rfl (by show 2 * 0 + _ ≤ _; exact Nat.le_of_eq rfl) (hb hby d1_0) (fun _ _ => ⟨rfl, e0, (by decide : 0 + 1 ≤ _), (by decide : 0 + 6 ≤ _)⟩)
  dsimp only [Pt.U, Pt.locs, Pt.cells, Pt.slots] at X84 l84 y84 z84 st84 hQ84
  subst l84 y84 z84
  obtain ⟨rfl, N84q, x84, f84⟩ := hQ84
  have N84 := Fr.app N0 N84q
  have e84 : T84.heap = T84.heap := rfl
  have sz84 : h0.size ≤ h0.size := (own_ext0 h0).1
  have XT84 := own_ext2 (own_ext0 h0) x84
  obtain ⟨k84, A84⟩ := f84
  refine Go.on (T' := T84) (g' := (mkF m 3 #[.val (.int pa0), .unset, .unset, .unset, .unset] [(.ref (h0.size))])) st84 ?_
  refine Go.on (T' := T84) (g' := (mkF m 4 #[.val (.int pa0), .val (.ref (h0.size)), .unset, .unset, .unset] [])) (fun t k => XS.astoreN X84.here hx rfl (hb hby d1_3) rfl rfl (l' := #[.val (.int pa0), .val (.ref (h0.size)), .unset, .unset, .unset]) rfl k) ?_
  refine Go.on (T' := T84) (g' := (mkF m 5 #[.val (.int pa0), .val (.ref (h0.size)), .unset, .unset, .unset] [(.ref (h0.size))])) (fun t k => XS.aloadN X84.here hx rfl (hb hby d1_4) rfl rfl k) ?_
  refine Go.on (T' := T84) (g' := (mkF m 6 #[.val (.int pa0), .val (.ref (h0.size)), .unset, .unset, .unset] [(.int (6 : Int32))])) (fun t k => X84.arraylength hx (by rw [e84]; exact A84.1) (State.isArrayOf_alike hZ.alike A84.2.1) (g := (mkF m 5 #[.val (.int pa0), .val (.ref (h0.size)), .unset, .unset, .unset] [(.ref (h0.size))])) rfl rfl (hb hby d1_5) t k) ?_
  refine Go.on (T' := T84) (g' := (mkF m 7 #[.val (.int pa0), .val (.ref (h0.size)), .val (.int (6 : Int32)), .unset, .unset] [])) (fun t k => XS.istoreN X84.here hx rfl (hb hby d1_6) rfl (l' := #[.val (.int pa0), .val (.ref (h0.size)), .val (.int (6 : Int32)), .unset, .unset]) rfl k) ?_
  refine Go.on (T' := T84) (g' := (mkF m 8 #[.val (.int pa0), .val (.ref (h0.size)), .val (.int (6 : Int32)), .unset, .unset] [(.int (0 : Int32))])) (fun t k => XS.iconst X84.here hx rfl (hb hby d1_7) k) ?_
  refine Go.on (T' := T84) (g' := (mkF m 9 #[.val (.int pa0), .val (.ref (h0.size)), .val (.int (6 : Int32)), .val (.int (0 : Int32)), .unset] [])) (fun t k => XS.istoreN X84.here hx rfl (hb hby d1_8) rfl (l' := #[.val (.int pa0), .val (.ref (h0.size)), .val (.int (6 : Int32)), .val (.int (0 : Int32)), .unset]) rfl k) ?_
  refine Go.on (T' := T84) (g' := (mkF m 10 #[.val (.int pa0), .val (.ref (h0.size)), .val (.int (6 : Int32)), .val (.int (0 : Int32)), .unset] [(.int (0 : Int32))])) (fun t k => XS.iloadN X84.here hx rfl (hb hby d1_9) rfl k) ?_
  refine Go.on (T' := T84) (g' := (mkF m 11 #[.val (.int pa0), .val (.ref (h0.size)), .val (.int (6 : Int32)), .val (.int (0 : Int32)), .unset] [(.int (6 : Int32)), (.int (0 : Int32))])) (fun t k => XS.iloadN X84.here hx rfl (hb hby d1_10) rfl k) ?_
  refine Go.on (T' := T84) (g' := (mkF m 14 #[.val (.int pa0), .val (.ref (h0.size)), .val (.int (6 : Int32)), .val (.int (0 : Int32)), .unset] [])) (fun t k => XS.icmpNo X84.here hx rfl (hb hby d1_11) rfl (tlt (by decide : (0 : Int32) < (6 : Int32))).2.1 k) ?_
  refine Go.on (T' := T84) (g' := (mkF m 15 #[.val (.int pa0), .val (.ref (h0.size)), .val (.int (6 : Int32)), .val (.int (0 : Int32)), .unset] [(.ref (h0.size))])) (fun t k => XS.aloadN X84.here hx rfl (hb hby d1_14) rfl rfl k) ?_
  refine Go.on (T' := T84) (g' := (mkF m 16 #[.val (.int pa0), .val (.ref (h0.size)), .val (.int (6 : Int32)), .val (.int (0 : Int32)), .unset] [(.int (0 : Int32)), (.ref (h0.size))])) (fun t k => XS.iloadN X84.here hx rfl (hb hby d1_15) rfl k) ?_
  refine Go.on (T' := T84) (g' := (mkF m 17 #[.val (.int pa0), .val (.ref (h0.size)), .val (.int (6 : Int32)), .val (.int (0 : Int32)), .unset] [(.ref (w 1))])) (fun t k => X84.aaload hx (j := (0 : Int32)) (v := (.ref (w 1))) (by rw [e84]; exact A84.1) (State.isArrayOf_alike hZ.alike A84.2.1) rfl A84.2.2 (by show ¬ (_ ∨ (6 : Nat) ≤ _); decide) rfl (g := (mkF m 16 #[.val (.int pa0), .val (.ref (h0.size)), .val (.int (6 : Int32)), .val (.int (0 : Int32)), .unset] [(.int (0 : Int32)), (.ref (h0.size))])) rfl rfl (hb hby d1_16) t k) ?_
  refine Go.on (T' := T84) (g' := (mkF m 19 #[.val (.int pa0), .val (.ref (h0.size)), .val (.int (6 : Int32)), .val (.int (0 : Int32)), .val (.ref (w 1))] [])) (fun t k => XS.astore X84.here hx rfl (hb hby d1_17) rfl rfl (l' := #[.val (.int pa0), .val (.ref (h0.size)), .val (.int (6 : Int32)), .val (.int (0 : Int32)), .val (.ref (w 1))]) rfl k) ?_
  refine Go.on (T' := T84) (g' := (mkF m 21 #[.val (.int pa0), .val (.ref (h0.size)), .val (.int (6 : Int32)), .val (.int (0 : Int32)), .val (.ref (w 1))] [(.ref (w 1))])) (fun t k => XS.aload X84.here hx rfl (hb hby d1_19) rfl rfl k) ?_
  obtain ⟨T85, X85, e85, st85⟩ := getF X84 hx hZ hown (host := "") (Or.inl (hw _ (List.mem_of_getElem? (i := 19) rfl))) Via.refl e84 (pin_14 (pins_ext XT84 hP)) (g := (mkF m 21 #[.val (.int pa0), .val (.ref (h0.size)), .val (.int (6 : Int32)), .val (.int (0 : Int32)), .val (.ref (w 1))] [(.ref (w 1))])) rfl rfl (hb hby d1_21)
  refine Go.on (T' := T85) (g' := (mkF m 24 #[.val (.int pa0), .val (.ref (h0.size)), .val (.int (6 : Int32)), .val (.int (0 : Int32)), .val (.ref (w 1))] [(.int (1 : Int32))])) st85 ?_
  refine Go.on (T' := T85) (g' := (mkF m 25 #[.val (.int pa0), .val (.ref (h0.size)), .val (.int (6 : Int32)), .val (.int (0 : Int32)), .val (.ref (w 1))] [(.int pa0), (.int (1 : Int32))])) (fun t k => XS.iloadN X85.here hx rfl (hb hby d1_24) rfl k) ?_
  refine Go.on (T' := T85) (g' := (mkF m 31 #[.val (.int pa0), .val (.ref (h0.size)), .val (.int (6 : Int32)), .val (.int (0 : Int32)), .val (.ref (w 1))] [])) (fun t k => XS.icmpYes X85.here hx rfl (pc0 := 25) (pc' := 31) rfl (hb hby d1_25) rfl (feq hp0).2 (by decide) (by decide) k) ?_
  refine Go.on (T' := T85) (g' := (mkF m 34 #[.val (.int pa0), .val (.ref (h0.size)), .val (.int (6 : Int32)), .val (.int (1 : Int32)), .val (.ref (w 1))] [])) (fun t k => XS.iinc X85.here hx rfl (hb hby d1_31) rfl (l' := #[.val (.int pa0), .val (.ref (h0.size)), .val (.int (6 : Int32)), .val (.int (1 : Int32)), .val (.ref (w 1))]) rfl k) ?_
  refine Go.on (T' := T85) (g' := (mkF m 9 #[.val (.int pa0), .val (.ref (h0.size)), .val (.int (6 : Int32)), .val (.int (1 : Int32)), .val (.ref (w 1))] [])) (fun t k => XS.goto X85.here hx rfl (pc0 := 34) (pc' := 9) rfl (hb hby d1_34) (by decide) (by decide) k) ?_
  refine Go.on (T' := T85) (g' := (mkF m 10 #[.val (.int pa0), .val (.ref (h0.size)), .val (.int (6 : Int32)), .val (.int (1 : Int32)), .val (.ref (w 1))] [(.int (1 : Int32))])) (fun t k => XS.iloadN X85.here hx rfl (hb hby d1_9) rfl k) ?_
  refine Go.on (T' := T85) (g' := (mkF m 11 #[.val (.int pa0), .val (.ref (h0.size)), .val (.int (6 : Int32)), .val (.int (1 : Int32)), .val (.ref (w 1))] [(.int (6 : Int32)), (.int (1 : Int32))])) (fun t k => XS.iloadN X85.here hx rfl (hb hby d1_10) rfl k) ?_
  refine Go.on (T' := T85) (g' := (mkF m 14 #[.val (.int pa0), .val (.ref (h0.size)), .val (.int (6 : Int32)), .val (.int (1 : Int32)), .val (.ref (w 1))] [])) (fun t k => XS.icmpNo X85.here hx rfl (hb hby d1_11) rfl (tlt (by decide : (1 : Int32) < (6 : Int32))).2.1 k) ?_
  refine Go.on (T' := T85) (g' := (mkF m 15 #[.val (.int pa0), .val (.ref (h0.size)), .val (.int (6 : Int32)), .val (.int (1 : Int32)), .val (.ref (w 1))] [(.ref (h0.size))])) (fun t k => XS.aloadN X85.here hx rfl (hb hby d1_14) rfl rfl k) ?_
  refine Go.on (T' := T85) (g' := (mkF m 16 #[.val (.int pa0), .val (.ref (h0.size)), .val (.int (6 : Int32)), .val (.int (1 : Int32)), .val (.ref (w 1))] [(.int (1 : Int32)), (.ref (h0.size))])) (fun t k => XS.iloadN X85.here hx rfl (hb hby d1_15) rfl k) ?_
  refine Go.on (T' := T85) (g' := (mkF m 17 #[.val (.int pa0), .val (.ref (h0.size)), .val (.int (6 : Int32)), .val (.int (1 : Int32)), .val (.ref (w 1))] [(.ref (w 2))])) (fun t k => X85.aaload hx (j := (1 : Int32)) (v := (.ref (w 2))) (by rw [e85]; exact A84.1) (State.isArrayOf_alike hZ.alike A84.2.1) rfl A84.2.2 (by show ¬ (_ ∨ (6 : Nat) ≤ _); decide) rfl (g := (mkF m 16 #[.val (.int pa0), .val (.ref (h0.size)), .val (.int (6 : Int32)), .val (.int (1 : Int32)), .val (.ref (w 1))] [(.int (1 : Int32)), (.ref (h0.size))])) rfl rfl (hb hby d1_16) t k) ?_
  refine Go.on (T' := T85) (g' := (mkF m 19 #[.val (.int pa0), .val (.ref (h0.size)), .val (.int (6 : Int32)), .val (.int (1 : Int32)), .val (.ref (w 2))] [])) (fun t k => XS.astore X85.here hx rfl (hb hby d1_17) rfl rfl (l' := #[.val (.int pa0), .val (.ref (h0.size)), .val (.int (6 : Int32)), .val (.int (1 : Int32)), .val (.ref (w 2))]) rfl k) ?_
  refine Go.on (T' := T85) (g' := (mkF m 21 #[.val (.int pa0), .val (.ref (h0.size)), .val (.int (6 : Int32)), .val (.int (1 : Int32)), .val (.ref (w 2))] [(.ref (w 2))])) (fun t k => XS.aload X85.here hx rfl (hb hby d1_19) rfl rfl k) ?_
  obtain ⟨T86, X86, e86, st86⟩ := getF X85 hx hZ hown (host := "") (Or.inl (hw _ (List.mem_of_getElem? (i := 19) rfl))) Via.refl e85 (pin_15 (pins_ext XT84 hP)) (g := (mkF m 21 #[.val (.int pa0), .val (.ref (h0.size)), .val (.int (6 : Int32)), .val (.int (1 : Int32)), .val (.ref (w 2))] [(.ref (w 2))])) rfl rfl (hb hby d1_21)
  refine Go.on (T' := T86) (g' := (mkF m 24 #[.val (.int pa0), .val (.ref (h0.size)), .val (.int (6 : Int32)), .val (.int (1 : Int32)), .val (.ref (w 2))] [(.int (2 : Int32))])) st86 ?_
  refine Go.on (T' := T86) (g' := (mkF m 25 #[.val (.int pa0), .val (.ref (h0.size)), .val (.int (6 : Int32)), .val (.int (1 : Int32)), .val (.ref (w 2))] [(.int pa0), (.int (2 : Int32))])) (fun t k => XS.iloadN X86.here hx rfl (hb hby d1_24) rfl k) ?_
  refine Go.on (T' := T86) (g' := (mkF m 31 #[.val (.int pa0), .val (.ref (h0.size)), .val (.int (6 : Int32)), .val (.int (1 : Int32)), .val (.ref (w 2))] [])) (fun t k => XS.icmpYes X86.here hx rfl (pc0 := 25) (pc' := 31) rfl (hb hby d1_25) rfl (feq hp1).2 (by decide) (by decide) k) ?_
  refine Go.on (T' := T86) (g' := (mkF m 34 #[.val (.int pa0), .val (.ref (h0.size)), .val (.int (6 : Int32)), .val (.int (2 : Int32)), .val (.ref (w 2))] [])) (fun t k => XS.iinc X86.here hx rfl (hb hby d1_31) rfl (l' := #[.val (.int pa0), .val (.ref (h0.size)), .val (.int (6 : Int32)), .val (.int (2 : Int32)), .val (.ref (w 2))]) rfl k) ?_
  refine Go.on (T' := T86) (g' := (mkF m 9 #[.val (.int pa0), .val (.ref (h0.size)), .val (.int (6 : Int32)), .val (.int (2 : Int32)), .val (.ref (w 2))] [])) (fun t k => XS.goto X86.here hx rfl (pc0 := 34) (pc' := 9) rfl (hb hby d1_34) (by decide) (by decide) k) ?_
  refine Go.on (T' := T86) (g' := (mkF m 10 #[.val (.int pa0), .val (.ref (h0.size)), .val (.int (6 : Int32)), .val (.int (2 : Int32)), .val (.ref (w 2))] [(.int (2 : Int32))])) (fun t k => XS.iloadN X86.here hx rfl (hb hby d1_9) rfl k) ?_
  refine Go.on (T' := T86) (g' := (mkF m 11 #[.val (.int pa0), .val (.ref (h0.size)), .val (.int (6 : Int32)), .val (.int (2 : Int32)), .val (.ref (w 2))] [(.int (6 : Int32)), (.int (2 : Int32))])) (fun t k => XS.iloadN X86.here hx rfl (hb hby d1_10) rfl k) ?_
  refine Go.on (T' := T86) (g' := (mkF m 14 #[.val (.int pa0), .val (.ref (h0.size)), .val (.int (6 : Int32)), .val (.int (2 : Int32)), .val (.ref (w 2))] [])) (fun t k => XS.icmpNo X86.here hx rfl (hb hby d1_11) rfl (tlt (by decide : (2 : Int32) < (6 : Int32))).2.1 k) ?_
  refine Go.on (T' := T86) (g' := (mkF m 15 #[.val (.int pa0), .val (.ref (h0.size)), .val (.int (6 : Int32)), .val (.int (2 : Int32)), .val (.ref (w 2))] [(.ref (h0.size))])) (fun t k => XS.aloadN X86.here hx rfl (hb hby d1_14) rfl rfl k) ?_
  refine Go.on (T' := T86) (g' := (mkF m 16 #[.val (.int pa0), .val (.ref (h0.size)), .val (.int (6 : Int32)), .val (.int (2 : Int32)), .val (.ref (w 2))] [(.int (2 : Int32)), (.ref (h0.size))])) (fun t k => XS.iloadN X86.here hx rfl (hb hby d1_15) rfl k) ?_
  refine Go.on (T' := T86) (g' := (mkF m 17 #[.val (.int pa0), .val (.ref (h0.size)), .val (.int (6 : Int32)), .val (.int (2 : Int32)), .val (.ref (w 2))] [(.ref (w 3))])) (fun t k => X86.aaload hx (j := (2 : Int32)) (v := (.ref (w 3))) (by rw [e86]; exact A84.1) (State.isArrayOf_alike hZ.alike A84.2.1) rfl A84.2.2 (by show ¬ (_ ∨ (6 : Nat) ≤ _); decide) rfl (g := (mkF m 16 #[.val (.int pa0), .val (.ref (h0.size)), .val (.int (6 : Int32)), .val (.int (2 : Int32)), .val (.ref (w 2))] [(.int (2 : Int32)), (.ref (h0.size))])) rfl rfl (hb hby d1_16) t k) ?_
  refine Go.on (T' := T86) (g' := (mkF m 19 #[.val (.int pa0), .val (.ref (h0.size)), .val (.int (6 : Int32)), .val (.int (2 : Int32)), .val (.ref (w 3))] [])) (fun t k => XS.astore X86.here hx rfl (hb hby d1_17) rfl rfl (l' := #[.val (.int pa0), .val (.ref (h0.size)), .val (.int (6 : Int32)), .val (.int (2 : Int32)), .val (.ref (w 3))]) rfl k) ?_
  refine Go.on (T' := T86) (g' := (mkF m 21 #[.val (.int pa0), .val (.ref (h0.size)), .val (.int (6 : Int32)), .val (.int (2 : Int32)), .val (.ref (w 3))] [(.ref (w 3))])) (fun t k => XS.aload X86.here hx rfl (hb hby d1_19) rfl rfl k) ?_
  obtain ⟨T87, X87, e87, st87⟩ := getF X86 hx hZ hown (host := "") (Or.inl (hw _ (List.mem_of_getElem? (i := 19) rfl))) Via.refl e86 (pin_16 (pins_ext XT84 hP)) (g := (mkF m 21 #[.val (.int pa0), .val (.ref (h0.size)), .val (.int (6 : Int32)), .val (.int (2 : Int32)), .val (.ref (w 3))] [(.ref (w 3))])) rfl rfl (hb hby d1_21)
  refine Go.on (T' := T87) (g' := (mkF m 24 #[.val (.int pa0), .val (.ref (h0.size)), .val (.int (6 : Int32)), .val (.int (2 : Int32)), .val (.ref (w 3))] [(.int (3 : Int32))])) st87 ?_
  refine Go.on (T' := T87) (g' := (mkF m 25 #[.val (.int pa0), .val (.ref (h0.size)), .val (.int (6 : Int32)), .val (.int (2 : Int32)), .val (.ref (w 3))] [(.int pa0), (.int (3 : Int32))])) (fun t k => XS.iloadN X87.here hx rfl (hb hby d1_24) rfl k) ?_
  refine Go.on (T' := T87) (g' := (mkF m 31 #[.val (.int pa0), .val (.ref (h0.size)), .val (.int (6 : Int32)), .val (.int (2 : Int32)), .val (.ref (w 3))] [])) (fun t k => XS.icmpYes X87.here hx rfl (pc0 := 25) (pc' := 31) rfl (hb hby d1_25) rfl (feq hp2).2 (by decide) (by decide) k) ?_
  refine Go.on (T' := T87) (g' := (mkF m 34 #[.val (.int pa0), .val (.ref (h0.size)), .val (.int (6 : Int32)), .val (.int (3 : Int32)), .val (.ref (w 3))] [])) (fun t k => XS.iinc X87.here hx rfl (hb hby d1_31) rfl (l' := #[.val (.int pa0), .val (.ref (h0.size)), .val (.int (6 : Int32)), .val (.int (3 : Int32)), .val (.ref (w 3))]) rfl k) ?_
  refine Go.on (T' := T87) (g' := (mkF m 9 #[.val (.int pa0), .val (.ref (h0.size)), .val (.int (6 : Int32)), .val (.int (3 : Int32)), .val (.ref (w 3))] [])) (fun t k => XS.goto X87.here hx rfl (pc0 := 34) (pc' := 9) rfl (hb hby d1_34) (by decide) (by decide) k) ?_
  refine Go.on (T' := T87) (g' := (mkF m 10 #[.val (.int pa0), .val (.ref (h0.size)), .val (.int (6 : Int32)), .val (.int (3 : Int32)), .val (.ref (w 3))] [(.int (3 : Int32))])) (fun t k => XS.iloadN X87.here hx rfl (hb hby d1_9) rfl k) ?_
  refine Go.on (T' := T87) (g' := (mkF m 11 #[.val (.int pa0), .val (.ref (h0.size)), .val (.int (6 : Int32)), .val (.int (3 : Int32)), .val (.ref (w 3))] [(.int (6 : Int32)), (.int (3 : Int32))])) (fun t k => XS.iloadN X87.here hx rfl (hb hby d1_10) rfl k) ?_
  refine Go.on (T' := T87) (g' := (mkF m 14 #[.val (.int pa0), .val (.ref (h0.size)), .val (.int (6 : Int32)), .val (.int (3 : Int32)), .val (.ref (w 3))] [])) (fun t k => XS.icmpNo X87.here hx rfl (hb hby d1_11) rfl (tlt (by decide : (3 : Int32) < (6 : Int32))).2.1 k) ?_
  refine Go.on (T' := T87) (g' := (mkF m 15 #[.val (.int pa0), .val (.ref (h0.size)), .val (.int (6 : Int32)), .val (.int (3 : Int32)), .val (.ref (w 3))] [(.ref (h0.size))])) (fun t k => XS.aloadN X87.here hx rfl (hb hby d1_14) rfl rfl k) ?_
  refine Go.on (T' := T87) (g' := (mkF m 16 #[.val (.int pa0), .val (.ref (h0.size)), .val (.int (6 : Int32)), .val (.int (3 : Int32)), .val (.ref (w 3))] [(.int (3 : Int32)), (.ref (h0.size))])) (fun t k => XS.iloadN X87.here hx rfl (hb hby d1_15) rfl k) ?_
  refine Go.on (T' := T87) (g' := (mkF m 17 #[.val (.int pa0), .val (.ref (h0.size)), .val (.int (6 : Int32)), .val (.int (3 : Int32)), .val (.ref (w 3))] [(.ref (w 4))])) (fun t k => X87.aaload hx (j := (3 : Int32)) (v := (.ref (w 4))) (by rw [e87]; exact A84.1) (State.isArrayOf_alike hZ.alike A84.2.1) rfl A84.2.2 (by show ¬ (_ ∨ (6 : Nat) ≤ _); decide) rfl (g := (mkF m 16 #[.val (.int pa0), .val (.ref (h0.size)), .val (.int (6 : Int32)), .val (.int (3 : Int32)), .val (.ref (w 3))] [(.int (3 : Int32)), (.ref (h0.size))])) rfl rfl (hb hby d1_16) t k) ?_
  refine Go.on (T' := T87) (g' := (mkF m 19 #[.val (.int pa0), .val (.ref (h0.size)), .val (.int (6 : Int32)), .val (.int (3 : Int32)), .val (.ref (w 4))] [])) (fun t k => XS.astore X87.here hx rfl (hb hby d1_17) rfl rfl (l' := #[.val (.int pa0), .val (.ref (h0.size)), .val (.int (6 : Int32)), .val (.int (3 : Int32)), .val (.ref (w 4))]) rfl k) ?_
  refine Go.on (T' := T87) (g' := (mkF m 21 #[.val (.int pa0), .val (.ref (h0.size)), .val (.int (6 : Int32)), .val (.int (3 : Int32)), .val (.ref (w 4))] [(.ref (w 4))])) (fun t k => XS.aload X87.here hx rfl (hb hby d1_19) rfl rfl k) ?_
  obtain ⟨T88, X88, e88, st88⟩ := getF X87 hx hZ hown (host := "") (Or.inl (hw _ (List.mem_of_getElem? (i := 19) rfl))) Via.refl e87 (pin_17 (pins_ext XT84 hP)) (g := (mkF m 21 #[.val (.int pa0), .val (.ref (h0.size)), .val (.int (6 : Int32)), .val (.int (3 : Int32)), .val (.ref (w 4))] [(.ref (w 4))])) rfl rfl (hb hby d1_21)
  refine Go.on (T' := T88) (g' := (mkF m 24 #[.val (.int pa0), .val (.ref (h0.size)), .val (.int (6 : Int32)), .val (.int (3 : Int32)), .val (.ref (w 4))] [(.int (4 : Int32))])) st88 ?_
  refine Go.on (T' := T88) (g' := (mkF m 25 #[.val (.int pa0), .val (.ref (h0.size)), .val (.int (6 : Int32)), .val (.int (3 : Int32)), .val (.ref (w 4))] [(.int pa0), (.int (4 : Int32))])) (fun t k => XS.iloadN X88.here hx rfl (hb hby d1_24) rfl k) ?_
  refine Go.on (T' := T88) (g' := (mkF m 31 #[.val (.int pa0), .val (.ref (h0.size)), .val (.int (6 : Int32)), .val (.int (3 : Int32)), .val (.ref (w 4))] [])) (fun t k => XS.icmpYes X88.here hx rfl (pc0 := 25) (pc' := 31) rfl (hb hby d1_25) rfl (feq hp3).2 (by decide) (by decide) k) ?_
  refine Go.on (T' := T88) (g' := (mkF m 34 #[.val (.int pa0), .val (.ref (h0.size)), .val (.int (6 : Int32)), .val (.int (4 : Int32)), .val (.ref (w 4))] [])) (fun t k => XS.iinc X88.here hx rfl (hb hby d1_31) rfl (l' := #[.val (.int pa0), .val (.ref (h0.size)), .val (.int (6 : Int32)), .val (.int (4 : Int32)), .val (.ref (w 4))]) rfl k) ?_
  refine Go.on (T' := T88) (g' := (mkF m 9 #[.val (.int pa0), .val (.ref (h0.size)), .val (.int (6 : Int32)), .val (.int (4 : Int32)), .val (.ref (w 4))] [])) (fun t k => XS.goto X88.here hx rfl (pc0 := 34) (pc' := 9) rfl (hb hby d1_34) (by decide) (by decide) k) ?_
  refine Go.on (T' := T88) (g' := (mkF m 10 #[.val (.int pa0), .val (.ref (h0.size)), .val (.int (6 : Int32)), .val (.int (4 : Int32)), .val (.ref (w 4))] [(.int (4 : Int32))])) (fun t k => XS.iloadN X88.here hx rfl (hb hby d1_9) rfl k) ?_
  refine Go.on (T' := T88) (g' := (mkF m 11 #[.val (.int pa0), .val (.ref (h0.size)), .val (.int (6 : Int32)), .val (.int (4 : Int32)), .val (.ref (w 4))] [(.int (6 : Int32)), (.int (4 : Int32))])) (fun t k => XS.iloadN X88.here hx rfl (hb hby d1_10) rfl k) ?_
  refine Go.on (T' := T88) (g' := (mkF m 14 #[.val (.int pa0), .val (.ref (h0.size)), .val (.int (6 : Int32)), .val (.int (4 : Int32)), .val (.ref (w 4))] [])) (fun t k => XS.icmpNo X88.here hx rfl (hb hby d1_11) rfl (tlt (by decide : (4 : Int32) < (6 : Int32))).2.1 k) ?_
  refine Go.on (T' := T88) (g' := (mkF m 15 #[.val (.int pa0), .val (.ref (h0.size)), .val (.int (6 : Int32)), .val (.int (4 : Int32)), .val (.ref (w 4))] [(.ref (h0.size))])) (fun t k => XS.aloadN X88.here hx rfl (hb hby d1_14) rfl rfl k) ?_
  refine Go.on (T' := T88) (g' := (mkF m 16 #[.val (.int pa0), .val (.ref (h0.size)), .val (.int (6 : Int32)), .val (.int (4 : Int32)), .val (.ref (w 4))] [(.int (4 : Int32)), (.ref (h0.size))])) (fun t k => XS.iloadN X88.here hx rfl (hb hby d1_15) rfl k) ?_
  refine Go.on (T' := T88) (g' := (mkF m 17 #[.val (.int pa0), .val (.ref (h0.size)), .val (.int (6 : Int32)), .val (.int (4 : Int32)), .val (.ref (w 4))] [(.ref (w 5))])) (fun t k => X88.aaload hx (j := (4 : Int32)) (v := (.ref (w 5))) (by rw [e88]; exact A84.1) (State.isArrayOf_alike hZ.alike A84.2.1) rfl A84.2.2 (by show ¬ (_ ∨ (6 : Nat) ≤ _); decide) rfl (g := (mkF m 16 #[.val (.int pa0), .val (.ref (h0.size)), .val (.int (6 : Int32)), .val (.int (4 : Int32)), .val (.ref (w 4))] [(.int (4 : Int32)), (.ref (h0.size))])) rfl rfl (hb hby d1_16) t k) ?_
  refine Go.on (T' := T88) (g' := (mkF m 19 #[.val (.int pa0), .val (.ref (h0.size)), .val (.int (6 : Int32)), .val (.int (4 : Int32)), .val (.ref (w 5))] [])) (fun t k => XS.astore X88.here hx rfl (hb hby d1_17) rfl rfl (l' := #[.val (.int pa0), .val (.ref (h0.size)), .val (.int (6 : Int32)), .val (.int (4 : Int32)), .val (.ref (w 5))]) rfl k) ?_
  refine Go.on (T' := T88) (g' := (mkF m 21 #[.val (.int pa0), .val (.ref (h0.size)), .val (.int (6 : Int32)), .val (.int (4 : Int32)), .val (.ref (w 5))] [(.ref (w 5))])) (fun t k => XS.aload X88.here hx rfl (hb hby d1_19) rfl rfl k) ?_
  obtain ⟨T89, X89, e89, st89⟩ := getF X88 hx hZ hown (host := "") (Or.inl (hw _ (List.mem_of_getElem? (i := 19) rfl))) Via.refl e88 (pin_18 (pins_ext XT84 hP)) (g := (mkF m 21 #[.val (.int pa0), .val (.ref (h0.size)), .val (.int (6 : Int32)), .val (.int (4 : Int32)), .val (.ref (w 5))] [(.ref (w 5))])) rfl rfl (hb hby d1_21)
  refine Go.on (T' := T89) (g' := (mkF m 24 #[.val (.int pa0), .val (.ref (h0.size)), .val (.int (6 : Int32)), .val (.int (4 : Int32)), .val (.ref (w 5))] [(.int (5 : Int32))])) st89 ?_
  refine Go.on (T' := T89) (g' := (mkF m 25 #[.val (.int pa0), .val (.ref (h0.size)), .val (.int (6 : Int32)), .val (.int (4 : Int32)), .val (.ref (w 5))] [(.int pa0), (.int (5 : Int32))])) (fun t k => XS.iloadN X89.here hx rfl (hb hby d1_24) rfl k) ?_
  refine Go.on (T' := T89) (g' := (mkF m 31 #[.val (.int pa0), .val (.ref (h0.size)), .val (.int (6 : Int32)), .val (.int (4 : Int32)), .val (.ref (w 5))] [])) (fun t k => XS.icmpYes X89.here hx rfl (pc0 := 25) (pc' := 31) rfl (hb hby d1_25) rfl (feq hp4).2 (by decide) (by decide) k) ?_
  refine Go.on (T' := T89) (g' := (mkF m 34 #[.val (.int pa0), .val (.ref (h0.size)), .val (.int (6 : Int32)), .val (.int (5 : Int32)), .val (.ref (w 5))] [])) (fun t k => XS.iinc X89.here hx rfl (hb hby d1_31) rfl (l' := #[.val (.int pa0), .val (.ref (h0.size)), .val (.int (6 : Int32)), .val (.int (5 : Int32)), .val (.ref (w 5))]) rfl k) ?_
  refine Go.on (T' := T89) (g' := (mkF m 9 #[.val (.int pa0), .val (.ref (h0.size)), .val (.int (6 : Int32)), .val (.int (5 : Int32)), .val (.ref (w 5))] [])) (fun t k => XS.goto X89.here hx rfl (pc0 := 34) (pc' := 9) rfl (hb hby d1_34) (by decide) (by decide) k) ?_
  refine Go.on (T' := T89) (g' := (mkF m 10 #[.val (.int pa0), .val (.ref (h0.size)), .val (.int (6 : Int32)), .val (.int (5 : Int32)), .val (.ref (w 5))] [(.int (5 : Int32))])) (fun t k => XS.iloadN X89.here hx rfl (hb hby d1_9) rfl k) ?_
  refine Go.on (T' := T89) (g' := (mkF m 11 #[.val (.int pa0), .val (.ref (h0.size)), .val (.int (6 : Int32)), .val (.int (5 : Int32)), .val (.ref (w 5))] [(.int (6 : Int32)), (.int (5 : Int32))])) (fun t k => XS.iloadN X89.here hx rfl (hb hby d1_10) rfl k) ?_
  refine Go.on (T' := T89) (g' := (mkF m 14 #[.val (.int pa0), .val (.ref (h0.size)), .val (.int (6 : Int32)), .val (.int (5 : Int32)), .val (.ref (w 5))] [])) (fun t k => XS.icmpNo X89.here hx rfl (hb hby d1_11) rfl (tlt (by decide : (5 : Int32) < (6 : Int32))).2.1 k) ?_
  refine Go.on (T' := T89) (g' := (mkF m 15 #[.val (.int pa0), .val (.ref (h0.size)), .val (.int (6 : Int32)), .val (.int (5 : Int32)), .val (.ref (w 5))] [(.ref (h0.size))])) (fun t k => XS.aloadN X89.here hx rfl (hb hby d1_14) rfl rfl k) ?_
  refine Go.on (T' := T89) (g' := (mkF m 16 #[.val (.int pa0), .val (.ref (h0.size)), .val (.int (6 : Int32)), .val (.int (5 : Int32)), .val (.ref (w 5))] [(.int (5 : Int32)), (.ref (h0.size))])) (fun t k => XS.iloadN X89.here hx rfl (hb hby d1_15) rfl k) ?_
  refine Go.on (T' := T89) (g' := (mkF m 17 #[.val (.int pa0), .val (.ref (h0.size)), .val (.int (6 : Int32)), .val (.int (5 : Int32)), .val (.ref (w 5))] [(.ref (w 6))])) (fun t k => X89.aaload hx (j := (5 : Int32)) (v := (.ref (w 6))) (by rw [e89]; exact A84.1) (State.isArrayOf_alike hZ.alike A84.2.1) rfl A84.2.2 (by show ¬ (_ ∨ (6 : Nat) ≤ _); decide) rfl (g := (mkF m 16 #[.val (.int pa0), .val (.ref (h0.size)), .val (.int (6 : Int32)), .val (.int (5 : Int32)), .val (.ref (w 5))] [(.int (5 : Int32)), (.ref (h0.size))])) rfl rfl (hb hby d1_16) t k) ?_
  refine Go.on (T' := T89) (g' := (mkF m 19 #[.val (.int pa0), .val (.ref (h0.size)), .val (.int (6 : Int32)), .val (.int (5 : Int32)), .val (.ref (w 6))] [])) (fun t k => XS.astore X89.here hx rfl (hb hby d1_17) rfl rfl (l' := #[.val (.int pa0), .val (.ref (h0.size)), .val (.int (6 : Int32)), .val (.int (5 : Int32)), .val (.ref (w 6))]) rfl k) ?_
  refine Go.on (T' := T89) (g' := (mkF m 21 #[.val (.int pa0), .val (.ref (h0.size)), .val (.int (6 : Int32)), .val (.int (5 : Int32)), .val (.ref (w 6))] [(.ref (w 6))])) (fun t k => XS.aload X89.here hx rfl (hb hby d1_19) rfl rfl k) ?_
  obtain ⟨T90, X90, e90, st90⟩ := getF X89 hx hZ hown (host := "") (Or.inl (hw _ (List.mem_of_getElem? (i := 19) rfl))) Via.refl e89 (pin_19 (pins_ext XT84 hP)) (g := (mkF m 21 #[.val (.int pa0), .val (.ref (h0.size)), .val (.int (6 : Int32)), .val (.int (5 : Int32)), .val (.ref (w 6))] [(.ref (w 6))])) rfl rfl (hb hby d1_21)
  refine Go.on (T' := T90) (g' := (mkF m 24 #[.val (.int pa0), .val (.ref (h0.size)), .val (.int (6 : Int32)), .val (.int (5 : Int32)), .val (.ref (w 6))] [(.int (6 : Int32))])) st90 ?_
  refine Go.on (T' := T90) (g' := (mkF m 25 #[.val (.int pa0), .val (.ref (h0.size)), .val (.int (6 : Int32)), .val (.int (5 : Int32)), .val (.ref (w 6))] [(.int pa0), (.int (6 : Int32))])) (fun t k => XS.iloadN X90.here hx rfl (hb hby d1_24) rfl k) ?_
  refine Go.on (T' := T90) (g' := (mkF m 31 #[.val (.int pa0), .val (.ref (h0.size)), .val (.int (6 : Int32)), .val (.int (5 : Int32)), .val (.ref (w 6))] [])) (fun t k => XS.icmpYes X90.here hx rfl (pc0 := 25) (pc' := 31) rfl (hb hby d1_25) rfl (feq hp5).2 (by decide) (by decide) k) ?_
  refine Go.on (T' := T90) (g' := (mkF m 34 #[.val (.int pa0), .val (.ref (h0.size)), .val (.int (6 : Int32)), .val (.int (6 : Int32)), .val (.ref (w 6))] [])) (fun t k => XS.iinc X90.here hx rfl (hb hby d1_31) rfl (l' := #[.val (.int pa0), .val (.ref (h0.size)), .val (.int (6 : Int32)), .val (.int (6 : Int32)), .val (.ref (w 6))]) rfl k) ?_
  refine Go.on (T' := T90) (g' := (mkF m 9 #[.val (.int pa0), .val (.ref (h0.size)), .val (.int (6 : Int32)), .val (.int (6 : Int32)), .val (.ref (w 6))] [])) (fun t k => XS.goto X90.here hx rfl (pc0 := 34) (pc' := 9) rfl (hb hby d1_34) (by decide) (by decide) k) ?_
  refine Go.on (T' := T90) (g' := (mkF m 10 #[.val (.int pa0), .val (.ref (h0.size)), .val (.int (6 : Int32)), .val (.int (6 : Int32)), .val (.ref (w 6))] [(.int (6 : Int32))])) (fun t k => XS.iloadN X90.here hx rfl (hb hby d1_9) rfl k) ?_
  refine Go.on (T' := T90) (g' := (mkF m 11 #[.val (.int pa0), .val (.ref (h0.size)), .val (.int (6 : Int32)), .val (.int (6 : Int32)), .val (.ref (w 6))] [(.int (6 : Int32)), (.int (6 : Int32))])) (fun t k => XS.iloadN X90.here hx rfl (hb hby d1_10) rfl k) ?_
  refine Go.on (T' := T90) (g' := (mkF m 37 #[.val (.int pa0), .val (.ref (h0.size)), .val (.int (6 : Int32)), .val (.int (6 : Int32)), .val (.ref (w 6))] [])) (fun t k => XS.icmpYes X90.here hx rfl (pc0 := 11) (pc' := 37) rfl (hb hby d1_11) rfl (flt (by decide : ¬ ((6 : Int32) < (6 : Int32)))).2.1 (by decide) (by decide) k) ?_
  refine Go.on (T' := T90) (g' := (mkF m 38 #[.val (.int pa0), .val (.ref (h0.size)), .val (.int (6 : Int32)), .val (.int (6 : Int32)), .val (.ref (w 6))] [.null])) (fun t k => XS.aconstNull X90.here hx rfl (hb hby d1_37) k) ?_
  obtain ⟨fs, hr, hrun, hended, hW, hsame⟩ := X90.leave (v := some .null) (fun h => by rw [Bd.returns] at h; cases h)
  exact ⟨_, _, retOut X90 hx Bd.returns rfl (Or.inr (Or.inr (Or.inr (Or.inr ⟨rfl, rfl, rfl⟩)))) (hb hby d1_38) hr, hrun, hended, _, _, rfl, ⟨rfl, N84, own_extE e90 XT84, trivial⟩, ⟨_, rfl⟩, hW, hsame.mono (by decide) (by decide)⟩
theorem d3_55 : decode method_2_code 55 = .ok (.aconst_null, 1) := by decide +kernel
theorem d3_56 : decode method_2_code 56 = .ok (.areturn, 1) := by decide +kernel
set_option maxRecDepth 65536 in
set_option maxHeartbeats 40000000 in
theorem rm3_6 (l : Launch) (Z : State) (a0 : Array Value) (hw : ∀ d ∈ tables_1, d.before a0 Z = true) (ws : List Jvm.Cond) (w : Nat → Addr) (h0 : Heap) (n0 : Nat) (Z0 : n0 ≤ h0.size) (hP : Pins Z h0 w) (pa0 : Int32) (hp0 : ¬ (pa0 = (1 : Int32))) (hp1 : ¬ (pa0 = (2 : Int32))) (hp2 : ¬ (pa0 = (3 : Int32))) (hp3 : ¬ (pa0 = (4 : Int32))) (hp4 : ¬ (pa0 = (5 : Int32))) (hp5 : ¬ (pa0 = (6 : Int32))) :
    MetFree l (⟨"com/example/stubwright/stubwright/ParameterTypeFromCodePinLaw", "expected", "(I)Lcom/example/stubwright/stubwright/ParameterType;"⟩ : MethodName) (head1 (Jvm.Cond.code (⟨"com/example/stubwright/stubwright/ParameterTypeFromCodePinLaw", "expected", "(I)Lcom/example/stubwright/stubwright/ParameterType;"⟩ : MethodName) method_2_code 1 (some (.object "com/example/stubwright/stubwright/ParameterType")) :: ws) ({ frames := 0, cells := 0, slots := 0, locals := 0 } : Room)) (fun a U => a = #[(.int pa0)] ∧ Z.Warmed39 U.vm ∧ U.heap = h0) (fun _ _ _ _ _ => True) (fun _ U o U' => ∃ v L, o = .returned v ∧ Qp (some .null) h0 n0 v U'.heap L ∧ FrameEnd U o U' L ({ frames := 0, cells := 0, slots := 0, locals := 0 } : Room).cells ({ frames := 0, cells := 0, slots := 0, locals := 0 } : Room).slots) := by
  refine MetFree.of_bodySF (plainFor_of_name pn_1) hisR ?_
  intro p e s m args below meth c s₁ Bd hml0 hP0 hK
  obtain ⟨rfl, hZ, hh⟩ := hP0
  have hx := Bd.exec
  have hby := Bd.bytes
  have hml : c.maxLocals = 1 := hml0
  have hown : s.vm.findClass "com/example/stubwright/stubwright/ParameterTypeFromCodePinLaw" = some m.cls := findClass_of_methodNamed Bd.named
  have hnm := (name_of_methodNamed Bd.named Bd.method).1
  have X0 : Stand p l e ({ frames := 0, cells := 0, slots := 0, locals := 0 } : Room) s m #[(.int pa0)] below meth c s₁ [] 0 0 := Stand.of_body Bd
  have e0 : s₁.heap = h0 := by rw [← hh, Bd.state]; rfl
  have N0 := Fr.nil n0
  suffices hgo : Go p e below (fun o U' => ∃ v L, o = .returned v ∧ Qp (some .null) h0 n0 v U'.heap L ∧ FrameEnd s o U' L ({ frames := 0, cells := 0, slots := 0, locals := 0 } : Room).cells ({ frames := 0, cells := 0, slots := 0, locals := 0 } : Room).slots) s₁ (mkF m 0 #[.val (.int pa0)] []) by
    obtain ⟨s2, o, g1, g2, g3, g4⟩ := hgo
    refine ⟨s2, o, castTop (?_ : entryFrame m #[(.int pa0)] 1 = _) g1, g2, g3, g4⟩
    first | (simp [entryFrame, mkF, argsToLocals, Value.category]; done) | rfl
  refine Go.on (T' := s₁) (g' := (mkF m 1 #[.val (.int pa0)] [(.int pa0)])) (fun t k => XS.iloadN X0.here hx rfl (hb hby d3_0) rfl k) ?_
  refine Go.on (T' := s₁) (g' := (mkF m 2 #[.val (.int pa0)] [(.int (1 : Int32)), (.int pa0)])) (fun t k => XS.iconst X0.here hx rfl (hb hby d3_1) k) ?_
  refine Go.on (T' := s₁) (g' := (mkF m 9 #[.val (.int pa0)] [])) (fun t k => XS.icmpYes X0.here hx rfl (pc0 := 2) (pc' := 9) rfl (hb hby d3_2) rfl (feq hp0).2 (by decide) (by decide) k) ?_
  refine Go.on (T' := s₁) (g' := (mkF m 10 #[.val (.int pa0)] [(.int pa0)])) (fun t k => XS.iloadN X0.here hx rfl (hb hby d3_9) rfl k) ?_
  refine Go.on (T' := s₁) (g' := (mkF m 11 #[.val (.int pa0)] [(.int (2 : Int32)), (.int pa0)])) (fun t k => XS.iconst X0.here hx rfl (hb hby d3_10) k) ?_
  refine Go.on (T' := s₁) (g' := (mkF m 18 #[.val (.int pa0)] [])) (fun t k => XS.icmpYes X0.here hx rfl (pc0 := 11) (pc' := 18) rfl (hb hby d3_11) rfl (feq hp1).2 (by decide) (by decide) k) ?_
  refine Go.on (T' := s₁) (g' := (mkF m 19 #[.val (.int pa0)] [(.int pa0)])) (fun t k => XS.iloadN X0.here hx rfl (hb hby d3_18) rfl k) ?_
  refine Go.on (T' := s₁) (g' := (mkF m 20 #[.val (.int pa0)] [(.int (3 : Int32)), (.int pa0)])) (fun t k => XS.iconst X0.here hx rfl (hb hby d3_19) k) ?_
  refine Go.on (T' := s₁) (g' := (mkF m 27 #[.val (.int pa0)] [])) (fun t k => XS.icmpYes X0.here hx rfl (pc0 := 20) (pc' := 27) rfl (hb hby d3_20) rfl (feq hp2).2 (by decide) (by decide) k) ?_
  refine Go.on (T' := s₁) (g' := (mkF m 28 #[.val (.int pa0)] [(.int pa0)])) (fun t k => XS.iloadN X0.here hx rfl (hb hby d3_27) rfl k) ?_
  refine Go.on (T' := s₁) (g' := (mkF m 29 #[.val (.int pa0)] [(.int (4 : Int32)), (.int pa0)])) (fun t k => XS.iconst X0.here hx rfl (hb hby d3_28) k) ?_
  refine Go.on (T' := s₁) (g' := (mkF m 36 #[.val (.int pa0)] [])) (fun t k => XS.icmpYes X0.here hx rfl (pc0 := 29) (pc' := 36) rfl (hb hby d3_29) rfl (feq hp3).2 (by decide) (by decide) k) ?_
  refine Go.on (T' := s₁) (g' := (mkF m 37 #[.val (.int pa0)] [(.int pa0)])) (fun t k => XS.iloadN X0.here hx rfl (hb hby d3_36) rfl k) ?_
  refine Go.on (T' := s₁) (g' := (mkF m 38 #[.val (.int pa0)] [(.int (5 : Int32)), (.int pa0)])) (fun t k => XS.iconst X0.here hx rfl (hb hby d3_37) k) ?_
  refine Go.on (T' := s₁) (g' := (mkF m 45 #[.val (.int pa0)] [])) (fun t k => XS.icmpYes X0.here hx rfl (pc0 := 38) (pc' := 45) rfl (hb hby d3_38) rfl (feq hp4).2 (by decide) (by decide) k) ?_
  refine Go.on (T' := s₁) (g' := (mkF m 46 #[.val (.int pa0)] [(.int pa0)])) (fun t k => XS.iloadN X0.here hx rfl (hb hby d3_45) rfl k) ?_
  refine Go.on (T' := s₁) (g' := (mkF m 48 #[.val (.int pa0)] [(.int (6 : Int32)), (.int pa0)])) (fun t k => XS.bipush X0.here hx rfl (hb hby d3_46) k) ?_
  refine Go.on (T' := s₁) (g' := (mkF m 55 #[.val (.int pa0)] [])) (fun t k => XS.icmpYes X0.here hx rfl (pc0 := 48) (pc' := 55) rfl (hb hby d3_48) rfl (feq hp5).2 (by decide) (by decide) k) ?_
  refine Go.on (T' := s₁) (g' := (mkF m 56 #[.val (.int pa0)] [.null])) (fun t k => XS.aconstNull X0.here hx rfl (hb hby d3_55) k) ?_
  obtain ⟨fs, hr, hrun, hended, hW, hsame⟩ := X0.leave (v := some .null) (fun h => by rw [Bd.returns] at h; cases h)
  exact ⟨_, _, retOut X0 hx Bd.returns rfl (Or.inr (Or.inr (Or.inr (Or.inr ⟨rfl, rfl, rfl⟩)))) (hb hby d3_56) hr, hrun, hended, _, _, rfl, ⟨rfl, N0, e0⟩, ⟨_, rfl⟩, hW, hsame.mono (by decide) (by decide)⟩
set_option maxRecDepth 65536 in
set_option maxHeartbeats 40000000 in
theorem rm0 (l : Launch) (Z : State) (a0 : Array Value) (hw : ∀ d ∈ tables_1, d.before a0 Z = true) (ws : List Jvm.Cond) (w : Nat → Addr) (h0 : Heap) (n0 : Nat) (Z0 : n0 ≤ h0.size) (hP : Pins Z h0 w) (i0 : Int32) (i1 : Int32) :
    MetFree l x (head1 (Jvm.Cond.code x code maxLocals ret :: ws) room_1) (fun a U => a = #[(.int i0), (.int i1)] ∧ Z.Warmed39 U.vm ∧ U.heap = h0) (fun _ _ _ _ _ => True) (fun _ U o U' => ∃ v L, o = .returned v ∧ Ql (some (.int (1 : Int32))) n0 v L ∧ FrameEnd U o U' L 16 128) := by
  refine MetFree.of_bodySF (plainFor_of_name pn_1) hisR ?_
  intro p e s m args below meth c s₁ Bd hml0 hP0 hK
  obtain ⟨rfl, hZ, hh⟩ := hP0
  have hx := Bd.exec
  have hby := Bd.bytes
  have hml : c.maxLocals = 5 := hml0
  have hown : s.vm.findClass "com/example/stubwright/stubwright/ParameterTypeFromCodePinLaw" = some m.cls := findClass_of_methodNamed Bd.named
  have hnm := (name_of_methodNamed Bd.named Bd.method).1
  have X0 : Stand p l e room_1 s m #[(.int i0), (.int i1)] below meth c s₁ [] 0 0 := Stand.of_body Bd
  have e0 : s₁.heap = h0 := by rw [← hh, Bd.state]; rfl
  have N0 := Fr.nil n0
  suffices hgo : Go p e below (fun o U' => ∃ v L, o = .returned v ∧ Ql (some (.int (1 : Int32))) n0 v L ∧ FrameEnd s o U' L 16 128) s₁ (mkF m 0 #[.val (.int i0), .val (.int i1), .unset, .unset, .unset] []) by
    obtain ⟨s2, o, g1, g2, g3, g4⟩ := hgo
    refine ⟨s2, o, castTop (?_ : entryFrame m #[(.int i0), (.int i1)] maxLocals = _) g1, g2, g3, g4⟩
    first | (simp [entryFrame, mkF, argsToLocals, Value.category, maxLocals]; done) | rfl
  refine Go.on (T' := s₁) (g' := (mkF m 1 #[.val (.int i0), .val (.int i1), .unset, .unset, .unset] [(.int i1)])) (fun t k => XS.iloadN X0.here hx rfl (hb hby at_0) rfl k) ?_
  refine Go.on (T' := s₁) (g' := (mkF m 2 #[.val (.int i0), .val (.int i1), .unset, .unset, .unset] [(.int (1 : Int32)), (.int i1)])) (fun t k => XS.iconst X0.here hx rfl (hb hby at_1) k) ?_
  refine Go.on (T' := s₁) (g' := (mkF m 3 #[.val (.int i0), .val (.int i1), .unset, .unset, .unset] [(.int (i1 &&& (1 : Int32)))])) (fun t k => XS.iand X0.here hx rfl (hb hby at_2) rfl k) ?_
  by_cases h1 : (i1 &&& (1 : Int32)) = (0 : Int32)
  · skip
    refine Go.on (T' := s₁) (g' := (mkF m 10 #[.val (.int i0), .val (.int i1), .unset, .unset, .unset] [])) (fun t k => XS.ifYes X0.here hx rfl (pc0 := 3) (pc' := 10) rfl (hb hby at_3) rfl ((if0 _ _).trans (teq h1).1) (by decide) (by decide) k) ?_
    refine Go.on (T' := s₁) (g' := (mkF m 11 #[.val (.int i0), .val (.int i1), .unset, .unset, .unset] [(.int (0 : Int32))])) (fun t k => XS.iconst X0.here hx rfl (hb hby at_10) k) ?_
    refine Go.on (T' := s₁) (g' := (mkF m 12 #[.val (.int i0), .val (.int i1), .val (.int (0 : Int32)), .unset, .unset] [])) (fun t k => XS.istoreN X0.here hx rfl (hb hby at_11) rfl (l' := #[.val (.int i0), .val (.int i1), .val (.int (0 : Int32)), .unset, .unset]) rfl k) ?_
    refine Go.on (T' := s₁) (g' := (mkF m 13 #[.val (.int i0), .val (.int i1), .val (.int (0 : Int32)), .unset, .unset] [(.int (0 : Int32))])) (fun t k => XS.iloadN X0.here hx rfl (hb hby at_12) rfl k) ?_
    refine Go.on (T' := s₁) (g' := (mkF m 20 #[.val (.int i0), .val (.int i1), .val (.int (0 : Int32)), .unset, .unset] [])) (fun t k => XS.ifYes X0.here hx rfl (pc0 := 13) (pc' := 20) rfl (hb hby at_13) rfl ((if0 _ _).trans (teq (by decide : (0 : Int32) = (0 : Int32))).1) (by decide) (by decide) k) ?_
    refine Go.on (T' := s₁) (g' := (mkF m 21 #[.val (.int i0), .val (.int i1), .val (.int (0 : Int32)), .unset, .unset] [(.int i0)])) (fun t k => XS.iloadN X0.here hx rfl (hb hby at_20) rfl k) ?_
    refine Go.on (T' := s₁) (g' := (mkF m 23 #[.val (.int i0), .val (.int i1), .val (.int (0 : Int32)), .unset, .unset] [(.int (15 : Int32)), (.int i0)])) (fun t k => XS.bipush X0.here hx rfl (hb hby at_21) k) ?_
    refine Go.on (T' := s₁) (g' := (mkF m 24 #[.val (.int i0), .val (.int i1), .val (.int (0 : Int32)), .unset, .unset] [(.int (i0 &&& (15 : Int32)))])) (fun t k => XS.iand X0.here hx rfl (hb hby at_23) rfl k) ?_
    refine Go.on (T' := s₁) (g' := (mkF m 25 #[.val (.int i0), .val (.int i1), .val (.int (0 : Int32)), .unset, .unset] [(.int (4 : Int32)), (.int (i0 &&& (15 : Int32)))])) (fun t k => XS.iconst X0.here hx rfl (hb hby at_24) k) ?_
    refine Go.on (T' := s₁) (g' := (mkF m 26 #[.val (.int i0), .val (.int i1), .val (.int (0 : Int32)), .unset, .unset] [(.int ((i0 &&& (15 : Int32)) - (4 : Int32)))])) (fun t k => XS.isub X0.here hx rfl (hb hby at_25) rfl k) ?_
    refine Go.on (T' := s₁) (g' := (mkF m 27 #[.val (.int i0), .val (.int i1), .val (.int (0 : Int32)), .val (.int ((i0 &&& (15 : Int32)) - (4 : Int32))), .unset] [])) (fun t k => XS.istoreN X0.here hx rfl (hb hby at_26) rfl (l' := #[.val (.int i0), .val (.int i1), .val (.int (0 : Int32)), .val (.int ((i0 &&& (15 : Int32)) - (4 : Int32))), .unset]) rfl k) ?_
    refine Go.on (T' := s₁) (g' := (mkF m 28 #[.val (.int i0), .val (.int i1), .val (.int (0 : Int32)), .val (.int ((i0 &&& (15 : Int32)) - (4 : Int32))), .unset] [(.int ((i0 &&& (15 : Int32)) - (4 : Int32)))])) (fun t k => XS.iloadN X0.here hx rfl (hb hby at_27) rfl k) ?_
    by_cases h18 : (1 : Int32) = ((i0 &&& (15 : Int32)) - (4 : Int32))
    · skip
      obtain ⟨_, _, ⟨T24, L24, k24, n24⟩, -, X24, ⟨Lc24, hQ24, l24, y24, z24⟩, st24⟩ := Jvm.LawKit.callS X0 hx (y := (⟨"com/example/stubwright/stubwright/ParameterType", "fromCode", "(I)Lcom/example/stubwright/stubwright/ParameterType;"⟩ : MethodName)) hown (mvT hZ (hw _ (List.mem_of_getElem? (i := 0) rfl))) (mvT hZ (hw _ (List.mem_of_getElem? (i := 1) rfl))) (mvT hZ (hw _ (List.mem_of_getElem? (i := 2) rfl))) (mvT hZ (hw _ (List.mem_of_getElem? (i := 3) rfl))) (by decide) (backOf (W := 0) (rm1_0 l Z a0 hw [] w h0 n0 (Nat.le_trans Z0 (own_ext0 h0).1) hP ((i0 &&& (15 : Int32)) - (4 : Int32)) h18) hZ (hw _ (List.mem_of_getElem? (i := 3) rfl)) (hw _ (List.mem_of_getElem? (i := 2) rfl)) (by decide) (by decide)) (g := (mkF m 28 #[.val (.int i0), .val (.int i1), .val (.int (0 : Int32)), .val (.int ((i0 &&& (15 : Int32)) - (4 : Int32))), .unset] [(.int ((i0 &&& (15 : Int32)) - (4 : Int32)))])) rfl (by rw [hml]; rfl) (argsL := [(.int ((i0 &&& (15 : Int32)) - (4 : Int32)))]) (rest := []) (lenOf pd_1 rfl) rfl (by show 2 * 0 + _ ≤ _; exact Nat.le_of_eq rfl) (hb hby at_28) (fun _ _ => ⟨rfl, e0, (by decide : 0 + 1 ≤ _), (by decide : 0 + 6 ≤ _)⟩)
      dsimp only [Pt.U, Pt.locs, Pt.cells, Pt.slots] at X24 l24 y24 z24 st24 hQ24
      subst l24 y24 z24
      obtain ⟨rfl, N24q, x24, f24⟩ := hQ24
      have N24 := Fr.app N0 N24q
      have e24 : T24.heap = T24.heap := rfl
      have XT24 := own_ext2 (own_ext0 h0) x24
      refine Go.on (T' := T24) (g' := (mkF m 31 #[.val (.int i0), .val (.int i1), .val (.int (0 : Int32)), .val (.int ((i0 &&& (15 : Int32)) - (4 : Int32))), .unset] [(.ref (w 1))])) st24 ?_
      refine Go.on (T' := T24) (g' := (mkF m 33 #[.val (.int i0), .val (.int i1), .val (.int (0 : Int32)), .val (.int ((i0 &&& (15 : Int32)) - (4 : Int32))), .val (.ref (w 1))] [])) (fun t k => XS.astore X24.here hx rfl (hb hby at_31) rfl rfl (l' := #[.val (.int i0), .val (.int i1), .val (.int (0 : Int32)), .val (.int ((i0 &&& (15 : Int32)) - (4 : Int32))), .val (.ref (w 1))]) rfl k) ?_
      refine Go.on (T' := T24) (g' := (mkF m 35 #[.val (.int i0), .val (.int i1), .val (.int (0 : Int32)), .val (.int ((i0 &&& (15 : Int32)) - (4 : Int32))), .val (.ref (w 1))] [(.ref (w 1))])) (fun t k => XS.aload X24.here hx rfl (hb hby at_33) rfl rfl k) ?_
      refine Go.on (T' := T24) (g' := (mkF m 36 #[.val (.int i0), .val (.int i1), .val (.int (0 : Int32)), .val (.int ((i0 &&& (15 : Int32)) - (4 : Int32))), .val (.ref (w 1))] [(.int ((i0 &&& (15 : Int32)) - (4 : Int32))), (.ref (w 1))])) (fun t k => XS.iloadN X24.here hx rfl (hb hby at_35) rfl k) ?_
      obtain ⟨_, _, ⟨T38, L38, k38, n38⟩, -, X38, ⟨Lc38, hQ38, l38, y38, z38⟩, st38⟩ := Jvm.LawKit.callS X24 hx (y := (⟨"com/example/stubwright/stubwright/ParameterTypeFromCodePinLaw", "expected", "(I)Lcom/example/stubwright/stubwright/ParameterType;"⟩ : MethodName)) hown (mvT hZ (hw _ (List.mem_of_getElem? (i := 26) rfl))) (mvT hZ (hw _ (List.mem_of_getElem? (i := 27) rfl))) (mvT hZ (hw _ (List.mem_of_getElem? (i := 28) rfl))) (mvT hZ (hw _ (List.mem_of_getElem? (i := 29) rfl))) (by decide) (backOf (W := 1) (rm3_0 l Z a0 hw [] w T24.heap n0 (Nat.le_trans Z0 XT24.1) (pins_ext XT24 hP) ((i0 &&& (15 : Int32)) - (4 : Int32)) h18.symm) hZ (hw _ (List.mem_of_getElem? (i := 29) rfl)) (hw _ (List.mem_of_getElem? (i := 28) rfl)) (by decide) (by decide)) (g := (mkF m 36 #[.val (.int i0), .val (.int i1), .val (.int (0 : Int32)), .val (.int ((i0 &&& (15 : Int32)) - (4 : Int32))), .val (.ref (w 1))] [(.int ((i0 &&& (15 : Int32)) - (4 : Int32))), (.ref (w 1))])) rfl (by rw [hml]; rfl) (argsL := [(.int ((i0 &&& (15 : Int32)) - (4 : Int32)))]) (rest := [(.ref (w 1))]) (lenOf pd_1 rfl) rfl (by show 2 * 0 + _ ≤ _; exact Nat.le_of_eq rfl) (hb hby at_36) (fun _ _ => ⟨rfl, e24, (by decide : 1 + 0 ≤ _), (by decide : 6 + 0 ≤ _)⟩)
      dsimp only [Pt.U, Pt.locs, Pt.cells, Pt.slots] at X38 l38 y38 z38 st38 hQ38
      subst l38 y38 z38
      obtain ⟨rfl, N38q, e38⟩ := hQ38
      have N38 := Fr.app N24 N38q
      refine Go.on (T' := T38) (g' := (mkF m 39 #[.val (.int i0), .val (.int i1), .val (.int (0 : Int32)), .val (.int ((i0 &&& (15 : Int32)) - (4 : Int32))), .val (.ref (w 1))] [(.ref (w 1)), (.ref (w 1))])) st38 ?_
      refine Go.on (T' := T38) (g' := (mkF m 42 #[.val (.int i0), .val (.int i1), .val (.int (0 : Int32)), .val (.int ((i0 &&& (15 : Int32)) - (4 : Int32))), .val (.ref (w 1))] [])) (fun t k => Jvm.RoadKit.acmp (g := (mkF m 39 #[.val (.int i0), .val (.int i1), .val (.int (0 : Int32)), .val (.int ((i0 &&& (15 : Int32)) - (4 : Int32))), .val (.ref (w 1))] [(.ref (w 1)), (.ref (w 1))])) X38 hx rfl rfl rfl (pc0 := 39) (pc' := 42) (same := true) rfl (hb hby at_39) rfl (decide_eq_true rfl) (by decide) (by decide) k) ?_
      refine Go.on (T' := T38) (g' := (mkF m 43 #[.val (.int i0), .val (.int i1), .val (.int (0 : Int32)), .val (.int ((i0 &&& (15 : Int32)) - (4 : Int32))), .val (.ref (w 1))] [(.int (1 : Int32))])) (fun t k => XS.iconst X38.here hx rfl (hb hby at_42) k) ?_
      refine Go.on (T' := T38) (g' := (mkF m 47 #[.val (.int i0), .val (.int i1), .val (.int (0 : Int32)), .val (.int ((i0 &&& (15 : Int32)) - (4 : Int32))), .val (.ref (w 1))] [(.int (1 : Int32))])) (fun t k => XS.goto X38.here hx rfl (pc0 := 43) (pc' := 47) rfl (hb hby at_43) (by decide) (by decide) k) ?_
      obtain ⟨fs, hr, hrun, hended, hW, hsame⟩ := X38.leave (v := some (.int (1 : Int32))) (fun h => by rw [Bd.returns] at h; cases h)
      exact ⟨_, _, retN X38 hx (t := .boolean) Bd.returns (by simp) (hb hby at_47) hr, hrun, hended, _, _, rfl, ⟨rfl, N38⟩, ⟨_, rfl⟩, hW, hsame.mono (by decide) (by decide)⟩
    · skip
      by_cases h39 : (2 : Int32) = ((i0 &&& (15 : Int32)) - (4 : Int32))
      · skip
        obtain ⟨_, _, ⟨T43, L43, k43, n43⟩, -, X43, ⟨Lc43, hQ43, l43, y43, z43⟩, st43⟩ := Jvm.LawKit.callS X0 hx (y := (⟨"com/example/stubwright/stubwright/ParameterType", "fromCode", "(I)Lcom/example/stubwright/stubwright/ParameterType;"⟩ : MethodName)) hown (mvT hZ (hw _ (List.mem_of_getElem? (i := 0) rfl))) (mvT hZ (hw _ (List.mem_of_getElem? (i := 1) rfl))) (mvT hZ (hw _ (List.mem_of_getElem? (i := 2) rfl))) (mvT hZ (hw _ (List.mem_of_getElem? (i := 3) rfl))) (by decide) (backOf (W := 0) (rm1_1 l Z a0 hw [] w h0 n0 (Nat.le_trans Z0 (own_ext0 h0).1) hP ((i0 &&& (15 : Int32)) - (4 : Int32)) h18 h39) hZ (hw _ (List.mem_of_getElem? (i := 3) rfl)) (hw _ (List.mem_of_getElem? (i := 2) rfl)) (by decide) (by decide)) (g := (mkF m 28 #[.val (.int i0), .val (.int i1), .val (.int (0 : Int32)), .val (.int ((i0 &&& (15 : Int32)) - (4 : Int32))), .unset] [(.int ((i0 &&& (15 : Int32)) - (4 : Int32)))])) rfl (by rw [hml]; rfl) (argsL := [(.int ((i0 &&& (15 : Int32)) - (4 : Int32)))]) (rest := []) (lenOf pd_1 rfl) rfl (by show 2 * 0 + _ ≤ _; exact Nat.le_of_eq rfl) (hb hby at_28) (fun _ _ => ⟨rfl, e0, (by decide : 0 + 1 ≤ _), (by decide : 0 + 6 ≤ _)⟩)
        dsimp only [Pt.U, Pt.locs, Pt.cells, Pt.slots] at X43 l43 y43 z43 st43 hQ43
        subst l43 y43 z43
        obtain ⟨rfl, N43q, x43, f43⟩ := hQ43
        have N43 := Fr.app N0 N43q
        have e43 : T43.heap = T43.heap := rfl
        have XT43 := own_ext2 (own_ext0 h0) x43
        refine Go.on (T' := T43) (g' := (mkF m 31 #[.val (.int i0), .val (.int i1), .val (.int (0 : Int32)), .val (.int ((i0 &&& (15 : Int32)) - (4 : Int32))), .unset] [(.ref (w 2))])) st43 ?_
        refine Go.on (T' := T43) (g' := (mkF m 33 #[.val (.int i0), .val (.int i1), .val (.int (0 : Int32)), .val (.int ((i0 &&& (15 : Int32)) - (4 : Int32))), .val (.ref (w 2))] [])) (fun t k => XS.astore X43.here hx rfl (hb hby at_31) rfl rfl (l' := #[.val (.int i0), .val (.int i1), .val (.int (0 : Int32)), .val (.int ((i0 &&& (15 : Int32)) - (4 : Int32))), .val (.ref (w 2))]) rfl k) ?_
        refine Go.on (T' := T43) (g' := (mkF m 35 #[.val (.int i0), .val (.int i1), .val (.int (0 : Int32)), .val (.int ((i0 &&& (15 : Int32)) - (4 : Int32))), .val (.ref (w 2))] [(.ref (w 2))])) (fun t k => XS.aload X43.here hx rfl (hb hby at_33) rfl rfl k) ?_
        refine Go.on (T' := T43) (g' := (mkF m 36 #[.val (.int i0), .val (.int i1), .val (.int (0 : Int32)), .val (.int ((i0 &&& (15 : Int32)) - (4 : Int32))), .val (.ref (w 2))] [(.int ((i0 &&& (15 : Int32)) - (4 : Int32))), (.ref (w 2))])) (fun t k => XS.iloadN X43.here hx rfl (hb hby at_35) rfl k) ?_
        obtain ⟨_, _, ⟨T45, L45, k45, n45⟩, -, X45, ⟨Lc45, hQ45, l45, y45, z45⟩, st45⟩ := Jvm.LawKit.callS X43 hx (y := (⟨"com/example/stubwright/stubwright/ParameterTypeFromCodePinLaw", "expected", "(I)Lcom/example/stubwright/stubwright/ParameterType;"⟩ : MethodName)) hown (mvT hZ (hw _ (List.mem_of_getElem? (i := 26) rfl))) (mvT hZ (hw _ (List.mem_of_getElem? (i := 27) rfl))) (mvT hZ (hw _ (List.mem_of_getElem? (i := 28) rfl))) (mvT hZ (hw _ (List.mem_of_getElem? (i := 29) rfl))) (by decide) (backOf (W := 1) (rm3_1 l Z a0 hw [] w T43.heap n0 (Nat.le_trans Z0 XT43.1) (pins_ext XT43 hP) ((i0 &&& (15 : Int32)) - (4 : Int32)) (fun q => h18 q.symm) h39.symm) hZ (hw _ (List.mem_of_getElem? (i := 29) rfl)) (hw _ (List.mem_of_getElem? (i := 28) rfl)) (by decide) (by decide)) (g := (mkF m 36 #[.val (.int i0), .val (.int i1), .val (.int (0 : Int32)), .val (.int ((i0 &&& (15 : Int32)) - (4 : Int32))), .val (.ref (w 2))] [(.int ((i0 &&& (15 : Int32)) - (4 : Int32))), (.ref (w 2))])) rfl (by rw [hml]; rfl) (argsL := [(.int ((i0 &&& (15 : Int32)) - (4 : Int32)))]) (rest := [(.ref (w 2))]) (lenOf pd_1 rfl) rfl (by show 2 * 0 + _ ≤ _; exact Nat.le_of_eq rfl) (hb hby at_36) (fun _ _ => ⟨rfl, e43, (by decide : 1 + 0 ≤ _), (by decide : 6 + 0 ≤ _)⟩)
        dsimp only [Pt.U, Pt.locs, Pt.cells, Pt.slots] at X45 l45 y45 z45 st45 hQ45
        subst l45 y45 z45
        obtain ⟨rfl, N45q, e45⟩ := hQ45
        have N45 := Fr.app N43 N45q
        refine Go.on (T' := T45) (g' := (mkF m 39 #[.val (.int i0), .val (.int i1), .val (.int (0 : Int32)), .val (.int ((i0 &&& (15 : Int32)) - (4 : Int32))), .val (.ref (w 2))] [(.ref (w 2)), (.ref (w 2))])) st45 ?_
        refine Go.on (T' := T45) (g' := (mkF m 42 #[.val (.int i0), .val (.int i1), .val (.int (0 : Int32)), .val (.int ((i0 &&& (15 : Int32)) - (4 : Int32))), .val (.ref (w 2))] [])) (fun t k => Jvm.RoadKit.acmp (g := (mkF m 39 #[.val (.int i0), .val (.int i1), .val (.int (0 : Int32)), .val (.int ((i0 &&& (15 : Int32)) - (4 : Int32))), .val (.ref (w 2))] [(.ref (w 2)), (.ref (w 2))])) X45 hx rfl rfl rfl (pc0 := 39) (pc' := 42) (same := true) rfl (hb hby at_39) rfl (decide_eq_true rfl) (by decide) (by decide) k) ?_
        refine Go.on (T' := T45) (g' := (mkF m 43 #[.val (.int i0), .val (.int i1), .val (.int (0 : Int32)), .val (.int ((i0 &&& (15 : Int32)) - (4 : Int32))), .val (.ref (w 2))] [(.int (1 : Int32))])) (fun t k => XS.iconst X45.here hx rfl (hb hby at_42) k) ?_
        refine Go.on (T' := T45) (g' := (mkF m 47 #[.val (.int i0), .val (.int i1), .val (.int (0 : Int32)), .val (.int ((i0 &&& (15 : Int32)) - (4 : Int32))), .val (.ref (w 2))] [(.int (1 : Int32))])) (fun t k => XS.goto X45.here hx rfl (pc0 := 43) (pc' := 47) rfl (hb hby at_43) (by decide) (by decide) k) ?_
        obtain ⟨fs, hr, hrun, hended, hW, hsame⟩ := X45.leave (v := some (.int (1 : Int32))) (fun h => by rw [Bd.returns] at h; cases h)
        exact ⟨_, _, retN X45 hx (t := .boolean) Bd.returns (by simp) (hb hby at_47) hr, hrun, hended, _, _, rfl, ⟨rfl, N45⟩, ⟨_, rfl⟩, hW, hsame.mono (by decide) (by decide)⟩
      · skip
        by_cases h46 : (3 : Int32) = ((i0 &&& (15 : Int32)) - (4 : Int32))
        · skip
          obtain ⟨_, _, ⟨T51, L51, k51, n51⟩, -, X51, ⟨Lc51, hQ51, l51, y51, z51⟩, st51⟩ := Jvm.LawKit.callS X0 hx (y := (⟨"com/example/stubwright/stubwright/ParameterType", "fromCode", "(I)Lcom/example/stubwright/stubwright/ParameterType;"⟩ : MethodName)) hown (mvT hZ (hw _ (List.mem_of_getElem? (i := 0) rfl))) (mvT hZ (hw _ (List.mem_of_getElem? (i := 1) rfl))) (mvT hZ (hw _ (List.mem_of_getElem? (i := 2) rfl))) (mvT hZ (hw _ (List.mem_of_getElem? (i := 3) rfl))) (by decide) (backOf (W := 0) (rm1_2 l Z a0 hw [] w h0 n0 (Nat.le_trans Z0 (own_ext0 h0).1) hP ((i0 &&& (15 : Int32)) - (4 : Int32)) h18 h39 h46) hZ (hw _ (List.mem_of_getElem? (i := 3) rfl)) (hw _ (List.mem_of_getElem? (i := 2) rfl)) (by decide) (by decide)) (g := (mkF m 28 #[.val (.int i0), .val (.int i1), .val (.int (0 : Int32)), .val (.int ((i0 &&& (15 : Int32)) - (4 : Int32))), .unset] [(.int ((i0 &&& (15 : Int32)) - (4 : Int32)))])) rfl (by rw [hml]; rfl) (argsL := [(.int ((i0 &&& (15 : Int32)) - (4 : Int32)))]) (rest := []) (lenOf pd_1 rfl) rfl (by show 2 * 0 + _ ≤ _; exact Nat.le_of_eq rfl) (hb hby at_28) (fun _ _ => ⟨rfl, e0, (by decide : 0 + 1 ≤ _), (by decide : 0 + 6 ≤ _)⟩)
          dsimp only [Pt.U, Pt.locs, Pt.cells, Pt.slots] at X51 l51 y51 z51 st51 hQ51
          subst l51 y51 z51
          obtain ⟨rfl, N51q, x51, f51⟩ := hQ51
          have N51 := Fr.app N0 N51q
          have e51 : T51.heap = T51.heap := rfl
          have XT51 := own_ext2 (own_ext0 h0) x51
          refine Go.on (T' := T51) (g' := (mkF m 31 #[.val (.int i0), .val (.int i1), .val (.int (0 : Int32)), .val (.int ((i0 &&& (15 : Int32)) - (4 : Int32))), .unset] [(.ref (w 3))])) st51 ?_
          refine Go.on (T' := T51) (g' := (mkF m 33 #[.val (.int i0), .val (.int i1), .val (.int (0 : Int32)), .val (.int ((i0 &&& (15 : Int32)) - (4 : Int32))), .val (.ref (w 3))] [])) (fun t k => XS.astore X51.here hx rfl (hb hby at_31) rfl rfl (l' := #[.val (.int i0), .val (.int i1), .val (.int (0 : Int32)), .val (.int ((i0 &&& (15 : Int32)) - (4 : Int32))), .val (.ref (w 3))]) rfl k) ?_
          refine Go.on (T' := T51) (g' := (mkF m 35 #[.val (.int i0), .val (.int i1), .val (.int (0 : Int32)), .val (.int ((i0 &&& (15 : Int32)) - (4 : Int32))), .val (.ref (w 3))] [(.ref (w 3))])) (fun t k => XS.aload X51.here hx rfl (hb hby at_33) rfl rfl k) ?_
          refine Go.on (T' := T51) (g' := (mkF m 36 #[.val (.int i0), .val (.int i1), .val (.int (0 : Int32)), .val (.int ((i0 &&& (15 : Int32)) - (4 : Int32))), .val (.ref (w 3))] [(.int ((i0 &&& (15 : Int32)) - (4 : Int32))), (.ref (w 3))])) (fun t k => XS.iloadN X51.here hx rfl (hb hby at_35) rfl k) ?_
          obtain ⟨_, _, ⟨T53, L53, k53, n53⟩, -, X53, ⟨Lc53, hQ53, l53, y53, z53⟩, st53⟩ := Jvm.LawKit.callS X51 hx (y := (⟨"com/example/stubwright/stubwright/ParameterTypeFromCodePinLaw", "expected", "(I)Lcom/example/stubwright/stubwright/ParameterType;"⟩ : MethodName)) hown (mvT hZ (hw _ (List.mem_of_getElem? (i := 26) rfl))) (mvT hZ (hw _ (List.mem_of_getElem? (i := 27) rfl))) (mvT hZ (hw _ (List.mem_of_getElem? (i := 28) rfl))) (mvT hZ (hw _ (List.mem_of_getElem? (i := 29) rfl))) (by decide) (backOf (W := 1) (rm3_2 l Z a0 hw [] w T51.heap n0 (Nat.le_trans Z0 XT51.1) (pins_ext XT51 hP) ((i0 &&& (15 : Int32)) - (4 : Int32)) (fun q => h18 q.symm) (fun q => h39 q.symm) h46.symm) hZ (hw _ (List.mem_of_getElem? (i := 29) rfl)) (hw _ (List.mem_of_getElem? (i := 28) rfl)) (by decide) (by decide)) (g := (mkF m 36 #[.val (.int i0), .val (.int i1), .val (.int (0 : Int32)), .val (.int ((i0 &&& (15 : Int32)) - (4 : Int32))), .val (.ref (w 3))] [(.int ((i0 &&& (15 : Int32)) - (4 : Int32))), (.ref (w 3))])) rfl (by rw [hml]; rfl) (argsL := [(.int ((i0 &&& (15 : Int32)) - (4 : Int32)))]) (rest := [(.ref (w 3))]) (lenOf pd_1 rfl) rfl (by show 2 * 0 + _ ≤ _; exact Nat.le_of_eq rfl) (hb hby at_36) (fun _ _ => ⟨rfl, e51, (by decide : 1 + 0 ≤ _), (by decide : 6 + 0 ≤ _)⟩)
          dsimp only [Pt.U, Pt.locs, Pt.cells, Pt.slots] at X53 l53 y53 z53 st53 hQ53
          subst l53 y53 z53
          obtain ⟨rfl, N53q, e53⟩ := hQ53
          have N53 := Fr.app N51 N53q
          refine Go.on (T' := T53) (g' := (mkF m 39 #[.val (.int i0), .val (.int i1), .val (.int (0 : Int32)), .val (.int ((i0 &&& (15 : Int32)) - (4 : Int32))), .val (.ref (w 3))] [(.ref (w 3)), (.ref (w 3))])) st53 ?_
          refine Go.on (T' := T53) (g' := (mkF m 42 #[.val (.int i0), .val (.int i1), .val (.int (0 : Int32)), .val (.int ((i0 &&& (15 : Int32)) - (4 : Int32))), .val (.ref (w 3))] [])) (fun t k => Jvm.RoadKit.acmp (g := (mkF m 39 #[.val (.int i0), .val (.int i1), .val (.int (0 : Int32)), .val (.int ((i0 &&& (15 : Int32)) - (4 : Int32))), .val (.ref (w 3))] [(.ref (w 3)), (.ref (w 3))])) X53 hx rfl rfl rfl (pc0 := 39) (pc' := 42) (same := true) rfl (hb hby at_39) rfl (decide_eq_true rfl) (by decide) (by decide) k) ?_
          refine Go.on (T' := T53) (g' := (mkF m 43 #[.val (.int i0), .val (.int i1), .val (.int (0 : Int32)), .val (.int ((i0 &&& (15 : Int32)) - (4 : Int32))), .val (.ref (w 3))] [(.int (1 : Int32))])) (fun t k => XS.iconst X53.here hx rfl (hb hby at_42) k) ?_
          refine Go.on (T' := T53) (g' := (mkF m 47 #[.val (.int i0), .val (.int i1), .val (.int (0 : Int32)), .val (.int ((i0 &&& (15 : Int32)) - (4 : Int32))), .val (.ref (w 3))] [(.int (1 : Int32))])) (fun t k => XS.goto X53.here hx rfl (pc0 := 43) (pc' := 47) rfl (hb hby at_43) (by decide) (by decide) k) ?_
          obtain ⟨fs, hr, hrun, hended, hW, hsame⟩ := X53.leave (v := some (.int (1 : Int32))) (fun h => by rw [Bd.returns] at h; cases h)
          exact ⟨_, _, retN X53 hx (t := .boolean) Bd.returns (by simp) (hb hby at_47) hr, hrun, hended, _, _, rfl, ⟨rfl, N53⟩, ⟨_, rfl⟩, hW, hsame.mono (by decide) (by decide)⟩
        · skip
          by_cases h54 : (4 : Int32) = ((i0 &&& (15 : Int32)) - (4 : Int32))
          · skip
            obtain ⟨_, _, ⟨T60, L60, k60, n60⟩, -, X60, ⟨Lc60, hQ60, l60, y60, z60⟩, st60⟩ := Jvm.LawKit.callS X0 hx (y := (⟨"com/example/stubwright/stubwright/ParameterType", "fromCode", "(I)Lcom/example/stubwright/stubwright/ParameterType;"⟩ : MethodName)) hown (mvT hZ (hw _ (List.mem_of_getElem? (i := 0) rfl))) (mvT hZ (hw _ (List.mem_of_getElem? (i := 1) rfl))) (mvT hZ (hw _ (List.mem_of_getElem? (i := 2) rfl))) (mvT hZ (hw _ (List.mem_of_getElem? (i := 3) rfl))) (by decide) (backOf (W := 0) (rm1_3 l Z a0 hw [] w h0 n0 (Nat.le_trans Z0 (own_ext0 h0).1) hP ((i0 &&& (15 : Int32)) - (4 : Int32)) h18 h39 h46 h54) hZ (hw _ (List.mem_of_getElem? (i := 3) rfl)) (hw _ (List.mem_of_getElem? (i := 2) rfl)) (by decide) (by decide)) (g := (mkF m 28 #[.val (.int i0), .val (.int i1), .val (.int (0 : Int32)), .val (.int ((i0 &&& (15 : Int32)) - (4 : Int32))), .unset] [(.int ((i0 &&& (15 : Int32)) - (4 : Int32)))])) rfl (by rw [hml]; rfl) (argsL := [(.int ((i0 &&& (15 : Int32)) - (4 : Int32)))]) (rest := []) (lenOf pd_1 rfl) rfl (by show 2 * 0 + _ ≤ _; exact Nat.le_of_eq rfl) (hb hby at_28) (fun _ _ => ⟨rfl, e0, (by decide : 0 + 1 ≤ _), (by decide : 0 + 6 ≤ _)⟩)
            dsimp only [Pt.U, Pt.locs, Pt.cells, Pt.slots] at X60 l60 y60 z60 st60 hQ60
            subst l60 y60 z60
            obtain ⟨rfl, N60q, x60, f60⟩ := hQ60
            have N60 := Fr.app N0 N60q
            have e60 : T60.heap = T60.heap := rfl
            have XT60 := own_ext2 (own_ext0 h0) x60
            refine Go.on (T' := T60) (g' := (mkF m 31 #[.val (.int i0), .val (.int i1), .val (.int (0 : Int32)), .val (.int ((i0 &&& (15 : Int32)) - (4 : Int32))), .unset] [(.ref (w 4))])) st60 ?_
            refine Go.on (T' := T60) (g' := (mkF m 33 #[.val (.int i0), .val (.int i1), .val (.int (0 : Int32)), .val (.int ((i0 &&& (15 : Int32)) - (4 : Int32))), .val (.ref (w 4))] [])) (fun t k => XS.astore X60.here hx rfl (hb hby at_31) rfl rfl (l' := #[.val (.int i0), .val (.int i1), .val (.int (0 : Int32)), .val (.int ((i0 &&& (15 : Int32)) - (4 : Int32))), .val (.ref (w 4))]) rfl k) ?_
            refine Go.on (T' := T60) (g' := (mkF m 35 #[.val (.int i0), .val (.int i1), .val (.int (0 : Int32)), .val (.int ((i0 &&& (15 : Int32)) - (4 : Int32))), .val (.ref (w 4))] [(.ref (w 4))])) (fun t k => XS.aload X60.here hx rfl (hb hby at_33) rfl rfl k) ?_
            refine Go.on (T' := T60) (g' := (mkF m 36 #[.val (.int i0), .val (.int i1), .val (.int (0 : Int32)), .val (.int ((i0 &&& (15 : Int32)) - (4 : Int32))), .val (.ref (w 4))] [(.int ((i0 &&& (15 : Int32)) - (4 : Int32))), (.ref (w 4))])) (fun t k => XS.iloadN X60.here hx rfl (hb hby at_35) rfl k) ?_
            obtain ⟨_, _, ⟨T62, L62, k62, n62⟩, -, X62, ⟨Lc62, hQ62, l62, y62, z62⟩, st62⟩ := Jvm.LawKit.callS X60 hx (y := (⟨"com/example/stubwright/stubwright/ParameterTypeFromCodePinLaw", "expected", "(I)Lcom/example/stubwright/stubwright/ParameterType;"⟩ : MethodName)) hown (mvT hZ (hw _ (List.mem_of_getElem? (i := 26) rfl))) (mvT hZ (hw _ (List.mem_of_getElem? (i := 27) rfl))) (mvT hZ (hw _ (List.mem_of_getElem? (i := 28) rfl))) (mvT hZ (hw _ (List.mem_of_getElem? (i := 29) rfl))) (by decide) (backOf (W := 1) (rm3_3 l Z a0 hw [] w T60.heap n0 (Nat.le_trans Z0 XT60.1) (pins_ext XT60 hP) ((i0 &&& (15 : Int32)) - (4 : Int32)) (fun q => h18 q.symm) (fun q => h39 q.symm) (fun q => h46 q.symm) h54.symm) hZ (hw _ (List.mem_of_getElem? (i := 29) rfl)) (hw _ (List.mem_of_getElem? (i := 28) rfl)) (by decide) (by decide)) (g := (mkF m 36 #[.val (.int i0), .val (.int i1), .val (.int (0 : Int32)), .val (.int ((i0 &&& (15 : Int32)) - (4 : Int32))), .val (.ref (w 4))] [(.int ((i0 &&& (15 : Int32)) - (4 : Int32))), (.ref (w 4))])) rfl (by rw [hml]; rfl) (argsL := [(.int ((i0 &&& (15 : Int32)) - (4 : Int32)))]) (rest := [(.ref (w 4))]) (lenOf pd_1 rfl) rfl (by show 2 * 0 + _ ≤ _; exact Nat.le_of_eq rfl) (hb hby at_36) (fun _ _ => ⟨rfl, e60, (by decide : 1 + 0 ≤ _), (by decide : 6 + 0 ≤ _)⟩)
            dsimp only [Pt.U, Pt.locs, Pt.cells, Pt.slots] at X62 l62 y62 z62 st62 hQ62
            subst l62 y62 z62
            obtain ⟨rfl, N62q, e62⟩ := hQ62
            have N62 := Fr.app N60 N62q
            refine Go.on (T' := T62) (g' := (mkF m 39 #[.val (.int i0), .val (.int i1), .val (.int (0 : Int32)), .val (.int ((i0 &&& (15 : Int32)) - (4 : Int32))), .val (.ref (w 4))] [(.ref (w 4)), (.ref (w 4))])) st62 ?_
            refine Go.on (T' := T62) (g' := (mkF m 42 #[.val (.int i0), .val (.int i1), .val (.int (0 : Int32)), .val (.int ((i0 &&& (15 : Int32)) - (4 : Int32))), .val (.ref (w 4))] [])) (fun t k => Jvm.RoadKit.acmp (g := (mkF m 39 #[.val (.int i0), .val (.int i1), .val (.int (0 : Int32)), .val (.int ((i0 &&& (15 : Int32)) - (4 : Int32))), .val (.ref (w 4))] [(.ref (w 4)), (.ref (w 4))])) X62 hx rfl rfl rfl (pc0 := 39) (pc' := 42) (same := true) rfl (hb hby at_39) rfl (decide_eq_true rfl) (by decide) (by decide) k) ?_
            refine Go.on (T' := T62) (g' := (mkF m 43 #[.val (.int i0), .val (.int i1), .val (.int (0 : Int32)), .val (.int ((i0 &&& (15 : Int32)) - (4 : Int32))), .val (.ref (w 4))] [(.int (1 : Int32))])) (fun t k => XS.iconst X62.here hx rfl (hb hby at_42) k) ?_
            refine Go.on (T' := T62) (g' := (mkF m 47 #[.val (.int i0), .val (.int i1), .val (.int (0 : Int32)), .val (.int ((i0 &&& (15 : Int32)) - (4 : Int32))), .val (.ref (w 4))] [(.int (1 : Int32))])) (fun t k => XS.goto X62.here hx rfl (pc0 := 43) (pc' := 47) rfl (hb hby at_43) (by decide) (by decide) k) ?_
            obtain ⟨fs, hr, hrun, hended, hW, hsame⟩ := X62.leave (v := some (.int (1 : Int32))) (fun h => by rw [Bd.returns] at h; cases h)
            exact ⟨_, _, retN X62 hx (t := .boolean) Bd.returns (by simp) (hb hby at_47) hr, hrun, hended, _, _, rfl, ⟨rfl, N62⟩, ⟨_, rfl⟩, hW, hsame.mono (by decide) (by decide)⟩
          · skip
            by_cases h63 : (5 : Int32) = ((i0 &&& (15 : Int32)) - (4 : Int32))
            · skip
              obtain ⟨_, _, ⟨T70, L70, k70, n70⟩, -, X70, ⟨Lc70, hQ70, l70, y70, z70⟩, st70⟩ := Jvm.LawKit.callS X0 hx (y := (⟨"com/example/stubwright/stubwright/ParameterType", "fromCode", "(I)Lcom/example/stubwright/stubwright/ParameterType;"⟩ : MethodName)) hown (mvT hZ (hw _ (List.mem_of_getElem? (i := 0) rfl))) (mvT hZ (hw _ (List.mem_of_getElem? (i := 1) rfl))) (mvT hZ (hw _ (List.mem_of_getElem? (i := 2) rfl))) (mvT hZ (hw _ (List.mem_of_getElem? (i := 3) rfl))) (by decide) (backOf (W := 0) (rm1_4 l Z a0 hw [] w h0 n0 (Nat.le_trans Z0 (own_ext0 h0).1) hP ((i0 &&& (15 : Int32)) - (4 : Int32)) h18 h39 h46 h54 h63) hZ (hw _ (List.mem_of_getElem? (i := 3) rfl)) (hw _ (List.mem_of_getElem? (i := 2) rfl)) (by decide) (by decide)) (g := (mkF m 28 #[.val (.int i0), .val (.int i1), .val (.int (0 : Int32)), .val (.int ((i0 &&& (15 : Int32)) - (4 : Int32))), .unset] [(.int ((i0 &&& (15 : Int32)) - (4 : Int32)))])) rfl (by rw [hml]; rfl) (argsL := [(.int ((i0 &&& (15 : Int32)) - (4 : Int32)))]) (rest := []) (lenOf pd_1 rfl) rfl (by show 2 * 0 + _ ≤ _; exact Nat.le_of_eq rfl) (hb hby at_28) (fun _ _ => ⟨rfl, e0, (by decide : 0 + 1 ≤ _), (by decide : 0 + 6 ≤ _)⟩)
              dsimp only [Pt.U, Pt.locs, Pt.cells, Pt.slots] at X70 l70 y70 z70 st70 hQ70
              subst l70 y70 z70
              obtain ⟨rfl, N70q, x70, f70⟩ := hQ70
              have N70 := Fr.app N0 N70q
              have e70 : T70.heap = T70.heap := rfl
              have XT70 := own_ext2 (own_ext0 h0) x70
              refine Go.on (T' := T70) (g' := (mkF m 31 #[.val (.int i0), .val (.int i1), .val (.int (0 : Int32)), .val (.int ((i0 &&& (15 : Int32)) - (4 : Int32))), .unset] [(.ref (w 5))])) st70 ?_
              refine Go.on (T' := T70) (g' := (mkF m 33 #[.val (.int i0), .val (.int i1), .val (.int (0 : Int32)), .val (.int ((i0 &&& (15 : Int32)) - (4 : Int32))), .val (.ref (w 5))] [])) (fun t k => XS.astore X70.here hx rfl (hb hby at_31) rfl rfl (l' := #[.val (.int i0), .val (.int i1), .val (.int (0 : Int32)), .val (.int ((i0 &&& (15 : Int32)) - (4 : Int32))), .val (.ref (w 5))]) rfl k) ?_
              refine Go.on (T' := T70) (g' := (mkF m 35 #[.val (.int i0), .val (.int i1), .val (.int (0 : Int32)), .val (.int ((i0 &&& (15 : Int32)) - (4 : Int32))), .val (.ref (w 5))] [(.ref (w 5))])) (fun t k => XS.aload X70.here hx rfl (hb hby at_33) rfl rfl k) ?_
              refine Go.on (T' := T70) (g' := (mkF m 36 #[.val (.int i0), .val (.int i1), .val (.int (0 : Int32)), .val (.int ((i0 &&& (15 : Int32)) - (4 : Int32))), .val (.ref (w 5))] [(.int ((i0 &&& (15 : Int32)) - (4 : Int32))), (.ref (w 5))])) (fun t k => XS.iloadN X70.here hx rfl (hb hby at_35) rfl k) ?_
              obtain ⟨_, _, ⟨T72, L72, k72, n72⟩, -, X72, ⟨Lc72, hQ72, l72, y72, z72⟩, st72⟩ := Jvm.LawKit.callS X70 hx (y := (⟨"com/example/stubwright/stubwright/ParameterTypeFromCodePinLaw", "expected", "(I)Lcom/example/stubwright/stubwright/ParameterType;"⟩ : MethodName)) hown (mvT hZ (hw _ (List.mem_of_getElem? (i := 26) rfl))) (mvT hZ (hw _ (List.mem_of_getElem? (i := 27) rfl))) (mvT hZ (hw _ (List.mem_of_getElem? (i := 28) rfl))) (mvT hZ (hw _ (List.mem_of_getElem? (i := 29) rfl))) (by decide) (backOf (W := 1) (rm3_4 l Z a0 hw [] w T70.heap n0 (Nat.le_trans Z0 XT70.1) (pins_ext XT70 hP) ((i0 &&& (15 : Int32)) - (4 : Int32)) (fun q => h18 q.symm) (fun q => h39 q.symm) (fun q => h46 q.symm) (fun q => h54 q.symm) h63.symm) hZ (hw _ (List.mem_of_getElem? (i := 29) rfl)) (hw _ (List.mem_of_getElem? (i := 28) rfl)) (by decide) (by decide)) (g := (mkF m 36 #[.val (.int i0), .val (.int i1), .val (.int (0 : Int32)), .val (.int ((i0 &&& (15 : Int32)) - (4 : Int32))), .val (.ref (w 5))] [(.int ((i0 &&& (15 : Int32)) - (4 : Int32))), (.ref (w 5))])) rfl (by rw [hml]; rfl) (argsL := [(.int ((i0 &&& (15 : Int32)) - (4 : Int32)))]) (rest := [(.ref (w 5))]) (lenOf pd_1 rfl) rfl (by show 2 * 0 + _ ≤ _; exact Nat.le_of_eq rfl) (hb hby at_36) (fun _ _ => ⟨rfl, e70, (by decide : 1 + 0 ≤ _), (by decide : 6 + 0 ≤ _)⟩)
              dsimp only [Pt.U, Pt.locs, Pt.cells, Pt.slots] at X72 l72 y72 z72 st72 hQ72
              subst l72 y72 z72
              obtain ⟨rfl, N72q, e72⟩ := hQ72
              have N72 := Fr.app N70 N72q
              refine Go.on (T' := T72) (g' := (mkF m 39 #[.val (.int i0), .val (.int i1), .val (.int (0 : Int32)), .val (.int ((i0 &&& (15 : Int32)) - (4 : Int32))), .val (.ref (w 5))] [(.ref (w 5)), (.ref (w 5))])) st72 ?_
              refine Go.on (T' := T72) (g' := (mkF m 42 #[.val (.int i0), .val (.int i1), .val (.int (0 : Int32)), .val (.int ((i0 &&& (15 : Int32)) - (4 : Int32))), .val (.ref (w 5))] [])) (fun t k => Jvm.RoadKit.acmp (g := (mkF m 39 #[.val (.int i0), .val (.int i1), .val (.int (0 : Int32)), .val (.int ((i0 &&& (15 : Int32)) - (4 : Int32))), .val (.ref (w 5))] [(.ref (w 5)), (.ref (w 5))])) X72 hx rfl rfl rfl (pc0 := 39) (pc' := 42) (same := true) rfl (hb hby at_39) rfl (decide_eq_true rfl) (by decide) (by decide) k) ?_
              refine Go.on (T' := T72) (g' := (mkF m 43 #[.val (.int i0), .val (.int i1), .val (.int (0 : Int32)), .val (.int ((i0 &&& (15 : Int32)) - (4 : Int32))), .val (.ref (w 5))] [(.int (1 : Int32))])) (fun t k => XS.iconst X72.here hx rfl (hb hby at_42) k) ?_
              refine Go.on (T' := T72) (g' := (mkF m 47 #[.val (.int i0), .val (.int i1), .val (.int (0 : Int32)), .val (.int ((i0 &&& (15 : Int32)) - (4 : Int32))), .val (.ref (w 5))] [(.int (1 : Int32))])) (fun t k => XS.goto X72.here hx rfl (pc0 := 43) (pc' := 47) rfl (hb hby at_43) (by decide) (by decide) k) ?_
              obtain ⟨fs, hr, hrun, hended, hW, hsame⟩ := X72.leave (v := some (.int (1 : Int32))) (fun h => by rw [Bd.returns] at h; cases h)
              exact ⟨_, _, retN X72 hx (t := .boolean) Bd.returns (by simp) (hb hby at_47) hr, hrun, hended, _, _, rfl, ⟨rfl, N72⟩, ⟨_, rfl⟩, hW, hsame.mono (by decide) (by decide)⟩
            · skip
              by_cases h73 : (6 : Int32) = ((i0 &&& (15 : Int32)) - (4 : Int32))
              · skip
                obtain ⟨_, _, ⟨T81, L81, k81, n81⟩, -, X81, ⟨Lc81, hQ81, l81, y81, z81⟩, st81⟩ := Jvm.LawKit.callS X0 hx (y := (⟨"com/example/stubwright/stubwright/ParameterType", "fromCode", "(I)Lcom/example/stubwright/stubwright/ParameterType;"⟩ : MethodName)) hown (mvT hZ (hw _ (List.mem_of_getElem? (i := 0) rfl))) (mvT hZ (hw _ (List.mem_of_getElem? (i := 1) rfl))) (mvT hZ (hw _ (List.mem_of_getElem? (i := 2) rfl))) (mvT hZ (hw _ (List.mem_of_getElem? (i := 3) rfl))) (by decide) (backOf (W := 0) (rm1_5 l Z a0 hw [] w h0 n0 (Nat.le_trans Z0 (own_ext0 h0).1) hP ((i0 &&& (15 : Int32)) - (4 : Int32)) h18 h39 h46 h54 h63 h73) hZ (hw _ (List.mem_of_getElem? (i := 3) rfl)) (hw _ (List.mem_of_getElem? (i := 2) rfl)) (by decide) (by decide)) (g := (mkF m 28 #[.val (.int i0), .val (.int i1), .val (.int (0 : Int32)), .val (.int ((i0 &&& (15 : Int32)) - (4 : Int32))), .unset] [(.int ((i0 &&& (15 : Int32)) - (4 : Int32)))])) rfl (by rw [hml]; rfl) (argsL := [(.int ((i0 &&& (15 : Int32)) - (4 : Int32)))]) (rest := []) (lenOf pd_1 rfl) rfl (by show 2 * 0 + _ ≤ _; exact Nat.le_of_eq rfl) (hb hby at_28) (fun _ _ => ⟨rfl, e0, (by decide : 0 + 1 ≤ _), (by decide : 0 + 6 ≤ _)⟩)
                dsimp only [Pt.U, Pt.locs, Pt.cells, Pt.slots] at X81 l81 y81 z81 st81 hQ81
                subst l81 y81 z81
                obtain ⟨rfl, N81q, x81, f81⟩ := hQ81
                have N81 := Fr.app N0 N81q
                have e81 : T81.heap = T81.heap := rfl
                have XT81 := own_ext2 (own_ext0 h0) x81
                refine Go.on (T' := T81) (g' := (mkF m 31 #[.val (.int i0), .val (.int i1), .val (.int (0 : Int32)), .val (.int ((i0 &&& (15 : Int32)) - (4 : Int32))), .unset] [(.ref (w 6))])) st81 ?_
                refine Go.on (T' := T81) (g' := (mkF m 33 #[.val (.int i0), .val (.int i1), .val (.int (0 : Int32)), .val (.int ((i0 &&& (15 : Int32)) - (4 : Int32))), .val (.ref (w 6))] [])) (fun t k => XS.astore X81.here hx rfl (hb hby at_31) rfl rfl (l' := #[.val (.int i0), .val (.int i1), .val (.int (0 : Int32)), .val (.int ((i0 &&& (15 : Int32)) - (4 : Int32))), .val (.ref (w 6))]) rfl k) ?_
                refine Go.on (T' := T81) (g' := (mkF m 35 #[.val (.int i0), .val (.int i1), .val (.int (0 : Int32)), .val (.int ((i0 &&& (15 : Int32)) - (4 : Int32))), .val (.ref (w 6))] [(.ref (w 6))])) (fun t k => XS.aload X81.here hx rfl (hb hby at_33) rfl rfl k) ?_
                refine Go.on (T' := T81) (g' := (mkF m 36 #[.val (.int i0), .val (.int i1), .val (.int (0 : Int32)), .val (.int ((i0 &&& (15 : Int32)) - (4 : Int32))), .val (.ref (w 6))] [(.int ((i0 &&& (15 : Int32)) - (4 : Int32))), (.ref (w 6))])) (fun t k => XS.iloadN X81.here hx rfl (hb hby at_35) rfl k) ?_
                obtain ⟨_, _, ⟨T83, L83, k83, n83⟩, -, X83, ⟨Lc83, hQ83, l83, y83, z83⟩, st83⟩ := Jvm.LawKit.callS X81 hx (y := (⟨"com/example/stubwright/stubwright/ParameterTypeFromCodePinLaw", "expected", "(I)Lcom/example/stubwright/stubwright/ParameterType;"⟩ : MethodName)) hown (mvT hZ (hw _ (List.mem_of_getElem? (i := 26) rfl))) (mvT hZ (hw _ (List.mem_of_getElem? (i := 27) rfl))) (mvT hZ (hw _ (List.mem_of_getElem? (i := 28) rfl))) (mvT hZ (hw _ (List.mem_of_getElem? (i := 29) rfl))) (by decide) (backOf (W := 1) (rm3_5 l Z a0 hw [] w T81.heap n0 (Nat.le_trans Z0 XT81.1) (pins_ext XT81 hP) ((i0 &&& (15 : Int32)) - (4 : Int32)) (fun q => h18 q.symm) (fun q => h39 q.symm) (fun q => h46 q.symm) (fun q => h54 q.symm) (fun q => h63 q.symm) h73.symm) hZ (hw _ (List.mem_of_getElem? (i := 29) rfl)) (hw _ (List.mem_of_getElem? (i := 28) rfl)) (by decide) (by decide)) (g := (mkF m 36 #[.val (.int i0), .val (.int i1), .val (.int (0 : Int32)), .val (.int ((i0 &&& (15 : Int32)) - (4 : Int32))), .val (.ref (w 6))] [(.int ((i0 &&& (15 : Int32)) - (4 : Int32))), (.ref (w 6))])) rfl (by rw [hml]; rfl) (argsL := [(.int ((i0 &&& (15 : Int32)) - (4 : Int32)))]) (rest := [(.ref (w 6))]) (lenOf pd_1 rfl) rfl (by show 2 * 0 + _ ≤ _; exact Nat.le_of_eq rfl) (hb hby at_36) (fun _ _ => ⟨rfl, e81, (by decide : 1 + 0 ≤ _), (by decide : 6 + 0 ≤ _)⟩)
                dsimp only [Pt.U, Pt.locs, Pt.cells, Pt.slots] at X83 l83 y83 z83 st83 hQ83
                subst l83 y83 z83
                obtain ⟨rfl, N83q, e83⟩ := hQ83
                have N83 := Fr.app N81 N83q
                refine Go.on (T' := T83) (g' := (mkF m 39 #[.val (.int i0), .val (.int i1), .val (.int (0 : Int32)), .val (.int ((i0 &&& (15 : Int32)) - (4 : Int32))), .val (.ref (w 6))] [(.ref (w 6)), (.ref (w 6))])) st83 ?_
                refine Go.on (T' := T83) (g' := (mkF m 42 #[.val (.int i0), .val (.int i1), .val (.int (0 : Int32)), .val (.int ((i0 &&& (15 : Int32)) - (4 : Int32))), .val (.ref (w 6))] [])) (fun t k => Jvm.RoadKit.acmp (g := (mkF m 39 #[.val (.int i0), .val (.int i1), .val (.int (0 : Int32)), .val (.int ((i0 &&& (15 : Int32)) - (4 : Int32))), .val (.ref (w 6))] [(.ref (w 6)), (.ref (w 6))])) X83 hx rfl rfl rfl (pc0 := 39) (pc' := 42) (same := true) rfl (hb hby at_39) rfl (decide_eq_true rfl) (by decide) (by decide) k) ?_
                refine Go.on (T' := T83) (g' := (mkF m 43 #[.val (.int i0), .val (.int i1), .val (.int (0 : Int32)), .val (.int ((i0 &&& (15 : Int32)) - (4 : Int32))), .val (.ref (w 6))] [(.int (1 : Int32))])) (fun t k => XS.iconst X83.here hx rfl (hb hby at_42) k) ?_
                refine Go.on (T' := T83) (g' := (mkF m 47 #[.val (.int i0), .val (.int i1), .val (.int (0 : Int32)), .val (.int ((i0 &&& (15 : Int32)) - (4 : Int32))), .val (.ref (w 6))] [(.int (1 : Int32))])) (fun t k => XS.goto X83.here hx rfl (pc0 := 43) (pc' := 47) rfl (hb hby at_43) (by decide) (by decide) k) ?_
                obtain ⟨fs, hr, hrun, hended, hW, hsame⟩ := X83.leave (v := some (.int (1 : Int32))) (fun h => by rw [Bd.returns] at h; cases h)
                exact ⟨_, _, retN X83 hx (t := .boolean) Bd.returns (by simp) (hb hby at_47) hr, hrun, hended, _, _, rfl, ⟨rfl, N83⟩, ⟨_, rfl⟩, hW, hsame.mono (by decide) (by decide)⟩
              · skip
                obtain ⟨_, _, ⟨T91, L91, k91, n91⟩, -, X91, ⟨Lc91, hQ91, l91, y91, z91⟩, st91⟩ := Jvm.LawKit.callS X0 hx (y := (⟨"com/example/stubwright/stubwright/ParameterType", "fromCode", "(I)Lcom/example/stubwright/stubwright/ParameterType;"⟩ : MethodName)) hown (mvT hZ (hw _ (List.mem_of_getElem? (i := 0) rfl))) (mvT hZ (hw _ (List.mem_of_getElem? (i := 1) rfl))) (mvT hZ (hw _ (List.mem_of_getElem? (i := 2) rfl))) (mvT hZ (hw _ (List.mem_of_getElem? (i := 3) rfl))) (by decide) (backOf (W := 0) (rm1_6 l Z a0 hw [] w h0 n0 (Nat.le_trans Z0 (own_ext0 h0).1) hP ((i0 &&& (15 : Int32)) - (4 : Int32)) h18 h39 h46 h54 h63 h73) hZ (hw _ (List.mem_of_getElem? (i := 3) rfl)) (hw _ (List.mem_of_getElem? (i := 2) rfl)) (by decide) (by decide)) (g := (mkF m 28 #[.val (.int i0), .val (.int i1), .val (.int (0 : Int32)), .val (.int ((i0 &&& (15 : Int32)) - (4 : Int32))), .unset] [(.int ((i0 &&& (15 : Int32)) - (4 : Int32)))])) rfl (by rw [hml]; rfl) (argsL := [(.int ((i0 &&& (15 : Int32)) - (4 : Int32)))]) (rest := []) (lenOf pd_1 rfl) rfl (by show 2 * 0 + _ ≤ _; exact Nat.le_of_eq rfl) (hb hby at_28) (fun _ _ => ⟨rfl, e0, (by decide : 0 + 1 ≤ _), (by decide : 0 + 6 ≤ _)⟩)
                dsimp only [Pt.U, Pt.locs, Pt.cells, Pt.slots] at X91 l91 y91 z91 st91 hQ91
                subst l91 y91 z91
                obtain ⟨rfl, N91q, x91, f91⟩ := hQ91
                have N91 := Fr.app N0 N91q
                have e91 : T91.heap = T91.heap := rfl
                have XT91 := own_ext2 (own_ext0 h0) x91
                refine Go.on (T' := T91) (g' := (mkF m 31 #[.val (.int i0), .val (.int i1), .val (.int (0 : Int32)), .val (.int ((i0 &&& (15 : Int32)) - (4 : Int32))), .unset] [.null])) st91 ?_
                refine Go.on (T' := T91) (g' := (mkF m 33 #[.val (.int i0), .val (.int i1), .val (.int (0 : Int32)), .val (.int ((i0 &&& (15 : Int32)) - (4 : Int32))), .val .null] [])) (fun t k => XS.astore X91.here hx rfl (hb hby at_31) rfl rfl (l' := #[.val (.int i0), .val (.int i1), .val (.int (0 : Int32)), .val (.int ((i0 &&& (15 : Int32)) - (4 : Int32))), .val .null]) rfl k) ?_
                refine Go.on (T' := T91) (g' := (mkF m 35 #[.val (.int i0), .val (.int i1), .val (.int (0 : Int32)), .val (.int ((i0 &&& (15 : Int32)) - (4 : Int32))), .val .null] [.null])) (fun t k => XS.aload X91.here hx rfl (hb hby at_33) rfl rfl k) ?_
                refine Go.on (T' := T91) (g' := (mkF m 36 #[.val (.int i0), .val (.int i1), .val (.int (0 : Int32)), .val (.int ((i0 &&& (15 : Int32)) - (4 : Int32))), .val .null] [(.int ((i0 &&& (15 : Int32)) - (4 : Int32))), .null])) (fun t k => XS.iloadN X91.here hx rfl (hb hby at_35) rfl k) ?_
                obtain ⟨_, _, ⟨T92, L92, k92, n92⟩, -, X92, ⟨Lc92, hQ92, l92, y92, z92⟩, st92⟩ := Jvm.LawKit.callS X91 hx (y := (⟨"com/example/stubwright/stubwright/ParameterTypeFromCodePinLaw", "expected", "(I)Lcom/example/stubwright/stubwright/ParameterType;"⟩ : MethodName)) hown (mvT hZ (hw _ (List.mem_of_getElem? (i := 26) rfl))) (mvT hZ (hw _ (List.mem_of_getElem? (i := 27) rfl))) (mvT hZ (hw _ (List.mem_of_getElem? (i := 28) rfl))) (mvT hZ (hw _ (List.mem_of_getElem? (i := 29) rfl))) (by decide) (backOf (W := 1) (rm3_6 l Z a0 hw [] w T91.heap n0 (Nat.le_trans Z0 XT91.1) (pins_ext XT91 hP) ((i0 &&& (15 : Int32)) - (4 : Int32)) (fun q => h18 q.symm) (fun q => h39 q.symm) (fun q => h46 q.symm) (fun q => h54 q.symm) (fun q => h63 q.symm) (fun q => h73 q.symm)) hZ (hw _ (List.mem_of_getElem? (i := 29) rfl)) (hw _ (List.mem_of_getElem? (i := 28) rfl)) (by decide) (by decide)) (g := (mkF m 36 #[.val (.int i0), .val (.int i1), .val (.int (0 : Int32)), .val (.int ((i0 &&& (15 : Int32)) - (4 : Int32))), .val .null] [(.int ((i0 &&& (15 : Int32)) - (4 : Int32))), .null])) rfl (by rw [hml]; rfl) (argsL := [(.int ((i0 &&& (15 : Int32)) - (4 : Int32)))]) (rest := [.null]) (lenOf pd_1 rfl) rfl (by show 2 * 0 + _ ≤ _; exact Nat.le_of_eq rfl) (hb hby at_36) (fun _ _ => ⟨rfl, e91, (by decide : 1 + 0 ≤ _), (by decide : 6 + 0 ≤ _)⟩)
                dsimp only [Pt.U, Pt.locs, Pt.cells, Pt.slots] at X92 l92 y92 z92 st92 hQ92
                subst l92 y92 z92
                obtain ⟨rfl, N92q, e92⟩ := hQ92
                have N92 := Fr.app N91 N92q
                refine Go.on (T' := T92) (g' := (mkF m 39 #[.val (.int i0), .val (.int i1), .val (.int (0 : Int32)), .val (.int ((i0 &&& (15 : Int32)) - (4 : Int32))), .val .null] [.null, .null])) st92 ?_
                refine Go.on (T' := T92) (g' := (mkF m 42 #[.val (.int i0), .val (.int i1), .val (.int (0 : Int32)), .val (.int ((i0 &&& (15 : Int32)) - (4 : Int32))), .val .null] [])) (fun t k => Jvm.RoadKit.acmp (g := (mkF m 39 #[.val (.int i0), .val (.int i1), .val (.int (0 : Int32)), .val (.int ((i0 &&& (15 : Int32)) - (4 : Int32))), .val .null] [.null, .null])) X92 hx rfl rfl rfl (pc0 := 39) (pc' := 42) (same := true) rfl (hb hby at_39) rfl (decide_eq_true rfl) (by decide) (by decide) k) ?_
                refine Go.on (T' := T92) (g' := (mkF m 43 #[.val (.int i0), .val (.int i1), .val (.int (0 : Int32)), .val (.int ((i0 &&& (15 : Int32)) - (4 : Int32))), .val .null] [(.int (1 : Int32))])) (fun t k => XS.iconst X92.here hx rfl (hb hby at_42) k) ?_
                refine Go.on (T' := T92) (g' := (mkF m 47 #[.val (.int i0), .val (.int i1), .val (.int (0 : Int32)), .val (.int ((i0 &&& (15 : Int32)) - (4 : Int32))), .val .null] [(.int (1 : Int32))])) (fun t k => XS.goto X92.here hx rfl (pc0 := 43) (pc' := 47) rfl (hb hby at_43) (by decide) (by decide) k) ?_
                obtain ⟨fs, hr, hrun, hended, hW, hsame⟩ := X92.leave (v := some (.int (1 : Int32))) (fun h => by rw [Bd.returns] at h; cases h)
                exact ⟨_, _, retN X92 hx (t := .boolean) Bd.returns (by simp) (hb hby at_47) hr, hrun, hended, _, _, rfl, ⟨rfl, N92⟩, ⟨_, rfl⟩, hW, hsame.mono (by decide) (by decide)⟩
  · skip
    refine Go.on (T' := s₁) (g' := (mkF m 6 #[.val (.int i0), .val (.int i1), .unset, .unset, .unset] [])) (fun t k => XS.ifNo X0.here hx rfl (hb hby at_3) rfl ((if0 _ _).trans (feq h1).1) k) ?_
    refine Go.on (T' := s₁) (g' := (mkF m 7 #[.val (.int i0), .val (.int i1), .unset, .unset, .unset] [(.int (1 : Int32))])) (fun t k => XS.iconst X0.here hx rfl (hb hby at_6) k) ?_
    refine Go.on (T' := s₁) (g' := (mkF m 11 #[.val (.int i0), .val (.int i1), .unset, .unset, .unset] [(.int (1 : Int32))])) (fun t k => XS.goto X0.here hx rfl (pc0 := 7) (pc' := 11) rfl (hb hby at_7) (by decide) (by decide) k) ?_
    refine Go.on (T' := s₁) (g' := (mkF m 12 #[.val (.int i0), .val (.int i1), .val (.int (1 : Int32)), .unset, .unset] [])) (fun t k => XS.istoreN X0.here hx rfl (hb hby at_11) rfl (l' := #[.val (.int i0), .val (.int i1), .val (.int (1 : Int32)), .unset, .unset]) rfl k) ?_
    refine Go.on (T' := s₁) (g' := (mkF m 13 #[.val (.int i0), .val (.int i1), .val (.int (1 : Int32)), .unset, .unset] [(.int (1 : Int32))])) (fun t k => XS.iloadN X0.here hx rfl (hb hby at_12) rfl k) ?_
    refine Go.on (T' := s₁) (g' := (mkF m 16 #[.val (.int i0), .val (.int i1), .val (.int (1 : Int32)), .unset, .unset] [])) (fun t k => XS.ifNo X0.here hx rfl (hb hby at_13) rfl ((if0 _ _).trans (feq (by decide : ¬ ((1 : Int32) = (0 : Int32)))).1) k) ?_
    refine Go.on (T' := s₁) (g' := (mkF m 17 #[.val (.int i0), .val (.int i1), .val (.int (1 : Int32)), .unset, .unset] [(.int i0)])) (fun t k => XS.iloadN X0.here hx rfl (hb hby at_16) rfl k) ?_
    refine Go.on (T' := s₁) (g' := (mkF m 26 #[.val (.int i0), .val (.int i1), .val (.int (1 : Int32)), .unset, .unset] [(.int i0)])) (fun t k => XS.goto X0.here hx rfl (pc0 := 17) (pc' := 26) rfl (hb hby at_17) (by decide) (by decide) k) ?_
    refine Go.on (T' := s₁) (g' := (mkF m 27 #[.val (.int i0), .val (.int i1), .val (.int (1 : Int32)), .val (.int i0), .unset] [])) (fun t k => XS.istoreN X0.here hx rfl (hb hby at_26) rfl (l' := #[.val (.int i0), .val (.int i1), .val (.int (1 : Int32)), .val (.int i0), .unset]) rfl k) ?_
    refine Go.on (T' := s₁) (g' := (mkF m 28 #[.val (.int i0), .val (.int i1), .val (.int (1 : Int32)), .val (.int i0), .unset] [(.int i0)])) (fun t k => XS.iloadN X0.here hx rfl (hb hby at_27) rfl k) ?_
    by_cases h93 : (1 : Int32) = i0
    · skip
      obtain ⟨_, _, ⟨T94, L94, k94, n94⟩, -, X94, ⟨Lc94, hQ94, l94, y94, z94⟩, st94⟩ := Jvm.LawKit.callS X0 hx (y := (⟨"com/example/stubwright/stubwright/ParameterType", "fromCode", "(I)Lcom/example/stubwright/stubwright/ParameterType;"⟩ : MethodName)) hown (mvT hZ (hw _ (List.mem_of_getElem? (i := 0) rfl))) (mvT hZ (hw _ (List.mem_of_getElem? (i := 1) rfl))) (mvT hZ (hw _ (List.mem_of_getElem? (i := 2) rfl))) (mvT hZ (hw _ (List.mem_of_getElem? (i := 3) rfl))) (by decide) (backOf (W := 0) (rm1_0 l Z a0 hw [] w h0 n0 (Nat.le_trans Z0 (own_ext0 h0).1) hP i0 h93) hZ (hw _ (List.mem_of_getElem? (i := 3) rfl)) (hw _ (List.mem_of_getElem? (i := 2) rfl)) (by decide) (by decide)) (g := (mkF m 28 #[.val (.int i0), .val (.int i1), .val (.int (1 : Int32)), .val (.int i0), .unset] [(.int i0)])) rfl (by rw [hml]; rfl) (argsL := [(.int i0)]) (rest := []) (lenOf pd_1 rfl) rfl (by show 2 * 0 + _ ≤ _; exact Nat.le_of_eq rfl) (hb hby at_28) (fun _ _ => ⟨rfl, e0, (by decide : 0 + 1 ≤ _), (by decide : 0 + 6 ≤ _)⟩)
      dsimp only [Pt.U, Pt.locs, Pt.cells, Pt.slots] at X94 l94 y94 z94 st94 hQ94
      subst l94 y94 z94
      obtain ⟨rfl, N94q, x94, f94⟩ := hQ94
      have N94 := Fr.app N0 N94q
      have e94 : T94.heap = T94.heap := rfl
      have XT94 := own_ext2 (own_ext0 h0) x94
      refine Go.on (T' := T94) (g' := (mkF m 31 #[.val (.int i0), .val (.int i1), .val (.int (1 : Int32)), .val (.int i0), .unset] [(.ref (w 1))])) st94 ?_
      refine Go.on (T' := T94) (g' := (mkF m 33 #[.val (.int i0), .val (.int i1), .val (.int (1 : Int32)), .val (.int i0), .val (.ref (w 1))] [])) (fun t k => XS.astore X94.here hx rfl (hb hby at_31) rfl rfl (l' := #[.val (.int i0), .val (.int i1), .val (.int (1 : Int32)), .val (.int i0), .val (.ref (w 1))]) rfl k) ?_
      refine Go.on (T' := T94) (g' := (mkF m 35 #[.val (.int i0), .val (.int i1), .val (.int (1 : Int32)), .val (.int i0), .val (.ref (w 1))] [(.ref (w 1))])) (fun t k => XS.aload X94.here hx rfl (hb hby at_33) rfl rfl k) ?_
      refine Go.on (T' := T94) (g' := (mkF m 36 #[.val (.int i0), .val (.int i1), .val (.int (1 : Int32)), .val (.int i0), .val (.ref (w 1))] [(.int i0), (.ref (w 1))])) (fun t k => XS.iloadN X94.here hx rfl (hb hby at_35) rfl k) ?_
      obtain ⟨_, _, ⟨T95, L95, k95, n95⟩, -, X95, ⟨Lc95, hQ95, l95, y95, z95⟩, st95⟩ := Jvm.LawKit.callS X94 hx (y := (⟨"com/example/stubwright/stubwright/ParameterTypeFromCodePinLaw", "expected", "(I)Lcom/example/stubwright/stubwright/ParameterType;"⟩ : MethodName)) hown (mvT hZ (hw _ (List.mem_of_getElem? (i := 26) rfl))) (mvT hZ (hw _ (List.mem_of_getElem? (i := 27) rfl))) (mvT hZ (hw _ (List.mem_of_getElem? (i := 28) rfl))) (mvT hZ (hw _ (List.mem_of_getElem? (i := 29) rfl))) (by decide) (backOf (W := 1) (rm3_0 l Z a0 hw [] w T94.heap n0 (Nat.le_trans Z0 XT94.1) (pins_ext XT94 hP) i0 h93.symm) hZ (hw _ (List.mem_of_getElem? (i := 29) rfl)) (hw _ (List.mem_of_getElem? (i := 28) rfl)) (by decide) (by decide)) (g := (mkF m 36 #[.val (.int i0), .val (.int i1), .val (.int (1 : Int32)), .val (.int i0), .val (.ref (w 1))] [(.int i0), (.ref (w 1))])) rfl (by rw [hml]; rfl) (argsL := [(.int i0)]) (rest := [(.ref (w 1))]) (lenOf pd_1 rfl) rfl (by show 2 * 0 + _ ≤ _; exact Nat.le_of_eq rfl) (hb hby at_36) (fun _ _ => ⟨rfl, e94, (by decide : 1 + 0 ≤ _), (by decide : 6 + 0 ≤ _)⟩)
      dsimp only [Pt.U, Pt.locs, Pt.cells, Pt.slots] at X95 l95 y95 z95 st95 hQ95
      subst l95 y95 z95
      obtain ⟨rfl, N95q, e95⟩ := hQ95
      have N95 := Fr.app N94 N95q
      refine Go.on (T' := T95) (g' := (mkF m 39 #[.val (.int i0), .val (.int i1), .val (.int (1 : Int32)), .val (.int i0), .val (.ref (w 1))] [(.ref (w 1)), (.ref (w 1))])) st95 ?_
      refine Go.on (T' := T95) (g' := (mkF m 42 #[.val (.int i0), .val (.int i1), .val (.int (1 : Int32)), .val (.int i0), .val (.ref (w 1))] [])) (fun t k => Jvm.RoadKit.acmp (g := (mkF m 39 #[.val (.int i0), .val (.int i1), .val (.int (1 : Int32)), .val (.int i0), .val (.ref (w 1))] [(.ref (w 1)), (.ref (w 1))])) X95 hx rfl rfl rfl (pc0 := 39) (pc' := 42) (same := true) rfl (hb hby at_39) rfl (decide_eq_true rfl) (by decide) (by decide) k) ?_
      refine Go.on (T' := T95) (g' := (mkF m 43 #[.val (.int i0), .val (.int i1), .val (.int (1 : Int32)), .val (.int i0), .val (.ref (w 1))] [(.int (1 : Int32))])) (fun t k => XS.iconst X95.here hx rfl (hb hby at_42) k) ?_
      refine Go.on (T' := T95) (g' := (mkF m 47 #[.val (.int i0), .val (.int i1), .val (.int (1 : Int32)), .val (.int i0), .val (.ref (w 1))] [(.int (1 : Int32))])) (fun t k => XS.goto X95.here hx rfl (pc0 := 43) (pc' := 47) rfl (hb hby at_43) (by decide) (by decide) k) ?_
      obtain ⟨fs, hr, hrun, hended, hW, hsame⟩ := X95.leave (v := some (.int (1 : Int32))) (fun h => by rw [Bd.returns] at h; cases h)
      exact ⟨_, _, retN X95 hx (t := .boolean) Bd.returns (by simp) (hb hby at_47) hr, hrun, hended, _, _, rfl, ⟨rfl, N95⟩, ⟨_, rfl⟩, hW, hsame.mono (by decide) (by decide)⟩
    · skip
      by_cases h96 : (2 : Int32) = i0
      · skip
        obtain ⟨_, _, ⟨T97, L97, k97, n97⟩, -, X97, ⟨Lc97, hQ97, l97, y97, z97⟩, st97⟩ := Jvm.LawKit.callS X0 hx (y := (⟨"com/example/stubwright/stubwright/ParameterType", "fromCode", "(I)Lcom/example/stubwright/stubwright/ParameterType;"⟩ : MethodName)) hown (mvT hZ (hw _ (List.mem_of_getElem? (i := 0) rfl))) (mvT hZ (hw _ (List.mem_of_getElem? (i := 1) rfl))) (mvT hZ (hw _ (List.mem_of_getElem? (i := 2) rfl))) (mvT hZ (hw _ (List.mem_of_getElem? (i := 3) rfl))) (by decide) (backOf (W := 0) (rm1_1 l Z a0 hw [] w h0 n0 (Nat.le_trans Z0 (own_ext0 h0).1) hP i0 h93 h96) hZ (hw _ (List.mem_of_getElem? (i := 3) rfl)) (hw _ (List.mem_of_getElem? (i := 2) rfl)) (by decide) (by decide)) (g := (mkF m 28 #[.val (.int i0), .val (.int i1), .val (.int (1 : Int32)), .val (.int i0), .unset] [(.int i0)])) rfl (by rw [hml]; rfl) (argsL := [(.int i0)]) (rest := []) (lenOf pd_1 rfl) rfl (by show 2 * 0 + _ ≤ _; exact Nat.le_of_eq rfl) (hb hby at_28) (fun _ _ => ⟨rfl, e0, (by decide : 0 + 1 ≤ _), (by decide : 0 + 6 ≤ _)⟩)
        dsimp only [Pt.U, Pt.locs, Pt.cells, Pt.slots] at X97 l97 y97 z97 st97 hQ97
        subst l97 y97 z97
        obtain ⟨rfl, N97q, x97, f97⟩ := hQ97
        have N97 := Fr.app N0 N97q
        have e97 : T97.heap = T97.heap := rfl
        have XT97 := own_ext2 (own_ext0 h0) x97
        refine Go.on (T' := T97) (g' := (mkF m 31 #[.val (.int i0), .val (.int i1), .val (.int (1 : Int32)), .val (.int i0), .unset] [(.ref (w 2))])) st97 ?_
        refine Go.on (T' := T97) (g' := (mkF m 33 #[.val (.int i0), .val (.int i1), .val (.int (1 : Int32)), .val (.int i0), .val (.ref (w 2))] [])) (fun t k => XS.astore X97.here hx rfl (hb hby at_31) rfl rfl (l' := #[.val (.int i0), .val (.int i1), .val (.int (1 : Int32)), .val (.int i0), .val (.ref (w 2))]) rfl k) ?_
        refine Go.on (T' := T97) (g' := (mkF m 35 #[.val (.int i0), .val (.int i1), .val (.int (1 : Int32)), .val (.int i0), .val (.ref (w 2))] [(.ref (w 2))])) (fun t k => XS.aload X97.here hx rfl (hb hby at_33) rfl rfl k) ?_
        refine Go.on (T' := T97) (g' := (mkF m 36 #[.val (.int i0), .val (.int i1), .val (.int (1 : Int32)), .val (.int i0), .val (.ref (w 2))] [(.int i0), (.ref (w 2))])) (fun t k => XS.iloadN X97.here hx rfl (hb hby at_35) rfl k) ?_
        obtain ⟨_, _, ⟨T98, L98, k98, n98⟩, -, X98, ⟨Lc98, hQ98, l98, y98, z98⟩, st98⟩ := Jvm.LawKit.callS X97 hx (y := (⟨"com/example/stubwright/stubwright/ParameterTypeFromCodePinLaw", "expected", "(I)Lcom/example/stubwright/stubwright/ParameterType;"⟩ : MethodName)) hown (mvT hZ (hw _ (List.mem_of_getElem? (i := 26) rfl))) (mvT hZ (hw _ (List.mem_of_getElem? (i := 27) rfl))) (mvT hZ (hw _ (List.mem_of_getElem? (i := 28) rfl))) (mvT hZ (hw _ (List.mem_of_getElem? (i := 29) rfl))) (by decide) (backOf (W := 1) (rm3_1 l Z a0 hw [] w T97.heap n0 (Nat.le_trans Z0 XT97.1) (pins_ext XT97 hP) i0 (fun q => h93 q.symm) h96.symm) hZ (hw _ (List.mem_of_getElem? (i := 29) rfl)) (hw _ (List.mem_of_getElem? (i := 28) rfl)) (by decide) (by decide)) (g := (mkF m 36 #[.val (.int i0), .val (.int i1), .val (.int (1 : Int32)), .val (.int i0), .val (.ref (w 2))] [(.int i0), (.ref (w 2))])) rfl (by rw [hml]; rfl) (argsL := [(.int i0)]) (rest := [(.ref (w 2))]) (lenOf pd_1 rfl) rfl (by show 2 * 0 + _ ≤ _; exact Nat.le_of_eq rfl) (hb hby at_36) (fun _ _ => ⟨rfl, e97, (by decide : 1 + 0 ≤ _), (by decide : 6 + 0 ≤ _)⟩)
        dsimp only [Pt.U, Pt.locs, Pt.cells, Pt.slots] at X98 l98 y98 z98 st98 hQ98
        subst l98 y98 z98
        obtain ⟨rfl, N98q, e98⟩ := hQ98
        have N98 := Fr.app N97 N98q
        refine Go.on (T' := T98) (g' := (mkF m 39 #[.val (.int i0), .val (.int i1), .val (.int (1 : Int32)), .val (.int i0), .val (.ref (w 2))] [(.ref (w 2)), (.ref (w 2))])) st98 ?_
        refine Go.on (T' := T98) (g' := (mkF m 42 #[.val (.int i0), .val (.int i1), .val (.int (1 : Int32)), .val (.int i0), .val (.ref (w 2))] [])) (fun t k => Jvm.RoadKit.acmp (g := (mkF m 39 #[.val (.int i0), .val (.int i1), .val (.int (1 : Int32)), .val (.int i0), .val (.ref (w 2))] [(.ref (w 2)), (.ref (w 2))])) X98 hx rfl rfl rfl (pc0 := 39) (pc' := 42) (same := true) rfl (hb hby at_39) rfl (decide_eq_true rfl) (by decide) (by decide) k) ?_
        refine Go.on (T' := T98) (g' := (mkF m 43 #[.val (.int i0), .val (.int i1), .val (.int (1 : Int32)), .val (.int i0), .val (.ref (w 2))] [(.int (1 : Int32))])) (fun t k => XS.iconst X98.here hx rfl (hb hby at_42) k) ?_
        refine Go.on (T' := T98) (g' := (mkF m 47 #[.val (.int i0), .val (.int i1), .val (.int (1 : Int32)), .val (.int i0), .val (.ref (w 2))] [(.int (1 : Int32))])) (fun t k => XS.goto X98.here hx rfl (pc0 := 43) (pc' := 47) rfl (hb hby at_43) (by decide) (by decide) k) ?_
        obtain ⟨fs, hr, hrun, hended, hW, hsame⟩ := X98.leave (v := some (.int (1 : Int32))) (fun h => by rw [Bd.returns] at h; cases h)
        exact ⟨_, _, retN X98 hx (t := .boolean) Bd.returns (by simp) (hb hby at_47) hr, hrun, hended, _, _, rfl, ⟨rfl, N98⟩, ⟨_, rfl⟩, hW, hsame.mono (by decide) (by decide)⟩
      · skip
        by_cases h99 : (3 : Int32) = i0
        · skip
          obtain ⟨_, _, ⟨T100, L100, k100, n100⟩, -, X100, ⟨Lc100, hQ100, l100, y100, z100⟩, st100⟩ := Jvm.LawKit.callS X0 hx (y := (⟨"com/example/stubwright/stubwright/ParameterType", "fromCode", "(I)Lcom/example/stubwright/stubwright/ParameterType;"⟩ : MethodName)) hown (mvT hZ (hw _ (List.mem_of_getElem? (i := 0) rfl))) (mvT hZ (hw _ (List.mem_of_getElem? (i := 1) rfl))) (mvT hZ (hw _ (List.mem_of_getElem? (i := 2) rfl))) (mvT hZ (hw _ (List.mem_of_getElem? (i := 3) rfl))) (by decide) (backOf (W := 0) (rm1_2 l Z a0 hw [] w h0 n0 (Nat.le_trans Z0 (own_ext0 h0).1) hP i0 h93 h96 h99) hZ (hw _ (List.mem_of_getElem? (i := 3) rfl)) (hw _ (List.mem_of_getElem? (i := 2) rfl)) (by decide) (by decide)) (g := (mkF m 28 #[.val (.int i0), .val (.int i1), .val (.int (1 : Int32)), .val (.int i0), .unset] [(.int i0)])) rfl (by rw [hml]; rfl) (argsL := [(.int i0)]) (rest := []) (lenOf pd_1 rfl) rfl (by show 2 * 0 + _ ≤ _; exact Nat.le_of_eq rfl) (hb hby at_28) (fun _ _ => ⟨rfl, e0, (by decide : 0 + 1 ≤ _), (by decide : 0 + 6 ≤ _)⟩)
          dsimp only [Pt.U, Pt.locs, Pt.cells, Pt.slots] at X100 l100 y100 z100 st100 hQ100
          subst l100 y100 z100
          obtain ⟨rfl, N100q, x100, f100⟩ := hQ100
          have N100 := Fr.app N0 N100q
          have e100 : T100.heap = T100.heap := rfl
          have XT100 := own_ext2 (own_ext0 h0) x100
          refine Go.on (T' := T100) (g' := (mkF m 31 #[.val (.int i0), .val (.int i1), .val (.int (1 : Int32)), .val (.int i0), .unset] [(.ref (w 3))])) st100 ?_
          refine Go.on (T' := T100) (g' := (mkF m 33 #[.val (.int i0), .val (.int i1), .val (.int (1 : Int32)), .val (.int i0), .val (.ref (w 3))] [])) (fun t k => XS.astore X100.here hx rfl (hb hby at_31) rfl rfl (l' := #[.val (.int i0), .val (.int i1), .val (.int (1 : Int32)), .val (.int i0), .val (.ref (w 3))]) rfl k) ?_
          refine Go.on (T' := T100) (g' := (mkF m 35 #[.val (.int i0), .val (.int i1), .val (.int (1 : Int32)), .val (.int i0), .val (.ref (w 3))] [(.ref (w 3))])) (fun t k => XS.aload X100.here hx rfl (hb hby at_33) rfl rfl k) ?_
          refine Go.on (T' := T100) (g' := (mkF m 36 #[.val (.int i0), .val (.int i1), .val (.int (1 : Int32)), .val (.int i0), .val (.ref (w 3))] [(.int i0), (.ref (w 3))])) (fun t k => XS.iloadN X100.here hx rfl (hb hby at_35) rfl k) ?_
          obtain ⟨_, _, ⟨T101, L101, k101, n101⟩, -, X101, ⟨Lc101, hQ101, l101, y101, z101⟩, st101⟩ := Jvm.LawKit.callS X100 hx (y := (⟨"com/example/stubwright/stubwright/ParameterTypeFromCodePinLaw", "expected", "(I)Lcom/example/stubwright/stubwright/ParameterType;"⟩ : MethodName)) hown (mvT hZ (hw _ (List.mem_of_getElem? (i := 26) rfl))) (mvT hZ (hw _ (List.mem_of_getElem? (i := 27) rfl))) (mvT hZ (hw _ (List.mem_of_getElem? (i := 28) rfl))) (mvT hZ (hw _ (List.mem_of_getElem? (i := 29) rfl))) (by decide) (backOf (W := 1) (rm3_2 l Z a0 hw [] w T100.heap n0 (Nat.le_trans Z0 XT100.1) (pins_ext XT100 hP) i0 (fun q => h93 q.symm) (fun q => h96 q.symm) h99.symm) hZ (hw _ (List.mem_of_getElem? (i := 29) rfl)) (hw _ (List.mem_of_getElem? (i := 28) rfl)) (by decide) (by decide)) (g := (mkF m 36 #[.val (.int i0), .val (.int i1), .val (.int (1 : Int32)), .val (.int i0), .val (.ref (w 3))] [(.int i0), (.ref (w 3))])) rfl (by rw [hml]; rfl) (argsL := [(.int i0)]) (rest := [(.ref (w 3))]) (lenOf pd_1 rfl) rfl (by show 2 * 0 + _ ≤ _; exact Nat.le_of_eq rfl) (hb hby at_36) (fun _ _ => ⟨rfl, e100, (by decide : 1 + 0 ≤ _), (by decide : 6 + 0 ≤ _)⟩)
          dsimp only [Pt.U, Pt.locs, Pt.cells, Pt.slots] at X101 l101 y101 z101 st101 hQ101
          subst l101 y101 z101
          obtain ⟨rfl, N101q, e101⟩ := hQ101
          have N101 := Fr.app N100 N101q
          refine Go.on (T' := T101) (g' := (mkF m 39 #[.val (.int i0), .val (.int i1), .val (.int (1 : Int32)), .val (.int i0), .val (.ref (w 3))] [(.ref (w 3)), (.ref (w 3))])) st101 ?_
          refine Go.on (T' := T101) (g' := (mkF m 42 #[.val (.int i0), .val (.int i1), .val (.int (1 : Int32)), .val (.int i0), .val (.ref (w 3))] [])) (fun t k => Jvm.RoadKit.acmp (g := (mkF m 39 #[.val (.int i0), .val (.int i1), .val (.int (1 : Int32)), .val (.int i0), .val (.ref (w 3))] [(.ref (w 3)), (.ref (w 3))])) X101 hx rfl rfl rfl (pc0 := 39) (pc' := 42) (same := true) rfl (hb hby at_39) rfl (decide_eq_true rfl) (by decide) (by decide) k) ?_
          refine Go.on (T' := T101) (g' := (mkF m 43 #[.val (.int i0), .val (.int i1), .val (.int (1 : Int32)), .val (.int i0), .val (.ref (w 3))] [(.int (1 : Int32))])) (fun t k => XS.iconst X101.here hx rfl (hb hby at_42) k) ?_
          refine Go.on (T' := T101) (g' := (mkF m 47 #[.val (.int i0), .val (.int i1), .val (.int (1 : Int32)), .val (.int i0), .val (.ref (w 3))] [(.int (1 : Int32))])) (fun t k => XS.goto X101.here hx rfl (pc0 := 43) (pc' := 47) rfl (hb hby at_43) (by decide) (by decide) k) ?_
          obtain ⟨fs, hr, hrun, hended, hW, hsame⟩ := X101.leave (v := some (.int (1 : Int32))) (fun h => by rw [Bd.returns] at h; cases h)
          exact ⟨_, _, retN X101 hx (t := .boolean) Bd.returns (by simp) (hb hby at_47) hr, hrun, hended, _, _, rfl, ⟨rfl, N101⟩, ⟨_, rfl⟩, hW, hsame.mono (by decide) (by decide)⟩
        · skip
          by_cases h102 : (4 : Int32) = i0
          · skip
            obtain ⟨_, _, ⟨T103, L103, k103, n103⟩, -, X103, ⟨Lc103, hQ103, l103, y103, z103⟩, st103⟩ := Jvm.LawKit.callS X0 hx (y := (⟨"com/example/stubwright/stubwright/ParameterType", "fromCode", "(I)Lcom/example/stubwright/stubwright/ParameterType;"⟩ : MethodName)) hown (mvT hZ (hw _ (List.mem_of_getElem? (i := 0) rfl))) (mvT hZ (hw _ (List.mem_of_getElem? (i := 1) rfl))) (mvT hZ (hw _ (List.mem_of_getElem? (i := 2) rfl))) (mvT hZ (hw _ (List.mem_of_getElem? (i := 3) rfl))) (by decide) (backOf (W := 0) (rm1_3 l Z a0 hw [] w h0 n0 (Nat.le_trans Z0 (own_ext0 h0).1) hP i0 h93 h96 h99 h102) hZ (hw _ (List.mem_of_getElem? (i := 3) rfl)) (hw _ (List.mem_of_getElem? (i := 2) rfl)) (by decide) (by decide)) (g := (mkF m 28 #[.val (.int i0), .val (.int i1), .val (.int (1 : Int32)), .val (.int i0), .unset] [(.int i0)])) rfl (by rw [hml]; rfl) (argsL := [(.int i0)]) (rest := []) (lenOf pd_1 rfl) rfl (by show 2 * 0 + _ ≤ _; exact Nat.le_of_eq rfl) (hb hby at_28) (fun _ _ => ⟨rfl, e0, (by decide : 0 + 1 ≤ _), (by decide : 0 + 6 ≤ _)⟩)
            dsimp only [Pt.U, Pt.locs, Pt.cells, Pt.slots] at X103 l103 y103 z103 st103 hQ103
            subst l103 y103 z103
            obtain ⟨rfl, N103q, x103, f103⟩ := hQ103
            have N103 := Fr.app N0 N103q
            have e103 : T103.heap = T103.heap := rfl
            have XT103 := own_ext2 (own_ext0 h0) x103
            refine Go.on (T' := T103) (g' := (mkF m 31 #[.val (.int i0), .val (.int i1), .val (.int (1 : Int32)), .val (.int i0), .unset] [(.ref (w 4))])) st103 ?_
            refine Go.on (T' := T103) (g' := (mkF m 33 #[.val (.int i0), .val (.int i1), .val (.int (1 : Int32)), .val (.int i0), .val (.ref (w 4))] [])) (fun t k => XS.astore X103.here hx rfl (hb hby at_31) rfl rfl (l' := #[.val (.int i0), .val (.int i1), .val (.int (1 : Int32)), .val (.int i0), .val (.ref (w 4))]) rfl k) ?_
            refine Go.on (T' := T103) (g' := (mkF m 35 #[.val (.int i0), .val (.int i1), .val (.int (1 : Int32)), .val (.int i0), .val (.ref (w 4))] [(.ref (w 4))])) (fun t k => XS.aload X103.here hx rfl (hb hby at_33) rfl rfl k) ?_
            refine Go.on (T' := T103) (g' := (mkF m 36 #[.val (.int i0), .val (.int i1), .val (.int (1 : Int32)), .val (.int i0), .val (.ref (w 4))] [(.int i0), (.ref (w 4))])) (fun t k => XS.iloadN X103.here hx rfl (hb hby at_35) rfl k) ?_
            obtain ⟨_, _, ⟨T104, L104, k104, n104⟩, -, X104, ⟨Lc104, hQ104, l104, y104, z104⟩, st104⟩ := Jvm.LawKit.callS X103 hx (y := (⟨"com/example/stubwright/stubwright/ParameterTypeFromCodePinLaw", "expected", "(I)Lcom/example/stubwright/stubwright/ParameterType;"⟩ : MethodName)) hown (mvT hZ (hw _ (List.mem_of_getElem? (i := 26) rfl))) (mvT hZ (hw _ (List.mem_of_getElem? (i := 27) rfl))) (mvT hZ (hw _ (List.mem_of_getElem? (i := 28) rfl))) (mvT hZ (hw _ (List.mem_of_getElem? (i := 29) rfl))) (by decide) (backOf (W := 1) (rm3_3 l Z a0 hw [] w T103.heap n0 (Nat.le_trans Z0 XT103.1) (pins_ext XT103 hP) i0 (fun q => h93 q.symm) (fun q => h96 q.symm) (fun q => h99 q.symm) h102.symm) hZ (hw _ (List.mem_of_getElem? (i := 29) rfl)) (hw _ (List.mem_of_getElem? (i := 28) rfl)) (by decide) (by decide)) (g := (mkF m 36 #[.val (.int i0), .val (.int i1), .val (.int (1 : Int32)), .val (.int i0), .val (.ref (w 4))] [(.int i0), (.ref (w 4))])) rfl (by rw [hml]; rfl) (argsL := [(.int i0)]) (rest := [(.ref (w 4))]) (lenOf pd_1 rfl) rfl (by show 2 * 0 + _ ≤ _; exact Nat.le_of_eq rfl) (hb hby at_36) (fun _ _ => ⟨rfl, e103, (by decide : 1 + 0 ≤ _), (by decide : 6 + 0 ≤ _)⟩)
            dsimp only [Pt.U, Pt.locs, Pt.cells, Pt.slots] at X104 l104 y104 z104 st104 hQ104
            subst l104 y104 z104
            obtain ⟨rfl, N104q, e104⟩ := hQ104
            have N104 := Fr.app N103 N104q
            refine Go.on (T' := T104) (g' := (mkF m 39 #[.val (.int i0), .val (.int i1), .val (.int (1 : Int32)), .val (.int i0), .val (.ref (w 4))] [(.ref (w 4)), (.ref (w 4))])) st104 ?_
            refine Go.on (T' := T104) (g' := (mkF m 42 #[.val (.int i0), .val (.int i1), .val (.int (1 : Int32)), .val (.int i0), .val (.ref (w 4))] [])) (fun t k => Jvm.RoadKit.acmp (g := (mkF m 39 #[.val (.int i0), .val (.int i1), .val (.int (1 : Int32)), .val (.int i0), .val (.ref (w 4))] [(.ref (w 4)), (.ref (w 4))])) X104 hx rfl rfl rfl (pc0 := 39) (pc' := 42) (same := true) rfl (hb hby at_39) rfl (decide_eq_true rfl) (by decide) (by decide) k) ?_
            refine Go.on (T' := T104) (g' := (mkF m 43 #[.val (.int i0), .val (.int i1), .val (.int (1 : Int32)), .val (.int i0), .val (.ref (w 4))] [(.int (1 : Int32))])) (fun t k => XS.iconst X104.here hx rfl (hb hby at_42) k) ?_
            refine Go.on (T' := T104) (g' := (mkF m 47 #[.val (.int i0), .val (.int i1), .val (.int (1 : Int32)), .val (.int i0), .val (.ref (w 4))] [(.int (1 : Int32))])) (fun t k => XS.goto X104.here hx rfl (pc0 := 43) (pc' := 47) rfl (hb hby at_43) (by decide) (by decide) k) ?_
            obtain ⟨fs, hr, hrun, hended, hW, hsame⟩ := X104.leave (v := some (.int (1 : Int32))) (fun h => by rw [Bd.returns] at h; cases h)
            exact ⟨_, _, retN X104 hx (t := .boolean) Bd.returns (by simp) (hb hby at_47) hr, hrun, hended, _, _, rfl, ⟨rfl, N104⟩, ⟨_, rfl⟩, hW, hsame.mono (by decide) (by decide)⟩
          · skip
            by_cases h105 : (5 : Int32) = i0
            · skip
              obtain ⟨_, _, ⟨T106, L106, k106, n106⟩, -, X106, ⟨Lc106, hQ106, l106, y106, z106⟩, st106⟩ := Jvm.LawKit.callS X0 hx (y := (⟨"com/example/stubwright/stubwright/ParameterType", "fromCode", "(I)Lcom/example/stubwright/stubwright/ParameterType;"⟩ : MethodName)) hown (mvT hZ (hw _ (List.mem_of_getElem? (i := 0) rfl))) (mvT hZ (hw _ (List.mem_of_getElem? (i := 1) rfl))) (mvT hZ (hw _ (List.mem_of_getElem? (i := 2) rfl))) (mvT hZ (hw _ (List.mem_of_getElem? (i := 3) rfl))) (by decide) (backOf (W := 0) (rm1_4 l Z a0 hw [] w h0 n0 (Nat.le_trans Z0 (own_ext0 h0).1) hP i0 h93 h96 h99 h102 h105) hZ (hw _ (List.mem_of_getElem? (i := 3) rfl)) (hw _ (List.mem_of_getElem? (i := 2) rfl)) (by decide) (by decide)) (g := (mkF m 28 #[.val (.int i0), .val (.int i1), .val (.int (1 : Int32)), .val (.int i0), .unset] [(.int i0)])) rfl (by rw [hml]; rfl) (argsL := [(.int i0)]) (rest := []) (lenOf pd_1 rfl) rfl (by show 2 * 0 + _ ≤ _; exact Nat.le_of_eq rfl) (hb hby at_28) (fun _ _ => ⟨rfl, e0, (by decide : 0 + 1 ≤ _), (by decide : 0 + 6 ≤ _)⟩)
              dsimp only [Pt.U, Pt.locs, Pt.cells, Pt.slots] at X106 l106 y106 z106 st106 hQ106
              subst l106 y106 z106
              obtain ⟨rfl, N106q, x106, f106⟩ := hQ106
              have N106 := Fr.app N0 N106q
              have e106 : T106.heap = T106.heap := rfl
              have XT106 := own_ext2 (own_ext0 h0) x106
              refine Go.on (T' := T106) (g' := (mkF m 31 #[.val (.int i0), .val (.int i1), .val (.int (1 : Int32)), .val (.int i0), .unset] [(.ref (w 5))])) st106 ?_
              refine Go.on (T' := T106) (g' := (mkF m 33 #[.val (.int i0), .val (.int i1), .val (.int (1 : Int32)), .val (.int i0), .val (.ref (w 5))] [])) (fun t k => XS.astore X106.here hx rfl (hb hby at_31) rfl rfl (l' := #[.val (.int i0), .val (.int i1), .val (.int (1 : Int32)), .val (.int i0), .val (.ref (w 5))]) rfl k) ?_
              refine Go.on (T' := T106) (g' := (mkF m 35 #[.val (.int i0), .val (.int i1), .val (.int (1 : Int32)), .val (.int i0), .val (.ref (w 5))] [(.ref (w 5))])) (fun t k => XS.aload X106.here hx rfl (hb hby at_33) rfl rfl k) ?_
              refine Go.on (T' := T106) (g' := (mkF m 36 #[.val (.int i0), .val (.int i1), .val (.int (1 : Int32)), .val (.int i0), .val (.ref (w 5))] [(.int i0), (.ref (w 5))])) (fun t k => XS.iloadN X106.here hx rfl (hb hby at_35) rfl k) ?_
              obtain ⟨_, _, ⟨T107, L107, k107, n107⟩, -, X107, ⟨Lc107, hQ107, l107, y107, z107⟩, st107⟩ := Jvm.LawKit.callS X106 hx (y := (⟨"com/example/stubwright/stubwright/ParameterTypeFromCodePinLaw", "expected", "(I)Lcom/example/stubwright/stubwright/ParameterType;"⟩ : MethodName)) hown (mvT hZ (hw _ (List.mem_of_getElem? (i := 26) rfl))) (mvT hZ (hw _ (List.mem_of_getElem? (i := 27) rfl))) (mvT hZ (hw _ (List.mem_of_getElem? (i := 28) rfl))) (mvT hZ (hw _ (List.mem_of_getElem? (i := 29) rfl))) (by decide) (backOf (W := 1) (rm3_4 l Z a0 hw [] w T106.heap n0 (Nat.le_trans Z0 XT106.1) (pins_ext XT106 hP) i0 (fun q => h93 q.symm) (fun q => h96 q.symm) (fun q => h99 q.symm) (fun q => h102 q.symm) h105.symm) hZ (hw _ (List.mem_of_getElem? (i := 29) rfl)) (hw _ (List.mem_of_getElem? (i := 28) rfl)) (by decide) (by decide)) (g := (mkF m 36 #[.val (.int i0), .val (.int i1), .val (.int (1 : Int32)), .val (.int i0), .val (.ref (w 5))] [(.int i0), (.ref (w 5))])) rfl (by rw [hml]; rfl) (argsL := [(.int i0)]) (rest := [(.ref (w 5))]) (lenOf pd_1 rfl) rfl (by show 2 * 0 + _ ≤ _; exact Nat.le_of_eq rfl) (hb hby at_36) (fun _ _ => ⟨rfl, e106, (by decide : 1 + 0 ≤ _), (by decide : 6 + 0 ≤ _)⟩)
              dsimp only [Pt.U, Pt.locs, Pt.cells, Pt.slots] at X107 l107 y107 z107 st107 hQ107
              subst l107 y107 z107
              obtain ⟨rfl, N107q, e107⟩ := hQ107
              have N107 := Fr.app N106 N107q
              refine Go.on (T' := T107) (g' := (mkF m 39 #[.val (.int i0), .val (.int i1), .val (.int (1 : Int32)), .val (.int i0), .val (.ref (w 5))] [(.ref (w 5)), (.ref (w 5))])) st107 ?_
              refine Go.on (T' := T107) (g' := (mkF m 42 #[.val (.int i0), .val (.int i1), .val (.int (1 : Int32)), .val (.int i0), .val (.ref (w 5))] [])) (fun t k => Jvm.RoadKit.acmp (g := (mkF m 39 #[.val (.int i0), .val (.int i1), .val (.int (1 : Int32)), .val (.int i0), .val (.ref (w 5))] [(.ref (w 5)), (.ref (w 5))])) X107 hx rfl rfl rfl (pc0 := 39) (pc' := 42) (same := true) rfl (hb hby at_39) rfl (decide_eq_true rfl) (by decide) (by decide) k) ?_
              refine Go.on (T' := T107) (g' := (mkF m 43 #[.val (.int i0), .val (.int i1), .val (.int (1 : Int32)), .val (.int i0), .val (.ref (w 5))] [(.int (1 : Int32))])) (fun t k => XS.iconst X107.here hx rfl (hb hby at_42) k) ?_
              refine Go.on (T' := T107) (g' := (mkF m 47 #[.val (.int i0), .val (.int i1), .val (.int (1 : Int32)), .val (.int i0), .val (.ref (w 5))] [(.int (1 : Int32))])) (fun t k => XS.goto X107.here hx rfl (pc0 := 43) (pc' := 47) rfl (hb hby at_43) (by decide) (by decide) k) ?_
              obtain ⟨fs, hr, hrun, hended, hW, hsame⟩ := X107.leave (v := some (.int (1 : Int32))) (fun h => by rw [Bd.returns] at h; cases h)
              exact ⟨_, _, retN X107 hx (t := .boolean) Bd.returns (by simp) (hb hby at_47) hr, hrun, hended, _, _, rfl, ⟨rfl, N107⟩, ⟨_, rfl⟩, hW, hsame.mono (by decide) (by decide)⟩
            · skip
              by_cases h108 : (6 : Int32) = i0
              · skip
                obtain ⟨_, _, ⟨T109, L109, k109, n109⟩, -, X109, ⟨Lc109, hQ109, l109, y109, z109⟩, st109⟩ := Jvm.LawKit.callS X0 hx (y := (⟨"com/example/stubwright/stubwright/ParameterType", "fromCode", "(I)Lcom/example/stubwright/stubwright/ParameterType;"⟩ : MethodName)) hown (mvT hZ (hw _ (List.mem_of_getElem? (i := 0) rfl))) (mvT hZ (hw _ (List.mem_of_getElem? (i := 1) rfl))) (mvT hZ (hw _ (List.mem_of_getElem? (i := 2) rfl))) (mvT hZ (hw _ (List.mem_of_getElem? (i := 3) rfl))) (by decide) (backOf (W := 0) (rm1_5 l Z a0 hw [] w h0 n0 (Nat.le_trans Z0 (own_ext0 h0).1) hP i0 h93 h96 h99 h102 h105 h108) hZ (hw _ (List.mem_of_getElem? (i := 3) rfl)) (hw _ (List.mem_of_getElem? (i := 2) rfl)) (by decide) (by decide)) (g := (mkF m 28 #[.val (.int i0), .val (.int i1), .val (.int (1 : Int32)), .val (.int i0), .unset] [(.int i0)])) rfl (by rw [hml]; rfl) (argsL := [(.int i0)]) (rest := []) (lenOf pd_1 rfl) rfl (by show 2 * 0 + _ ≤ _; exact Nat.le_of_eq rfl) (hb hby at_28) (fun _ _ => ⟨rfl, e0, (by decide : 0 + 1 ≤ _), (by decide : 0 + 6 ≤ _)⟩)
                dsimp only [Pt.U, Pt.locs, Pt.cells, Pt.slots] at X109 l109 y109 z109 st109 hQ109
                subst l109 y109 z109
                obtain ⟨rfl, N109q, x109, f109⟩ := hQ109
                have N109 := Fr.app N0 N109q
                have e109 : T109.heap = T109.heap := rfl
                have XT109 := own_ext2 (own_ext0 h0) x109
                refine Go.on (T' := T109) (g' := (mkF m 31 #[.val (.int i0), .val (.int i1), .val (.int (1 : Int32)), .val (.int i0), .unset] [(.ref (w 6))])) st109 ?_
                refine Go.on (T' := T109) (g' := (mkF m 33 #[.val (.int i0), .val (.int i1), .val (.int (1 : Int32)), .val (.int i0), .val (.ref (w 6))] [])) (fun t k => XS.astore X109.here hx rfl (hb hby at_31) rfl rfl (l' := #[.val (.int i0), .val (.int i1), .val (.int (1 : Int32)), .val (.int i0), .val (.ref (w 6))]) rfl k) ?_
                refine Go.on (T' := T109) (g' := (mkF m 35 #[.val (.int i0), .val (.int i1), .val (.int (1 : Int32)), .val (.int i0), .val (.ref (w 6))] [(.ref (w 6))])) (fun t k => XS.aload X109.here hx rfl (hb hby at_33) rfl rfl k) ?_
                refine Go.on (T' := T109) (g' := (mkF m 36 #[.val (.int i0), .val (.int i1), .val (.int (1 : Int32)), .val (.int i0), .val (.ref (w 6))] [(.int i0), (.ref (w 6))])) (fun t k => XS.iloadN X109.here hx rfl (hb hby at_35) rfl k) ?_
                obtain ⟨_, _, ⟨T110, L110, k110, n110⟩, -, X110, ⟨Lc110, hQ110, l110, y110, z110⟩, st110⟩ := Jvm.LawKit.callS X109 hx (y := (⟨"com/example/stubwright/stubwright/ParameterTypeFromCodePinLaw", "expected", "(I)Lcom/example/stubwright/stubwright/ParameterType;"⟩ : MethodName)) hown (mvT hZ (hw _ (List.mem_of_getElem? (i := 26) rfl))) (mvT hZ (hw _ (List.mem_of_getElem? (i := 27) rfl))) (mvT hZ (hw _ (List.mem_of_getElem? (i := 28) rfl))) (mvT hZ (hw _ (List.mem_of_getElem? (i := 29) rfl))) (by decide) (backOf (W := 1) (rm3_5 l Z a0 hw [] w T109.heap n0 (Nat.le_trans Z0 XT109.1) (pins_ext XT109 hP) i0 (fun q => h93 q.symm) (fun q => h96 q.symm) (fun q => h99 q.symm) (fun q => h102 q.symm) (fun q => h105 q.symm) h108.symm) hZ (hw _ (List.mem_of_getElem? (i := 29) rfl)) (hw _ (List.mem_of_getElem? (i := 28) rfl)) (by decide) (by decide)) (g := (mkF m 36 #[.val (.int i0), .val (.int i1), .val (.int (1 : Int32)), .val (.int i0), .val (.ref (w 6))] [(.int i0), (.ref (w 6))])) rfl (by rw [hml]; rfl) (argsL := [(.int i0)]) (rest := [(.ref (w 6))]) (lenOf pd_1 rfl) rfl (by show 2 * 0 + _ ≤ _; exact Nat.le_of_eq rfl) (hb hby at_36) (fun _ _ => ⟨rfl, e109, (by decide : 1 + 0 ≤ _), (by decide : 6 + 0 ≤ _)⟩)
                dsimp only [Pt.U, Pt.locs, Pt.cells, Pt.slots] at X110 l110 y110 z110 st110 hQ110
                subst l110 y110 z110
                obtain ⟨rfl, N110q, e110⟩ := hQ110
                have N110 := Fr.app N109 N110q
                refine Go.on (T' := T110) (g' := (mkF m 39 #[.val (.int i0), .val (.int i1), .val (.int (1 : Int32)), .val (.int i0), .val (.ref (w 6))] [(.ref (w 6)), (.ref (w 6))])) st110 ?_
                refine Go.on (T' := T110) (g' := (mkF m 42 #[.val (.int i0), .val (.int i1), .val (.int (1 : Int32)), .val (.int i0), .val (.ref (w 6))] [])) (fun t k => Jvm.RoadKit.acmp (g := (mkF m 39 #[.val (.int i0), .val (.int i1), .val (.int (1 : Int32)), .val (.int i0), .val (.ref (w 6))] [(.ref (w 6)), (.ref (w 6))])) X110 hx rfl rfl rfl (pc0 := 39) (pc' := 42) (same := true) rfl (hb hby at_39) rfl (decide_eq_true rfl) (by decide) (by decide) k) ?_
                refine Go.on (T' := T110) (g' := (mkF m 43 #[.val (.int i0), .val (.int i1), .val (.int (1 : Int32)), .val (.int i0), .val (.ref (w 6))] [(.int (1 : Int32))])) (fun t k => XS.iconst X110.here hx rfl (hb hby at_42) k) ?_
                refine Go.on (T' := T110) (g' := (mkF m 47 #[.val (.int i0), .val (.int i1), .val (.int (1 : Int32)), .val (.int i0), .val (.ref (w 6))] [(.int (1 : Int32))])) (fun t k => XS.goto X110.here hx rfl (pc0 := 43) (pc' := 47) rfl (hb hby at_43) (by decide) (by decide) k) ?_
                obtain ⟨fs, hr, hrun, hended, hW, hsame⟩ := X110.leave (v := some (.int (1 : Int32))) (fun h => by rw [Bd.returns] at h; cases h)
                exact ⟨_, _, retN X110 hx (t := .boolean) Bd.returns (by simp) (hb hby at_47) hr, hrun, hended, _, _, rfl, ⟨rfl, N110⟩, ⟨_, rfl⟩, hW, hsame.mono (by decide) (by decide)⟩
              · skip
                obtain ⟨_, _, ⟨T111, L111, k111, n111⟩, -, X111, ⟨Lc111, hQ111, l111, y111, z111⟩, st111⟩ := Jvm.LawKit.callS X0 hx (y := (⟨"com/example/stubwright/stubwright/ParameterType", "fromCode", "(I)Lcom/example/stubwright/stubwright/ParameterType;"⟩ : MethodName)) hown (mvT hZ (hw _ (List.mem_of_getElem? (i := 0) rfl))) (mvT hZ (hw _ (List.mem_of_getElem? (i := 1) rfl))) (mvT hZ (hw _ (List.mem_of_getElem? (i := 2) rfl))) (mvT hZ (hw _ (List.mem_of_getElem? (i := 3) rfl))) (by decide) (backOf (W := 0) (rm1_6 l Z a0 hw [] w h0 n0 (Nat.le_trans Z0 (own_ext0 h0).1) hP i0 h93 h96 h99 h102 h105 h108) hZ (hw _ (List.mem_of_getElem? (i := 3) rfl)) (hw _ (List.mem_of_getElem? (i := 2) rfl)) (by decide) (by decide)) (g := (mkF m 28 #[.val (.int i0), .val (.int i1), .val (.int (1 : Int32)), .val (.int i0), .unset] [(.int i0)])) rfl (by rw [hml]; rfl) (argsL := [(.int i0)]) (rest := []) (lenOf pd_1 rfl) rfl (by show 2 * 0 + _ ≤ _; exact Nat.le_of_eq rfl) (hb hby at_28) (fun _ _ => ⟨rfl, e0, (by decide : 0 + 1 ≤ _), (by decide : 0 + 6 ≤ _)⟩)
                dsimp only [Pt.U, Pt.locs, Pt.cells, Pt.slots] at X111 l111 y111 z111 st111 hQ111
                subst l111 y111 z111
                obtain ⟨rfl, N111q, x111, f111⟩ := hQ111
                have N111 := Fr.app N0 N111q
                have e111 : T111.heap = T111.heap := rfl
                have XT111 := own_ext2 (own_ext0 h0) x111
                refine Go.on (T' := T111) (g' := (mkF m 31 #[.val (.int i0), .val (.int i1), .val (.int (1 : Int32)), .val (.int i0), .unset] [.null])) st111 ?_
                refine Go.on (T' := T111) (g' := (mkF m 33 #[.val (.int i0), .val (.int i1), .val (.int (1 : Int32)), .val (.int i0), .val .null] [])) (fun t k => XS.astore X111.here hx rfl (hb hby at_31) rfl rfl (l' := #[.val (.int i0), .val (.int i1), .val (.int (1 : Int32)), .val (.int i0), .val .null]) rfl k) ?_
                refine Go.on (T' := T111) (g' := (mkF m 35 #[.val (.int i0), .val (.int i1), .val (.int (1 : Int32)), .val (.int i0), .val .null] [.null])) (fun t k => XS.aload X111.here hx rfl (hb hby at_33) rfl rfl k) ?_
                refine Go.on (T' := T111) (g' := (mkF m 36 #[.val (.int i0), .val (.int i1), .val (.int (1 : Int32)), .val (.int i0), .val .null] [(.int i0), .null])) (fun t k => XS.iloadN X111.here hx rfl (hb hby at_35) rfl k) ?_
                obtain ⟨_, _, ⟨T112, L112, k112, n112⟩, -, X112, ⟨Lc112, hQ112, l112, y112, z112⟩, st112⟩ := Jvm.LawKit.callS X111 hx (y := (⟨"com/example/stubwright/stubwright/ParameterTypeFromCodePinLaw", "expected", "(I)Lcom/example/stubwright/stubwright/ParameterType;"⟩ : MethodName)) hown (mvT hZ (hw _ (List.mem_of_getElem? (i := 26) rfl))) (mvT hZ (hw _ (List.mem_of_getElem? (i := 27) rfl))) (mvT hZ (hw _ (List.mem_of_getElem? (i := 28) rfl))) (mvT hZ (hw _ (List.mem_of_getElem? (i := 29) rfl))) (by decide) (backOf (W := 1) (rm3_6 l Z a0 hw [] w T111.heap n0 (Nat.le_trans Z0 XT111.1) (pins_ext XT111 hP) i0 (fun q => h93 q.symm) (fun q => h96 q.symm) (fun q => h99 q.symm) (fun q => h102 q.symm) (fun q => h105 q.symm) (fun q => h108 q.symm)) hZ (hw _ (List.mem_of_getElem? (i := 29) rfl)) (hw _ (List.mem_of_getElem? (i := 28) rfl)) (by decide) (by decide)) (g := (mkF m 36 #[.val (.int i0), .val (.int i1), .val (.int (1 : Int32)), .val (.int i0), .val .null] [(.int i0), .null])) rfl (by rw [hml]; rfl) (argsL := [(.int i0)]) (rest := [.null]) (lenOf pd_1 rfl) rfl (by show 2 * 0 + _ ≤ _; exact Nat.le_of_eq rfl) (hb hby at_36) (fun _ _ => ⟨rfl, e111, (by decide : 1 + 0 ≤ _), (by decide : 6 + 0 ≤ _)⟩)
                dsimp only [Pt.U, Pt.locs, Pt.cells, Pt.slots] at X112 l112 y112 z112 st112 hQ112
                subst l112 y112 z112
                obtain ⟨rfl, N112q, e112⟩ := hQ112
                have N112 := Fr.app N111 N112q
                refine Go.on (T' := T112) (g' := (mkF m 39 #[.val (.int i0), .val (.int i1), .val (.int (1 : Int32)), .val (.int i0), .val .null] [.null, .null])) st112 ?_
                refine Go.on (T' := T112) (g' := (mkF m 42 #[.val (.int i0), .val (.int i1), .val (.int (1 : Int32)), .val (.int i0), .val .null] [])) (fun t k => Jvm.RoadKit.acmp (g := (mkF m 39 #[.val (.int i0), .val (.int i1), .val (.int (1 : Int32)), .val (.int i0), .val .null] [.null, .null])) X112 hx rfl rfl rfl (pc0 := 39) (pc' := 42) (same := true) rfl (hb hby at_39) rfl (decide_eq_true rfl) (by decide) (by decide) k) ?_
                refine Go.on (T' := T112) (g' := (mkF m 43 #[.val (.int i0), .val (.int i1), .val (.int (1 : Int32)), .val (.int i0), .val .null] [(.int (1 : Int32))])) (fun t k => XS.iconst X112.here hx rfl (hb hby at_42) k) ?_
                refine Go.on (T' := T112) (g' := (mkF m 47 #[.val (.int i0), .val (.int i1), .val (.int (1 : Int32)), .val (.int i0), .val .null] [(.int (1 : Int32))])) (fun t k => XS.goto X112.here hx rfl (pc0 := 43) (pc' := 47) rfl (hb hby at_43) (by decide) (by decide) k) ?_
                obtain ⟨fs, hr, hrun, hended, hW, hsame⟩ := X112.leave (v := some (.int (1 : Int32))) (fun h => by rw [Bd.returns] at h; cases h)
                exact ⟨_, _, retN X112 hx (t := .boolean) Bd.returns (by simp) (hb hby at_47) hr, hrun, hended, _, _, rfl, ⟨rfl, N112⟩, ⟨_, rfl⟩, hW, hsame.mono (by decide) (by decide)⟩
set_option maxRecDepth 65536 in
set_option maxHeartbeats 40000000 in
theorem comes_1 {Post : Tables → Env → Array Value → State → Outcome → State → Prop} (hpost : ∀ tb e args s v u, (limb_1_1.after args s (.returned v) u = true ∧ limb_1_2.after args s (.returned v) u = true ∧ True) → FrameEnd s (.returned v) u (Jvm.fieldLocs frame_1_writes args s ++ Jvm.arrayLocs frame_1_arrays args s ++ Jvm.staticLocs frame_1_statics s) 16 128 → Post tb e args s (.returned v) u) :
    ArmFor flags0 classFile x code maxLocals ret World_1 tables_1 room_1 Calls_1 rest_1 Pre_1 Post := by
  intro l hfl _ _ p e ha hc hk s m args below hf hA hF happ hP
  obtain ⟨hcalls, hrest, hpre⟩ := hP
  obtain ⟨-, -, -, hnamed, -, -, -, hat⟩ := (Spec.applies_iff hf).mp happ
  obtain ⟨hg, hn⟩ := and_e (Cond.before_iff.mp (show (Jvm.Cond.and given_1 narrow_1).before args s = true from hpre))
  obtain ⟨u1, v1⟩ := and_e hg
  obtain ⟨u2, v2⟩ := and_e v1
  obtain ⟨w0, w1, rfl⟩ : ∃ w0 w1 : Value, args = #[w0, w1] := by
    have hs : args.size = 2 := by simpa [Cond.value, given_1] using u1
    obtain ⟨L⟩ := args
    match L, hs with
    | [w0, w1], _ => exact ⟨w0, w1, rfl⟩
  have hw := fun d (hd : d ∈ tables_1) => atoms_spec (ws := Jvm.Cond.code x code maxLocals ret :: tables_1) hat d (List.mem_cons_of_mem _ hd)
  have hfit : Fit s := fun {y c} hc i hi => by
    obtain ⟨ha, rfl⟩ := Array.getElem?_eq_some_iff.mp hc
    have q := List.all_eq_true.mp ((Array.all_eq_true_iff_forall_mem.mp hF) _ (Array.getElem_mem ha)) i (List.mem_range.mpr hi)
    simpa [Array.getElem?_eq_getElem hi] using q
  obtain ⟨i0, ei0⟩ := is_v u2
  obtain rfl : w0 = (.int i0) := Option.some.inj ei0
  obtain ⟨i1, ei1⟩ := is_v v2
  obtain rfl : w1 = (.int i1) := Option.some.inj ei1
  obtain ⟨u3, v3⟩ := and_e hn
  obtain ⟨u4, v4⟩ := and_e v3
  obtain ⟨u5, v5⟩ := and_e v4
  obtain ⟨u6, v6⟩ := and_e v5
  obtain ⟨u7, v7⟩ := and_e v6
  obtain ⟨u8, v8⟩ := and_e v7
  obtain ⟨u9, v9⟩ := and_e v8
  obtain ⟨u10, v10⟩ := and_e v9
  obtain ⟨u11, v11⟩ := and_e v10
  obtain ⟨u12, v12⟩ := and_e v11
  obtain ⟨u13, v13⟩ := and_e v12
  obtain ⟨u14, v14⟩ := and_e v13
  obtain ⟨u15, v15⟩ := and_e v14
  obtain ⟨u16, v16⟩ := and_e v15
  obtain ⟨u17, v17⟩ := and_e v16
  obtain ⟨u18, v18⟩ := and_e v17
  obtain ⟨u19, v19⟩ := and_e v18
  obtain ⟨u20, v20⟩ := and_e v19
  obtain ⟨u21, v21⟩ := and_e v20
  obtain ⟨u22, v22⟩ := and_e v21
  obtain ⟨x0, ev0⟩ := arr_v u3
  obtain ⟨cl0, Ar0⟩ := Arr.start ev0 u3
  obtain ⟨x1, ev1⟩ := exa_v u6
  obtain ⟨x2, ev2⟩ := exa_v u7
  obtain ⟨x3, ev3⟩ := exa_v u8
  obtain ⟨x4, ev4⟩ := exa_v u9
  obtain ⟨x5, ev5⟩ := exa_v u10
  obtain ⟨x6, ev6⟩ := exa_v u11
  have evs_DOUBLE := own_eqR u18 ev4
  have evs_WSTRING := own_eqR u19 ev2
  have evs_INT := own_eqR u20 ev3
  have evs_STRING := own_eqR u21 ev1
  have evs_BYTE := own_eqR u22 ev5
  have evs_BINARY := own_eqR v22 ev6
  have g0_0 := (elem_in (ev1) ev0 rfl Ar0.1).2
  have g0_1 := (elem_in (ev2) ev0 rfl Ar0.1).2
  have g0_2 := (elem_in (ev3) ev0 rfl Ar0.1).2
  have g0_3 := (elem_in (ev4) ev0 rfl Ar0.1).2
  have g0_4 := (elem_in (ev5) ev0 rfl Ar0.1).2
  have g0_5 := (elem_in (ev6) ev0 rfl Ar0.1).2
  have sl0 : cl0.slots = #[.ref x1, .ref x2, .ref x3, .ref x4, .ref x5, .ref x6] := own_slots (vs := [.ref x1, .ref x2, .ref x3, .ref x4, .ref x5, .ref x6]) (own_len (k := 6) (own_eqI u5) ev0 Ar0 (by decide)) (fun i v h => by
    match i, h with
    | 0, h => cases h; exact g0_0
    | 1, h => cases h; exact g0_1
    | 2, h => cases h; exact g0_2
    | 3, h => cases h; exact g0_3
    | 4, h => cases h; exact g0_4
    | 5, h => cases h; exact g0_5
    | n + 6, h => cases h)
  obtain ⟨w, hw_⟩ : ∃ w : Nat → Addr, w 0 = x0 ∧ w 1 = x1 ∧ w 2 = x2 ∧ w 3 = x3 ∧ w 4 = x4 ∧ w 5 = x5 ∧ w 6 = x6 ∧ True := ⟨fun k => [x0, x1, x2, x3, x4, x5, x6].getD k 0, rfl, rfl, rfl, rfl, rfl, rfl, rfl, trivial⟩
  obtain ⟨rfl, rfl, rfl, rfl, rfl, rfl, rfl, -⟩ := hw_
  have hPin : Pins s s.heap w := ⟨Sta.start ev0 (Or.inr ⟨(hw _ (List.mem_of_getElem? (i := 2) rfl)), (hw _ (List.mem_of_getElem? (i := 8) rfl))⟩),
    Sta.start evs_DOUBLE (Or.inr ⟨(hw _ (List.mem_of_getElem? (i := 2) rfl)), (hw _ (List.mem_of_getElem? (i := 31) rfl))⟩),
    Sta.start evs_WSTRING (Or.inr ⟨(hw _ (List.mem_of_getElem? (i := 2) rfl)), (hw _ (List.mem_of_getElem? (i := 33) rfl))⟩),
    Sta.start evs_INT (Or.inr ⟨(hw _ (List.mem_of_getElem? (i := 2) rfl)), (hw _ (List.mem_of_getElem? (i := 35) rfl))⟩),
    Sta.start evs_STRING (Or.inr ⟨(hw _ (List.mem_of_getElem? (i := 2) rfl)), (hw _ (List.mem_of_getElem? (i := 37) rfl))⟩),
    Sta.start evs_BYTE (Or.inr ⟨(hw _ (List.mem_of_getElem? (i := 2) rfl)), (hw _ (List.mem_of_getElem? (i := 39) rfl))⟩),
    Sta.start evs_BINARY (Or.inr ⟨(hw _ (List.mem_of_getElem? (i := 2) rfl)), (hw _ (List.mem_of_getElem? (i := 41) rfl))⟩),
    Exa.start ev0 u4,
    Exa.start ev1 u6,
    Exa.start ev2 u7,
    Exa.start ev3 u8,
    Exa.start ev4 u9,
    Exa.start ev5 u10,
    Exa.start ev6 u11,
    Fld.start ((fld_at ev1).symm.trans (own_eqI u12)),
    Fld.start ((fld_at ev2).symm.trans (own_eqI u13)),
    Fld.start ((fld_at ev3).symm.trans (own_eqI u14)),
    Fld.start ((fld_at ev4).symm.trans (own_eqI u15)),
    Fld.start ((fld_at ev5).symm.trans (own_eqI u16)),
    Fld.start ((fld_at ev6).symm.trans (own_eqI u17)),
    ⟨cl0, Ar0, sl0, FitC.start hfit Ar0⟩,
    trivial⟩
  obtain ⟨n, o, h1, h2, h3, _, L, rfl, ⟨rfl, N⟩, hq⟩ := rm0 l s _ hw tables_1 w s.heap s.heap.size (Nat.le_refl _) hPin i0 i1 p e ha hc hk s m _ below hf ((Spec.applies_iff_loose hf).mp happ).1 ⟨rfl, State.Warmed39.refl s, rfl⟩ trivial
  refine ⟨n, _, h1, h2, h3, hpost _ _ _ _ _ _ ⟨Cond.after_iff.mpr rfl, Cond.after_iff.mpr (eq_i res_at (Term.int_eval (1)) rfl), trivial⟩ ⟨hq.1, hq.2.1, (hq.2.2.sift fun y hy => Or.inr (N y hy)).mono (by decide) (by decide)⟩⟩
theorem main_1_1 : Claimed_1_1 := comes_1 fun _ _ _ _ _ _ h hF => ⟨h.1, hF⟩
theorem main_1_2 : Claimed_1_2 := comes_1 fun _ _ _ _ _ _ h hF => ⟨h.2.1, hF⟩
end Jvm.Pilot.@@N@@
namespace Jvm.Pilot.@@N@@
open Jvm Jvm.ClassFile Sem Op Lib Jvm.Free Jvm.Stand Jvm.Pilot.@@N@@.Jvm.D
/-! MADE BY PROGRAM (witnessworld.py) out of the Statement's table words and the real class files: 19 classes; the members and pool entries that the words name. The judged class is class 1, her method 2. -/
namespace start1
open Jvm.ClassFile
def u (s : String) : CpInfo := .utf8 (stringToUtf16 s)
/-- a pool by its gaps: so many unusable entries, then the entry; so many at the end -/
def gap : Nat → List CpInfo → List CpInfo
  | 0, r => r
  | n + 1, r => .unusable :: gap n r
def poolList (es : List (Nat × CpInfo)) (last : Nat) : List CpInfo := es.foldr (fun e r => gap e.1 (e.2 :: r)) (gap last [])
def pool (es : List (Nat × CpInfo)) (last : Nat) : Array CpInfo := ⟨poolList es last⟩
def fileOf (pool : Array CpInfo) (this : Nat) (attrs : Array Attribute := #[]) (ms : Array MethodInfo := #[]) (fl : Nat := 33) (sup : Nat := 0) (ifs : Array Nat := #[]) (fds : Array FieldInfo := #[]) : ClassFile where
  minorVersion := 0
  majorVersion := 65
  constantPool := pool
  accessFlags := fl
  thisClass := this
  superClass := sup
  interfaces := ifs
  fields := fds
  methods := ms
  attributes := attrs
def plain (name : String) (sup : Option ClassId) : Class where
  name := name
  kind := .ordinary
  loader := none
  accessFlags := 33
  super := sup
  interfaces := #[]
  cf := none
  fields := #[]
  methods := #[]
  instanceTypes := #[]
  staticTypes := #[]
  resolved := #[]
  callSites := []
  init := .initialized
  statics := none
  mirror := none

def pool0 : Array CpInfo := pool [(5, u "<init>"), (0, u "()V"), (1, .class_ 10), (1, u "java/lang/Object"), (85, u "clone"), (0, u "()Ljava/lang/Object;")] 26

def k0m0 : Method := { name := "<init>", desc := "()V", sig := { parameters := [], returnType := none }, accessFlags := 1, code := none }
def k0m1 : Method := { name := "clone", desc := "()Ljava/lang/Object;", sig := { parameters := [], returnType := some (.object "java/lang/Object") }, accessFlags := 260, code := none }
/-- java/lang/Object -/
def k0 : Class := { plain "java/lang/Object" none with
  accessFlags := 33
  interfaces := #[]
  cf := some (fileOf pool0 8 #[] #[{ accessFlags := 1, nameIndex := 5, descriptorIndex := 6, attributes := #[] }, { accessFlags := 260, nameIndex := 96, descriptorIndex := 97, attributes := #[] }] 33 0 #[] #[])
  fields := #[]
  methods := #[k0m0, k0m1]
  instanceTypes := #[]
  staticTypes := #[]
  resolved := Array.replicate 124 none
  statics := none }

def pool1 : Array CpInfo := pool [(2, .class_ 4), (1, u "java/lang/Object"), (0, u "<init>"), (0, u "()V"), (0, .fieldref 8 9), (0, .class_ 10), (0, .nameAndType 11 12), (0, u "com/example/stubwright/stubwright/ParameterType"), (0, u "STRING"), (0, u "Lcom/example/stubwright/stubwright/ParameterType;"), (0, .fieldref 8 14), (0, .nameAndType 15 12), (0, u "WSTRING"), (0, .fieldref 8 17), (0, .nameAndType 18 12), (0, u "INT"), (0, .fieldref 8 20), (0, .nameAndType 21 12), (0, u "DOUBLE"), (0, .fieldref 8 23), (0, .nameAndType 24 12), (0, u "BYTE"), (0, .fieldref 8 26), (0, .nameAndType 27 12), (0, u "BINARY"), (0, .methodref 8 29), (0, .nameAndType 30 31), (0, u "fromCode"), (0, u "(I)Lcom/example/stubwright/stubwright/ParameterType;"), (0, .methodref 33 34), (0, .class_ 35), (0, .nameAndType 36 31), (0, u "com/example/stubwright/stubwright/ParameterTypeFromCodePinLaw"), (0, u "expected"), (3, u "law"), (0, u "(II)Z")] 2

def k1m0 : Method := { name := "<init>", desc := "()V", sig := { parameters := [], returnType := none }, accessFlags := 2, code := none }
def k1c1 : Code := { maxStack := 2, maxLocals := 1, code := method_2_code, exceptionTable := #[], attributes := #[] }
def k1m1 : Method := { name := "expected", desc := "(I)Lcom/example/stubwright/stubwright/ParameterType;", sig := { parameters := [.int], returnType := some (.object "com/example/stubwright/stubwright/ParameterType") }, accessFlags := 10, code := some k1c1 }
def k1c2 : Code := { maxStack := 2, maxLocals := 5, code := code, exceptionTable := #[], attributes := #[] }
def k1m2 : Method := { name := "law", desc := "(II)Z", sig := { parameters := [.int, .int], returnType := some .boolean }, accessFlags := 9, code := some k1c2 }
/-- com/example/stubwright/stubwright/ParameterTypeFromCodePinLaw -/
def k1 : Class := { plain "com/example/stubwright/stubwright/ParameterTypeFromCodePinLaw" (some 0) with
  accessFlags := 49
  interfaces := #[]
  cf := some (fileOf pool1 33 #[] #[{ accessFlags := 2, nameIndex := 5, descriptorIndex := 6, attributes := #[] }, { accessFlags := 10, nameIndex := 36, descriptorIndex := 31, attributes := #[] }, { accessFlags := 9, nameIndex := 40, descriptorIndex := 41, attributes := #[] }] 49 2 #[] #[])
  fields := #[]
  methods := #[k1m0, k1m1, k1m2]
  instanceTypes := #[]
  staticTypes := #[]
  resolved := Array.replicate 44 none
  statics := none }

def pool2 : Array CpInfo := pool [(1, .class_ 2), (0, u "java/lang/constant/Constable"), (0, .class_ 4), (0, u "java/lang/Object")] 6

/-- java/lang/constant/Constable -/
def k2 : Class := { plain "java/lang/constant/Constable" (some 0) with
  accessFlags := 1537
  interfaces := #[]
  cf := some (fileOf pool2 1 #[] #[] 1537 3 #[] #[])
  fields := #[]
  methods := #[]
  instanceTypes := #[]
  staticTypes := #[]
  resolved := Array.replicate 11 none
  statics := none }

def pool3 : Array CpInfo := pool [(1, .class_ 2), (0, u "java/lang/Comparable"), (0, .class_ 4), (0, u "java/lang/Object")] 7

/-- java/lang/Comparable -/
def k3 : Class := { plain "java/lang/Comparable" (some 0) with
  accessFlags := 1537
  interfaces := #[]
  cf := some (fileOf pool3 1 #[] #[] 1537 3 #[] #[])
  fields := #[]
  methods := #[]
  instanceTypes := #[]
  staticTypes := #[]
  resolved := Array.replicate 12 none
  statics := none }

def pool4 : Array CpInfo := pool [(1, .class_ 2), (0, u "java/io/Serializable"), (0, .class_ 4), (0, u "java/lang/Object")] 2

/-- java/io/Serializable -/
def k4 : Class := { plain "java/io/Serializable" (some 0) with
  accessFlags := 1537
  interfaces := #[]
  cf := some (fileOf pool4 1 #[] #[] 1537 3 #[] #[])
  fields := #[]
  methods := #[]
  instanceTypes := #[]
  staticTypes := #[]
  resolved := Array.replicate 7 none
  statics := none }

def pool5 : Array CpInfo := pool [(2, .class_ 4), (1, u "java/lang/Enum"), (0, u "name"), (0, u "Ljava/lang/String;"), (2, u "ordinal"), (0, u "I"), (1, .class_ 14), (1, u "java/lang/Object"), (4, u "hash"), (86, .class_ 108), (1, u "java/lang/Enum$EnumDesc"), (2, .class_ 112), (0, u "java/lang/constant/Constable"), (0, .class_ 114), (0, u "java/lang/Comparable"), (0, .class_ 116), (0, u "java/io/Serializable")] 87

/-- java/lang/Enum -/
def k5 : Class := { plain "java/lang/Enum" (some 0) with
  accessFlags := 1057
  interfaces := #[2, 3, 4]
  cf := some (fileOf pool5 2 #[.nestMembers #[106]] #[] 1057 12 #[111, 113, 115] #[{ accessFlags := 18, nameIndex := 5, descriptorIndex := 6, attributes := #[] }, { accessFlags := 18, nameIndex := 9, descriptorIndex := 10, attributes := #[] }, { accessFlags := 2, nameIndex := 19, descriptorIndex := 10, attributes := #[] }])
  fields := #[{ name := "name", type := (.object "java/lang/String"), accessFlags := 18, slot := 0, constantValue := 0 }, { name := "ordinal", type := .int, accessFlags := 18, slot := 1, constantValue := 0 }, { name := "hash", type := .int, accessFlags := 2, slot := 2, constantValue := 0 }]
  methods := #[]
  instanceTypes := #[(.object "java/lang/String"), .int, .int]
  staticTypes := #[]
  resolved := Array.replicate 204 none
  statics := none }

def pool6 : Array CpInfo := pool [(1, .class_ 2), (0, u "com/example/stubwright/stubwright/ParameterType"), (2, u "STRING"), (0, u "Lcom/example/stubwright/stubwright/ParameterType;"), (2, u "WSTRING"), (2, u "INT"), (2, u "DOUBLE"), (2, u "BYTE"), (2, u "BINARY"), (0, .fieldref 1 23), (0, .nameAndType 24 25), (0, u "$VALUES"), (0, u "[Lcom/example/stubwright/stubwright/ParameterType;"), (0, .methodref 27 28), (0, .class_ 25), (0, .nameAndType 29 30), (0, u "clone"), (0, u "()Ljava/lang/Object;"), (1, .class_ 34), (1, u "java/lang/Enum"), (6, .fieldref 1 42), (0, .nameAndType 43 44), (0, u "code"), (0, u "I"), (2, u "level"), (16, .methodref 1 65), (0, .nameAndType 66 67), (0, u "values"), (0, u "()[Lcom/example/stubwright/stubwright/ParameterType;"), (17, .class_ 86), (0, u "com/example/stubwright/stubwright/ParameterType$1"), (4, .class_ 92), (0, u "com/example/stubwright/stubwright/ParameterType$2"), (2, .class_ 96), (0, u "com/example/stubwright/stubwright/ParameterType$3"), (2, .class_ 100), (0, u "com/example/stubwright/stubwright/ParameterType$4"), (2, .class_ 104), (0, u "com/example/stubwright/stubwright/ParameterType$5"), (2, .class_ 108), (0, u "com/example/stubwright/stubwright/ParameterType$6"), (13, u "fromCode"), (0, u "(I)Lcom/example/stubwright/stubwright/ParameterType;")] 38

def k6c0 : Code := { maxStack := 1, maxLocals := 0, code := prog_37_method_1_code, exceptionTable := #[], attributes := #[] }
def k6m0 : Method := { name := "values", desc := "()[Lcom/example/stubwright/stubwright/ParameterType;", sig := { parameters := [], returnType := some (.array (.object "com/example/stubwright/stubwright/ParameterType")) }, accessFlags := 9, code := some k6c0 }
def k6c1 : Code := { maxStack := 2, maxLocals := 5, code := prog_37_method_7_code, exceptionTable := #[], attributes := #[] }
def k6m1 : Method := { name := "fromCode", desc := "(I)Lcom/example/stubwright/stubwright/ParameterType;", sig := { parameters := [.int], returnType := some (.object "com/example/stubwright/stubwright/ParameterType") }, accessFlags := 8, code := some k6c1 }
/-- com/example/stubwright/stubwright/ParameterType -/
def k6 : Class := { plain "com/example/stubwright/stubwright/ParameterType" (some 5) with
  accessFlags := 17441
  interfaces := #[]
  cf := some (fileOf pool6 1 #[.nestMembers #[107, 103, 99, 95, 91, 85]] #[{ accessFlags := 9, nameIndex := 66, descriptorIndex := 67, attributes := #[] }, { accessFlags := 8, nameIndex := 122, descriptorIndex := 123, attributes := #[] }] 17441 32 #[] #[{ accessFlags := 16409, nameIndex := 5, descriptorIndex := 6, attributes := #[] }, { accessFlags := 16409, nameIndex := 9, descriptorIndex := 6, attributes := #[] }, { accessFlags := 16409, nameIndex := 12, descriptorIndex := 6, attributes := #[] }, { accessFlags := 16409, nameIndex := 15, descriptorIndex := 6, attributes := #[] }, { accessFlags := 16409, nameIndex := 18, descriptorIndex := 6, attributes := #[] }, { accessFlags := 16409, nameIndex := 21, descriptorIndex := 6, attributes := #[] }, { accessFlags := 18, nameIndex := 43, descriptorIndex := 44, attributes := #[] }, { accessFlags := 18, nameIndex := 47, descriptorIndex := 44, attributes := #[] }, { accessFlags := 4122, nameIndex := 24, descriptorIndex := 25, attributes := #[] }])
  fields := #[{ name := "STRING", type := (.object "com/example/stubwright/stubwright/ParameterType"), accessFlags := 16409, slot := 0, constantValue := 0 }, { name := "WSTRING", type := (.object "com/example/stubwright/stubwright/ParameterType"), accessFlags := 16409, slot := 1, constantValue := 0 }, { name := "INT", type := (.object "com/example/stubwright/stubwright/ParameterType"), accessFlags := 16409, slot := 2, constantValue := 0 }, { name := "DOUBLE", type := (.object "com/example/stubwright/stubwright/ParameterType"), accessFlags := 16409, slot := 3, constantValue := 0 }, { name := "BYTE", type := (.object "com/example/stubwright/stubwright/ParameterType"), accessFlags := 16409, slot := 4, constantValue := 0 }, { name := "BINARY", type := (.object "com/example/stubwright/stubwright/ParameterType"), accessFlags := 16409, slot := 5, constantValue := 0 }, { name := "code", type := .int, accessFlags := 18, slot := 3, constantValue := 0 }, { name := "level", type := .int, accessFlags := 18, slot := 4, constantValue := 0 }, { name := "$VALUES", type := (.array (.object "com/example/stubwright/stubwright/ParameterType")), accessFlags := 4122, slot := 6, constantValue := 0 }]
  methods := #[k6m0, k6m1]
  instanceTypes := #[(.object "java/lang/String"), .int, .int, .int, .int]
  staticTypes := #[(.object "com/example/stubwright/stubwright/ParameterType"), (.object "com/example/stubwright/stubwright/ParameterType"), (.object "com/example/stubwright/stubwright/ParameterType"), (.object "com/example/stubwright/stubwright/ParameterType"), (.object "com/example/stubwright/stubwright/ParameterType"), (.object "com/example/stubwright/stubwright/ParameterType"), (.array (.object "com/example/stubwright/stubwright/ParameterType"))]
  resolved := Array.replicate 162 none
  statics := some 0 }

def pool7 : Array CpInfo := pool [(1, .class_ 2), (0, u "java/lang/Cloneable"), (0, .class_ 4), (0, u "java/lang/Object")] 2

/-- java/lang/Cloneable -/
def k7 : Class := { plain "java/lang/Cloneable" (some 0) with
  accessFlags := 1537
  interfaces := #[]
  cf := some (fileOf pool7 1 #[] #[] 1537 3 #[] #[])
  fields := #[]
  methods := #[]
  instanceTypes := #[]
  staticTypes := #[]
  resolved := Array.replicate 7 none
  statics := none }

def pool8 : Array CpInfo := pool [(2, .class_ 4), (1, u "com/example/stubwright/stubwright/ParameterType"), (42, .class_ 48), (0, u "com/example/stubwright/stubwright/ParameterType$1")] 21

/-- com/example/stubwright/stubwright/ParameterType$1 -/
def k8 : Class := { plain "com/example/stubwright/stubwright/ParameterType$1" (some 6) with
  accessFlags := 16432
  interfaces := #[]
  cf := some (fileOf pool8 47 #[.nestHost 2] #[] 16432 2 #[] #[])
  fields := #[]
  methods := #[]
  instanceTypes := #[(.object "java/lang/String"), .int, .int, .int, .int]
  staticTypes := #[]
  resolved := Array.replicate 70 none
  statics := none }

def pool9 : Array CpInfo := pool [(2, .class_ 4), (1, u "com/example/stubwright/stubwright/ParameterType"), (95, .class_ 101), (0, u "com/example/stubwright/stubwright/ParameterType$2")] 47

/-- com/example/stubwright/stubwright/ParameterType$2 -/
def k9 : Class := { plain "com/example/stubwright/stubwright/ParameterType$2" (some 6) with
  accessFlags := 16432
  interfaces := #[]
  cf := some (fileOf pool9 100 #[.nestHost 2] #[] 16432 2 #[] #[])
  fields := #[]
  methods := #[]
  instanceTypes := #[(.object "java/lang/String"), .int, .int, .int, .int]
  staticTypes := #[]
  resolved := Array.replicate 149 none
  statics := none }

def pool10 : Array CpInfo := pool [(2, .class_ 4), (1, u "com/example/stubwright/stubwright/ParameterType"), (23, .class_ 29), (0, u "com/example/stubwright/stubwright/ParameterType$3")] 17

/-- com/example/stubwright/stubwright/ParameterType$3 -/
def k10 : Class := { plain "com/example/stubwright/stubwright/ParameterType$3" (some 6) with
  accessFlags := 16432
  interfaces := #[]
  cf := some (fileOf pool10 28 #[.nestHost 2] #[] 16432 2 #[] #[])
  fields := #[]
  methods := #[]
  instanceTypes := #[(.object "java/lang/String"), .int, .int, .int, .int]
  staticTypes := #[]
  resolved := Array.replicate 47 none
  statics := none }

def pool11 : Array CpInfo := pool [(2, .class_ 4), (1, u "com/example/stubwright/stubwright/ParameterType"), (27, .class_ 33), (0, u "com/example/stubwright/stubwright/ParameterType$4")] 16

/-- com/example/stubwright/stubwright/ParameterType$4 -/
def k11 : Class := { plain "com/example/stubwright/stubwright/ParameterType$4" (some 6) with
  accessFlags := 16432
  interfaces := #[]
  cf := some (fileOf pool11 32 #[.nestHost 2] #[] 16432 2 #[] #[])
  fields := #[]
  methods := #[]
  instanceTypes := #[(.object "java/lang/String"), .int, .int, .int, .int]
  staticTypes := #[]
  resolved := Array.replicate 50 none
  statics := none }

def pool12 : Array CpInfo := pool [(2, .class_ 4), (1, u "com/example/stubwright/stubwright/ParameterType"), (32, .class_ 38), (0, u "com/example/stubwright/stubwright/ParameterType$5")] 16

/-- com/example/stubwright/stubwright/ParameterType$5 -/
def k12 : Class := { plain "com/example/stubwright/stubwright/ParameterType$5" (some 6) with
  accessFlags := 16432
  interfaces := #[]
  cf := some (fileOf pool12 37 #[.nestHost 2] #[] 16432 2 #[] #[])
  fields := #[]
  methods := #[]
  instanceTypes := #[(.object "java/lang/String"), .int, .int, .int, .int]
  staticTypes := #[]
  resolved := Array.replicate 55 none
  statics := none }

def pool13 : Array CpInfo := pool [(2, .class_ 4), (1, u "com/example/stubwright/stubwright/ParameterType"), (29, .class_ 35), (0, u "com/example/stubwright/stubwright/ParameterType$6")] 36

/-- com/example/stubwright/stubwright/ParameterType$6 -/
def k13 : Class := { plain "com/example/stubwright/stubwright/ParameterType$6" (some 6) with
  accessFlags := 16432
  interfaces := #[]
  cf := some (fileOf pool13 34 #[.nestHost 2] #[] 16432 2 #[] #[])
  fields := #[]
  methods := #[]
  instanceTypes := #[(.object "java/lang/String"), .int, .int, .int, .int]
  staticTypes := #[]
  resolved := Array.replicate 72 none
  statics := none }

/-- the primitive byte -/
def k14 : Class := { plain "byte" none with kind := .primitive 'B', accessFlags := 0x411 }
/-- [B -/
def k15 : Class := { plain "[B" (some 0) with kind := .array 14 .byte, interfaces := #[7, 4], accessFlags := 1041 }

/-- the primitive int -/
def k16 : Class := { plain "int" none with kind := .primitive 'I', accessFlags := 0x411 }
/-- [I -/
def k17 : Class := { plain "[I" (some 0) with kind := .array 16 .int, interfaces := #[7, 4], accessFlags := 1041 }

/-- [Lcom/example/stubwright/stubwright/ParameterType; -/
def k18 : Class := { plain "[Lcom/example/stubwright/stubwright/ParameterType;" (some 0) with kind := .array 6 (.object "com/example/stubwright/stubwright/ParameterType"), interfaces := #[7, 4], accessFlags := 1041 }

def heap : Heap := #[{ cls := 6, slots := #[.ref 2, .ref 3, .ref 4, .ref 5, .ref 6, .ref 7, .ref 1], vm := .statics 6 },
  { cls := 18, slots := #[.ref 2, .ref 3, .ref 4, .ref 5, .ref 6, .ref 7], vm := .none },
  { cls := 8, slots := #[.null, .int 0, .int 0, .int 1, .int 0], vm := .none },
  { cls := 9, slots := #[.null, .int 0, .int 0, .int 2, .int 0], vm := .none },
  { cls := 10, slots := #[.null, .int 0, .int 0, .int 3, .int 0], vm := .none },
  { cls := 11, slots := #[.null, .int 0, .int 0, .int 4, .int 0], vm := .none },
  { cls := 12, slots := #[.null, .int 0, .int 0, .int 5, .int 0], vm := .none },
  { cls := 13, slots := #[.null, .int 0, .int 0, .int 6, .int 0], vm := .none }]
def classes : Array Class := #[k0, k1, k2, k3, k4, k5, k6, k7, k8, k9, k10, k11, k12, k13, k14, k15, k16, k17, k18]
def interned : List (Array UInt16 × Addr) := []
def slotsUsed : Nat := 43
def theMethod : MethodId := ⟨1, 2⟩
def args0 : Array Value := #[.int 5, .int 8]
def aboutOver (below : List Frame) : State where
  vm := { classes := classes, interned := interned.toArray }
  heap := heap
  slotsUsed := slotsUsed
  threads := #[{ frames := .invoking theMethod args0 :: below }]
def below0 : List Frame := [.native { method := ⟨0, 0⟩, args := #[] }]
def about1 : State := aboutOver below0
def p0 : Program := .bare "" "" ""
def e0 : Env := launch0.env 0 0 0
theorem w_frames : about1.frames = Frame.invoking theMethod args0 :: below0 := rfl
set_option maxRecDepth 65536 in
theorem w_args : argsFit about1.vm theMethod args0 = true := by decide +kernel
set_option maxRecDepth 65536 in
theorem w_heap : heapFits about1 = true := by decide +kernel
set_option maxRecDepth 65536 in
theorem w_runnable : about1.curStatus? = some .runnable := by decide +kernel
set_option maxRecDepth 65536 in
theorem w_alone : about1.alone = true := by decide +kernel
set_option maxRecDepth 65536 in
theorem w_named : about1.methodNamed? x = some theMethod := by decide +kernel
set_option maxRecDepth 65536 in
theorem w_hears : about1.hears theMethod below0 = true := by decide +kernel
set_option maxRecDepth 65536 in
theorem w_ripe : about1.ripe theMethod args0 below0 = true := by decide +kernel
theorem w_running : about1.status = .running := rfl
set_option maxRecDepth 65536 in
theorem w_room : about1.hasRoom e0.platform room_1 = true :=
  launch0.hasRoom_least _ room_1 (by decide +kernel) (by decide +kernel) (by decide +kernel) (by decide +kernel) (by decide +kernel) (by decide +kernel)
theorem allAtoms_all (ts : List Jvm.Cond) (a : Array Jvm.Value) (st : Jvm.State) : (allAtoms ts).before a st = ts.all (fun c => c.before a st) := by
  induction ts with
  | nil => rfl
  | cons c t ih =>
    show (Jvm.Cond.and c (allAtoms t)).before a st = _
    rw [Jvm.Cond.before_and, ih, List.all_cons]
def words1 : List Jvm.Cond := Jvm.Cond.code x code maxLocals ret :: tables_1
/-- a 'code' word, met by the world's own term for the bytes: nothing is compared byte by byte -/
theorem code_word {y : MethodName} {bytes : ByteArray} {mx : Nat} {rt : Option FieldType} {a : Array Value} {s : State} {m : MethodId} {meth : Method} {c : Code} (h1 : s.methodNamed? y = some m) (h2 : s.vm.method? m = some meth) (h3 : meth.code = some c) (h4 : c.code = bytes)
    (h5 : (c.maxLocals == mx && c.exceptionTable.isEmpty && decide (c.maxStack ≤ mostOperands) && decide (meth.sig.returnType = rt) && !meth.locks && decide (parseMethodDescriptor y.desc = some meth.sig)) = true) : (Jvm.Cond.code y bytes mx rt).before a s = true := by
  simp only [Bool.and_eq_true, beq_iff_eq, Bool.not_eq_true', decide_eq_true_eq] at h5
  obtain ⟨⟨⟨⟨⟨g1, g2⟩, g3⟩, g4⟩, g5⟩, g6⟩ := h5
  simp [Cond.before, Cond.holds, Cond.value, h1, h2, h3, h4, g1, g2, g3, g4, g5, g6]
def isCode : Jvm.Cond → Bool
  | .code _ _ _ _ => true
  | _ => false
theorem all_split {L : List Jvm.Cond} {P : Jvm.Cond → Bool} (h1 : L.all (fun c => isCode c || P c) = true) (h2 : ∀ c ∈ L.filter isCode, P c = true) : L.all P = true := by
  refine List.all_eq_true.mpr fun c hc => ?_
  have h := List.all_eq_true.mp h1 c hc
  rcases Bool.eq_false_or_eq_true (isCode c) with hi | hi
  · exact h2 c (List.mem_filter.mpr ⟨hc, hi⟩)
  · simpa [hi] using h
set_option maxRecDepth 65536 in
theorem w_c0 : (Jvm.Cond.code x code maxLocals ret).before args0 about1 = true := code_word (m := ⟨1, 2⟩) (meth := k1m2) (c := k1c2) (by decide +kernel) rfl rfl rfl (by decide +kernel)
set_option maxRecDepth 65536 in
theorem w_c1 : (Jvm.Cond.code ({ cls := "com/example/stubwright/stubwright/ParameterType", name := "fromCode", desc := "(I)Lcom/example/stubwright/stubwright/ParameterType;" } : Jvm.MethodName) prog_37_method_7_code (5 : Nat) (Option.some (Jvm.ClassFile.FieldType.object "com/example/stubwright/stubwright/ParameterType"))).before args0 about1 = true := code_word (m := ⟨6, 1⟩) (meth := k6m1) (c := k6c1) (by decide +kernel) rfl rfl rfl (by decide +kernel)
set_option maxRecDepth 65536 in
theorem w_c2 : (Jvm.Cond.code ({ cls := "com/example/stubwright/stubwright/ParameterType", name := "values", desc := "()[Lcom/example/stubwright/stubwright/ParameterType;" } : Jvm.MethodName) prog_37_method_1_code (0 : Nat) (Option.some (Jvm.ClassFile.FieldType.array (Jvm.ClassFile.FieldType.object "com/example/stubwright/stubwright/ParameterType")))).before args0 about1 = true := code_word (m := ⟨6, 0⟩) (meth := k6m0) (c := k6c0) (by decide +kernel) rfl rfl rfl (by decide +kernel)
set_option maxRecDepth 65536 in
theorem w_c3 : (Jvm.Cond.code ({ cls := "com/example/stubwright/stubwright/ParameterTypeFromCodePinLaw", name := "expected", desc := "(I)Lcom/example/stubwright/stubwright/ParameterType;" } : Jvm.MethodName) method_2_code (1 : Nat) (Option.some (Jvm.ClassFile.FieldType.object "com/example/stubwright/stubwright/ParameterType"))).before args0 about1 = true := code_word (m := ⟨1, 1⟩) (meth := k1m1) (c := k1c1) (by decide +kernel) rfl rfl rfl (by decide +kernel)
def codes1 : List Jvm.Cond := [Jvm.Cond.code x code maxLocals ret, Jvm.Cond.code ({ cls := "com/example/stubwright/stubwright/ParameterType", name := "fromCode", desc := "(I)Lcom/example/stubwright/stubwright/ParameterType;" } : Jvm.MethodName) prog_37_method_7_code (5 : Nat) (Option.some (Jvm.ClassFile.FieldType.object "com/example/stubwright/stubwright/ParameterType")), Jvm.Cond.code ({ cls := "com/example/stubwright/stubwright/ParameterType", name := "values", desc := "()[Lcom/example/stubwright/stubwright/ParameterType;" } : Jvm.MethodName) prog_37_method_1_code (0 : Nat) (Option.some (Jvm.ClassFile.FieldType.array (Jvm.ClassFile.FieldType.object "com/example/stubwright/stubwright/ParameterType"))), Jvm.Cond.code ({ cls := "com/example/stubwright/stubwright/ParameterTypeFromCodePinLaw", name := "expected", desc := "(I)Lcom/example/stubwright/stubwright/ParameterType;" } : Jvm.MethodName) method_2_code (1 : Nat) (Option.some (Jvm.ClassFile.FieldType.object "com/example/stubwright/stubwright/ParameterType"))]
set_option maxRecDepth 65536 in
theorem codes_eq : words1.filter isCode = codes1 := rfl
theorem w_codes : ∀ c ∈ words1.filter isCode, c.before args0 about1 = true := by
  rw [codes_eq]
  intro c hc
  simp only [codes1, List.mem_cons, List.not_mem_nil, or_false] at hc
  rcases hc with rfl | rfl | rfl | rfl
  · exact w_c0
  · exact w_c1
  · exact w_c2
  · exact w_c3
set_option maxRecDepth 65536 in
theorem w_t1 : (words1.take 24).all (fun c => isCode c || c.before args0 about1) = true := by decide +kernel
set_option maxRecDepth 65536 in
theorem w_t2 : (words1.drop 24).all (fun c => isCode c || c.before args0 about1) = true := by decide +kernel
theorem w_tables : (allAtoms (Jvm.Cond.code x code maxLocals ret :: tables_1)).before args0 about1 = true := by
  rw [allAtoms_all]
  show words1.all (fun c => c.before args0 about1) = true
  refine all_split ?_ w_codes
  rw [← List.take_append_drop 24 words1, List.all_append, w_t1, w_t2]
  rfl
set_option maxRecDepth 65536 in
theorem w_case : (Jvm.Cond.and given_1 narrow_1).before args0 about1 = true := by decide +kernel
theorem w_applies : (headSpec (Jvm.Cond.code x code maxLocals ret :: tables_1) room_1).applies x e0.platform about1 = true :=
  (Spec.applies_iff w_frames).mpr ⟨w_running, w_runnable, w_alone, w_named, w_hears, w_ripe, w_room, w_tables⟩
theorem atStart : AtStart classFile x code maxLocals ret World_1 tables_1 room_1 Calls_1 rest_1 Pre_1 launch0 p0 e0 about1 theMethod args0 below0 :=
  ⟨lists_1, trivial, launch0.admits_env _ _ _, launch0.least_env, fairChoices_fair.cas, fairChoices_fair.clock, w_frames, w_args, w_heap, w_applies, trivial, trivial, w_case⟩
end start1
theorem witness_1 : WitnessClaimed_1 := ⟨start1.p0, start1.e0, start1.about1, start1.theMethod, start1.args0, start1.below0, start1.atStart⟩
end Jvm.Pilot.@@N@@
