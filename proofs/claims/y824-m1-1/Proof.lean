import JvmDerived
import JvmDerived.Pilot.@@N@@Statement
import JvmDerived.Pilot.@@N@@Code
set_option linter.unusedVariables false
set_option linter.unusedSimpArgs false

namespace Jvm.Pilot.@@N@@
open Jvm Jvm.ClassFile Sem Op Lib Jvm.Free Jvm.Stand Jvm.LawKit Jvm.RoadKit Bundle Jvm.Pilot.@@N@@.Jvm.D
/-- from here the run comes to its end, and G holds there -/
def Go (p : Program) (e : Env) (below : List Frame) (G : Outcome → State → Prop) (T : State) (g : JFrame) : Prop := ∃ s₂ o, Steps p.tables e below (T.setTop g) s₂ ∧ s₂.status = .running ∧ Ended s₂ below o ∧ G o s₂
theorem Go.on {p : Program} {e : Env} {below : List Frame} {G : Outcome → State → Prop} {T T' : State} {g g' : JFrame} (h : ∀ t, Steps p.tables e below (T'.setTop g') t → Steps p.tables e below (T.setTop g) t) (k : Go p e below G T' g') : Go p e below G T g := by
  obtain ⟨s2, o, k1, k2⟩ := k
  exact ⟨s2, o, h _ k1, k2⟩
/-- a body that writes nothing: what it returns; the heap as it was -/
def Qp (r : Option Value) (h0 : Heap) (n0 : Nat) (v : Option Value) (h : Heap) (L : List Loc) : Prop := v = r ∧ Fr n0 L ∧ h = h0
def Ql (r : Option Value) (n0 : Nat) (v : Option Value) (L : List Loc) : Prop := v = r ∧ Fr n0 L
/-- a body that only makes new cells -/
def Qx (r : Option Value) (F : Heap → Prop) (h0 : Heap) (n0 : Nat) (v : Option Value) (h : Heap) (L : List Loc) : Prop := v = r ∧ Fr n0 L ∧ Ext h0 h ∧ F h
theorem own_ext0 (h : Heap) : Ext h h := ⟨Nat.le_refl _, fun _ _ q => q⟩
theorem own_ext2 {a b c : Heap} (E : Ext a b) (F : Ext b c) : Ext a c := ⟨Nat.le_trans E.1 F.1, fun x y q => F.2 x y (E.2 x y q)⟩
theorem own_extw {h0 h h' : Heap} {a : Addr} {sl : Nat} {v : Value} (E : Ext h0 h) (W : Wr h h' a sl v) (q : h0.size ≤ a) : Ext h0 h' := by
  refine ⟨by rw [W.size]; exact E.1, fun x c hx => ?_⟩
  obtain ⟨c', g1, -, -, -, g5, -⟩ := wr_at W (E.2 x c hx)
  have hne : x ≠ a := Nat.ne_of_lt (Nat.lt_of_lt_of_le (Array.getElem?_eq_some_iff.mp hx).1 q)
  rw [g1, g5 hne]
theorem own_extE {h a b : Heap} (e : a = b) (X : Ext h b) : Ext h a := e ▸ X
theorem own_arrE {Z : State} {a b : Heap} {x : Addr} {c : Cell} {ty : FieldType} (e : a = b) (A : Arr Z b x c ty) : Arr Z a x c ty := e ▸ A
theorem own_ne {Z : State} {h : Heap} {a b : Addr} {C n d : String} {v v' : Value} (F : Fld Z h a C n d v) (G : Fld Z h b C n d v') (hv : v ≠ v') : ¬ (a = b) := by
  rintro rfl
  obtain ⟨cell, cf, k, i, f, h1, h2, -, -, -, -, h7⟩ := F
  obtain ⟨cell', cf', k', i', f', g1, g2, -, -, -, -, g7⟩ := G
  cases h1.symm.trans g1
  cases h2.symm.trans g2
  exact hv (Option.some.inj (h7.symm.trans g7))
theorem own_irrI (x : Int32) : ¬ (x < x) := by simp
theorem own_irrJ (x : Int64) : ¬ (x < x) := by simp
theorem own_eqI {args : Array Value} {s : State} {t : Term} {n : Int32} (h : (Jvm.Cond.eq t (.int n)).value args s none s [] = some true) : t.eval args s none [] s = some (.int n) := by
  exact eqv_i (Term.int_eval n) h
theorem own_len {args : Array Value} {s : State} {t : Term} {n : Int32} {a : Addr} {cl : Cell} {ty : FieldType} {k : Nat} (h : (Term.length t).eval args s none [] s = some (.int n)) (ht : t.eval args s none [] s = some (.ref a)) (A : Arr s s.heap a cl ty) (hk : n.toInt = k) : cl.slots.size = k := by
  have ha := A.fin (U := s) (Vm.Alike.refl _)
  by_cases hl : cl.slots.size < 2 ^ 31
  · have e := (len_f ht ha hl).symm.trans h
    have e2 : cl.slots.size.toInt32 = n := by simpa using e
    have e3 := len_toInt hl
    rw [e2, hk] at e3
    omega
  · simp [Term.eval, ht, ha, hl] at h
theorem own_slots {cl : Cell} {vs : List Value} (h1 : cl.slots.size = vs.length) (h2 : ∀ (i : Nat) (v : Value), vs[i]? = some v → cl.slots[i]? = some v) : cl.slots = vs.toArray := by
  apply Array.ext
  · simp [h1]
  · intro i hi hj
    have hj' : i < vs.length := by simpa using hj
    have q := h2 i vs[i] (by simp [hj'])
    rw [Array.getElem?_eq_getElem hi] at q
    simpa using q
theorem own_eqR {args : Array Value} {s : State} {t u : Term} {a : Addr} (h : (Jvm.Cond.eq t u).value args s none s [] = some true) (hu : u.eval args s none [] s = some (.ref a)) : t.eval args s none [] s = some (.ref a) := by
  obtain ⟨x, y, h1, h2, k1, k2⟩ := cmp_v (Or.inl h)
  cases h2.symm.trans hu
  have q := gotT (eq_R h1 h2 k2.2 rfl) h
  rw [h1, q]
def Pins (Z : State) (h : Heap) (w : Nat → Addr) : Prop :=
  Sta Z h "com/example/stubwright/stubwright/ConnectionMode" "$VALUES" "[Lcom/example/stubwright/stubwright/ConnectionMode;" (.ref (w 0)) ∧
  Sta Z h "com/example/stubwright/stubwright/ConnectionMode" "SIMPLEX" "Lcom/example/stubwright/stubwright/ConnectionMode;" (.ref (w 1)) ∧
  Sta Z h "com/example/stubwright/stubwright/ConnectionMode" "DUPLEX" "Lcom/example/stubwright/stubwright/ConnectionMode;" (.ref (w 2)) ∧
  Exa Z h (w 0) "[Lcom/example/stubwright/stubwright/ConnectionMode;" ∧
  Exa Z h (w 1) "com/example/stubwright/stubwright/ConnectionMode" ∧
  Exa Z h (w 2) "com/example/stubwright/stubwright/ConnectionMode" ∧
  Fld Z h (w 1) "com/example/stubwright/stubwright/ConnectionMode" "code" "I" (.int (0 : Int32)) ∧
  Fld Z h (w 2) "com/example/stubwright/stubwright/ConnectionMode" "code" "I" (.int (1 : Int32)) ∧
  (∃ cl : Cell, Arr Z h (w 0) cl (.object "com/example/stubwright/stubwright/ConnectionMode") ∧ cl.slots = #[(.ref (w 1)), (.ref (w 2))] ∧ FitC Z cl) ∧
  True
theorem pin_0 {Z : State} {h : Heap} {w : Nat → Addr} (P : Pins Z h w) : Sta Z h "com/example/stubwright/stubwright/ConnectionMode" "$VALUES" "[Lcom/example/stubwright/stubwright/ConnectionMode;" (.ref (w 0)) := P.1
theorem pin_1 {Z : State} {h : Heap} {w : Nat → Addr} (P : Pins Z h w) : Sta Z h "com/example/stubwright/stubwright/ConnectionMode" "SIMPLEX" "Lcom/example/stubwright/stubwright/ConnectionMode;" (.ref (w 1)) := P.2.1
theorem pin_2 {Z : State} {h : Heap} {w : Nat → Addr} (P : Pins Z h w) : Sta Z h "com/example/stubwright/stubwright/ConnectionMode" "DUPLEX" "Lcom/example/stubwright/stubwright/ConnectionMode;" (.ref (w 2)) := P.2.2.1
theorem pin_3 {Z : State} {h : Heap} {w : Nat → Addr} (P : Pins Z h w) : Exa Z h (w 0) "[Lcom/example/stubwright/stubwright/ConnectionMode;" := P.2.2.2.1
theorem pin_4 {Z : State} {h : Heap} {w : Nat → Addr} (P : Pins Z h w) : Exa Z h (w 1) "com/example/stubwright/stubwright/ConnectionMode" := P.2.2.2.2.1
theorem pin_5 {Z : State} {h : Heap} {w : Nat → Addr} (P : Pins Z h w) : Exa Z h (w 2) "com/example/stubwright/stubwright/ConnectionMode" := P.2.2.2.2.2.1
theorem pin_6 {Z : State} {h : Heap} {w : Nat → Addr} (P : Pins Z h w) : Fld Z h (w 1) "com/example/stubwright/stubwright/ConnectionMode" "code" "I" (.int (0 : Int32)) := P.2.2.2.2.2.2.1
theorem pin_7 {Z : State} {h : Heap} {w : Nat → Addr} (P : Pins Z h w) : Fld Z h (w 2) "com/example/stubwright/stubwright/ConnectionMode" "code" "I" (.int (1 : Int32)) := P.2.2.2.2.2.2.2.1
theorem pin_8 {Z : State} {h : Heap} {w : Nat → Addr} (P : Pins Z h w) : (∃ cl : Cell, Arr Z h (w 0) cl (.object "com/example/stubwright/stubwright/ConnectionMode") ∧ cl.slots = #[(.ref (w 1)), (.ref (w 2))] ∧ FitC Z cl) := P.2.2.2.2.2.2.2.2.1
theorem pins_ext {Z : State} {h h' : Heap} {w : Nat → Addr} (E : Ext h h') (P : Pins Z h w) : Pins Z h' w :=
  ⟨(pin_0 P).ext E, (pin_1 P).ext E, (pin_2 P).ext E, (pin_3 P).ext E, (pin_4 P).ext E, (pin_5 P).ext E, (pin_6 P).ext E, (pin_7 P).ext E, (let ⟨c, A, r⟩ := pin_8 P; ⟨c, A.ext E, r⟩), trivial⟩
theorem d1_0 : decode prog_14_method_5_code 0 = .ok (.invokestatic 33, 3) := by decide +kernel
theorem d2_0 : decode prog_14_method_1_code 0 = .ok (.getstatic 10, 3) := by decide +kernel
theorem d2_3 : decode prog_14_method_1_code 3 = .ok (.invokevirtual 14, 3) := by decide +kernel
theorem d2_6 : decode prog_14_method_1_code 6 = .ok (.checkcast 15, 3) := by decide +kernel
theorem d2_9 : decode prog_14_method_1_code 9 = .ok (.areturn, 1) := by decide +kernel
theorem pn_0 : plainName "com/example/stubwright/stubwright/ConnectionMode" = true := by first | (simp [plainName, overriddenIn]; done) | decide +kernel
set_option maxRecDepth 65536 in
set_option maxHeartbeats 40000000 in
theorem rm2_0 (l : Launch) (Z : State) (a0 : Array Value) (hw : ∀ d ∈ tables_1, d.before a0 Z = true) (ws : List Jvm.Cond) (w : Nat → Addr) (h0 : Heap) (n0 : Nat) (Z0 : n0 ≤ h0.size) (hP : Pins Z h0 w) :
    MetFree l (⟨"com/example/stubwright/stubwright/ConnectionMode", "values", "()[Lcom/example/stubwright/stubwright/ConnectionMode;"⟩ : MethodName) (head1 (Jvm.Cond.code (⟨"com/example/stubwright/stubwright/ConnectionMode", "values", "()[Lcom/example/stubwright/stubwright/ConnectionMode;"⟩ : MethodName) prog_14_method_1_code 0 (some (.array (.object "com/example/stubwright/stubwright/ConnectionMode"))) :: ws) ({ frames := 1, cells := 1, slots := 2, locals := 14 } : Room)) (fun a U => a = #[] ∧ Z.Warmed39 U.vm ∧ U.heap = h0) (fun _ _ _ _ _ => True) (fun _ U o U' => ∃ v L, o = .returned v ∧ Qx (some (.ref (h0.size))) (fun h => ∃ kc, Arr Z h (h0.size) ({ cls := kc, slots := #[(.ref (w 1)), (.ref (w 2))] } : Cell) (.object "com/example/stubwright/stubwright/ConnectionMode")) h0 n0 v U'.heap L ∧ FrameEnd U o U' L ({ frames := 1, cells := 1, slots := 2, locals := 14 } : Room).cells ({ frames := 1, cells := 1, slots := 2, locals := 14 } : Room).slots) := by
  refine MetFree.of_bodySF (plainFor_of_name pn_0) hisR ?_
  intro p e s m args below meth c s₁ Bd hml0 hP0 hK
  obtain ⟨rfl, hZ, hh⟩ := hP0
  have hx := Bd.exec
  have hby := Bd.bytes
  have hml : c.maxLocals = 0 := hml0
  have hown : s.vm.findClass "com/example/stubwright/stubwright/ConnectionMode" = some m.cls := findClass_of_methodNamed Bd.named
  have hnm := (name_of_methodNamed Bd.named Bd.method).1
  have X0 : Stand p l e ({ frames := 1, cells := 1, slots := 2, locals := 14 } : Room) s m #[] below meth c s₁ [] 0 0 := Stand.of_body Bd
  have e0 : s₁.heap = h0 := by rw [← hh, Bd.state]; rfl
  have N0 := Fr.nil n0
  suffices hgo : Go p e below (fun o U' => ∃ v L, o = .returned v ∧ Qx (some (.ref (h0.size))) (fun h => ∃ kc, Arr Z h (h0.size) ({ cls := kc, slots := #[(.ref (w 1)), (.ref (w 2))] } : Cell) (.object "com/example/stubwright/stubwright/ConnectionMode")) h0 n0 v U'.heap L ∧ FrameEnd s o U' L ({ frames := 1, cells := 1, slots := 2, locals := 14 } : Room).cells ({ frames := 1, cells := 1, slots := 2, locals := 14 } : Room).slots) s₁ (mkF m 0 #[] []) by
    obtain ⟨s2, o, g1, g2, g3, g4⟩ := hgo
    refine ⟨s2, o, castTop (?_ : entryFrame m #[] 0 = _) g1, g2, g3, g4⟩
    first | (simp [entryFrame, mkF, argsToLocals, Value.category]; done) | rfl
  obtain ⟨T11, X11, e11, st11⟩ := getS2 X0 hx hZ hown (host := "") (Or.inl (hw _ (List.mem_of_getElem? (i := 7) rfl))) Via.refl e0 (pin_0 hP) (g := (mkF m 0 #[] [])) rfl (hb hby d2_0)
  refine Go.on (T' := T11) (g' := (mkF m 3 #[] [(.ref (w 0))])) st11 ?_
  obtain ⟨cl12, Aq12, sq12, Fq12⟩ := (pin_8 hP)
  obtain ⟨T12, h12, X12, e12, E12, A12, EX12, st12⟩ := cloneA X11 hx hZ hown (hw _ (List.mem_of_getElem? (i := 9) rfl)) (hw _ (List.mem_of_getElem? (i := 10) rfl)) (hw _ (List.mem_of_getElem? (i := 14) rfl)) (hw _ (List.mem_of_getElem? (i := 12) rfl)) (hw _ (List.mem_of_getElem? (i := 13) rfl)) (hw _ (List.mem_of_getElem? (i := 15) rfl)) e11 Aq12 (pin_3 hP) Fq12 (g := (mkF m 3 #[] [(.ref (w 0))])) rfl (by rw [hml]; rfl) rfl (hb hby d2_3) (by decide) (W := 0) (by show 2 * 0 + _ ≤ _; exact Nat.le_of_eq rfl) (by decide) (cap := 2) (by rw [sq12]; exact Nat.le_of_ble_eq_true rfl) (by decide) (by decide)
  have sz12 : h0.size ≤ (h0.size) := (own_ext0 h0).1
  have XT12 := own_ext2 (own_ext0 h0) E12
  have Ar12_0 : Arr Z h12 (h0.size) ({ cls := cl12.cls, slots := #[(.ref (w 1)), (.ref (w 2))] } : Cell) (.object "com/example/stubwright/stubwright/ConnectionMode") := (by rw [← sq12]; exact A12)
  refine Go.on (T' := T12) (g' := (mkF m 6 #[] [(.ref (h0.size))])) st12 ?_
  obtain ⟨T13, X13, e13, st13⟩ := castY X12 hx hZ hown (hw _ (List.mem_of_getElem? (i := 19) rfl)) e12 (Ins.self EX12) (g := (mkF m 6 #[] [(.ref (h0.size))])) rfl rfl (hb hby d2_6)
  refine Go.on (T' := T13) (g' := (mkF m 9 #[] [(.ref (h0.size))])) st13 ?_
  obtain ⟨fs, hr, hrun, hended, hW, hsame⟩ := X13.leave (v := some (.ref (h0.size))) (fun h => by rw [Bd.returns] at h; cases h)
  exact ⟨_, _, retOut X13 hx Bd.returns rfl (Or.inr (Or.inr (Or.inr (Or.inr ⟨rfl, rfl, rfl⟩)))) (hb hby d2_9) hr, hrun, hended, _, _, rfl, ⟨rfl, N0, own_extE e13 XT12, ⟨_, own_arrE e13 Ar12_0⟩⟩, ⟨_, rfl⟩, hW, hsame.mono (by decide) (by decide)⟩
theorem pd_0 : parseMethodDescriptor "()[Lcom/example/stubwright/stubwright/ConnectionMode;" = some ⟨[], some (.array (.object "com/example/stubwright/stubwright/ConnectionMode"))⟩ := by decide +kernel
theorem d1_3 : decode prog_14_method_5_code 3 = .ok (.astore_n 1, 1) := by decide +kernel
theorem d1_4 : decode prog_14_method_5_code 4 = .ok (.aload_n 1, 1) := by decide +kernel
theorem d1_5 : decode prog_14_method_5_code 5 = .ok (.arraylength, 1) := by decide +kernel
theorem d1_6 : decode prog_14_method_5_code 6 = .ok (.istore_n 2, 1) := by decide +kernel
theorem d1_7 : decode prog_14_method_5_code 7 = .ok (.iconst 0, 1) := by decide +kernel
theorem d1_8 : decode prog_14_method_5_code 8 = .ok (.istore_n 3, 1) := by decide +kernel
theorem d1_9 : decode prog_14_method_5_code 9 = .ok (.iload_n 3, 1) := by decide +kernel
theorem d1_10 : decode prog_14_method_5_code 10 = .ok (.iload_n 2, 1) := by decide +kernel
theorem d1_11 : decode prog_14_method_5_code 11 = .ok (.if_icmp .ge 26, 3) := by decide +kernel
theorem d1_14 : decode prog_14_method_5_code 14 = .ok (.aload_n 1, 1) := by decide +kernel
theorem d1_15 : decode prog_14_method_5_code 15 = .ok (.iload_n 3, 1) := by decide +kernel
theorem d1_16 : decode prog_14_method_5_code 16 = .ok (.aaload, 1) := by decide +kernel
theorem d1_17 : decode prog_14_method_5_code 17 = .ok (.astore 4, 2) := by decide +kernel
theorem d1_19 : decode prog_14_method_5_code 19 = .ok (.aload 4, 2) := by decide +kernel
theorem d1_21 : decode prog_14_method_5_code 21 = .ok (.getfield 29, 3) := by decide +kernel
theorem d1_24 : decode prog_14_method_5_code 24 = .ok (.iload_n 0, 1) := by decide +kernel
theorem d1_25 : decode prog_14_method_5_code 25 = .ok (.if_icmp .ne 6, 3) := by decide +kernel
theorem d1_28 : decode prog_14_method_5_code 28 = .ok (.aload 4, 2) := by decide +kernel
theorem d1_30 : decode prog_14_method_5_code 30 = .ok (.areturn, 1) := by decide +kernel
set_option maxRecDepth 65536 in
set_option maxHeartbeats 40000000 in
theorem rm1_0 (l : Launch) (Z : State) (a0 : Array Value) (hw : ∀ d ∈ tables_1, d.before a0 Z = true) (ws : List Jvm.Cond) (w : Nat → Addr) (h0 : Heap) (n0 : Nat) (Z0 : n0 ≤ h0.size) (hP : Pins Z h0 w) (pa0 : Int32) (hp0 : (0 : Int32) = pa0) :
    MetFree l (⟨"com/example/stubwright/stubwright/ConnectionMode", "fromCode", "(I)Lcom/example/stubwright/stubwright/ConnectionMode;"⟩ : MethodName) (head1 (Jvm.Cond.code (⟨"com/example/stubwright/stubwright/ConnectionMode", "fromCode", "(I)Lcom/example/stubwright/stubwright/ConnectionMode;"⟩ : MethodName) prog_14_method_5_code 5 (some (.object "com/example/stubwright/stubwright/ConnectionMode")) :: ws) ({ frames := 2, cells := 1, slots := 2, locals := 25 } : Room)) (fun a U => a = #[(.int pa0)] ∧ Z.Warmed39 U.vm ∧ U.heap = h0) (fun _ _ _ _ _ => True) (fun _ U o U' => ∃ v L, o = .returned v ∧ Qx (some (.ref (w 1))) (fun h => True) h0 n0 v U'.heap L ∧ FrameEnd U o U' L ({ frames := 2, cells := 1, slots := 2, locals := 25 } : Room).cells ({ frames := 2, cells := 1, slots := 2, locals := 25 } : Room).slots) := by
  refine MetFree.of_bodySF (plainFor_of_name pn_0) hisR ?_
  intro p e s m args below meth c s₁ Bd hml0 hP0 hK
  obtain ⟨rfl, hZ, hh⟩ := hP0
  have hx := Bd.exec
  have hby := Bd.bytes
  have hml : c.maxLocals = 5 := hml0
  have hown : s.vm.findClass "com/example/stubwright/stubwright/ConnectionMode" = some m.cls := findClass_of_methodNamed Bd.named
  have hnm := (name_of_methodNamed Bd.named Bd.method).1
  have X0 : Stand p l e ({ frames := 2, cells := 1, slots := 2, locals := 25 } : Room) s m #[(.int pa0)] below meth c s₁ [] 0 0 := Stand.of_body Bd
  have e0 : s₁.heap = h0 := by rw [← hh, Bd.state]; rfl
  have N0 := Fr.nil n0
  suffices hgo : Go p e below (fun o U' => ∃ v L, o = .returned v ∧ Qx (some (.ref (w 1))) (fun h => True) h0 n0 v U'.heap L ∧ FrameEnd s o U' L ({ frames := 2, cells := 1, slots := 2, locals := 25 } : Room).cells ({ frames := 2, cells := 1, slots := 2, locals := 25 } : Room).slots) s₁ (mkF m 0 #[.val (.int pa0), .unset, .unset, .unset, .unset] []) by
    obtain ⟨s2, o, g1, g2, g3, g4⟩ := hgo
    refine ⟨s2, o, castTop (?_ : entryFrame m #[(.int pa0)] 5 = _) g1, g2, g3, g4⟩
    first | (simp [entryFrame, mkF, argsToLocals, Value.category]; done) | rfl
  obtain ⟨_, _, ⟨T14, L14, k14, n14⟩, -, X14, ⟨Lc14, hQ14, l14, y14, z14⟩, st14⟩ := Jvm.LawKit.callS X0 hx (y := (⟨"com/example/stubwright/stubwright/ConnectionMode", "values", "()[Lcom/example/stubwright/stubwright/ConnectionMode;"⟩ : MethodName)) hown (mvT hZ (hw _ (List.mem_of_getElem? (i := 4) rfl))) (mvT hZ (hw _ (List.mem_of_getElem? (i := 5) rfl))) (mvT hZ (hw _ (List.mem_of_getElem? (i := 2) rfl))) (mvT hZ (hw _ (List.mem_of_getElem? (i := 6) rfl))) (by decide) (backOf (W := 0) (rm2_0 l Z a0 hw [] w h0 n0 (Nat.le_trans Z0 (own_ext0 h0).1) hP) hZ (hw _ (List.mem_of_getElem? (i := 6) rfl)) (hw _ (List.mem_of_getElem? (i := 2) rfl)) (by decide) (by decide)) (g := (mkF m 0 #[.val (.int pa0), .unset, .unset, .unset, .unset] [])) rfl (by rw [hml]; rfl) (argsL := []) (rest := []) (lenOf pd_0 rfl) rfl (by show 2 * 0 + _ ≤ _; exact Nat.le_of_eq rfl) (hb hby d1_0) (fun _ _ => ⟨rfl, e0, (by decide : 0 + 1 ≤ _), (by decide : 0 + 2 ≤ _)⟩)
  dsimp only [Pt.U, Pt.locs, Pt.cells, Pt.slots] at X14 l14 y14 z14 st14 hQ14
  subst l14 y14 z14
  obtain ⟨rfl, N14q, x14, f14⟩ := hQ14
  have N14 := Fr.app N0 N14q
  have e14 : T14.heap = T14.heap := rfl
  have sz14 : h0.size ≤ h0.size := (own_ext0 h0).1
  have XT14 := own_ext2 (own_ext0 h0) x14
  obtain ⟨k14, A14⟩ := f14
  refine Go.on (T' := T14) (g' := (mkF m 3 #[.val (.int pa0), .unset, .unset, .unset, .unset] [(.ref (h0.size))])) st14 ?_
  refine Go.on (T' := T14) (g' := (mkF m 4 #[.val (.int pa0), .val (.ref (h0.size)), .unset, .unset, .unset] [])) (fun t k => XS.astoreN X14.here hx rfl (hb hby d1_3) rfl rfl (l' := #[.val (.int pa0), .val (.ref (h0.size)), .unset, .unset, .unset]) rfl k) ?_
  refine Go.on (T' := T14) (g' := (mkF m 5 #[.val (.int pa0), .val (.ref (h0.size)), .unset, .unset, .unset] [(.ref (h0.size))])) (fun t k => XS.aloadN X14.here hx rfl (hb hby d1_4) rfl rfl k) ?_
  refine Go.on (T' := T14) (g' := (mkF m 6 #[.val (.int pa0), .val (.ref (h0.size)), .unset, .unset, .unset] [(.int (2 : Int32))])) (fun t k => X14.arraylength hx (by rw [e14]; exact A14.1) (State.isArrayOf_alike hZ.alike A14.2.1) (g := (mkF m 5 #[.val (.int pa0), .val (.ref (h0.size)), .unset, .unset, .unset] [(.ref (h0.size))])) rfl rfl (hb hby d1_5) t k) ?_
  refine Go.on (T' := T14) (g' := (mkF m 7 #[.val (.int pa0), .val (.ref (h0.size)), .val (.int (2 : Int32)), .unset, .unset] [])) (fun t k => XS.istoreN X14.here hx rfl (hb hby d1_6) rfl (l' := #[.val (.int pa0), .val (.ref (h0.size)), .val (.int (2 : Int32)), .unset, .unset]) rfl k) ?_
  refine Go.on (T' := T14) (g' := (mkF m 8 #[.val (.int pa0), .val (.ref (h0.size)), .val (.int (2 : Int32)), .unset, .unset] [(.int (0 : Int32))])) (fun t k => XS.iconst X14.here hx rfl (hb hby d1_7) k) ?_
  refine Go.on (T' := T14) (g' := (mkF m 9 #[.val (.int pa0), .val (.ref (h0.size)), .val (.int (2 : Int32)), .val (.int (0 : Int32)), .unset] [])) (fun t k => XS.istoreN X14.here hx rfl (hb hby d1_8) rfl (l' := #[.val (.int pa0), .val (.ref (h0.size)), .val (.int (2 : Int32)), .val (.int (0 : Int32)), .unset]) rfl k) ?_
  refine Go.on (T' := T14) (g' := (mkF m 10 #[.val (.int pa0), .val (.ref (h0.size)), .val (.int (2 : Int32)), .val (.int (0 : Int32)), .unset] [(.int (0 : Int32))])) (fun t k => XS.iloadN X14.here hx rfl (hb hby d1_9) rfl k) ?_
  refine Go.on (T' := T14) (g' := (mkF m 11 #[.val (.int pa0), .val (.ref (h0.size)), .val (.int (2 : Int32)), .val (.int (0 : Int32)), .unset] [(.int (2 : Int32)), (.int (0 : Int32))])) (fun t k => XS.iloadN X14.here hx rfl (hb hby d1_10) rfl k) ?_
  refine Go.on (T' := T14) (g' := (mkF m 14 #[.val (.int pa0), .val (.ref (h0.size)), .val (.int (2 : Int32)), .val (.int (0 : Int32)), .unset] [])) (fun t k => XS.icmpNo X14.here hx rfl (hb hby d1_11) rfl (tlt (by decide : (0 : Int32) < (2 : Int32))).2.1 k) ?_
  refine Go.on (T' := T14) (g' := (mkF m 15 #[.val (.int pa0), .val (.ref (h0.size)), .val (.int (2 : Int32)), .val (.int (0 : Int32)), .unset] [(.ref (h0.size))])) (fun t k => XS.aloadN X14.here hx rfl (hb hby d1_14) rfl rfl k) ?_
  refine Go.on (T' := T14) (g' := (mkF m 16 #[.val (.int pa0), .val (.ref (h0.size)), .val (.int (2 : Int32)), .val (.int (0 : Int32)), .unset] [(.int (0 : Int32)), (.ref (h0.size))])) (fun t k => XS.iloadN X14.here hx rfl (hb hby d1_15) rfl k) ?_
  refine Go.on (T' := T14) (g' := (mkF m 17 #[.val (.int pa0), .val (.ref (h0.size)), .val (.int (2 : Int32)), .val (.int (0 : Int32)), .unset] [(.ref (w 1))])) (fun t k => X14.aaload hx (j := (0 : Int32)) (v := (.ref (w 1))) (by rw [e14]; exact A14.1) (State.isArrayOf_alike hZ.alike A14.2.1) rfl A14.2.2 (by show ¬ (_ ∨ (2 : Nat) ≤ _); decide) rfl (g := (mkF m 16 #[.val (.int pa0), .val (.ref (h0.size)), .val (.int (2 : Int32)), .val (.int (0 : Int32)), .unset] [(.int (0 : Int32)), (.ref (h0.size))])) rfl rfl (hb hby d1_16) t k) ?_
  refine Go.on (T' := T14) (g' := (mkF m 19 #[.val (.int pa0), .val (.ref (h0.size)), .val (.int (2 : Int32)), .val (.int (0 : Int32)), .val (.ref (w 1))] [])) (fun t k => XS.astore X14.here hx rfl (hb hby d1_17) rfl rfl (l' := #[.val (.int pa0), .val (.ref (h0.size)), .val (.int (2 : Int32)), .val (.int (0 : Int32)), .val (.ref (w 1))]) rfl k) ?_
  refine Go.on (T' := T14) (g' := (mkF m 21 #[.val (.int pa0), .val (.ref (h0.size)), .val (.int (2 : Int32)), .val (.int (0 : Int32)), .val (.ref (w 1))] [(.ref (w 1))])) (fun t k => XS.aload X14.here hx rfl (hb hby d1_19) rfl rfl k) ?_
  obtain ⟨T15, X15, e15, st15⟩ := getF X14 hx hZ hown (host := "") (Or.inl (hw _ (List.mem_of_getElem? (i := 21) rfl))) Via.refl e14 (pin_6 (pins_ext XT14 hP)) (g := (mkF m 21 #[.val (.int pa0), .val (.ref (h0.size)), .val (.int (2 : Int32)), .val (.int (0 : Int32)), .val (.ref (w 1))] [(.ref (w 1))])) rfl rfl (hb hby d1_21)
  refine Go.on (T' := T15) (g' := (mkF m 24 #[.val (.int pa0), .val (.ref (h0.size)), .val (.int (2 : Int32)), .val (.int (0 : Int32)), .val (.ref (w 1))] [(.int (0 : Int32))])) st15 ?_
  refine Go.on (T' := T15) (g' := (mkF m 25 #[.val (.int pa0), .val (.ref (h0.size)), .val (.int (2 : Int32)), .val (.int (0 : Int32)), .val (.ref (w 1))] [(.int pa0), (.int (0 : Int32))])) (fun t k => XS.iloadN X15.here hx rfl (hb hby d1_24) rfl k) ?_
  refine Go.on (T' := T15) (g' := (mkF m 28 #[.val (.int pa0), .val (.ref (h0.size)), .val (.int (2 : Int32)), .val (.int (0 : Int32)), .val (.ref (w 1))] [])) (fun t k => XS.icmpNo X15.here hx rfl (hb hby d1_25) rfl (teq hp0).2 k) ?_
  refine Go.on (T' := T15) (g' := (mkF m 30 #[.val (.int pa0), .val (.ref (h0.size)), .val (.int (2 : Int32)), .val (.int (0 : Int32)), .val (.ref (w 1))] [(.ref (w 1))])) (fun t k => XS.aload X15.here hx rfl (hb hby d1_28) rfl rfl k) ?_
  obtain ⟨fs, hr, hrun, hended, hW, hsame⟩ := X15.leave (v := some (.ref (w 1))) (fun h => by rw [Bd.returns] at h; cases h)
  exact ⟨_, _, retOut X15 hx Bd.returns rfl (Or.inr (Or.inr (Or.inr (Or.inr ⟨rfl, rfl, rfl⟩)))) (hb hby d1_30) hr, hrun, hended, _, _, rfl, ⟨rfl, N14, own_extE e15 XT14, trivial⟩, ⟨_, rfl⟩, hW, hsame.mono (by decide) (by decide)⟩
theorem pd_1 : parseMethodDescriptor "(I)Lcom/example/stubwright/stubwright/ConnectionMode;" = some ⟨[.int], some (.object "com/example/stubwright/stubwright/ConnectionMode")⟩ := by decide +kernel
theorem d3_0 : decode prog_14_method_4_code 0 = .ok (.aload_n 0, 1) := by decide +kernel
theorem d3_1 : decode prog_14_method_4_code 1 = .ok (.getfield 29, 3) := by decide +kernel
theorem d3_4 : decode prog_14_method_4_code 4 = .ok (.ireturn, 1) := by decide +kernel
set_option maxRecDepth 65536 in
set_option maxHeartbeats 40000000 in
theorem rm3_0 (l : Launch) (Z : State) (a0 : Array Value) (hw : ∀ d ∈ tables_1, d.before a0 Z = true) (ws : List Jvm.Cond) (w : Nat → Addr) (h0 : Heap) (n0 : Nat) (Z0 : n0 ≤ h0.size) (hP : Pins Z h0 w) :
    MetFree l (⟨"com/example/stubwright/stubwright/ConnectionMode", "code", "()I"⟩ : MethodName) (head1 (Jvm.Cond.code (⟨"com/example/stubwright/stubwright/ConnectionMode", "code", "()I"⟩ : MethodName) prog_14_method_4_code 1 (some .int) :: ws) ({ frames := 0, cells := 0, slots := 0, locals := 0 } : Room)) (fun a U => a = #[(.ref (w 1))] ∧ Z.Warmed39 U.vm ∧ U.heap = h0) (fun _ _ _ _ _ => True) (fun _ U o U' => ∃ v L, o = .returned v ∧ Qp (some (.int (0 : Int32))) h0 n0 v U'.heap L ∧ FrameEnd U o U' L ({ frames := 0, cells := 0, slots := 0, locals := 0 } : Room).cells ({ frames := 0, cells := 0, slots := 0, locals := 0 } : Room).slots) := by
  refine MetFree.of_bodySF (plainFor_of_name pn_0) hisR ?_
  intro p e s m args below meth c s₁ Bd hml0 hP0 hK
  obtain ⟨rfl, hZ, hh⟩ := hP0
  have hx := Bd.exec
  have hby := Bd.bytes
  have hml : c.maxLocals = 1 := hml0
  have hown : s.vm.findClass "com/example/stubwright/stubwright/ConnectionMode" = some m.cls := findClass_of_methodNamed Bd.named
  have hnm := (name_of_methodNamed Bd.named Bd.method).1
  have X0 : Stand p l e ({ frames := 0, cells := 0, slots := 0, locals := 0 } : Room) s m #[(.ref (w 1))] below meth c s₁ [] 0 0 := Stand.of_body Bd
  have e0 : s₁.heap = h0 := by rw [← hh, Bd.state]; rfl
  have N0 := Fr.nil n0
  suffices hgo : Go p e below (fun o U' => ∃ v L, o = .returned v ∧ Qp (some (.int (0 : Int32))) h0 n0 v U'.heap L ∧ FrameEnd s o U' L ({ frames := 0, cells := 0, slots := 0, locals := 0 } : Room).cells ({ frames := 0, cells := 0, slots := 0, locals := 0 } : Room).slots) s₁ (mkF m 0 #[.val (.ref (w 1))] []) by
    obtain ⟨s2, o, g1, g2, g3, g4⟩ := hgo
    refine ⟨s2, o, castTop (?_ : entryFrame m #[(.ref (w 1))] 1 = _) g1, g2, g3, g4⟩
    first | (simp [entryFrame, mkF, argsToLocals, Value.category]; done) | rfl
  refine Go.on (T' := s₁) (g' := (mkF m 1 #[.val (.ref (w 1))] [(.ref (w 1))])) (fun t k => XS.aloadN X0.here hx rfl (hb hby d3_0) rfl rfl k) ?_
  obtain ⟨T19, X19, e19, st19⟩ := getF X0 hx hZ hown (host := "") (Or.inl (hw _ (List.mem_of_getElem? (i := 21) rfl))) Via.refl e0 (pin_6 hP) (g := (mkF m 1 #[.val (.ref (w 1))] [(.ref (w 1))])) rfl rfl (hb hby d3_1)
  refine Go.on (T' := T19) (g' := (mkF m 4 #[.val (.ref (w 1))] [(.int (0 : Int32))])) st19 ?_
  obtain ⟨fs, hr, hrun, hended, hW, hsame⟩ := X19.leave (v := some (.int (0 : Int32))) (fun h => by rw [Bd.returns] at h; cases h)
  exact ⟨_, _, retOut X19 hx Bd.returns rfl (Or.inl ⟨rfl, Or.inl rfl, _, rfl⟩) (hb hby d3_4) hr, hrun, hended, _, _, rfl, ⟨rfl, N0, e19⟩, ⟨_, rfl⟩, hW, hsame.mono (by decide) (by decide)⟩
theorem pd_2 : parseMethodDescriptor "()I" = some ⟨[], some .int⟩ := by decide +kernel
theorem d1_31 : decode prog_14_method_5_code 31 = .ok (.iinc 3 1, 3) := by decide +kernel
theorem d1_34 : decode prog_14_method_5_code 34 = .ok (.goto (-25), 3) := by decide +kernel
set_option maxRecDepth 65536 in
set_option maxHeartbeats 40000000 in
theorem rm1_1 (l : Launch) (Z : State) (a0 : Array Value) (hw : ∀ d ∈ tables_1, d.before a0 Z = true) (ws : List Jvm.Cond) (w : Nat → Addr) (h0 : Heap) (n0 : Nat) (Z0 : n0 ≤ h0.size) (hP : Pins Z h0 w) (pa0 : Int32) (hp0 : ¬ ((0 : Int32) = pa0)) (hp1 : (1 : Int32) = pa0) :
    MetFree l (⟨"com/example/stubwright/stubwright/ConnectionMode", "fromCode", "(I)Lcom/example/stubwright/stubwright/ConnectionMode;"⟩ : MethodName) (head1 (Jvm.Cond.code (⟨"com/example/stubwright/stubwright/ConnectionMode", "fromCode", "(I)Lcom/example/stubwright/stubwright/ConnectionMode;"⟩ : MethodName) prog_14_method_5_code 5 (some (.object "com/example/stubwright/stubwright/ConnectionMode")) :: ws) ({ frames := 2, cells := 1, slots := 2, locals := 25 } : Room)) (fun a U => a = #[(.int pa0)] ∧ Z.Warmed39 U.vm ∧ U.heap = h0) (fun _ _ _ _ _ => True) (fun _ U o U' => ∃ v L, o = .returned v ∧ Qx (some (.ref (w 2))) (fun h => True) h0 n0 v U'.heap L ∧ FrameEnd U o U' L ({ frames := 2, cells := 1, slots := 2, locals := 25 } : Room).cells ({ frames := 2, cells := 1, slots := 2, locals := 25 } : Room).slots) := by
  refine MetFree.of_bodySF (plainFor_of_name pn_0) hisR ?_
  intro p e s m args below meth c s₁ Bd hml0 hP0 hK
  obtain ⟨rfl, hZ, hh⟩ := hP0
  have hx := Bd.exec
  have hby := Bd.bytes
  have hml : c.maxLocals = 5 := hml0
  have hown : s.vm.findClass "com/example/stubwright/stubwright/ConnectionMode" = some m.cls := findClass_of_methodNamed Bd.named
  have hnm := (name_of_methodNamed Bd.named Bd.method).1
  have X0 : Stand p l e ({ frames := 2, cells := 1, slots := 2, locals := 25 } : Room) s m #[(.int pa0)] below meth c s₁ [] 0 0 := Stand.of_body Bd
  have e0 : s₁.heap = h0 := by rw [← hh, Bd.state]; rfl
  have N0 := Fr.nil n0
  suffices hgo : Go p e below (fun o U' => ∃ v L, o = .returned v ∧ Qx (some (.ref (w 2))) (fun h => True) h0 n0 v U'.heap L ∧ FrameEnd s o U' L ({ frames := 2, cells := 1, slots := 2, locals := 25 } : Room).cells ({ frames := 2, cells := 1, slots := 2, locals := 25 } : Room).slots) s₁ (mkF m 0 #[.val (.int pa0), .unset, .unset, .unset, .unset] []) by
    obtain ⟨s2, o, g1, g2, g3, g4⟩ := hgo
    refine ⟨s2, o, castTop (?_ : entryFrame m #[(.int pa0)] 5 = _) g1, g2, g3, g4⟩
    first | (simp [entryFrame, mkF, argsToLocals, Value.category]; done) | rfl
  obtain ⟨_, _, ⟨T22, L22, k22, n22⟩, -, X22, ⟨Lc22, hQ22, l22, y22, z22⟩, st22⟩ := Jvm.LawKit.callS X0 hx (y := (⟨"com/example/stubwright/stubwright/ConnectionMode", "values", "()[Lcom/example/stubwright/stubwright/ConnectionMode;"⟩ : MethodName)) hown (mvT hZ (hw _ (List.mem_of_getElem? (i := 4) rfl))) (mvT hZ (hw _ (List.mem_of_getElem? (i := 5) rfl))) (mvT hZ (hw _ (List.mem_of_getElem? (i := 2) rfl))) (mvT hZ (hw _ (List.mem_of_getElem? (i := 6) rfl))) (by decide) (backOf (W := 0) (rm2_0 l Z a0 hw [] w h0 n0 (Nat.le_trans Z0 (own_ext0 h0).1) hP) hZ (hw _ (List.mem_of_getElem? (i := 6) rfl)) (hw _ (List.mem_of_getElem? (i := 2) rfl)) (by decide) (by decide)) (g := (mkF m 0 #[.val (.int pa0), .unset, .unset, .unset, .unset] [])) rfl (by rw [hml]; rfl) (argsL := []) (rest := []) (lenOf pd_0 rfl) rfl (by show 2 * 0 + _ ≤ _; exact Nat.le_of_eq rfl) (hb hby d1_0) (fun _ _ => ⟨rfl, e0, (by decide : 0 + 1 ≤ _), (by decide : 0 + 2 ≤ _)⟩)
  dsimp only [Pt.U, Pt.locs, Pt.cells, Pt.slots] at X22 l22 y22 z22 st22 hQ22
  subst l22 y22 z22
  obtain ⟨rfl, N22q, x22, f22⟩ := hQ22
  have N22 := Fr.app N0 N22q
  have e22 : T22.heap = T22.heap := rfl
  have sz22 : h0.size ≤ h0.size := (own_ext0 h0).1
  have XT22 := own_ext2 (own_ext0 h0) x22
  obtain ⟨k22, A22⟩ := f22
  refine Go.on (T' := T22) (g' := (mkF m 3 #[.val (.int pa0), .unset, .unset, .unset, .unset] [(.ref (h0.size))])) st22 ?_
  refine Go.on (T' := T22) (g' := (mkF m 4 #[.val (.int pa0), .val (.ref (h0.size)), .unset, .unset, .unset] [])) (fun t k => XS.astoreN X22.here hx rfl (hb hby d1_3) rfl rfl (l' := #[.val (.int pa0), .val (.ref (h0.size)), .unset, .unset, .unset]) rfl k) ?_
  refine Go.on (T' := T22) (g' := (mkF m 5 #[.val (.int pa0), .val (.ref (h0.size)), .unset, .unset, .unset] [(.ref (h0.size))])) (fun t k => XS.aloadN X22.here hx rfl (hb hby d1_4) rfl rfl k) ?_
  refine Go.on (T' := T22) (g' := (mkF m 6 #[.val (.int pa0), .val (.ref (h0.size)), .unset, .unset, .unset] [(.int (2 : Int32))])) (fun t k => X22.arraylength hx (by rw [e22]; exact A22.1) (State.isArrayOf_alike hZ.alike A22.2.1) (g := (mkF m 5 #[.val (.int pa0), .val (.ref (h0.size)), .unset, .unset, .unset] [(.ref (h0.size))])) rfl rfl (hb hby d1_5) t k) ?_
  refine Go.on (T' := T22) (g' := (mkF m 7 #[.val (.int pa0), .val (.ref (h0.size)), .val (.int (2 : Int32)), .unset, .unset] [])) (fun t k => XS.istoreN X22.here hx rfl (hb hby d1_6) rfl (l' := #[.val (.int pa0), .val (.ref (h0.size)), .val (.int (2 : Int32)), .unset, .unset]) rfl k) ?_
  refine Go.on (T' := T22) (g' := (mkF m 8 #[.val (.int pa0), .val (.ref (h0.size)), .val (.int (2 : Int32)), .unset, .unset] [(.int (0 : Int32))])) (fun t k => XS.iconst X22.here hx rfl (hb hby d1_7) k) ?_
  refine Go.on (T' := T22) (g' := (mkF m 9 #[.val (.int pa0), .val (.ref (h0.size)), .val (.int (2 : Int32)), .val (.int (0 : Int32)), .unset] [])) (fun t k => XS.istoreN X22.here hx rfl (hb hby d1_8) rfl (l' := #[.val (.int pa0), .val (.ref (h0.size)), .val (.int (2 : Int32)), .val (.int (0 : Int32)), .unset]) rfl k) ?_
  refine Go.on (T' := T22) (g' := (mkF m 10 #[.val (.int pa0), .val (.ref (h0.size)), .val (.int (2 : Int32)), .val (.int (0 : Int32)), .unset] [(.int (0 : Int32))])) (fun t k => XS.iloadN X22.here hx rfl (hb hby d1_9) rfl k) ?_
  refine Go.on (T' := T22) (g' := (mkF m 11 #[.val (.int pa0), .val (.ref (h0.size)), .val (.int (2 : Int32)), .val (.int (0 : Int32)), .unset] [(.int (2 : Int32)), (.int (0 : Int32))])) (fun t k => XS.iloadN X22.here hx rfl (hb hby d1_10) rfl k) ?_
  refine Go.on (T' := T22) (g' := (mkF m 14 #[.val (.int pa0), .val (.ref (h0.size)), .val (.int (2 : Int32)), .val (.int (0 : Int32)), .unset] [])) (fun t k => XS.icmpNo X22.here hx rfl (hb hby d1_11) rfl (tlt (by decide : (0 : Int32) < (2 : Int32))).2.1 k) ?_
  refine Go.on (T' := T22) (g' := (mkF m 15 #[.val (.int pa0), .val (.ref (h0.size)), .val (.int (2 : Int32)), .val (.int (0 : Int32)), .unset] [(.ref (h0.size))])) (fun t k => XS.aloadN X22.here hx rfl (hb hby d1_14) rfl rfl k) ?_
  refine Go.on (T' := T22) (g' := (mkF m 16 #[.val (.int pa0), .val (.ref (h0.size)), .val (.int (2 : Int32)), .val (.int (0 : Int32)), .unset] [(.int (0 : Int32)), (.ref (h0.size))])) (fun t k => XS.iloadN X22.here hx rfl (hb hby d1_15) rfl k) ?_
  refine Go.on (T' := T22) (g' := (mkF m 17 #[.val (.int pa0), .val (.ref (h0.size)), .val (.int (2 : Int32)), .val (.int (0 : Int32)), .unset] [(.ref (w 1))])) (fun t k => X22.aaload hx (j := (0 : Int32)) (v := (.ref (w 1))) (by rw [e22]; exact A22.1) (State.isArrayOf_alike hZ.alike A22.2.1) rfl A22.2.2 (by show ¬ (_ ∨ (2 : Nat) ≤ _); decide) rfl (g := (mkF m 16 #[.val (.int pa0), .val (.ref (h0.size)), .val (.int (2 : Int32)), .val (.int (0 : Int32)), .unset] [(.int (0 : Int32)), (.ref (h0.size))])) rfl rfl (hb hby d1_16) t k) ?_
  refine Go.on (T' := T22) (g' := (mkF m 19 #[.val (.int pa0), .val (.ref (h0.size)), .val (.int (2 : Int32)), .val (.int (0 : Int32)), .val (.ref (w 1))] [])) (fun t k => XS.astore X22.here hx rfl (hb hby d1_17) rfl rfl (l' := #[.val (.int pa0), .val (.ref (h0.size)), .val (.int (2 : Int32)), .val (.int (0 : Int32)), .val (.ref (w 1))]) rfl k) ?_
  refine Go.on (T' := T22) (g' := (mkF m 21 #[.val (.int pa0), .val (.ref (h0.size)), .val (.int (2 : Int32)), .val (.int (0 : Int32)), .val (.ref (w 1))] [(.ref (w 1))])) (fun t k => XS.aload X22.here hx rfl (hb hby d1_19) rfl rfl k) ?_
  obtain ⟨T23, X23, e23, st23⟩ := getF X22 hx hZ hown (host := "") (Or.inl (hw _ (List.mem_of_getElem? (i := 21) rfl))) Via.refl e22 (pin_6 (pins_ext XT22 hP)) (g := (mkF m 21 #[.val (.int pa0), .val (.ref (h0.size)), .val (.int (2 : Int32)), .val (.int (0 : Int32)), .val (.ref (w 1))] [(.ref (w 1))])) rfl rfl (hb hby d1_21)
  refine Go.on (T' := T23) (g' := (mkF m 24 #[.val (.int pa0), .val (.ref (h0.size)), .val (.int (2 : Int32)), .val (.int (0 : Int32)), .val (.ref (w 1))] [(.int (0 : Int32))])) st23 ?_
  refine Go.on (T' := T23) (g' := (mkF m 25 #[.val (.int pa0), .val (.ref (h0.size)), .val (.int (2 : Int32)), .val (.int (0 : Int32)), .val (.ref (w 1))] [(.int pa0), (.int (0 : Int32))])) (fun t k => XS.iloadN X23.here hx rfl (hb hby d1_24) rfl k) ?_
  refine Go.on (T' := T23) (g' := (mkF m 31 #[.val (.int pa0), .val (.ref (h0.size)), .val (.int (2 : Int32)), .val (.int (0 : Int32)), .val (.ref (w 1))] [])) (fun t k => XS.icmpYes X23.here hx rfl (pc0 := 25) (pc' := 31) rfl (hb hby d1_25) rfl (feq hp0).2 (by decide) (by decide) k) ?_
  refine Go.on (T' := T23) (g' := (mkF m 34 #[.val (.int pa0), .val (.ref (h0.size)), .val (.int (2 : Int32)), .val (.int (1 : Int32)), .val (.ref (w 1))] [])) (fun t k => XS.iinc X23.here hx rfl (hb hby d1_31) rfl (l' := #[.val (.int pa0), .val (.ref (h0.size)), .val (.int (2 : Int32)), .val (.int (1 : Int32)), .val (.ref (w 1))]) rfl k) ?_
  refine Go.on (T' := T23) (g' := (mkF m 9 #[.val (.int pa0), .val (.ref (h0.size)), .val (.int (2 : Int32)), .val (.int (1 : Int32)), .val (.ref (w 1))] [])) (fun t k => XS.goto X23.here hx rfl (pc0 := 34) (pc' := 9) rfl (hb hby d1_34) (by decide) (by decide) k) ?_
  refine Go.on (T' := T23) (g' := (mkF m 10 #[.val (.int pa0), .val (.ref (h0.size)), .val (.int (2 : Int32)), .val (.int (1 : Int32)), .val (.ref (w 1))] [(.int (1 : Int32))])) (fun t k => XS.iloadN X23.here hx rfl (hb hby d1_9) rfl k) ?_
  refine Go.on (T' := T23) (g' := (mkF m 11 #[.val (.int pa0), .val (.ref (h0.size)), .val (.int (2 : Int32)), .val (.int (1 : Int32)), .val (.ref (w 1))] [(.int (2 : Int32)), (.int (1 : Int32))])) (fun t k => XS.iloadN X23.here hx rfl (hb hby d1_10) rfl k) ?_
  refine Go.on (T' := T23) (g' := (mkF m 14 #[.val (.int pa0), .val (.ref (h0.size)), .val (.int (2 : Int32)), .val (.int (1 : Int32)), .val (.ref (w 1))] [])) (fun t k => XS.icmpNo X23.here hx rfl (hb hby d1_11) rfl (tlt (by decide : (1 : Int32) < (2 : Int32))).2.1 k) ?_
  refine Go.on (T' := T23) (g' := (mkF m 15 #[.val (.int pa0), .val (.ref (h0.size)), .val (.int (2 : Int32)), .val (.int (1 : Int32)), .val (.ref (w 1))] [(.ref (h0.size))])) (fun t k => XS.aloadN X23.here hx rfl (hb hby d1_14) rfl rfl k) ?_
  refine Go.on (T' := T23) (g' := (mkF m 16 #[.val (.int pa0), .val (.ref (h0.size)), .val (.int (2 : Int32)), .val (.int (1 : Int32)), .val (.ref (w 1))] [(.int (1 : Int32)), (.ref (h0.size))])) (fun t k => XS.iloadN X23.here hx rfl (hb hby d1_15) rfl k) ?_
  refine Go.on (T' := T23) (g' := (mkF m 17 #[.val (.int pa0), .val (.ref (h0.size)), .val (.int (2 : Int32)), .val (.int (1 : Int32)), .val (.ref (w 1))] [(.ref (w 2))])) (fun t k => X23.aaload hx (j := (1 : Int32)) (v := (.ref (w 2))) (by rw [e23]; exact A22.1) (State.isArrayOf_alike hZ.alike A22.2.1) rfl A22.2.2 (by show ¬ (_ ∨ (2 : Nat) ≤ _); decide) rfl (g := (mkF m 16 #[.val (.int pa0), .val (.ref (h0.size)), .val (.int (2 : Int32)), .val (.int (1 : Int32)), .val (.ref (w 1))] [(.int (1 : Int32)), (.ref (h0.size))])) rfl rfl (hb hby d1_16) t k) ?_
  refine Go.on (T' := T23) (g' := (mkF m 19 #[.val (.int pa0), .val (.ref (h0.size)), .val (.int (2 : Int32)), .val (.int (1 : Int32)), .val (.ref (w 2))] [])) (fun t k => XS.astore X23.here hx rfl (hb hby d1_17) rfl rfl (l' := #[.val (.int pa0), .val (.ref (h0.size)), .val (.int (2 : Int32)), .val (.int (1 : Int32)), .val (.ref (w 2))]) rfl k) ?_
  refine Go.on (T' := T23) (g' := (mkF m 21 #[.val (.int pa0), .val (.ref (h0.size)), .val (.int (2 : Int32)), .val (.int (1 : Int32)), .val (.ref (w 2))] [(.ref (w 2))])) (fun t k => XS.aload X23.here hx rfl (hb hby d1_19) rfl rfl k) ?_
  obtain ⟨T24, X24, e24, st24⟩ := getF X23 hx hZ hown (host := "") (Or.inl (hw _ (List.mem_of_getElem? (i := 21) rfl))) Via.refl e23 (pin_7 (pins_ext XT22 hP)) (g := (mkF m 21 #[.val (.int pa0), .val (.ref (h0.size)), .val (.int (2 : Int32)), .val (.int (1 : Int32)), .val (.ref (w 2))] [(.ref (w 2))])) rfl rfl (hb hby d1_21)
  refine Go.on (T' := T24) (g' := (mkF m 24 #[.val (.int pa0), .val (.ref (h0.size)), .val (.int (2 : Int32)), .val (.int (1 : Int32)), .val (.ref (w 2))] [(.int (1 : Int32))])) st24 ?_
  refine Go.on (T' := T24) (g' := (mkF m 25 #[.val (.int pa0), .val (.ref (h0.size)), .val (.int (2 : Int32)), .val (.int (1 : Int32)), .val (.ref (w 2))] [(.int pa0), (.int (1 : Int32))])) (fun t k => XS.iloadN X24.here hx rfl (hb hby d1_24) rfl k) ?_
  refine Go.on (T' := T24) (g' := (mkF m 28 #[.val (.int pa0), .val (.ref (h0.size)), .val (.int (2 : Int32)), .val (.int (1 : Int32)), .val (.ref (w 2))] [])) (fun t k => XS.icmpNo X24.here hx rfl (hb hby d1_25) rfl (teq hp1).2 k) ?_
  refine Go.on (T' := T24) (g' := (mkF m 30 #[.val (.int pa0), .val (.ref (h0.size)), .val (.int (2 : Int32)), .val (.int (1 : Int32)), .val (.ref (w 2))] [(.ref (w 2))])) (fun t k => XS.aload X24.here hx rfl (hb hby d1_28) rfl rfl k) ?_
  obtain ⟨fs, hr, hrun, hended, hW, hsame⟩ := X24.leave (v := some (.ref (w 2))) (fun h => by rw [Bd.returns] at h; cases h)
  exact ⟨_, _, retOut X24 hx Bd.returns rfl (Or.inr (Or.inr (Or.inr (Or.inr ⟨rfl, rfl, rfl⟩)))) (hb hby d1_30) hr, hrun, hended, _, _, rfl, ⟨rfl, N22, own_extE e24 XT22, trivial⟩, ⟨_, rfl⟩, hW, hsame.mono (by decide) (by decide)⟩
set_option maxRecDepth 65536 in
set_option maxHeartbeats 40000000 in
theorem rm3_1 (l : Launch) (Z : State) (a0 : Array Value) (hw : ∀ d ∈ tables_1, d.before a0 Z = true) (ws : List Jvm.Cond) (w : Nat → Addr) (h0 : Heap) (n0 : Nat) (Z0 : n0 ≤ h0.size) (hP : Pins Z h0 w) :
    MetFree l (⟨"com/example/stubwright/stubwright/ConnectionMode", "code", "()I"⟩ : MethodName) (head1 (Jvm.Cond.code (⟨"com/example/stubwright/stubwright/ConnectionMode", "code", "()I"⟩ : MethodName) prog_14_method_4_code 1 (some .int) :: ws) ({ frames := 0, cells := 0, slots := 0, locals := 0 } : Room)) (fun a U => a = #[(.ref (w 2))] ∧ Z.Warmed39 U.vm ∧ U.heap = h0) (fun _ _ _ _ _ => True) (fun _ U o U' => ∃ v L, o = .returned v ∧ Qp (some (.int (1 : Int32))) h0 n0 v U'.heap L ∧ FrameEnd U o U' L ({ frames := 0, cells := 0, slots := 0, locals := 0 } : Room).cells ({ frames := 0, cells := 0, slots := 0, locals := 0 } : Room).slots) := by
  refine MetFree.of_bodySF (plainFor_of_name pn_0) hisR ?_
  intro p e s m args below meth c s₁ Bd hml0 hP0 hK
  obtain ⟨rfl, hZ, hh⟩ := hP0
  have hx := Bd.exec
  have hby := Bd.bytes
  have hml : c.maxLocals = 1 := hml0
  have hown : s.vm.findClass "com/example/stubwright/stubwright/ConnectionMode" = some m.cls := findClass_of_methodNamed Bd.named
  have hnm := (name_of_methodNamed Bd.named Bd.method).1
  have X0 : Stand p l e ({ frames := 0, cells := 0, slots := 0, locals := 0 } : Room) s m #[(.ref (w 2))] below meth c s₁ [] 0 0 := Stand.of_body Bd
  have e0 : s₁.heap = h0 := by rw [← hh, Bd.state]; rfl
  have N0 := Fr.nil n0
  suffices hgo : Go p e below (fun o U' => ∃ v L, o = .returned v ∧ Qp (some (.int (1 : Int32))) h0 n0 v U'.heap L ∧ FrameEnd s o U' L ({ frames := 0, cells := 0, slots := 0, locals := 0 } : Room).cells ({ frames := 0, cells := 0, slots := 0, locals := 0 } : Room).slots) s₁ (mkF m 0 #[.val (.ref (w 2))] []) by
    obtain ⟨s2, o, g1, g2, g3, g4⟩ := hgo
    refine ⟨s2, o, castTop (?_ : entryFrame m #[(.ref (w 2))] 1 = _) g1, g2, g3, g4⟩
    first | (simp [entryFrame, mkF, argsToLocals, Value.category]; done) | rfl
  refine Go.on (T' := s₁) (g' := (mkF m 1 #[.val (.ref (w 2))] [(.ref (w 2))])) (fun t k => XS.aloadN X0.here hx rfl (hb hby d3_0) rfl rfl k) ?_
  obtain ⟨T28, X28, e28, st28⟩ := getF X0 hx hZ hown (host := "") (Or.inl (hw _ (List.mem_of_getElem? (i := 21) rfl))) Via.refl e0 (pin_7 hP) (g := (mkF m 1 #[.val (.ref (w 2))] [(.ref (w 2))])) rfl rfl (hb hby d3_1)
  refine Go.on (T' := T28) (g' := (mkF m 4 #[.val (.ref (w 2))] [(.int (1 : Int32))])) st28 ?_
  obtain ⟨fs, hr, hrun, hended, hW, hsame⟩ := X28.leave (v := some (.int (1 : Int32))) (fun h => by rw [Bd.returns] at h; cases h)
  exact ⟨_, _, retOut X28 hx Bd.returns rfl (Or.inl ⟨rfl, Or.inl rfl, _, rfl⟩) (hb hby d3_4) hr, hrun, hended, _, _, rfl, ⟨rfl, N0, e28⟩, ⟨_, rfl⟩, hW, hsame.mono (by decide) (by decide)⟩
theorem d1_37 : decode prog_14_method_5_code 37 = .ok (.aconst_null, 1) := by decide +kernel
theorem d1_38 : decode prog_14_method_5_code 38 = .ok (.areturn, 1) := by decide +kernel
set_option maxRecDepth 65536 in
set_option maxHeartbeats 40000000 in
theorem rm1_2 (l : Launch) (Z : State) (a0 : Array Value) (hw : ∀ d ∈ tables_1, d.before a0 Z = true) (ws : List Jvm.Cond) (w : Nat → Addr) (h0 : Heap) (n0 : Nat) (Z0 : n0 ≤ h0.size) (hP : Pins Z h0 w) (pa0 : Int32) (hp0 : ¬ ((0 : Int32) = pa0)) (hp1 : ¬ ((1 : Int32) = pa0)) :
    MetFree l (⟨"com/example/stubwright/stubwright/ConnectionMode", "fromCode", "(I)Lcom/example/stubwright/stubwright/ConnectionMode;"⟩ : MethodName) (head1 (Jvm.Cond.code (⟨"com/example/stubwright/stubwright/ConnectionMode", "fromCode", "(I)Lcom/example/stubwright/stubwright/ConnectionMode;"⟩ : MethodName) prog_14_method_5_code 5 (some (.object "com/example/stubwright/stubwright/ConnectionMode")) :: ws) ({ frames := 2, cells := 1, slots := 2, locals := 25 } : Room)) (fun a U => a = #[(.int pa0)] ∧ Z.Warmed39 U.vm ∧ U.heap = h0) (fun _ _ _ _ _ => True) (fun _ U o U' => ∃ v L, o = .returned v ∧ Qx (some .null) (fun h => True) h0 n0 v U'.heap L ∧ FrameEnd U o U' L ({ frames := 2, cells := 1, slots := 2, locals := 25 } : Room).cells ({ frames := 2, cells := 1, slots := 2, locals := 25 } : Room).slots) := by
  refine MetFree.of_bodySF (plainFor_of_name pn_0) hisR ?_
  intro p e s m args below meth c s₁ Bd hml0 hP0 hK
  obtain ⟨rfl, hZ, hh⟩ := hP0
  have hx := Bd.exec
  have hby := Bd.bytes
  have hml : c.maxLocals = 5 := hml0
  have hown : s.vm.findClass "com/example/stubwright/stubwright/ConnectionMode" = some m.cls := findClass_of_methodNamed Bd.named
  have hnm := (name_of_methodNamed Bd.named Bd.method).1
  have X0 : Stand p l e ({ frames := 2, cells := 1, slots := 2, locals := 25 } : Room) s m #[(.int pa0)] below meth c s₁ [] 0 0 := Stand.of_body Bd
  have e0 : s₁.heap = h0 := by rw [← hh, Bd.state]; rfl
  have N0 := Fr.nil n0
  suffices hgo : Go p e below (fun o U' => ∃ v L, o = .returned v ∧ Qx (some .null) (fun h => True) h0 n0 v U'.heap L ∧ FrameEnd s o U' L ({ frames := 2, cells := 1, slots := 2, locals := 25 } : Room).cells ({ frames := 2, cells := 1, slots := 2, locals := 25 } : Room).slots) s₁ (mkF m 0 #[.val (.int pa0), .unset, .unset, .unset, .unset] []) by
    obtain ⟨s2, o, g1, g2, g3, g4⟩ := hgo
    refine ⟨s2, o, castTop (?_ : entryFrame m #[(.int pa0)] 5 = _) g1, g2, g3, g4⟩
    first | (simp [entryFrame, mkF, argsToLocals, Value.category]; done) | rfl
  obtain ⟨_, _, ⟨T30, L30, k30, n30⟩, -, X30, ⟨Lc30, hQ30, l30, y30, z30⟩, st30⟩ := Jvm.LawKit.callS X0 hx (y := (⟨"com/example/stubwright/stubwright/ConnectionMode", "values", "()[Lcom/example/stubwright/stubwright/ConnectionMode;"⟩ : MethodName)) hown (mvT hZ (hw _ (List.mem_of_getElem? (i := 4) rfl))) (mvT hZ (hw _ (List.mem_of_getElem? (i := 5) rfl))) (mvT hZ (hw _ (List.mem_of_getElem? (i := 2) rfl))) (mvT hZ (hw _ (List.mem_of_getElem? (i := 6) rfl))) (by decide) (backOf (W := 0) (rm2_0 l Z a0 hw [] w h0 n0 (Nat.le_trans Z0 (own_ext0 h0).1) hP) hZ (hw _ (List.mem_of_getElem? (i := 6) rfl)) (hw _ (List.mem_of_getElem? (i := 2) rfl)) (by decide) (by decide)) (g := (mkF m 0 #[.val (.int pa0), .unset, .unset, .unset, .unset] [])) rfl (by rw [hml]; rfl) (argsL := []) (rest := []) (lenOf pd_0 rfl) rfl (by show 2 * 0 + _ ≤ _; exact Nat.le_of_eq rfl) (hb hby d1_0) (fun _ _ => ⟨rfl, e0, (by decide : 0 + 1 ≤ _), (by decide : 0 + 2 ≤ _)⟩)
  dsimp only [Pt.U, Pt.locs, Pt.cells, Pt.slots] at X30 l30 y30 z30 st30 hQ30
  subst l30 y30 z30
  obtain ⟨rfl, N30q, x30, f30⟩ := hQ30
  have N30 := Fr.app N0 N30q
  have e30 : T30.heap = T30.heap := rfl
  have sz30 : h0.size ≤ h0.size := (own_ext0 h0).1
  have XT30 := own_ext2 (own_ext0 h0) x30
  obtain ⟨k30, A30⟩ := f30
  refine Go.on (T' := T30) (g' := (mkF m 3 #[.val (.int pa0), .unset, .unset, .unset, .unset] [(.ref (h0.size))])) st30 ?_
  refine Go.on (T' := T30) (g' := (mkF m 4 #[.val (.int pa0), .val (.ref (h0.size)), .unset, .unset, .unset] [])) (fun t k => XS.astoreN X30.here hx rfl (hb hby d1_3) rfl rfl (l' := #[.val (.int pa0), .val (.ref (h0.size)), .unset, .unset, .unset]) rfl k) ?_
  refine Go.on (T' := T30) (g' := (mkF m 5 #[.val (.int pa0), .val (.ref (h0.size)), .unset, .unset, .unset] [(.ref (h0.size))])) (fun t k => XS.aloadN X30.here hx rfl (hb hby d1_4) rfl rfl k) ?_
  refine Go.on (T' := T30) (g' := (mkF m 6 #[.val (.int pa0), .val (.ref (h0.size)), .unset, .unset, .unset] [(.int (2 : Int32))])) (fun t k => X30.arraylength hx (by rw [e30]; exact A30.1) (State.isArrayOf_alike hZ.alike A30.2.1) (g := (mkF m 5 #[.val (.int pa0), .val (.ref (h0.size)), .unset, .unset, .unset] [(.ref (h0.size))])) rfl rfl (hb hby d1_5) t k) ?_
  refine Go.on (T' := T30) (g' := (mkF m 7 #[.val (.int pa0), .val (.ref (h0.size)), .val (.int (2 : Int32)), .unset, .unset] [])) (fun t k => XS.istoreN X30.here hx rfl (hb hby d1_6) rfl (l' := #[.val (.int pa0), .val (.ref (h0.size)), .val (.int (2 : Int32)), .unset, .unset]) rfl k) ?_
  refine Go.on (T' := T30) (g' := (mkF m 8 #[.val (.int pa0), .val (.ref (h0.size)), .val (.int (2 : Int32)), .unset, .unset] [(.int (0 : Int32))])) (fun t k => XS.iconst X30.here hx rfl (hb hby d1_7) k) ?_
  refine Go.on (T' := T30) (g' := (mkF m 9 #[.val (.int pa0), .val (.ref (h0.size)), .val (.int (2 : Int32)), .val (.int (0 : Int32)), .unset] [])) (fun t k => XS.istoreN X30.here hx rfl (hb hby d1_8) rfl (l' := #[.val (.int pa0), .val (.ref (h0.size)), .val (.int (2 : Int32)), .val (.int (0 : Int32)), .unset]) rfl k) ?_
  refine Go.on (T' := T30) (g' := (mkF m 10 #[.val (.int pa0), .val (.ref (h0.size)), .val (.int (2 : Int32)), .val (.int (0 : Int32)), .unset] [(.int (0 : Int32))])) (fun t k => XS.iloadN X30.here hx rfl (hb hby d1_9) rfl k) ?_
  refine Go.on (T' := T30) (g' := (mkF m 11 #[.val (.int pa0), .val (.ref (h0.size)), .val (.int (2 : Int32)), .val (.int (0 : Int32)), .unset] [(.int (2 : Int32)), (.int (0 : Int32))])) (fun t k => XS.iloadN X30.here hx rfl (hb hby d1_10) rfl k) ?_
  refine Go.on (T' := T30) (g' := (mkF m 14 #[.val (.int pa0), .val (.ref (h0.size)), .val (.int (2 : Int32)), .val (.int (0 : Int32)), .unset] [])) (fun t k => XS.icmpNo X30.here hx rfl (hb hby d1_11) rfl (tlt (by decide : (0 : Int32) < (2 : Int32))).2.1 k) ?_
  refine Go.on (T' := T30) (g' := (mkF m 15 #[.val (.int pa0), .val (.ref (h0.size)), .val (.int (2 : Int32)), .val (.int (0 : Int32)), .unset] [(.ref (h0.size))])) (fun t k => XS.aloadN X30.here hx rfl (hb hby d1_14) rfl rfl k) ?_
  refine Go.on (T' := T30) (g' := (mkF m 16 #[.val (.int pa0), .val (.ref (h0.size)), .val (.int (2 : Int32)), .val (.int (0 : Int32)), .unset] [(.int (0 : Int32)), (.ref (h0.size))])) (fun t k => XS.iloadN X30.here hx rfl (hb hby d1_15) rfl k) ?_
  refine Go.on (T' := T30) (g' := (mkF m 17 #[.val (.int pa0), .val (.ref (h0.size)), .val (.int (2 : Int32)), .val (.int (0 : Int32)), .unset] [(.ref (w 1))])) (fun t k => X30.aaload hx (j := (0 : Int32)) (v := (.ref (w 1))) (by rw [e30]; exact A30.1) (State.isArrayOf_alike hZ.alike A30.2.1) rfl A30.2.2 (by show ¬ (_ ∨ (2 : Nat) ≤ _); decide) rfl (g := (mkF m 16 #[.val (.int pa0), .val (.ref (h0.size)), .val (.int (2 : Int32)), .val (.int (0 : Int32)), .unset] [(.int (0 : Int32)), (.ref (h0.size))])) rfl rfl (hb hby d1_16) t k) ?_
  refine Go.on (T' := T30) (g' := (mkF m 19 #[.val (.int pa0), .val (.ref (h0.size)), .val (.int (2 : Int32)), .val (.int (0 : Int32)), .val (.ref (w 1))] [])) (fun t k => XS.astore X30.here hx rfl (hb hby d1_17) rfl rfl (l' := #[.val (.int pa0), .val (.ref (h0.size)), .val (.int (2 : Int32)), .val (.int (0 : Int32)), .val (.ref (w 1))]) rfl k) ?_
  refine Go.on (T' := T30) (g' := (mkF m 21 #[.val (.int pa0), .val (.ref (h0.size)), .val (.int (2 : Int32)), .val (.int (0 : Int32)), .val (.ref (w 1))] [(.ref (w 1))])) (fun t k => XS.aload X30.here hx rfl (hb hby d1_19) rfl rfl k) ?_
  obtain ⟨T31, X31, e31, st31⟩ := getF X30 hx hZ hown (host := "") (Or.inl (hw _ (List.mem_of_getElem? (i := 21) rfl))) Via.refl e30 (pin_6 (pins_ext XT30 hP)) (g := (mkF m 21 #[.val (.int pa0), .val (.ref (h0.size)), .val (.int (2 : Int32)), .val (.int (0 : Int32)), .val (.ref (w 1))] [(.ref (w 1))])) rfl rfl (hb hby d1_21)
  refine Go.on (T' := T31) (g' := (mkF m 24 #[.val (.int pa0), .val (.ref (h0.size)), .val (.int (2 : Int32)), .val (.int (0 : Int32)), .val (.ref (w 1))] [(.int (0 : Int32))])) st31 ?_
  refine Go.on (T' := T31) (g' := (mkF m 25 #[.val (.int pa0), .val (.ref (h0.size)), .val (.int (2 : Int32)), .val (.int (0 : Int32)), .val (.ref (w 1))] [(.int pa0), (.int (0 : Int32))])) (fun t k => XS.iloadN X31.here hx rfl (hb hby d1_24) rfl k) ?_
  refine Go.on (T' := T31) (g' := (mkF m 31 #[.val (.int pa0), .val (.ref (h0.size)), .val (.int (2 : Int32)), .val (.int (0 : Int32)), .val (.ref (w 1))] [])) (fun t k => XS.icmpYes X31.here hx rfl (pc0 := 25) (pc' := 31) rfl (hb hby d1_25) rfl (feq hp0).2 (by decide) (by decide) k) ?_
  refine Go.on (T' := T31) (g' := (mkF m 34 #[.val (.int pa0), .val (.ref (h0.size)), .val (.int (2 : Int32)), .val (.int (1 : Int32)), .val (.ref (w 1))] [])) (fun t k => XS.iinc X31.here hx rfl (hb hby d1_31) rfl (l' := #[.val (.int pa0), .val (.ref (h0.size)), .val (.int (2 : Int32)), .val (.int (1 : Int32)), .val (.ref (w 1))]) rfl k) ?_
  refine Go.on (T' := T31) (g' := (mkF m 9 #[.val (.int pa0), .val (.ref (h0.size)), .val (.int (2 : Int32)), .val (.int (1 : Int32)), .val (.ref (w 1))] [])) (fun t k => XS.goto X31.here hx rfl (pc0 := 34) (pc' := 9) rfl (hb hby d1_34) (by decide) (by decide) k) ?_
  refine Go.on (T' := T31) (g' := (mkF m 10 #[.val (.int pa0), .val (.ref (h0.size)), .val (.int (2 : Int32)), .val (.int (1 : Int32)), .val (.ref (w 1))] [(.int (1 : Int32))])) (fun t k => XS.iloadN X31.here hx rfl (hb hby d1_9) rfl k) ?_
  refine Go.on (T' := T31) (g' := (mkF m 11 #[.val (.int pa0), .val (.ref (h0.size)), .val (.int (2 : Int32)), .val (.int (1 : Int32)), .val (.ref (w 1))] [(.int (2 : Int32)), (.int (1 : Int32))])) (fun t k => XS.iloadN X31.here hx rfl (hb hby d1_10) rfl k) ?_
  refine Go.on (T' := T31) (g' := (mkF m 14 #[.val (.int pa0), .val (.ref (h0.size)), .val (.int (2 : Int32)), .val (.int (1 : Int32)), .val (.ref (w 1))] [])) (fun t k => XS.icmpNo X31.here hx rfl (hb hby d1_11) rfl (tlt (by decide : (1 : Int32) < (2 : Int32))).2.1 k) ?_
  refine Go.on (T' := T31) (g' := (mkF m 15 #[.val (.int pa0), .val (.ref (h0.size)), .val (.int (2 : Int32)), .val (.int (1 : Int32)), .val (.ref (w 1))] [(.ref (h0.size))])) (fun t k => XS.aloadN X31.here hx rfl (hb hby d1_14) rfl rfl k) ?_
  refine Go.on (T' := T31) (g' := (mkF m 16 #[.val (.int pa0), .val (.ref (h0.size)), .val (.int (2 : Int32)), .val (.int (1 : Int32)), .val (.ref (w 1))] [(.int (1 : Int32)), (.ref (h0.size))])) (fun t k => XS.iloadN X31.here hx rfl (hb hby d1_15) rfl k) ?_
  refine Go.on (T' := T31) (g' := (mkF m 17 #[.val (.int pa0), .val (.ref (h0.size)), .val (.int (2 : Int32)), .val (.int (1 : Int32)), .val (.ref (w 1))] [(.ref (w 2))])) (fun t k => X31.aaload hx (j := (1 : Int32)) (v := (.ref (w 2))) (by rw [e31]; exact A30.1) (State.isArrayOf_alike hZ.alike A30.2.1) rfl A30.2.2 (by show ¬ (_ ∨ (2 : Nat) ≤ _); decide) rfl (g := (mkF m 16 #[.val (.int pa0), .val (.ref (h0.size)), .val (.int (2 : Int32)), .val (.int (1 : Int32)), .val (.ref (w 1))] [(.int (1 : Int32)), (.ref (h0.size))])) rfl rfl (hb hby d1_16) t k) ?_
  refine Go.on (T' := T31) (g' := (mkF m 19 #[.val (.int pa0), .val (.ref (h0.size)), .val (.int (2 : Int32)), .val (.int (1 : Int32)), .val (.ref (w 2))] [])) (fun t k => XS.astore X31.here hx rfl (hb hby d1_17) rfl rfl (l' := #[.val (.int pa0), .val (.ref (h0.size)), .val (.int (2 : Int32)), .val (.int (1 : Int32)), .val (.ref (w 2))]) rfl k) ?_
  refine Go.on (T' := T31) (g' := (mkF m 21 #[.val (.int pa0), .val (.ref (h0.size)), .val (.int (2 : Int32)), .val (.int (1 : Int32)), .val (.ref (w 2))] [(.ref (w 2))])) (fun t k => XS.aload X31.here hx rfl (hb hby d1_19) rfl rfl k) ?_
  obtain ⟨T32, X32, e32, st32⟩ := getF X31 hx hZ hown (host := "") (Or.inl (hw _ (List.mem_of_getElem? (i := 21) rfl))) Via.refl e31 (pin_7 (pins_ext XT30 hP)) (g := (mkF m 21 #[.val (.int pa0), .val (.ref (h0.size)), .val (.int (2 : Int32)), .val (.int (1 : Int32)), .val (.ref (w 2))] [(.ref (w 2))])) rfl rfl (hb hby d1_21)
  refine Go.on (T' := T32) (g' := (mkF m 24 #[.val (.int pa0), .val (.ref (h0.size)), .val (.int (2 : Int32)), .val (.int (1 : Int32)), .val (.ref (w 2))] [(.int (1 : Int32))])) st32 ?_
  refine Go.on (T' := T32) (g' := (mkF m 25 #[.val (.int pa0), .val (.ref (h0.size)), .val (.int (2 : Int32)), .val (.int (1 : Int32)), .val (.ref (w 2))] [(.int pa0), (.int (1 : Int32))])) (fun t k => XS.iloadN X32.here hx rfl (hb hby d1_24) rfl k) ?_
  refine Go.on (T' := T32) (g' := (mkF m 31 #[.val (.int pa0), .val (.ref (h0.size)), .val (.int (2 : Int32)), .val (.int (1 : Int32)), .val (.ref (w 2))] [])) (fun t k => XS.icmpYes X32.here hx rfl (pc0 := 25) (pc' := 31) rfl (hb hby d1_25) rfl (feq hp1).2 (by decide) (by decide) k) ?_
  refine Go.on (T' := T32) (g' := (mkF m 34 #[.val (.int pa0), .val (.ref (h0.size)), .val (.int (2 : Int32)), .val (.int (2 : Int32)), .val (.ref (w 2))] [])) (fun t k => XS.iinc X32.here hx rfl (hb hby d1_31) rfl (l' := #[.val (.int pa0), .val (.ref (h0.size)), .val (.int (2 : Int32)), .val (.int (2 : Int32)), .val (.ref (w 2))]) rfl k) ?_
  refine Go.on (T' := T32) (g' := (mkF m 9 #[.val (.int pa0), .val (.ref (h0.size)), .val (.int (2 : Int32)), .val (.int (2 : Int32)), .val (.ref (w 2))] [])) (fun t k => XS.goto X32.here hx rfl (pc0 := 34) (pc' := 9) rfl (hb hby d1_34) (by decide) (by decide) k) ?_
  refine Go.on (T' := T32) (g' := (mkF m 10 #[.val (.int pa0), .val (.ref (h0.size)), .val (.int (2 : Int32)), .val (.int (2 : Int32)), .val (.ref (w 2))] [(.int (2 : Int32))])) (fun t k => XS.iloadN X32.here hx rfl (hb hby d1_9) rfl k) ?_
  refine Go.on (T' := T32) (g' := (mkF m 11 #[.val (.int pa0), .val (.ref (h0.size)), .val (.int (2 : Int32)), .val (.int (2 : Int32)), .val (.ref (w 2))] [(.int (2 : Int32)), (.int (2 : Int32))])) (fun t k => XS.iloadN X32.here hx rfl (hb hby d1_10) rfl k) ?_
  refine Go.on (T' := T32) (g' := (mkF m 37 #[.val (.int pa0), .val (.ref (h0.size)), .val (.int (2 : Int32)), .val (.int (2 : Int32)), .val (.ref (w 2))] [])) (fun t k => XS.icmpYes X32.here hx rfl (pc0 := 11) (pc' := 37) rfl (hb hby d1_11) rfl (flt (by decide : ¬ ((2 : Int32) < (2 : Int32)))).2.1 (by decide) (by decide) k) ?_
  refine Go.on (T' := T32) (g' := (mkF m 38 #[.val (.int pa0), .val (.ref (h0.size)), .val (.int (2 : Int32)), .val (.int (2 : Int32)), .val (.ref (w 2))] [.null])) (fun t k => XS.aconstNull X32.here hx rfl (hb hby d1_37) k) ?_
  obtain ⟨fs, hr, hrun, hended, hW, hsame⟩ := X32.leave (v := some .null) (fun h => by rw [Bd.returns] at h; cases h)
  exact ⟨_, _, retOut X32 hx Bd.returns rfl (Or.inr (Or.inr (Or.inr (Or.inr ⟨rfl, rfl, rfl⟩)))) (hb hby d1_38) hr, hrun, hended, _, _, rfl, ⟨rfl, N30, own_extE e32 XT30, trivial⟩, ⟨_, rfl⟩, hW, hsame.mono (by decide) (by decide)⟩
theorem pn_1 : plainName "com/example/stubwright/stubwright/ConnectionModeFromCodePinLaw" = true := by first | (simp [plainName, overriddenIn]; done) | decide +kernel
set_option maxRecDepth 65536 in
set_option maxHeartbeats 40000000 in
theorem rm0 (l : Launch) (Z : State) (a0 : Array Value) (hw : ∀ d ∈ tables_1, d.before a0 Z = true) (ws : List Jvm.Cond) (w : Nat → Addr) (h0 : Heap) (n0 : Nat) (Z0 : n0 ≤ h0.size) (hP : Pins Z h0 w) (i0 : Int32) (i1 : Int32) :
    MetFree l x (head1 (Jvm.Cond.code x code maxLocals ret :: ws) room_1) (fun a U => a = #[(.int i0), (.int i1)] ∧ Z.Warmed39 U.vm ∧ U.heap = h0) (fun _ _ _ _ _ => True) (fun _ U o U' => ∃ v L, o = .returned v ∧ Ql (some (.int (1 : Int32))) n0 v L ∧ FrameEnd U o U' L 16 128) := by
  refine MetFree.of_bodySF (plainFor_of_name pn_1) hisR ?_
  intro p e s m args below meth c s₁ Bd hml0 hP0 hK
  obtain ⟨rfl, hZ, hh⟩ := hP0
  have hx := Bd.exec
  have hby := Bd.bytes
  have hml : c.maxLocals = 5 := hml0
  have hown : s.vm.findClass "com/example/stubwright/stubwright/ConnectionModeFromCodePinLaw" = some m.cls := findClass_of_methodNamed Bd.named
  have hnm := (name_of_methodNamed Bd.named Bd.method).1
  have X0 : Stand p l e room_1 s m #[(.int i0), (.int i1)] below meth c s₁ [] 0 0 := Stand.of_body Bd
  have e0 : s₁.heap = h0 := by rw [← hh, Bd.state]; rfl
  have N0 := Fr.nil n0
  suffices hgo : Go p e below (fun o U' => ∃ v L, o = .returned v ∧ Ql (some (.int (1 : Int32))) n0 v L ∧ FrameEnd s o U' L 16 128) s₁ (mkF m 0 #[.val (.int i0), .val (.int i1), .unset, .unset, .unset] []) by
    obtain ⟨s2, o, g1, g2, g3, g4⟩ := hgo
    refine ⟨s2, o, castTop (?_ : entryFrame m #[(.int i0), (.int i1)] maxLocals = _) g1, g2, g3, g4⟩
    first | (simp [entryFrame, mkF, argsToLocals, Value.category, maxLocals]; done) | rfl
  refine Go.on (T' := s₁) (g' := (mkF m 1 #[.val (.int i0), .val (.int i1), .unset, .unset, .unset] [(.int i1)])) (fun t k => XS.iloadN X0.here hx rfl (hb hby at_0) rfl k) ?_
  refine Go.on (T' := s₁) (g' := (mkF m 2 #[.val (.int i0), .val (.int i1), .unset, .unset, .unset] [(.int (1 : Int32)), (.int i1)])) (fun t k => XS.iconst X0.here hx rfl (hb hby at_1) k) ?_
  refine Go.on (T' := s₁) (g' := (mkF m 3 #[.val (.int i0), .val (.int i1), .unset, .unset, .unset] [(.int (i1 &&& (1 : Int32)))])) (fun t k => XS.iand X0.here hx rfl (hb hby at_2) rfl k) ?_
  by_cases h1 : (i1 &&& (1 : Int32)) = (0 : Int32)
  · skip
    refine Go.on (T' := s₁) (g' := (mkF m 14 #[.val (.int i0), .val (.int i1), .unset, .unset, .unset] [])) (fun t k => XS.ifYes X0.here hx rfl (pc0 := 3) (pc' := 14) rfl (hb hby at_3) rfl ((if0 _ _).trans (teq h1).1) (by decide) (by decide) k) ?_
    refine Go.on (T' := s₁) (g' := (mkF m 15 #[.val (.int i0), .val (.int i1), .unset, .unset, .unset] [(.int i0)])) (fun t k => XS.iloadN X0.here hx rfl (hb hby at_14) rfl k) ?_
    refine Go.on (T' := s₁) (g' := (mkF m 16 #[.val (.int i0), .val (.int i1), .val (.int i0), .unset, .unset] [])) (fun t k => XS.istoreN X0.here hx rfl (hb hby at_15) rfl (l' := #[.val (.int i0), .val (.int i1), .val (.int i0), .unset, .unset]) rfl k) ?_
    refine Go.on (T' := s₁) (g' := (mkF m 17 #[.val (.int i0), .val (.int i1), .val (.int i0), .unset, .unset] [(.int i0)])) (fun t k => XS.iloadN X0.here hx rfl (hb hby at_16) rfl k) ?_
    by_cases h10 : (0 : Int32) = i0
    · skip
      obtain ⟨_, _, ⟨T16, L16, k16, n16⟩, -, X16, ⟨Lc16, hQ16, l16, y16, z16⟩, st16⟩ := Jvm.LawKit.callS X0 hx (y := (⟨"com/example/stubwright/stubwright/ConnectionMode", "fromCode", "(I)Lcom/example/stubwright/stubwright/ConnectionMode;"⟩ : MethodName)) hown (mvT hZ (hw _ (List.mem_of_getElem? (i := 0) rfl))) (mvT hZ (hw _ (List.mem_of_getElem? (i := 1) rfl))) (mvT hZ (hw _ (List.mem_of_getElem? (i := 2) rfl))) (mvT hZ (hw _ (List.mem_of_getElem? (i := 3) rfl))) (by decide) (backOf (W := 0) (rm1_0 l Z a0 hw [] w h0 n0 (Nat.le_trans Z0 (own_ext0 h0).1) hP i0 h10) hZ (hw _ (List.mem_of_getElem? (i := 3) rfl)) (hw _ (List.mem_of_getElem? (i := 2) rfl)) (by decide) (by decide)) (g := (mkF m 17 #[.val (.int i0), .val (.int i1), .val (.int i0), .unset, .unset] [(.int i0)])) rfl (by rw [hml]; rfl) (argsL := [(.int i0)]) (rest := []) (lenOf pd_1 rfl) rfl (by show 2 * 0 + _ ≤ _; exact Nat.le_of_eq rfl) (hb hby at_17) (fun _ _ => ⟨rfl, e0, (by decide : 0 + 1 ≤ _), (by decide : 0 + 2 ≤ _)⟩)
      dsimp only [Pt.U, Pt.locs, Pt.cells, Pt.slots] at X16 l16 y16 z16 st16 hQ16
      subst l16 y16 z16
      obtain ⟨rfl, N16q, x16, f16⟩ := hQ16
      have N16 := Fr.app N0 N16q
      have e16 : T16.heap = T16.heap := rfl
      have XT16 := own_ext2 (own_ext0 h0) x16
      refine Go.on (T' := T16) (g' := (mkF m 20 #[.val (.int i0), .val (.int i1), .val (.int i0), .unset, .unset] [(.ref (w 1))])) st16 ?_
      refine Go.on (T' := T16) (g' := (mkF m 21 #[.val (.int i0), .val (.int i1), .val (.int i0), .val (.ref (w 1)), .unset] [])) (fun t k => XS.astoreN X16.here hx rfl (hb hby at_20) rfl rfl (l' := #[.val (.int i0), .val (.int i1), .val (.int i0), .val (.ref (w 1)), .unset]) rfl k) ?_
      refine Go.on (T' := T16) (g' := (mkF m 22 #[.val (.int i0), .val (.int i1), .val (.int i0), .val (.ref (w 1)), .unset] [(.int i0)])) (fun t k => XS.iloadN X16.here hx rfl (hb hby at_21) rfl k) ?_
      refine Go.on (T' := T16) (g' := (mkF m 25 #[.val (.int i0), .val (.int i1), .val (.int i0), .val (.ref (w 1)), .unset] [])) (fun t k => XS.ifNo X16.here hx rfl (hb hby at_22) rfl ((if0 _ _).trans (teq h10.symm).2) k) ?_
      obtain ⟨T17, X17, e17, st17⟩ := getS2 X16 hx hZ hown (host := "") (Or.inl (hw _ (List.mem_of_getElem? (i := 29) rfl))) Via.refl e16 (pin_1 (pins_ext XT16 hP)) (g := (mkF m 25 #[.val (.int i0), .val (.int i1), .val (.int i0), .val (.ref (w 1)), .unset] [])) rfl (hb hby at_25)
      refine Go.on (T' := T17) (g' := (mkF m 28 #[.val (.int i0), .val (.int i1), .val (.int i0), .val (.ref (w 1)), .unset] [(.ref (w 1))])) st17 ?_
      refine Go.on (T' := T17) (g' := (mkF m 30 #[.val (.int i0), .val (.int i1), .val (.int i0), .val (.ref (w 1)), .val (.ref (w 1))] [])) (fun t k => XS.astore X17.here hx rfl (hb hby at_28) rfl rfl (l' := #[.val (.int i0), .val (.int i1), .val (.int i0), .val (.ref (w 1)), .val (.ref (w 1))]) rfl k) ?_
      refine Go.on (T' := T17) (g' := (mkF m 49 #[.val (.int i0), .val (.int i1), .val (.int i0), .val (.ref (w 1)), .val (.ref (w 1))] [])) (fun t k => XS.goto X17.here hx rfl (pc0 := 30) (pc' := 49) rfl (hb hby at_30) (by decide) (by decide) k) ?_
      refine Go.on (T' := T17) (g' := (mkF m 50 #[.val (.int i0), .val (.int i1), .val (.int i0), .val (.ref (w 1)), .val (.ref (w 1))] [(.ref (w 1))])) (fun t k => XS.aloadN X17.here hx rfl (hb hby at_49) rfl rfl k) ?_
      refine Go.on (T' := T17) (g' := (mkF m 52 #[.val (.int i0), .val (.int i1), .val (.int i0), .val (.ref (w 1)), .val (.ref (w 1))] [(.ref (w 1)), (.ref (w 1))])) (fun t k => XS.aload X17.here hx rfl (hb hby at_50) rfl rfl k) ?_
      refine Go.on (T' := T17) (g' := (mkF m 57 #[.val (.int i0), .val (.int i1), .val (.int i0), .val (.ref (w 1)), .val (.ref (w 1))] [])) (fun t k => Jvm.RoadKit.acmp (g := (mkF m 52 #[.val (.int i0), .val (.int i1), .val (.int i0), .val (.ref (w 1)), .val (.ref (w 1))] [(.ref (w 1)), (.ref (w 1))])) X17 hx rfl rfl rfl (pc0 := 52) (pc' := 57) (same := true) rfl (hb hby at_52) rfl (decide_eq_true rfl) (by decide) (by decide) k) ?_
      refine Go.on (T' := T17) (g' := (mkF m 58 #[.val (.int i0), .val (.int i1), .val (.int i0), .val (.ref (w 1)), .val (.ref (w 1))] [(.ref (w 1))])) (fun t k => XS.aloadN X17.here hx rfl (hb hby at_57) rfl rfl k) ?_
      refine Go.on (T' := T17) (g' := (mkF m 61 #[.val (.int i0), .val (.int i1), .val (.int i0), .val (.ref (w 1)), .val (.ref (w 1))] [])) (fun t k => XS.ifnullNo X17.here hx rfl (hb hby at_58) rfl k) ?_
      refine Go.on (T' := T17) (g' := (mkF m 62 #[.val (.int i0), .val (.int i1), .val (.int i0), .val (.ref (w 1)), .val (.ref (w 1))] [(.ref (w 1))])) (fun t k => XS.aloadN X17.here hx rfl (hb hby at_61) rfl rfl k) ?_
      obtain ⟨cq20, kq20, q20a, q20b, q20c⟩ := isOf hZ e17 (pin_4 (pins_ext XT16 hP))
      obtain ⟨_, _, ⟨T20, L20, k20, n20⟩, -, X20, ⟨Lc20, hQ20, l20, y20, z20⟩, st20⟩ := X17.virtualBack hx (y := (⟨"com/example/stubwright/stubwright/ConnectionMode", "code", "()I"⟩ : MethodName)) (z := (⟨"com/example/stubwright/stubwright/ConnectionMode", "code", "()I"⟩ : MethodName)) hown (mvT hZ (hw _ (List.mem_of_getElem? (i := 24) rfl))) (mvT hZ (hw _ (List.mem_of_getElem? (i := 25) rfl))) (notFace_of_selects (args := #[]) (mvT hZ (hw _ (List.mem_of_getElem? (i := 27) rfl)))) (mvT hZ (hw _ (List.mem_of_getElem? (i := 27) rfl))) (mvT hZ (hw _ (List.mem_of_getElem? (i := 26) rfl))) (by decide) (backOf (W := 0) (rm3_0 l Z a0 hw [] w T16.heap n0 (Nat.le_trans Z0 XT16.1) (pins_ext XT16 hP)) hZ (hw _ (List.mem_of_getElem? (i := 28) rfl)) (hw _ (List.mem_of_getElem? (i := 2) rfl)) (by decide) (by decide)) q20a q20c (g := (mkF m 62 #[.val (.int i0), .val (.int i1), .val (.int i0), .val (.ref (w 1)), .val (.ref (w 1))] [(.ref (w 1))])) rfl (by rw [hml]; rfl) (Steps.refl _) (argsL := []) (rest := []) (lenOf pd_2 rfl) rfl (by show 2 * 0 + _ ≤ _; exact Nat.le_of_eq rfl) (hb hby at_62) (fun _ _ => ⟨rfl, e17, (by decide : 1 + 0 ≤ _), (by decide : 2 + 0 ≤ _)⟩)
      dsimp only [Pt.U, Pt.locs, Pt.cells, Pt.slots] at X20 l20 y20 z20 st20 hQ20
      subst l20 y20 z20
      obtain ⟨rfl, N20q, e20⟩ := hQ20
      have N20 := Fr.app N16 N20q
      refine Go.on (T' := T20) (g' := (mkF m 65 #[.val (.int i0), .val (.int i1), .val (.int i0), .val (.ref (w 1)), .val (.ref (w 1))] [(.int (0 : Int32))])) (fun t k => st20.trans k) ?_
      refine Go.on (T' := T20) (g' := (mkF m 66 #[.val (.int i0), .val (.int i1), .val (.int i0), .val (.ref (w 1)), .val (.ref (w 1))] [(.int i0), (.int (0 : Int32))])) (fun t k => XS.iloadN X20.here hx rfl (hb hby at_65) rfl k) ?_
      refine Go.on (T' := T20) (g' := (mkF m 71 #[.val (.int i0), .val (.int i1), .val (.int i0), .val (.ref (w 1)), .val (.ref (w 1))] [])) (fun t k => XS.icmpYes X20.here hx rfl (pc0 := 66) (pc' := 71) rfl (hb hby at_66) rfl (teq h10).1 (by decide) (by decide) k) ?_
      refine Go.on (T' := T20) (g' := (mkF m 72 #[.val (.int i0), .val (.int i1), .val (.int i0), .val (.ref (w 1)), .val (.ref (w 1))] [(.int (1 : Int32))])) (fun t k => XS.iconst X20.here hx rfl (hb hby at_71) k) ?_
      obtain ⟨fs, hr, hrun, hended, hW, hsame⟩ := X20.leave (v := some (.int (1 : Int32))) (fun h => by rw [Bd.returns] at h; cases h)
      exact ⟨_, _, retN X20 hx (t := .boolean) Bd.returns (by simp) (hb hby at_72) hr, hrun, hended, _, _, rfl, ⟨rfl, N20⟩, ⟨_, rfl⟩, hW, hsame.mono (by decide) (by decide)⟩
    · skip
      by_cases h21 : (1 : Int32) = i0
      · skip
        obtain ⟨_, _, ⟨T25, L25, k25, n25⟩, -, X25, ⟨Lc25, hQ25, l25, y25, z25⟩, st25⟩ := Jvm.LawKit.callS X0 hx (y := (⟨"com/example/stubwright/stubwright/ConnectionMode", "fromCode", "(I)Lcom/example/stubwright/stubwright/ConnectionMode;"⟩ : MethodName)) hown (mvT hZ (hw _ (List.mem_of_getElem? (i := 0) rfl))) (mvT hZ (hw _ (List.mem_of_getElem? (i := 1) rfl))) (mvT hZ (hw _ (List.mem_of_getElem? (i := 2) rfl))) (mvT hZ (hw _ (List.mem_of_getElem? (i := 3) rfl))) (by decide) (backOf (W := 0) (rm1_1 l Z a0 hw [] w h0 n0 (Nat.le_trans Z0 (own_ext0 h0).1) hP i0 h10 h21) hZ (hw _ (List.mem_of_getElem? (i := 3) rfl)) (hw _ (List.mem_of_getElem? (i := 2) rfl)) (by decide) (by decide)) (g := (mkF m 17 #[.val (.int i0), .val (.int i1), .val (.int i0), .unset, .unset] [(.int i0)])) rfl (by rw [hml]; rfl) (argsL := [(.int i0)]) (rest := []) (lenOf pd_1 rfl) rfl (by show 2 * 0 + _ ≤ _; exact Nat.le_of_eq rfl) (hb hby at_17) (fun _ _ => ⟨rfl, e0, (by decide : 0 + 1 ≤ _), (by decide : 0 + 2 ≤ _)⟩)
        dsimp only [Pt.U, Pt.locs, Pt.cells, Pt.slots] at X25 l25 y25 z25 st25 hQ25
        subst l25 y25 z25
        obtain ⟨rfl, N25q, x25, f25⟩ := hQ25
        have N25 := Fr.app N0 N25q
        have e25 : T25.heap = T25.heap := rfl
        have XT25 := own_ext2 (own_ext0 h0) x25
        refine Go.on (T' := T25) (g' := (mkF m 20 #[.val (.int i0), .val (.int i1), .val (.int i0), .unset, .unset] [(.ref (w 2))])) st25 ?_
        refine Go.on (T' := T25) (g' := (mkF m 21 #[.val (.int i0), .val (.int i1), .val (.int i0), .val (.ref (w 2)), .unset] [])) (fun t k => XS.astoreN X25.here hx rfl (hb hby at_20) rfl rfl (l' := #[.val (.int i0), .val (.int i1), .val (.int i0), .val (.ref (w 2)), .unset]) rfl k) ?_
        refine Go.on (T' := T25) (g' := (mkF m 22 #[.val (.int i0), .val (.int i1), .val (.int i0), .val (.ref (w 2)), .unset] [(.int i0)])) (fun t k => XS.iloadN X25.here hx rfl (hb hby at_21) rfl k) ?_
        refine Go.on (T' := T25) (g' := (mkF m 33 #[.val (.int i0), .val (.int i1), .val (.int i0), .val (.ref (w 2)), .unset] [])) (fun t k => XS.ifYes X25.here hx rfl (pc0 := 22) (pc' := 33) rfl (hb hby at_22) rfl ((if0 _ _).trans (feq (fun q => h10 q.symm)).2) (by decide) (by decide) k) ?_
        refine Go.on (T' := T25) (g' := (mkF m 34 #[.val (.int i0), .val (.int i1), .val (.int i0), .val (.ref (w 2)), .unset] [(.int i0)])) (fun t k => XS.iloadN X25.here hx rfl (hb hby at_33) rfl k) ?_
        refine Go.on (T' := T25) (g' := (mkF m 35 #[.val (.int i0), .val (.int i1), .val (.int i0), .val (.ref (w 2)), .unset] [(.int (1 : Int32)), (.int i0)])) (fun t k => XS.iconst X25.here hx rfl (hb hby at_34) k) ?_
        refine Go.on (T' := T25) (g' := (mkF m 38 #[.val (.int i0), .val (.int i1), .val (.int i0), .val (.ref (w 2)), .unset] [])) (fun t k => XS.icmpNo X25.here hx rfl (hb hby at_35) rfl (teq h21.symm).2 k) ?_
        obtain ⟨T26, X26, e26, st26⟩ := getS2 X25 hx hZ hown (host := "") (Or.inl (hw _ (List.mem_of_getElem? (i := 23) rfl))) Via.refl e25 (pin_2 (pins_ext XT25 hP)) (g := (mkF m 38 #[.val (.int i0), .val (.int i1), .val (.int i0), .val (.ref (w 2)), .unset] [])) rfl (hb hby at_38)
        refine Go.on (T' := T26) (g' := (mkF m 41 #[.val (.int i0), .val (.int i1), .val (.int i0), .val (.ref (w 2)), .unset] [(.ref (w 2))])) st26 ?_
        refine Go.on (T' := T26) (g' := (mkF m 43 #[.val (.int i0), .val (.int i1), .val (.int i0), .val (.ref (w 2)), .val (.ref (w 2))] [])) (fun t k => XS.astore X26.here hx rfl (hb hby at_41) rfl rfl (l' := #[.val (.int i0), .val (.int i1), .val (.int i0), .val (.ref (w 2)), .val (.ref (w 2))]) rfl k) ?_
        refine Go.on (T' := T26) (g' := (mkF m 49 #[.val (.int i0), .val (.int i1), .val (.int i0), .val (.ref (w 2)), .val (.ref (w 2))] [])) (fun t k => XS.goto X26.here hx rfl (pc0 := 43) (pc' := 49) rfl (hb hby at_43) (by decide) (by decide) k) ?_
        refine Go.on (T' := T26) (g' := (mkF m 50 #[.val (.int i0), .val (.int i1), .val (.int i0), .val (.ref (w 2)), .val (.ref (w 2))] [(.ref (w 2))])) (fun t k => XS.aloadN X26.here hx rfl (hb hby at_49) rfl rfl k) ?_
        refine Go.on (T' := T26) (g' := (mkF m 52 #[.val (.int i0), .val (.int i1), .val (.int i0), .val (.ref (w 2)), .val (.ref (w 2))] [(.ref (w 2)), (.ref (w 2))])) (fun t k => XS.aload X26.here hx rfl (hb hby at_50) rfl rfl k) ?_
        refine Go.on (T' := T26) (g' := (mkF m 57 #[.val (.int i0), .val (.int i1), .val (.int i0), .val (.ref (w 2)), .val (.ref (w 2))] [])) (fun t k => Jvm.RoadKit.acmp (g := (mkF m 52 #[.val (.int i0), .val (.int i1), .val (.int i0), .val (.ref (w 2)), .val (.ref (w 2))] [(.ref (w 2)), (.ref (w 2))])) X26 hx rfl rfl rfl (pc0 := 52) (pc' := 57) (same := true) rfl (hb hby at_52) rfl (decide_eq_true rfl) (by decide) (by decide) k) ?_
        refine Go.on (T' := T26) (g' := (mkF m 58 #[.val (.int i0), .val (.int i1), .val (.int i0), .val (.ref (w 2)), .val (.ref (w 2))] [(.ref (w 2))])) (fun t k => XS.aloadN X26.here hx rfl (hb hby at_57) rfl rfl k) ?_
        refine Go.on (T' := T26) (g' := (mkF m 61 #[.val (.int i0), .val (.int i1), .val (.int i0), .val (.ref (w 2)), .val (.ref (w 2))] [])) (fun t k => XS.ifnullNo X26.here hx rfl (hb hby at_58) rfl k) ?_
        refine Go.on (T' := T26) (g' := (mkF m 62 #[.val (.int i0), .val (.int i1), .val (.int i0), .val (.ref (w 2)), .val (.ref (w 2))] [(.ref (w 2))])) (fun t k => XS.aloadN X26.here hx rfl (hb hby at_61) rfl rfl k) ?_
        obtain ⟨cq29, kq29, q29a, q29b, q29c⟩ := isOf hZ e26 (pin_5 (pins_ext XT25 hP))
        obtain ⟨_, _, ⟨T29, L29, k29, n29⟩, -, X29, ⟨Lc29, hQ29, l29, y29, z29⟩, st29⟩ := X26.virtualBack hx (y := (⟨"com/example/stubwright/stubwright/ConnectionMode", "code", "()I"⟩ : MethodName)) (z := (⟨"com/example/stubwright/stubwright/ConnectionMode", "code", "()I"⟩ : MethodName)) hown (mvT hZ (hw _ (List.mem_of_getElem? (i := 24) rfl))) (mvT hZ (hw _ (List.mem_of_getElem? (i := 25) rfl))) (notFace_of_selects (args := #[]) (mvT hZ (hw _ (List.mem_of_getElem? (i := 27) rfl)))) (mvT hZ (hw _ (List.mem_of_getElem? (i := 27) rfl))) (mvT hZ (hw _ (List.mem_of_getElem? (i := 26) rfl))) (by decide) (backOf (W := 0) (rm3_1 l Z a0 hw [] w T25.heap n0 (Nat.le_trans Z0 XT25.1) (pins_ext XT25 hP)) hZ (hw _ (List.mem_of_getElem? (i := 28) rfl)) (hw _ (List.mem_of_getElem? (i := 2) rfl)) (by decide) (by decide)) q29a q29c (g := (mkF m 62 #[.val (.int i0), .val (.int i1), .val (.int i0), .val (.ref (w 2)), .val (.ref (w 2))] [(.ref (w 2))])) rfl (by rw [hml]; rfl) (Steps.refl _) (argsL := []) (rest := []) (lenOf pd_2 rfl) rfl (by show 2 * 0 + _ ≤ _; exact Nat.le_of_eq rfl) (hb hby at_62) (fun _ _ => ⟨rfl, e26, (by decide : 1 + 0 ≤ _), (by decide : 2 + 0 ≤ _)⟩)
        dsimp only [Pt.U, Pt.locs, Pt.cells, Pt.slots] at X29 l29 y29 z29 st29 hQ29
        subst l29 y29 z29
        obtain ⟨rfl, N29q, e29⟩ := hQ29
        have N29 := Fr.app N25 N29q
        refine Go.on (T' := T29) (g' := (mkF m 65 #[.val (.int i0), .val (.int i1), .val (.int i0), .val (.ref (w 2)), .val (.ref (w 2))] [(.int (1 : Int32))])) (fun t k => st29.trans k) ?_
        refine Go.on (T' := T29) (g' := (mkF m 66 #[.val (.int i0), .val (.int i1), .val (.int i0), .val (.ref (w 2)), .val (.ref (w 2))] [(.int i0), (.int (1 : Int32))])) (fun t k => XS.iloadN X29.here hx rfl (hb hby at_65) rfl k) ?_
        refine Go.on (T' := T29) (g' := (mkF m 71 #[.val (.int i0), .val (.int i1), .val (.int i0), .val (.ref (w 2)), .val (.ref (w 2))] [])) (fun t k => XS.icmpYes X29.here hx rfl (pc0 := 66) (pc' := 71) rfl (hb hby at_66) rfl (teq h21).1 (by decide) (by decide) k) ?_
        refine Go.on (T' := T29) (g' := (mkF m 72 #[.val (.int i0), .val (.int i1), .val (.int i0), .val (.ref (w 2)), .val (.ref (w 2))] [(.int (1 : Int32))])) (fun t k => XS.iconst X29.here hx rfl (hb hby at_71) k) ?_
        obtain ⟨fs, hr, hrun, hended, hW, hsame⟩ := X29.leave (v := some (.int (1 : Int32))) (fun h => by rw [Bd.returns] at h; cases h)
        exact ⟨_, _, retN X29 hx (t := .boolean) Bd.returns (by simp) (hb hby at_72) hr, hrun, hended, _, _, rfl, ⟨rfl, N29⟩, ⟨_, rfl⟩, hW, hsame.mono (by decide) (by decide)⟩
      · skip
        obtain ⟨_, _, ⟨T33, L33, k33, n33⟩, -, X33, ⟨Lc33, hQ33, l33, y33, z33⟩, st33⟩ := Jvm.LawKit.callS X0 hx (y := (⟨"com/example/stubwright/stubwright/ConnectionMode", "fromCode", "(I)Lcom/example/stubwright/stubwright/ConnectionMode;"⟩ : MethodName)) hown (mvT hZ (hw _ (List.mem_of_getElem? (i := 0) rfl))) (mvT hZ (hw _ (List.mem_of_getElem? (i := 1) rfl))) (mvT hZ (hw _ (List.mem_of_getElem? (i := 2) rfl))) (mvT hZ (hw _ (List.mem_of_getElem? (i := 3) rfl))) (by decide) (backOf (W := 0) (rm1_2 l Z a0 hw [] w h0 n0 (Nat.le_trans Z0 (own_ext0 h0).1) hP i0 h10 h21) hZ (hw _ (List.mem_of_getElem? (i := 3) rfl)) (hw _ (List.mem_of_getElem? (i := 2) rfl)) (by decide) (by decide)) (g := (mkF m 17 #[.val (.int i0), .val (.int i1), .val (.int i0), .unset, .unset] [(.int i0)])) rfl (by rw [hml]; rfl) (argsL := [(.int i0)]) (rest := []) (lenOf pd_1 rfl) rfl (by show 2 * 0 + _ ≤ _; exact Nat.le_of_eq rfl) (hb hby at_17) (fun _ _ => ⟨rfl, e0, (by decide : 0 + 1 ≤ _), (by decide : 0 + 2 ≤ _)⟩)
        dsimp only [Pt.U, Pt.locs, Pt.cells, Pt.slots] at X33 l33 y33 z33 st33 hQ33
        subst l33 y33 z33
        obtain ⟨rfl, N33q, x33, f33⟩ := hQ33
        have N33 := Fr.app N0 N33q
        have e33 : T33.heap = T33.heap := rfl
        have XT33 := own_ext2 (own_ext0 h0) x33
        refine Go.on (T' := T33) (g' := (mkF m 20 #[.val (.int i0), .val (.int i1), .val (.int i0), .unset, .unset] [.null])) st33 ?_
        refine Go.on (T' := T33) (g' := (mkF m 21 #[.val (.int i0), .val (.int i1), .val (.int i0), .val .null, .unset] [])) (fun t k => XS.astoreN X33.here hx rfl (hb hby at_20) rfl rfl (l' := #[.val (.int i0), .val (.int i1), .val (.int i0), .val .null, .unset]) rfl k) ?_
        refine Go.on (T' := T33) (g' := (mkF m 22 #[.val (.int i0), .val (.int i1), .val (.int i0), .val .null, .unset] [(.int i0)])) (fun t k => XS.iloadN X33.here hx rfl (hb hby at_21) rfl k) ?_
        refine Go.on (T' := T33) (g' := (mkF m 33 #[.val (.int i0), .val (.int i1), .val (.int i0), .val .null, .unset] [])) (fun t k => XS.ifYes X33.here hx rfl (pc0 := 22) (pc' := 33) rfl (hb hby at_22) rfl ((if0 _ _).trans (feq (fun q => h10 q.symm)).2) (by decide) (by decide) k) ?_
        refine Go.on (T' := T33) (g' := (mkF m 34 #[.val (.int i0), .val (.int i1), .val (.int i0), .val .null, .unset] [(.int i0)])) (fun t k => XS.iloadN X33.here hx rfl (hb hby at_33) rfl k) ?_
        refine Go.on (T' := T33) (g' := (mkF m 35 #[.val (.int i0), .val (.int i1), .val (.int i0), .val .null, .unset] [(.int (1 : Int32)), (.int i0)])) (fun t k => XS.iconst X33.here hx rfl (hb hby at_34) k) ?_
        refine Go.on (T' := T33) (g' := (mkF m 46 #[.val (.int i0), .val (.int i1), .val (.int i0), .val .null, .unset] [])) (fun t k => XS.icmpYes X33.here hx rfl (pc0 := 35) (pc' := 46) rfl (hb hby at_35) rfl (feq (fun q => h21 q.symm)).2 (by decide) (by decide) k) ?_
        refine Go.on (T' := T33) (g' := (mkF m 47 #[.val (.int i0), .val (.int i1), .val (.int i0), .val .null, .unset] [.null])) (fun t k => XS.aconstNull X33.here hx rfl (hb hby at_46) k) ?_
        refine Go.on (T' := T33) (g' := (mkF m 49 #[.val (.int i0), .val (.int i1), .val (.int i0), .val .null, .val .null] [])) (fun t k => XS.astore X33.here hx rfl (hb hby at_47) rfl rfl (l' := #[.val (.int i0), .val (.int i1), .val (.int i0), .val .null, .val .null]) rfl k) ?_
        refine Go.on (T' := T33) (g' := (mkF m 50 #[.val (.int i0), .val (.int i1), .val (.int i0), .val .null, .val .null] [.null])) (fun t k => XS.aloadN X33.here hx rfl (hb hby at_49) rfl rfl k) ?_
        refine Go.on (T' := T33) (g' := (mkF m 52 #[.val (.int i0), .val (.int i1), .val (.int i0), .val .null, .val .null] [.null, .null])) (fun t k => XS.aload X33.here hx rfl (hb hby at_50) rfl rfl k) ?_
        refine Go.on (T' := T33) (g' := (mkF m 57 #[.val (.int i0), .val (.int i1), .val (.int i0), .val .null, .val .null] [])) (fun t k => Jvm.RoadKit.acmp (g := (mkF m 52 #[.val (.int i0), .val (.int i1), .val (.int i0), .val .null, .val .null] [.null, .null])) X33 hx rfl rfl rfl (pc0 := 52) (pc' := 57) (same := true) rfl (hb hby at_52) rfl (decide_eq_true rfl) (by decide) (by decide) k) ?_
        refine Go.on (T' := T33) (g' := (mkF m 58 #[.val (.int i0), .val (.int i1), .val (.int i0), .val .null, .val .null] [.null])) (fun t k => XS.aloadN X33.here hx rfl (hb hby at_57) rfl rfl k) ?_
        refine Go.on (T' := T33) (g' := (mkF m 71 #[.val (.int i0), .val (.int i1), .val (.int i0), .val .null, .val .null] [])) (fun t k => XS.ifnullYes X33.here hx rfl (pc0 := 58) (pc' := 71) rfl (hb hby at_58) rfl (by decide) (by decide) k) ?_
        refine Go.on (T' := T33) (g' := (mkF m 72 #[.val (.int i0), .val (.int i1), .val (.int i0), .val .null, .val .null] [(.int (1 : Int32))])) (fun t k => XS.iconst X33.here hx rfl (hb hby at_71) k) ?_
        obtain ⟨fs, hr, hrun, hended, hW, hsame⟩ := X33.leave (v := some (.int (1 : Int32))) (fun h => by rw [Bd.returns] at h; cases h)
        exact ⟨_, _, retN X33 hx (t := .boolean) Bd.returns (by simp) (hb hby at_72) hr, hrun, hended, _, _, rfl, ⟨rfl, N33⟩, ⟨_, rfl⟩, hW, hsame.mono (by decide) (by decide)⟩
  · skip
    refine Go.on (T' := s₁) (g' := (mkF m 6 #[.val (.int i0), .val (.int i1), .unset, .unset, .unset] [])) (fun t k => XS.ifNo X0.here hx rfl (hb hby at_3) rfl ((if0 _ _).trans (feq h1).1) k) ?_
    refine Go.on (T' := s₁) (g' := (mkF m 7 #[.val (.int i0), .val (.int i1), .unset, .unset, .unset] [(.int i0)])) (fun t k => XS.iloadN X0.here hx rfl (hb hby at_6) rfl k) ?_
    refine Go.on (T' := s₁) (g' := (mkF m 8 #[.val (.int i0), .val (.int i1), .unset, .unset, .unset] [(.int (3 : Int32)), (.int i0)])) (fun t k => XS.iconst X0.here hx rfl (hb hby at_7) k) ?_
    refine Go.on (T' := s₁) (g' := (mkF m 9 #[.val (.int i0), .val (.int i1), .unset, .unset, .unset] [(.int (i0 &&& (3 : Int32)))])) (fun t k => XS.iand X0.here hx rfl (hb hby at_8) rfl k) ?_
    refine Go.on (T' := s₁) (g' := (mkF m 10 #[.val (.int i0), .val (.int i1), .unset, .unset, .unset] [(.int (1 : Int32)), (.int (i0 &&& (3 : Int32)))])) (fun t k => XS.iconst X0.here hx rfl (hb hby at_9) k) ?_
    refine Go.on (T' := s₁) (g' := (mkF m 11 #[.val (.int i0), .val (.int i1), .unset, .unset, .unset] [(.int ((i0 &&& (3 : Int32)) - (1 : Int32)))])) (fun t k => XS.isub X0.here hx rfl (hb hby at_10) rfl k) ?_
    refine Go.on (T' := s₁) (g' := (mkF m 15 #[.val (.int i0), .val (.int i1), .unset, .unset, .unset] [(.int ((i0 &&& (3 : Int32)) - (1 : Int32)))])) (fun t k => XS.goto X0.here hx rfl (pc0 := 11) (pc' := 15) rfl (hb hby at_11) (by decide) (by decide) k) ?_
    refine Go.on (T' := s₁) (g' := (mkF m 16 #[.val (.int i0), .val (.int i1), .val (.int ((i0 &&& (3 : Int32)) - (1 : Int32))), .unset, .unset] [])) (fun t k => XS.istoreN X0.here hx rfl (hb hby at_15) rfl (l' := #[.val (.int i0), .val (.int i1), .val (.int ((i0 &&& (3 : Int32)) - (1 : Int32))), .unset, .unset]) rfl k) ?_
    refine Go.on (T' := s₁) (g' := (mkF m 17 #[.val (.int i0), .val (.int i1), .val (.int ((i0 &&& (3 : Int32)) - (1 : Int32))), .unset, .unset] [(.int ((i0 &&& (3 : Int32)) - (1 : Int32)))])) (fun t k => XS.iloadN X0.here hx rfl (hb hby at_16) rfl k) ?_
    by_cases h34 : (0 : Int32) = ((i0 &&& (3 : Int32)) - (1 : Int32))
    · skip
      obtain ⟨_, _, ⟨T35, L35, k35, n35⟩, -, X35, ⟨Lc35, hQ35, l35, y35, z35⟩, st35⟩ := Jvm.LawKit.callS X0 hx (y := (⟨"com/example/stubwright/stubwright/ConnectionMode", "fromCode", "(I)Lcom/example/stubwright/stubwright/ConnectionMode;"⟩ : MethodName)) hown (mvT hZ (hw _ (List.mem_of_getElem? (i := 0) rfl))) (mvT hZ (hw _ (List.mem_of_getElem? (i := 1) rfl))) (mvT hZ (hw _ (List.mem_of_getElem? (i := 2) rfl))) (mvT hZ (hw _ (List.mem_of_getElem? (i := 3) rfl))) (by decide) (backOf (W := 0) (rm1_0 l Z a0 hw [] w h0 n0 (Nat.le_trans Z0 (own_ext0 h0).1) hP ((i0 &&& (3 : Int32)) - (1 : Int32)) h34) hZ (hw _ (List.mem_of_getElem? (i := 3) rfl)) (hw _ (List.mem_of_getElem? (i := 2) rfl)) (by decide) (by decide)) (g := (mkF m 17 #[.val (.int i0), .val (.int i1), .val (.int ((i0 &&& (3 : Int32)) - (1 : Int32))), .unset, .unset] [(.int ((i0 &&& (3 : Int32)) - (1 : Int32)))])) rfl (by rw [hml]; rfl) (argsL := [(.int ((i0 &&& (3 : Int32)) - (1 : Int32)))]) (rest := []) (lenOf pd_1 rfl) rfl (by show 2 * 0 + _ ≤ _; exact Nat.le_of_eq rfl) (hb hby at_17) (fun _ _ => ⟨rfl, e0, (by decide : 0 + 1 ≤ _), (by decide : 0 + 2 ≤ _)⟩)
      dsimp only [Pt.U, Pt.locs, Pt.cells, Pt.slots] at X35 l35 y35 z35 st35 hQ35
      subst l35 y35 z35
      obtain ⟨rfl, N35q, x35, f35⟩ := hQ35
      have N35 := Fr.app N0 N35q
      have e35 : T35.heap = T35.heap := rfl
      have XT35 := own_ext2 (own_ext0 h0) x35
      refine Go.on (T' := T35) (g' := (mkF m 20 #[.val (.int i0), .val (.int i1), .val (.int ((i0 &&& (3 : Int32)) - (1 : Int32))), .unset, .unset] [(.ref (w 1))])) st35 ?_
      refine Go.on (T' := T35) (g' := (mkF m 21 #[.val (.int i0), .val (.int i1), .val (.int ((i0 &&& (3 : Int32)) - (1 : Int32))), .val (.ref (w 1)), .unset] [])) (fun t k => XS.astoreN X35.here hx rfl (hb hby at_20) rfl rfl (l' := #[.val (.int i0), .val (.int i1), .val (.int ((i0 &&& (3 : Int32)) - (1 : Int32))), .val (.ref (w 1)), .unset]) rfl k) ?_
      refine Go.on (T' := T35) (g' := (mkF m 22 #[.val (.int i0), .val (.int i1), .val (.int ((i0 &&& (3 : Int32)) - (1 : Int32))), .val (.ref (w 1)), .unset] [(.int ((i0 &&& (3 : Int32)) - (1 : Int32)))])) (fun t k => XS.iloadN X35.here hx rfl (hb hby at_21) rfl k) ?_
      refine Go.on (T' := T35) (g' := (mkF m 25 #[.val (.int i0), .val (.int i1), .val (.int ((i0 &&& (3 : Int32)) - (1 : Int32))), .val (.ref (w 1)), .unset] [])) (fun t k => XS.ifNo X35.here hx rfl (hb hby at_22) rfl ((if0 _ _).trans (teq h34.symm).2) k) ?_
      obtain ⟨T36, X36, e36, st36⟩ := getS2 X35 hx hZ hown (host := "") (Or.inl (hw _ (List.mem_of_getElem? (i := 29) rfl))) Via.refl e35 (pin_1 (pins_ext XT35 hP)) (g := (mkF m 25 #[.val (.int i0), .val (.int i1), .val (.int ((i0 &&& (3 : Int32)) - (1 : Int32))), .val (.ref (w 1)), .unset] [])) rfl (hb hby at_25)
      refine Go.on (T' := T36) (g' := (mkF m 28 #[.val (.int i0), .val (.int i1), .val (.int ((i0 &&& (3 : Int32)) - (1 : Int32))), .val (.ref (w 1)), .unset] [(.ref (w 1))])) st36 ?_
      refine Go.on (T' := T36) (g' := (mkF m 30 #[.val (.int i0), .val (.int i1), .val (.int ((i0 &&& (3 : Int32)) - (1 : Int32))), .val (.ref (w 1)), .val (.ref (w 1))] [])) (fun t k => XS.astore X36.here hx rfl (hb hby at_28) rfl rfl (l' := #[.val (.int i0), .val (.int i1), .val (.int ((i0 &&& (3 : Int32)) - (1 : Int32))), .val (.ref (w 1)), .val (.ref (w 1))]) rfl k) ?_
      refine Go.on (T' := T36) (g' := (mkF m 49 #[.val (.int i0), .val (.int i1), .val (.int ((i0 &&& (3 : Int32)) - (1 : Int32))), .val (.ref (w 1)), .val (.ref (w 1))] [])) (fun t k => XS.goto X36.here hx rfl (pc0 := 30) (pc' := 49) rfl (hb hby at_30) (by decide) (by decide) k) ?_
      refine Go.on (T' := T36) (g' := (mkF m 50 #[.val (.int i0), .val (.int i1), .val (.int ((i0 &&& (3 : Int32)) - (1 : Int32))), .val (.ref (w 1)), .val (.ref (w 1))] [(.ref (w 1))])) (fun t k => XS.aloadN X36.here hx rfl (hb hby at_49) rfl rfl k) ?_
      refine Go.on (T' := T36) (g' := (mkF m 52 #[.val (.int i0), .val (.int i1), .val (.int ((i0 &&& (3 : Int32)) - (1 : Int32))), .val (.ref (w 1)), .val (.ref (w 1))] [(.ref (w 1)), (.ref (w 1))])) (fun t k => XS.aload X36.here hx rfl (hb hby at_50) rfl rfl k) ?_
      refine Go.on (T' := T36) (g' := (mkF m 57 #[.val (.int i0), .val (.int i1), .val (.int ((i0 &&& (3 : Int32)) - (1 : Int32))), .val (.ref (w 1)), .val (.ref (w 1))] [])) (fun t k => Jvm.RoadKit.acmp (g := (mkF m 52 #[.val (.int i0), .val (.int i1), .val (.int ((i0 &&& (3 : Int32)) - (1 : Int32))), .val (.ref (w 1)), .val (.ref (w 1))] [(.ref (w 1)), (.ref (w 1))])) X36 hx rfl rfl rfl (pc0 := 52) (pc' := 57) (same := true) rfl (hb hby at_52) rfl (decide_eq_true rfl) (by decide) (by decide) k) ?_
      refine Go.on (T' := T36) (g' := (mkF m 58 #[.val (.int i0), .val (.int i1), .val (.int ((i0 &&& (3 : Int32)) - (1 : Int32))), .val (.ref (w 1)), .val (.ref (w 1))] [(.ref (w 1))])) (fun t k => XS.aloadN X36.here hx rfl (hb hby at_57) rfl rfl k) ?_
      refine Go.on (T' := T36) (g' := (mkF m 61 #[.val (.int i0), .val (.int i1), .val (.int ((i0 &&& (3 : Int32)) - (1 : Int32))), .val (.ref (w 1)), .val (.ref (w 1))] [])) (fun t k => XS.ifnullNo X36.here hx rfl (hb hby at_58) rfl k) ?_
      refine Go.on (T' := T36) (g' := (mkF m 62 #[.val (.int i0), .val (.int i1), .val (.int ((i0 &&& (3 : Int32)) - (1 : Int32))), .val (.ref (w 1)), .val (.ref (w 1))] [(.ref (w 1))])) (fun t k => XS.aloadN X36.here hx rfl (hb hby at_61) rfl rfl k) ?_
      obtain ⟨cq37, kq37, q37a, q37b, q37c⟩ := isOf hZ e36 (pin_4 (pins_ext XT35 hP))
      obtain ⟨_, _, ⟨T37, L37, k37, n37⟩, -, X37, ⟨Lc37, hQ37, l37, y37, z37⟩, st37⟩ := X36.virtualBack hx (y := (⟨"com/example/stubwright/stubwright/ConnectionMode", "code", "()I"⟩ : MethodName)) (z := (⟨"com/example/stubwright/stubwright/ConnectionMode", "code", "()I"⟩ : MethodName)) hown (mvT hZ (hw _ (List.mem_of_getElem? (i := 24) rfl))) (mvT hZ (hw _ (List.mem_of_getElem? (i := 25) rfl))) (notFace_of_selects (args := #[]) (mvT hZ (hw _ (List.mem_of_getElem? (i := 27) rfl)))) (mvT hZ (hw _ (List.mem_of_getElem? (i := 27) rfl))) (mvT hZ (hw _ (List.mem_of_getElem? (i := 26) rfl))) (by decide) (backOf (W := 0) (rm3_0 l Z a0 hw [] w T35.heap n0 (Nat.le_trans Z0 XT35.1) (pins_ext XT35 hP)) hZ (hw _ (List.mem_of_getElem? (i := 28) rfl)) (hw _ (List.mem_of_getElem? (i := 2) rfl)) (by decide) (by decide)) q37a q37c (g := (mkF m 62 #[.val (.int i0), .val (.int i1), .val (.int ((i0 &&& (3 : Int32)) - (1 : Int32))), .val (.ref (w 1)), .val (.ref (w 1))] [(.ref (w 1))])) rfl (by rw [hml]; rfl) (Steps.refl _) (argsL := []) (rest := []) (lenOf pd_2 rfl) rfl (by show 2 * 0 + _ ≤ _; exact Nat.le_of_eq rfl) (hb hby at_62) (fun _ _ => ⟨rfl, e36, (by decide : 1 + 0 ≤ _), (by decide : 2 + 0 ≤ _)⟩)
      dsimp only [Pt.U, Pt.locs, Pt.cells, Pt.slots] at X37 l37 y37 z37 st37 hQ37
      subst l37 y37 z37
      obtain ⟨rfl, N37q, e37⟩ := hQ37
      have N37 := Fr.app N35 N37q
      refine Go.on (T' := T37) (g' := (mkF m 65 #[.val (.int i0), .val (.int i1), .val (.int ((i0 &&& (3 : Int32)) - (1 : Int32))), .val (.ref (w 1)), .val (.ref (w 1))] [(.int (0 : Int32))])) (fun t k => st37.trans k) ?_
      refine Go.on (T' := T37) (g' := (mkF m 66 #[.val (.int i0), .val (.int i1), .val (.int ((i0 &&& (3 : Int32)) - (1 : Int32))), .val (.ref (w 1)), .val (.ref (w 1))] [(.int ((i0 &&& (3 : Int32)) - (1 : Int32))), (.int (0 : Int32))])) (fun t k => XS.iloadN X37.here hx rfl (hb hby at_65) rfl k) ?_
      refine Go.on (T' := T37) (g' := (mkF m 71 #[.val (.int i0), .val (.int i1), .val (.int ((i0 &&& (3 : Int32)) - (1 : Int32))), .val (.ref (w 1)), .val (.ref (w 1))] [])) (fun t k => XS.icmpYes X37.here hx rfl (pc0 := 66) (pc' := 71) rfl (hb hby at_66) rfl (teq h34).1 (by decide) (by decide) k) ?_
      refine Go.on (T' := T37) (g' := (mkF m 72 #[.val (.int i0), .val (.int i1), .val (.int ((i0 &&& (3 : Int32)) - (1 : Int32))), .val (.ref (w 1)), .val (.ref (w 1))] [(.int (1 : Int32))])) (fun t k => XS.iconst X37.here hx rfl (hb hby at_71) k) ?_
      obtain ⟨fs, hr, hrun, hended, hW, hsame⟩ := X37.leave (v := some (.int (1 : Int32))) (fun h => by rw [Bd.returns] at h; cases h)
      exact ⟨_, _, retN X37 hx (t := .boolean) Bd.returns (by simp) (hb hby at_72) hr, hrun, hended, _, _, rfl, ⟨rfl, N37⟩, ⟨_, rfl⟩, hW, hsame.mono (by decide) (by decide)⟩
    · skip
      by_cases h38 : (1 : Int32) = ((i0 &&& (3 : Int32)) - (1 : Int32))
      · skip
        obtain ⟨_, _, ⟨T39, L39, k39, n39⟩, -, X39, ⟨Lc39, hQ39, l39, y39, z39⟩, st39⟩ := Jvm.LawKit.callS X0 hx (y := (⟨"com/example/stubwright/stubwright/ConnectionMode", "fromCode", "(I)Lcom/example/stubwright/stubwright/ConnectionMode;"⟩ : MethodName)) hown (mvT hZ (hw _ (List.mem_of_getElem? (i := 0) rfl))) (mvT hZ (hw _ (List.mem_of_getElem? (i := 1) rfl))) (mvT hZ (hw _ (List.mem_of_getElem? (i := 2) rfl))) (mvT hZ (hw _ (List.mem_of_getElem? (i := 3) rfl))) (by decide) (backOf (W := 0) (rm1_1 l Z a0 hw [] w h0 n0 (Nat.le_trans Z0 (own_ext0 h0).1) hP ((i0 &&& (3 : Int32)) - (1 : Int32)) h34 h38) hZ (hw _ (List.mem_of_getElem? (i := 3) rfl)) (hw _ (List.mem_of_getElem? (i := 2) rfl)) (by decide) (by decide)) (g := (mkF m 17 #[.val (.int i0), .val (.int i1), .val (.int ((i0 &&& (3 : Int32)) - (1 : Int32))), .unset, .unset] [(.int ((i0 &&& (3 : Int32)) - (1 : Int32)))])) rfl (by rw [hml]; rfl) (argsL := [(.int ((i0 &&& (3 : Int32)) - (1 : Int32)))]) (rest := []) (lenOf pd_1 rfl) rfl (by show 2 * 0 + _ ≤ _; exact Nat.le_of_eq rfl) (hb hby at_17) (fun _ _ => ⟨rfl, e0, (by decide : 0 + 1 ≤ _), (by decide : 0 + 2 ≤ _)⟩)
        dsimp only [Pt.U, Pt.locs, Pt.cells, Pt.slots] at X39 l39 y39 z39 st39 hQ39
        subst l39 y39 z39
        obtain ⟨rfl, N39q, x39, f39⟩ := hQ39
        have N39 := Fr.app N0 N39q
        have e39 : T39.heap = T39.heap := rfl
        have XT39 := own_ext2 (own_ext0 h0) x39
        refine Go.on (T' := T39) (g' := (mkF m 20 #[.val (.int i0), .val (.int i1), .val (.int ((i0 &&& (3 : Int32)) - (1 : Int32))), .unset, .unset] [(.ref (w 2))])) st39 ?_
        refine Go.on (T' := T39) (g' := (mkF m 21 #[.val (.int i0), .val (.int i1), .val (.int ((i0 &&& (3 : Int32)) - (1 : Int32))), .val (.ref (w 2)), .unset] [])) (fun t k => XS.astoreN X39.here hx rfl (hb hby at_20) rfl rfl (l' := #[.val (.int i0), .val (.int i1), .val (.int ((i0 &&& (3 : Int32)) - (1 : Int32))), .val (.ref (w 2)), .unset]) rfl k) ?_
        refine Go.on (T' := T39) (g' := (mkF m 22 #[.val (.int i0), .val (.int i1), .val (.int ((i0 &&& (3 : Int32)) - (1 : Int32))), .val (.ref (w 2)), .unset] [(.int ((i0 &&& (3 : Int32)) - (1 : Int32)))])) (fun t k => XS.iloadN X39.here hx rfl (hb hby at_21) rfl k) ?_
        refine Go.on (T' := T39) (g' := (mkF m 33 #[.val (.int i0), .val (.int i1), .val (.int ((i0 &&& (3 : Int32)) - (1 : Int32))), .val (.ref (w 2)), .unset] [])) (fun t k => XS.ifYes X39.here hx rfl (pc0 := 22) (pc' := 33) rfl (hb hby at_22) rfl ((if0 _ _).trans (feq (fun q => h34 q.symm)).2) (by decide) (by decide) k) ?_
        refine Go.on (T' := T39) (g' := (mkF m 34 #[.val (.int i0), .val (.int i1), .val (.int ((i0 &&& (3 : Int32)) - (1 : Int32))), .val (.ref (w 2)), .unset] [(.int ((i0 &&& (3 : Int32)) - (1 : Int32)))])) (fun t k => XS.iloadN X39.here hx rfl (hb hby at_33) rfl k) ?_
        refine Go.on (T' := T39) (g' := (mkF m 35 #[.val (.int i0), .val (.int i1), .val (.int ((i0 &&& (3 : Int32)) - (1 : Int32))), .val (.ref (w 2)), .unset] [(.int (1 : Int32)), (.int ((i0 &&& (3 : Int32)) - (1 : Int32)))])) (fun t k => XS.iconst X39.here hx rfl (hb hby at_34) k) ?_
        refine Go.on (T' := T39) (g' := (mkF m 38 #[.val (.int i0), .val (.int i1), .val (.int ((i0 &&& (3 : Int32)) - (1 : Int32))), .val (.ref (w 2)), .unset] [])) (fun t k => XS.icmpNo X39.here hx rfl (hb hby at_35) rfl (teq h38.symm).2 k) ?_
        obtain ⟨T40, X40, e40, st40⟩ := getS2 X39 hx hZ hown (host := "") (Or.inl (hw _ (List.mem_of_getElem? (i := 23) rfl))) Via.refl e39 (pin_2 (pins_ext XT39 hP)) (g := (mkF m 38 #[.val (.int i0), .val (.int i1), .val (.int ((i0 &&& (3 : Int32)) - (1 : Int32))), .val (.ref (w 2)), .unset] [])) rfl (hb hby at_38)
        refine Go.on (T' := T40) (g' := (mkF m 41 #[.val (.int i0), .val (.int i1), .val (.int ((i0 &&& (3 : Int32)) - (1 : Int32))), .val (.ref (w 2)), .unset] [(.ref (w 2))])) st40 ?_
        refine Go.on (T' := T40) (g' := (mkF m 43 #[.val (.int i0), .val (.int i1), .val (.int ((i0 &&& (3 : Int32)) - (1 : Int32))), .val (.ref (w 2)), .val (.ref (w 2))] [])) (fun t k => XS.astore X40.here hx rfl (hb hby at_41) rfl rfl (l' := #[.val (.int i0), .val (.int i1), .val (.int ((i0 &&& (3 : Int32)) - (1 : Int32))), .val (.ref (w 2)), .val (.ref (w 2))]) rfl k) ?_
        refine Go.on (T' := T40) (g' := (mkF m 49 #[.val (.int i0), .val (.int i1), .val (.int ((i0 &&& (3 : Int32)) - (1 : Int32))), .val (.ref (w 2)), .val (.ref (w 2))] [])) (fun t k => XS.goto X40.here hx rfl (pc0 := 43) (pc' := 49) rfl (hb hby at_43) (by decide) (by decide) k) ?_
        refine Go.on (T' := T40) (g' := (mkF m 50 #[.val (.int i0), .val (.int i1), .val (.int ((i0 &&& (3 : Int32)) - (1 : Int32))), .val (.ref (w 2)), .val (.ref (w 2))] [(.ref (w 2))])) (fun t k => XS.aloadN X40.here hx rfl (hb hby at_49) rfl rfl k) ?_
        refine Go.on (T' := T40) (g' := (mkF m 52 #[.val (.int i0), .val (.int i1), .val (.int ((i0 &&& (3 : Int32)) - (1 : Int32))), .val (.ref (w 2)), .val (.ref (w 2))] [(.ref (w 2)), (.ref (w 2))])) (fun t k => XS.aload X40.here hx rfl (hb hby at_50) rfl rfl k) ?_
        refine Go.on (T' := T40) (g' := (mkF m 57 #[.val (.int i0), .val (.int i1), .val (.int ((i0 &&& (3 : Int32)) - (1 : Int32))), .val (.ref (w 2)), .val (.ref (w 2))] [])) (fun t k => Jvm.RoadKit.acmp (g := (mkF m 52 #[.val (.int i0), .val (.int i1), .val (.int ((i0 &&& (3 : Int32)) - (1 : Int32))), .val (.ref (w 2)), .val (.ref (w 2))] [(.ref (w 2)), (.ref (w 2))])) X40 hx rfl rfl rfl (pc0 := 52) (pc' := 57) (same := true) rfl (hb hby at_52) rfl (decide_eq_true rfl) (by decide) (by decide) k) ?_
        refine Go.on (T' := T40) (g' := (mkF m 58 #[.val (.int i0), .val (.int i1), .val (.int ((i0 &&& (3 : Int32)) - (1 : Int32))), .val (.ref (w 2)), .val (.ref (w 2))] [(.ref (w 2))])) (fun t k => XS.aloadN X40.here hx rfl (hb hby at_57) rfl rfl k) ?_
        refine Go.on (T' := T40) (g' := (mkF m 61 #[.val (.int i0), .val (.int i1), .val (.int ((i0 &&& (3 : Int32)) - (1 : Int32))), .val (.ref (w 2)), .val (.ref (w 2))] [])) (fun t k => XS.ifnullNo X40.here hx rfl (hb hby at_58) rfl k) ?_
        refine Go.on (T' := T40) (g' := (mkF m 62 #[.val (.int i0), .val (.int i1), .val (.int ((i0 &&& (3 : Int32)) - (1 : Int32))), .val (.ref (w 2)), .val (.ref (w 2))] [(.ref (w 2))])) (fun t k => XS.aloadN X40.here hx rfl (hb hby at_61) rfl rfl k) ?_
        obtain ⟨cq41, kq41, q41a, q41b, q41c⟩ := isOf hZ e40 (pin_5 (pins_ext XT39 hP))
        obtain ⟨_, _, ⟨T41, L41, k41, n41⟩, -, X41, ⟨Lc41, hQ41, l41, y41, z41⟩, st41⟩ := X40.virtualBack hx (y := (⟨"com/example/stubwright/stubwright/ConnectionMode", "code", "()I"⟩ : MethodName)) (z := (⟨"com/example/stubwright/stubwright/ConnectionMode", "code", "()I"⟩ : MethodName)) hown (mvT hZ (hw _ (List.mem_of_getElem? (i := 24) rfl))) (mvT hZ (hw _ (List.mem_of_getElem? (i := 25) rfl))) (notFace_of_selects (args := #[]) (mvT hZ (hw _ (List.mem_of_getElem? (i := 27) rfl)))) (mvT hZ (hw _ (List.mem_of_getElem? (i := 27) rfl))) (mvT hZ (hw _ (List.mem_of_getElem? (i := 26) rfl))) (by decide) (backOf (W := 0) (rm3_1 l Z a0 hw [] w T39.heap n0 (Nat.le_trans Z0 XT39.1) (pins_ext XT39 hP)) hZ (hw _ (List.mem_of_getElem? (i := 28) rfl)) (hw _ (List.mem_of_getElem? (i := 2) rfl)) (by decide) (by decide)) q41a q41c (g := (mkF m 62 #[.val (.int i0), .val (.int i1), .val (.int ((i0 &&& (3 : Int32)) - (1 : Int32))), .val (.ref (w 2)), .val (.ref (w 2))] [(.ref (w 2))])) rfl (by rw [hml]; rfl) (Steps.refl _) (argsL := []) (rest := []) (lenOf pd_2 rfl) rfl (by show 2 * 0 + _ ≤ _; exact Nat.le_of_eq rfl) (hb hby at_62) (fun _ _ => ⟨rfl, e40, (by decide : 1 + 0 ≤ _), (by decide : 2 + 0 ≤ _)⟩)
        dsimp only [Pt.U, Pt.locs, Pt.cells, Pt.slots] at X41 l41 y41 z41 st41 hQ41
        subst l41 y41 z41
        obtain ⟨rfl, N41q, e41⟩ := hQ41
        have N41 := Fr.app N39 N41q
        refine Go.on (T' := T41) (g' := (mkF m 65 #[.val (.int i0), .val (.int i1), .val (.int ((i0 &&& (3 : Int32)) - (1 : Int32))), .val (.ref (w 2)), .val (.ref (w 2))] [(.int (1 : Int32))])) (fun t k => st41.trans k) ?_
        refine Go.on (T' := T41) (g' := (mkF m 66 #[.val (.int i0), .val (.int i1), .val (.int ((i0 &&& (3 : Int32)) - (1 : Int32))), .val (.ref (w 2)), .val (.ref (w 2))] [(.int ((i0 &&& (3 : Int32)) - (1 : Int32))), (.int (1 : Int32))])) (fun t k => XS.iloadN X41.here hx rfl (hb hby at_65) rfl k) ?_
        refine Go.on (T' := T41) (g' := (mkF m 71 #[.val (.int i0), .val (.int i1), .val (.int ((i0 &&& (3 : Int32)) - (1 : Int32))), .val (.ref (w 2)), .val (.ref (w 2))] [])) (fun t k => XS.icmpYes X41.here hx rfl (pc0 := 66) (pc' := 71) rfl (hb hby at_66) rfl (teq h38).1 (by decide) (by decide) k) ?_
        refine Go.on (T' := T41) (g' := (mkF m 72 #[.val (.int i0), .val (.int i1), .val (.int ((i0 &&& (3 : Int32)) - (1 : Int32))), .val (.ref (w 2)), .val (.ref (w 2))] [(.int (1 : Int32))])) (fun t k => XS.iconst X41.here hx rfl (hb hby at_71) k) ?_
        obtain ⟨fs, hr, hrun, hended, hW, hsame⟩ := X41.leave (v := some (.int (1 : Int32))) (fun h => by rw [Bd.returns] at h; cases h)
        exact ⟨_, _, retN X41 hx (t := .boolean) Bd.returns (by simp) (hb hby at_72) hr, hrun, hended, _, _, rfl, ⟨rfl, N41⟩, ⟨_, rfl⟩, hW, hsame.mono (by decide) (by decide)⟩
      · skip
        obtain ⟨_, _, ⟨T42, L42, k42, n42⟩, -, X42, ⟨Lc42, hQ42, l42, y42, z42⟩, st42⟩ := Jvm.LawKit.callS X0 hx (y := (⟨"com/example/stubwright/stubwright/ConnectionMode", "fromCode", "(I)Lcom/example/stubwright/stubwright/ConnectionMode;"⟩ : MethodName)) hown (mvT hZ (hw _ (List.mem_of_getElem? (i := 0) rfl))) (mvT hZ (hw _ (List.mem_of_getElem? (i := 1) rfl))) (mvT hZ (hw _ (List.mem_of_getElem? (i := 2) rfl))) (mvT hZ (hw _ (List.mem_of_getElem? (i := 3) rfl))) (by decide) (backOf (W := 0) (rm1_2 l Z a0 hw [] w h0 n0 (Nat.le_trans Z0 (own_ext0 h0).1) hP ((i0 &&& (3 : Int32)) - (1 : Int32)) h34 h38) hZ (hw _ (List.mem_of_getElem? (i := 3) rfl)) (hw _ (List.mem_of_getElem? (i := 2) rfl)) (by decide) (by decide)) (g := (mkF m 17 #[.val (.int i0), .val (.int i1), .val (.int ((i0 &&& (3 : Int32)) - (1 : Int32))), .unset, .unset] [(.int ((i0 &&& (3 : Int32)) - (1 : Int32)))])) rfl (by rw [hml]; rfl) (argsL := [(.int ((i0 &&& (3 : Int32)) - (1 : Int32)))]) (rest := []) (lenOf pd_1 rfl) rfl (by show 2 * 0 + _ ≤ _; exact Nat.le_of_eq rfl) (hb hby at_17) (fun _ _ => ⟨rfl, e0, (by decide : 0 + 1 ≤ _), (by decide : 0 + 2 ≤ _)⟩)
        dsimp only [Pt.U, Pt.locs, Pt.cells, Pt.slots] at X42 l42 y42 z42 st42 hQ42
        subst l42 y42 z42
        obtain ⟨rfl, N42q, x42, f42⟩ := hQ42
        have N42 := Fr.app N0 N42q
        have e42 : T42.heap = T42.heap := rfl
        have XT42 := own_ext2 (own_ext0 h0) x42
        refine Go.on (T' := T42) (g' := (mkF m 20 #[.val (.int i0), .val (.int i1), .val (.int ((i0 &&& (3 : Int32)) - (1 : Int32))), .unset, .unset] [.null])) st42 ?_
        refine Go.on (T' := T42) (g' := (mkF m 21 #[.val (.int i0), .val (.int i1), .val (.int ((i0 &&& (3 : Int32)) - (1 : Int32))), .val .null, .unset] [])) (fun t k => XS.astoreN X42.here hx rfl (hb hby at_20) rfl rfl (l' := #[.val (.int i0), .val (.int i1), .val (.int ((i0 &&& (3 : Int32)) - (1 : Int32))), .val .null, .unset]) rfl k) ?_
        refine Go.on (T' := T42) (g' := (mkF m 22 #[.val (.int i0), .val (.int i1), .val (.int ((i0 &&& (3 : Int32)) - (1 : Int32))), .val .null, .unset] [(.int ((i0 &&& (3 : Int32)) - (1 : Int32)))])) (fun t k => XS.iloadN X42.here hx rfl (hb hby at_21) rfl k) ?_
        refine Go.on (T' := T42) (g' := (mkF m 33 #[.val (.int i0), .val (.int i1), .val (.int ((i0 &&& (3 : Int32)) - (1 : Int32))), .val .null, .unset] [])) (fun t k => XS.ifYes X42.here hx rfl (pc0 := 22) (pc' := 33) rfl (hb hby at_22) rfl ((if0 _ _).trans (feq (fun q => h34 q.symm)).2) (by decide) (by decide) k) ?_
        refine Go.on (T' := T42) (g' := (mkF m 34 #[.val (.int i0), .val (.int i1), .val (.int ((i0 &&& (3 : Int32)) - (1 : Int32))), .val .null, .unset] [(.int ((i0 &&& (3 : Int32)) - (1 : Int32)))])) (fun t k => XS.iloadN X42.here hx rfl (hb hby at_33) rfl k) ?_
        refine Go.on (T' := T42) (g' := (mkF m 35 #[.val (.int i0), .val (.int i1), .val (.int ((i0 &&& (3 : Int32)) - (1 : Int32))), .val .null, .unset] [(.int (1 : Int32)), (.int ((i0 &&& (3 : Int32)) - (1 : Int32)))])) (fun t k => XS.iconst X42.here hx rfl (hb hby at_34) k) ?_
        refine Go.on (T' := T42) (g' := (mkF m 46 #[.val (.int i0), .val (.int i1), .val (.int ((i0 &&& (3 : Int32)) - (1 : Int32))), .val .null, .unset] [])) (fun t k => XS.icmpYes X42.here hx rfl (pc0 := 35) (pc' := 46) rfl (hb hby at_35) rfl (feq (fun q => h38 q.symm)).2 (by decide) (by decide) k) ?_
        refine Go.on (T' := T42) (g' := (mkF m 47 #[.val (.int i0), .val (.int i1), .val (.int ((i0 &&& (3 : Int32)) - (1 : Int32))), .val .null, .unset] [.null])) (fun t k => XS.aconstNull X42.here hx rfl (hb hby at_46) k) ?_
        refine Go.on (T' := T42) (g' := (mkF m 49 #[.val (.int i0), .val (.int i1), .val (.int ((i0 &&& (3 : Int32)) - (1 : Int32))), .val .null, .val .null] [])) (fun t k => XS.astore X42.here hx rfl (hb hby at_47) rfl rfl (l' := #[.val (.int i0), .val (.int i1), .val (.int ((i0 &&& (3 : Int32)) - (1 : Int32))), .val .null, .val .null]) rfl k) ?_
        refine Go.on (T' := T42) (g' := (mkF m 50 #[.val (.int i0), .val (.int i1), .val (.int ((i0 &&& (3 : Int32)) - (1 : Int32))), .val .null, .val .null] [.null])) (fun t k => XS.aloadN X42.here hx rfl (hb hby at_49) rfl rfl k) ?_
        refine Go.on (T' := T42) (g' := (mkF m 52 #[.val (.int i0), .val (.int i1), .val (.int ((i0 &&& (3 : Int32)) - (1 : Int32))), .val .null, .val .null] [.null, .null])) (fun t k => XS.aload X42.here hx rfl (hb hby at_50) rfl rfl k) ?_
        refine Go.on (T' := T42) (g' := (mkF m 57 #[.val (.int i0), .val (.int i1), .val (.int ((i0 &&& (3 : Int32)) - (1 : Int32))), .val .null, .val .null] [])) (fun t k => Jvm.RoadKit.acmp (g := (mkF m 52 #[.val (.int i0), .val (.int i1), .val (.int ((i0 &&& (3 : Int32)) - (1 : Int32))), .val .null, .val .null] [.null, .null])) X42 hx rfl rfl rfl (pc0 := 52) (pc' := 57) (same := true) rfl (hb hby at_52) rfl (decide_eq_true rfl) (by decide) (by decide) k) ?_
        refine Go.on (T' := T42) (g' := (mkF m 58 #[.val (.int i0), .val (.int i1), .val (.int ((i0 &&& (3 : Int32)) - (1 : Int32))), .val .null, .val .null] [.null])) (fun t k => XS.aloadN X42.here hx rfl (hb hby at_57) rfl rfl k) ?_
        refine Go.on (T' := T42) (g' := (mkF m 71 #[.val (.int i0), .val (.int i1), .val (.int ((i0 &&& (3 : Int32)) - (1 : Int32))), .val .null, .val .null] [])) (fun t k => XS.ifnullYes X42.here hx rfl (pc0 := 58) (pc' := 71) rfl (hb hby at_58) rfl (by decide) (by decide) k) ?_
        refine Go.on (T' := T42) (g' := (mkF m 72 #[.val (.int i0), .val (.int i1), .val (.int ((i0 &&& (3 : Int32)) - (1 : Int32))), .val .null, .val .null] [(.int (1 : Int32))])) (fun t k => XS.iconst X42.here hx rfl (hb hby at_71) k) ?_
        obtain ⟨fs, hr, hrun, hended, hW, hsame⟩ := X42.leave (v := some (.int (1 : Int32))) (fun h => by rw [Bd.returns] at h; cases h)
        exact ⟨_, _, retN X42 hx (t := .boolean) Bd.returns (by simp) (hb hby at_72) hr, hrun, hended, _, _, rfl, ⟨rfl, N42⟩, ⟨_, rfl⟩, hW, hsame.mono (by decide) (by decide)⟩
set_option maxRecDepth 65536 in
set_option maxHeartbeats 40000000 in
theorem comes_1 {Post : Tables → Env → Array Value → State → Outcome → State → Prop} (hpost : ∀ tb e args s v u, (limb_1_1.after args s (.returned v) u = true ∧ limb_1_2.after args s (.returned v) u = true ∧ True) → FrameEnd s (.returned v) u (Jvm.fieldLocs frame_1_writes args s ++ Jvm.arrayLocs frame_1_arrays args s ++ Jvm.staticLocs frame_1_statics s) 16 128 → Post tb e args s (.returned v) u) :
    ArmFor flags0 classFile x code maxLocals ret World_1 tables_1 room_1 Calls_1 rest_1 Pre_1 Post := by
  intro l hfl _ _ p e ha hc hk s m args below hf hA hF happ hP
  obtain ⟨hcalls, hrest, hpre⟩ := hP
  obtain ⟨-, -, -, hnamed, -, -, -, hat⟩ := (Spec.applies_iff hf).mp happ
  obtain ⟨hg, hn⟩ := and_e (Cond.before_iff.mp (show (Jvm.Cond.and given_1 narrow_1).before args s = true from hpre))
  obtain ⟨u1, v1⟩ := and_e hg
  obtain ⟨u2, v2⟩ := and_e v1
  obtain ⟨w0, w1, rfl⟩ : ∃ w0 w1 : Value, args = #[w0, w1] := by
    have hs : args.size = 2 := by simpa [Cond.value, given_1] using u1
    obtain ⟨L⟩ := args
    match L, hs with
    | [w0, w1], _ => exact ⟨w0, w1, rfl⟩
  have hw := fun d (hd : d ∈ tables_1) => atoms_spec (ws := Jvm.Cond.code x code maxLocals ret :: tables_1) hat d (List.mem_cons_of_mem _ hd)
  have hfit : Fit s := fun {y c} hc i hi => by
    obtain ⟨ha, rfl⟩ := Array.getElem?_eq_some_iff.mp hc
    have q := List.all_eq_true.mp ((Array.all_eq_true_iff_forall_mem.mp hF) _ (Array.getElem_mem ha)) i (List.mem_range.mpr hi)
    simpa [Array.getElem?_eq_getElem hi] using q
  obtain ⟨i0, ei0⟩ := is_v u2
  obtain rfl : w0 = (.int i0) := Option.some.inj ei0
  obtain ⟨i1, ei1⟩ := is_v v2
  obtain rfl : w1 = (.int i1) := Option.some.inj ei1
  obtain ⟨u3, v3⟩ := and_e hn
  obtain ⟨u4, v4⟩ := and_e v3
  obtain ⟨u5, v5⟩ := and_e v4
  obtain ⟨u6, v6⟩ := and_e v5
  obtain ⟨u7, v7⟩ := and_e v6
  obtain ⟨u8, v8⟩ := and_e v7
  obtain ⟨u9, v9⟩ := and_e v8
  obtain ⟨u10, v10⟩ := and_e v9
  obtain ⟨x0, ev0⟩ := arr_v u3
  obtain ⟨cl0, Ar0⟩ := Arr.start ev0 u3
  obtain ⟨x1, ev1⟩ := exa_v u6
  obtain ⟨x2, ev2⟩ := exa_v u8
  have g0_0 := (elem_in (own_eqR u7 ev1) ev0 rfl Ar0.1).2
  have g0_1 := (elem_in (own_eqR u9 ev2) ev0 rfl Ar0.1).2
  have sl0 : cl0.slots = #[.ref x1, .ref x2] := own_slots (vs := [.ref x1, .ref x2]) (own_len (k := 2) (own_eqI u5) ev0 Ar0 (by decide)) (fun i v h => by
    match i, h with
    | 0, h => cases h; exact g0_0
    | 1, h => cases h; exact g0_1
    | n + 2, h => cases h)
  obtain ⟨w, hw_⟩ : ∃ w : Nat → Addr, w 0 = x0 ∧ w 1 = x1 ∧ w 2 = x2 ∧ True := ⟨fun k => [x0, x1, x2].getD k 0, rfl, rfl, rfl, trivial⟩
  obtain ⟨rfl, rfl, rfl, -⟩ := hw_
  have hPin : Pins s s.heap w := ⟨Sta.start ev0 (Or.inr ⟨(hw _ (List.mem_of_getElem? (i := 2) rfl)), (hw _ (List.mem_of_getElem? (i := 8) rfl))⟩),
    Sta.start ev1 (Or.inr ⟨(hw _ (List.mem_of_getElem? (i := 2) rfl)), (hw _ (List.mem_of_getElem? (i := 16) rfl))⟩),
    Sta.start ev2 (Or.inr ⟨(hw _ (List.mem_of_getElem? (i := 2) rfl)), (hw _ (List.mem_of_getElem? (i := 17) rfl))⟩),
    Exa.start ev0 u4,
    Exa.start ev1 u6,
    Exa.start ev2 u8,
    Fld.start ((fld_at ev1).symm.trans (own_eqI u10)),
    Fld.start ((fld_at ev2).symm.trans (own_eqI v10)),
    ⟨cl0, Ar0, sl0, FitC.start hfit Ar0⟩,
    trivial⟩
  obtain ⟨n, o, h1, h2, h3, _, L, rfl, ⟨rfl, N⟩, hq⟩ := rm0 l s _ hw tables_1 w s.heap s.heap.size (Nat.le_refl _) hPin i0 i1 p e ha hc hk s m _ below hf ((Spec.applies_iff_loose hf).mp happ).1 ⟨rfl, State.Warmed39.refl s, rfl⟩ trivial
  refine ⟨n, _, h1, h2, h3, hpost _ _ _ _ _ _ ⟨Cond.after_iff.mpr rfl, Cond.after_iff.mpr (eq_i res_at (Term.int_eval (1)) rfl), trivial⟩ ⟨hq.1, hq.2.1, (hq.2.2.sift fun y hy => Or.inr (N y hy)).mono (by decide) (by decide)⟩⟩
theorem main_1_1 : Claimed_1_1 := comes_1 fun _ _ _ _ _ _ h hF => ⟨h.1, hF⟩
theorem main_1_2 : Claimed_1_2 := comes_1 fun _ _ _ _ _ _ h hF => ⟨h.2.1, hF⟩
end Jvm.Pilot.@@N@@
namespace Jvm.Pilot.@@N@@
open Jvm Jvm.ClassFile Sem Op Lib Jvm.Free Jvm.Stand Jvm.Pilot.@@N@@.Jvm.D
/-! MADE BY PROGRAM (witnessworld.py) out of the Statement's table words and the real class files: 13 classes; the members and pool entries that the words name. The judged class is class 1, her method 1. -/
namespace start1
open Jvm.ClassFile
def u (s : String) : CpInfo := .utf8 (stringToUtf16 s)
/-- a pool by its gaps: so many unusable entries, then the entry; so many at the end -/
def gap : Nat → List CpInfo → List CpInfo
  | 0, r => r
  | n + 1, r => .unusable :: gap n r
def poolList (es : List (Nat × CpInfo)) (last : Nat) : List CpInfo := es.foldr (fun e r => gap e.1 (e.2 :: r)) (gap last [])
def pool (es : List (Nat × CpInfo)) (last : Nat) : Array CpInfo := ⟨poolList es last⟩
def fileOf (pool : Array CpInfo) (this : Nat) (attrs : Array Attribute := #[]) (ms : Array MethodInfo := #[]) (fl : Nat := 33) (sup : Nat := 0) (ifs : Array Nat := #[]) (fds : Array FieldInfo := #[]) : ClassFile where
  minorVersion := 0
  majorVersion := 65
  constantPool := pool
  accessFlags := fl
  thisClass := this
  superClass := sup
  interfaces := ifs
  fields := fds
  methods := ms
  attributes := attrs
def plain (name : String) (sup : Option ClassId) : Class where
  name := name
  kind := .ordinary
  loader := none
  accessFlags := 33
  super := sup
  interfaces := #[]
  cf := none
  fields := #[]
  methods := #[]
  instanceTypes := #[]
  staticTypes := #[]
  resolved := #[]
  callSites := []
  init := .initialized
  statics := none
  mirror := none

def pool0 : Array CpInfo := pool [(5, u "<init>"), (0, u "()V"), (1, .class_ 10), (1, u "java/lang/Object"), (85, u "clone"), (0, u "()Ljava/lang/Object;")] 26

def k0m0 : Method := { name := "<init>", desc := "()V", sig := { parameters := [], returnType := none }, accessFlags := 1, code := none }
def k0m1 : Method := { name := "clone", desc := "()Ljava/lang/Object;", sig := { parameters := [], returnType := some (.object "java/lang/Object") }, accessFlags := 260, code := none }
/-- java/lang/Object -/
def k0 : Class := { plain "java/lang/Object" none with
  accessFlags := 33
  interfaces := #[]
  cf := some (fileOf pool0 8 #[] #[{ accessFlags := 1, nameIndex := 5, descriptorIndex := 6, attributes := #[] }, { accessFlags := 260, nameIndex := 96, descriptorIndex := 97, attributes := #[] }] 33 0 #[] #[])
  fields := #[]
  methods := #[k0m0, k0m1]
  instanceTypes := #[]
  staticTypes := #[]
  resolved := Array.replicate 124 none
  statics := none }

def pool1 : Array CpInfo := pool [(2, .class_ 4), (1, u "java/lang/Object"), (0, u "<init>"), (0, u "()V"), (0, .methodref 8 9), (0, .class_ 10), (0, .nameAndType 11 12), (0, u "com/example/stubwright/stubwright/ConnectionMode"), (0, u "fromCode"), (0, u "(I)Lcom/example/stubwright/stubwright/ConnectionMode;"), (0, .fieldref 8 14), (0, .nameAndType 15 16), (0, u "SIMPLEX"), (0, u "Lcom/example/stubwright/stubwright/ConnectionMode;"), (0, .fieldref 8 18), (0, .nameAndType 19 16), (0, u "DUPLEX"), (0, .methodref 8 21), (0, .nameAndType 22 23), (0, u "code"), (0, u "()I"), (0, .class_ 25), (0, u "com/example/stubwright/stubwright/ConnectionModeFromCodePinLaw"), (2, u "law"), (0, u "(II)Z")] 3

def k1m0 : Method := { name := "<init>", desc := "()V", sig := { parameters := [], returnType := none }, accessFlags := 1, code := none }
def k1c1 : Code := { maxStack := 2, maxLocals := 5, code := code, exceptionTable := #[], attributes := #[] }
def k1m1 : Method := { name := "law", desc := "(II)Z", sig := { parameters := [.int, .int], returnType := some .boolean }, accessFlags := 9, code := some k1c1 }
/-- com/example/stubwright/stubwright/ConnectionModeFromCodePinLaw -/
def k1 : Class := { plain "com/example/stubwright/stubwright/ConnectionModeFromCodePinLaw" (some 0) with
  accessFlags := 49
  interfaces := #[]
  cf := some (fileOf pool1 24 #[] #[{ accessFlags := 1, nameIndex := 5, descriptorIndex := 6, attributes := #[] }, { accessFlags := 9, nameIndex := 28, descriptorIndex := 29, attributes := #[] }] 49 2 #[] #[])
  fields := #[]
  methods := #[k1m0, k1m1]
  instanceTypes := #[]
  staticTypes := #[]
  resolved := Array.replicate 33 none
  statics := none }

def pool2 : Array CpInfo := pool [(1, .class_ 2), (0, u "java/lang/constant/Constable"), (0, .class_ 4), (0, u "java/lang/Object")] 6

/-- java/lang/constant/Constable -/
def k2 : Class := { plain "java/lang/constant/Constable" (some 0) with
  accessFlags := 1537
  interfaces := #[]
  cf := some (fileOf pool2 1 #[] #[] 1537 3 #[] #[])
  fields := #[]
  methods := #[]
  instanceTypes := #[]
  staticTypes := #[]
  resolved := Array.replicate 11 none
  statics := none }

def pool3 : Array CpInfo := pool [(1, .class_ 2), (0, u "java/lang/Comparable"), (0, .class_ 4), (0, u "java/lang/Object")] 7

/-- java/lang/Comparable -/
def k3 : Class := { plain "java/lang/Comparable" (some 0) with
  accessFlags := 1537
  interfaces := #[]
  cf := some (fileOf pool3 1 #[] #[] 1537 3 #[] #[])
  fields := #[]
  methods := #[]
  instanceTypes := #[]
  staticTypes := #[]
  resolved := Array.replicate 12 none
  statics := none }

def pool4 : Array CpInfo := pool [(1, .class_ 2), (0, u "java/io/Serializable"), (0, .class_ 4), (0, u "java/lang/Object")] 2

/-- java/io/Serializable -/
def k4 : Class := { plain "java/io/Serializable" (some 0) with
  accessFlags := 1537
  interfaces := #[]
  cf := some (fileOf pool4 1 #[] #[] 1537 3 #[] #[])
  fields := #[]
  methods := #[]
  instanceTypes := #[]
  staticTypes := #[]
  resolved := Array.replicate 7 none
  statics := none }

def pool5 : Array CpInfo := pool [(2, .class_ 4), (1, u "java/lang/Enum"), (0, u "name"), (0, u "Ljava/lang/String;"), (2, u "ordinal"), (0, u "I"), (1, .class_ 14), (1, u "java/lang/Object"), (4, u "hash"), (86, .class_ 108), (1, u "java/lang/Enum$EnumDesc"), (2, .class_ 112), (0, u "java/lang/constant/Constable"), (0, .class_ 114), (0, u "java/lang/Comparable"), (0, .class_ 116), (0, u "java/io/Serializable")] 87

/-- java/lang/Enum -/
def k5 : Class := { plain "java/lang/Enum" (some 0) with
  accessFlags := 1057
  interfaces := #[2, 3, 4]
  cf := some (fileOf pool5 2 #[.nestMembers #[106]] #[] 1057 12 #[111, 113, 115] #[{ accessFlags := 18, nameIndex := 5, descriptorIndex := 6, attributes := #[] }, { accessFlags := 18, nameIndex := 9, descriptorIndex := 10, attributes := #[] }, { accessFlags := 2, nameIndex := 19, descriptorIndex := 10, attributes := #[] }])
  fields := #[{ name := "name", type := (.object "java/lang/String"), accessFlags := 18, slot := 0, constantValue := 0 }, { name := "ordinal", type := .int, accessFlags := 18, slot := 1, constantValue := 0 }, { name := "hash", type := .int, accessFlags := 2, slot := 2, constantValue := 0 }]
  methods := #[]
  instanceTypes := #[(.object "java/lang/String"), .int, .int]
  staticTypes := #[]
  resolved := Array.replicate 204 none
  statics := none }

def pool6 : Array CpInfo := pool [(1, .class_ 2), (0, u "com/example/stubwright/stubwright/ConnectionMode"), (2, u "SIMPLEX"), (0, u "Lcom/example/stubwright/stubwright/ConnectionMode;"), (2, u "DUPLEX"), (0, .fieldref 1 11), (0, .nameAndType 12 13), (0, u "$VALUES"), (0, u "[Lcom/example/stubwright/stubwright/ConnectionMode;"), (0, .methodref 15 16), (0, .class_ 13), (0, .nameAndType 17 18), (0, u "clone"), (0, u "()Ljava/lang/Object;"), (1, .class_ 22), (1, u "java/lang/Enum"), (6, .fieldref 1 30), (0, .nameAndType 31 32), (0, u "code"), (0, u "I"), (0, .methodref 1 34), (0, .nameAndType 35 36), (0, u "values"), (0, u "()[Lcom/example/stubwright/stubwright/ConnectionMode;"), (14, u "()I"), (0, u "fromCode"), (0, u "(I)Lcom/example/stubwright/stubwright/ConnectionMode;")] 6

def k6c0 : Code := { maxStack := 1, maxLocals := 0, code := prog_14_method_1_code, exceptionTable := #[], attributes := #[] }
def k6m0 : Method := { name := "values", desc := "()[Lcom/example/stubwright/stubwright/ConnectionMode;", sig := { parameters := [], returnType := some (.array (.object "com/example/stubwright/stubwright/ConnectionMode")) }, accessFlags := 9, code := some k6c0 }
def k6c1 : Code := { maxStack := 1, maxLocals := 1, code := prog_14_method_4_code, exceptionTable := #[], attributes := #[] }
def k6m1 : Method := { name := "code", desc := "()I", sig := { parameters := [], returnType := some .int }, accessFlags := 0, code := some k6c1 }
def k6c2 : Code := { maxStack := 2, maxLocals := 5, code := prog_14_method_5_code, exceptionTable := #[], attributes := #[] }
def k6m2 : Method := { name := "fromCode", desc := "(I)Lcom/example/stubwright/stubwright/ConnectionMode;", sig := { parameters := [.int], returnType := some (.object "com/example/stubwright/stubwright/ConnectionMode") }, accessFlags := 8, code := some k6c2 }
/-- com/example/stubwright/stubwright/ConnectionMode -/
def k6 : Class := { plain "com/example/stubwright/stubwright/ConnectionMode" (some 5) with
  accessFlags := 16433
  interfaces := #[]
  cf := some (fileOf pool6 1 #[] #[{ accessFlags := 9, nameIndex := 35, descriptorIndex := 36, attributes := #[] }, { accessFlags := 0, nameIndex := 31, descriptorIndex := 51, attributes := #[] }, { accessFlags := 8, nameIndex := 52, descriptorIndex := 53, attributes := #[] }] 16433 20 #[] #[{ accessFlags := 16409, nameIndex := 5, descriptorIndex := 6, attributes := #[] }, { accessFlags := 16409, nameIndex := 9, descriptorIndex := 6, attributes := #[] }, { accessFlags := 18, nameIndex := 31, descriptorIndex := 32, attributes := #[] }, { accessFlags := 4122, nameIndex := 12, descriptorIndex := 13, attributes := #[] }])
  fields := #[{ name := "SIMPLEX", type := (.object "com/example/stubwright/stubwright/ConnectionMode"), accessFlags := 16409, slot := 0, constantValue := 0 }, { name := "DUPLEX", type := (.object "com/example/stubwright/stubwright/ConnectionMode"), accessFlags := 16409, slot := 1, constantValue := 0 }, { name := "code", type := .int, accessFlags := 18, slot := 3, constantValue := 0 }, { name := "$VALUES", type := (.array (.object "com/example/stubwright/stubwright/ConnectionMode")), accessFlags := 4122, slot := 2, constantValue := 0 }]
  methods := #[k6m0, k6m1, k6m2]
  instanceTypes := #[(.object "java/lang/String"), .int, .int, .int]
  staticTypes := #[(.object "com/example/stubwright/stubwright/ConnectionMode"), (.object "com/example/stubwright/stubwright/ConnectionMode"), (.array (.object "com/example/stubwright/stubwright/ConnectionMode"))]
  resolved := Array.replicate 60 none
  statics := some 0 }

def pool7 : Array CpInfo := pool [(1, .class_ 2), (0, u "java/lang/Cloneable"), (0, .class_ 4), (0, u "java/lang/Object")] 2

/-- java/lang/Cloneable -/
def k7 : Class := { plain "java/lang/Cloneable" (some 0) with
  accessFlags := 1537
  interfaces := #[]
  cf := some (fileOf pool7 1 #[] #[] 1537 3 #[] #[])
  fields := #[]
  methods := #[]
  instanceTypes := #[]
  staticTypes := #[]
  resolved := Array.replicate 7 none
  statics := none }

/-- the primitive byte -/
def k8 : Class := { plain "byte" none with kind := .primitive 'B', accessFlags := 0x411 }
/-- [B -/
def k9 : Class := { plain "[B" (some 0) with kind := .array 8 .byte, interfaces := #[7, 4], accessFlags := 1041 }

/-- the primitive int -/
def k10 : Class := { plain "int" none with kind := .primitive 'I', accessFlags := 0x411 }
/-- [I -/
def k11 : Class := { plain "[I" (some 0) with kind := .array 10 .int, interfaces := #[7, 4], accessFlags := 1041 }

/-- [Lcom/example/stubwright/stubwright/ConnectionMode; -/
def k12 : Class := { plain "[Lcom/example/stubwright/stubwright/ConnectionMode;" (some 0) with kind := .array 6 (.object "com/example/stubwright/stubwright/ConnectionMode"), interfaces := #[7, 4], accessFlags := 1041 }

def heap : Heap := #[{ cls := 6, slots := #[.ref 2, .ref 3, .ref 1], vm := .statics 6 },
  { cls := 12, slots := #[.ref 2, .ref 3], vm := .none },
  { cls := 6, slots := #[.null, .int 0, .int 0, .int 0], vm := .none },
  { cls := 6, slots := #[.null, .int 0, .int 0, .int 1], vm := .none }]
def classes : Array Class := #[k0, k1, k2, k3, k4, k5, k6, k7, k8, k9, k10, k11, k12]
def interned : List (Array UInt16 × Addr) := []
def slotsUsed : Nat := 13
def theMethod : MethodId := ⟨1, 1⟩
def args0 : Array Value := #[.int 5, .int 8]
def aboutOver (below : List Frame) : State where
  vm := { classes := classes, interned := interned.toArray }
  heap := heap
  slotsUsed := slotsUsed
  threads := #[{ frames := .invoking theMethod args0 :: below }]
def below0 : List Frame := [.native { method := ⟨0, 0⟩, args := #[] }]
def about1 : State := aboutOver below0
def p0 : Program := .bare "" "" ""
def e0 : Env := launch0.env 0 0 0
theorem w_frames : about1.frames = Frame.invoking theMethod args0 :: below0 := rfl
set_option maxRecDepth 65536 in
theorem w_args : argsFit about1.vm theMethod args0 = true := by decide +kernel
set_option maxRecDepth 65536 in
theorem w_heap : heapFits about1 = true := by decide +kernel
set_option maxRecDepth 65536 in
theorem w_runnable : about1.curStatus? = some .runnable := by decide +kernel
set_option maxRecDepth 65536 in
theorem w_alone : about1.alone = true := by decide +kernel
set_option maxRecDepth 65536 in
theorem w_named : about1.methodNamed? x = some theMethod := by decide +kernel
set_option maxRecDepth 65536 in
theorem w_hears : about1.hears theMethod below0 = true := by decide +kernel
set_option maxRecDepth 65536 in
theorem w_ripe : about1.ripe theMethod args0 below0 = true := by decide +kernel
theorem w_running : about1.status = .running := rfl
set_option maxRecDepth 65536 in
theorem w_room : about1.hasRoom e0.platform room_1 = true :=
  launch0.hasRoom_least _ room_1 (by decide +kernel) (by decide +kernel) (by decide +kernel) (by decide +kernel) (by decide +kernel) (by decide +kernel)
theorem allAtoms_all (ts : List Jvm.Cond) (a : Array Jvm.Value) (st : Jvm.State) : (allAtoms ts).before a st = ts.all (fun c => c.before a st) := by
  induction ts with
  | nil => rfl
  | cons c t ih =>
    show (Jvm.Cond.and c (allAtoms t)).before a st = _
    rw [Jvm.Cond.before_and, ih, List.all_cons]
def words1 : List Jvm.Cond := Jvm.Cond.code x code maxLocals ret :: tables_1
/-- a 'code' word, met by the world's own term for the bytes: nothing is compared byte by byte -/
theorem code_word {y : MethodName} {bytes : ByteArray} {mx : Nat} {rt : Option FieldType} {a : Array Value} {s : State} {m : MethodId} {meth : Method} {c : Code} (h1 : s.methodNamed? y = some m) (h2 : s.vm.method? m = some meth) (h3 : meth.code = some c) (h4 : c.code = bytes)
    (h5 : (c.maxLocals == mx && c.exceptionTable.isEmpty && decide (c.maxStack ≤ mostOperands) && decide (meth.sig.returnType = rt) && !meth.locks && decide (parseMethodDescriptor y.desc = some meth.sig)) = true) : (Jvm.Cond.code y bytes mx rt).before a s = true := by
  simp only [Bool.and_eq_true, beq_iff_eq, Bool.not_eq_true', decide_eq_true_eq] at h5
  obtain ⟨⟨⟨⟨⟨g1, g2⟩, g3⟩, g4⟩, g5⟩, g6⟩ := h5
  simp [Cond.before, Cond.holds, Cond.value, h1, h2, h3, h4, g1, g2, g3, g4, g5, g6]
def isCode : Jvm.Cond → Bool
  | .code _ _ _ _ => true
  | _ => false
theorem all_split {L : List Jvm.Cond} {P : Jvm.Cond → Bool} (h1 : L.all (fun c => isCode c || P c) = true) (h2 : ∀ c ∈ L.filter isCode, P c = true) : L.all P = true := by
  refine List.all_eq_true.mpr fun c hc => ?_
  have h := List.all_eq_true.mp h1 c hc
  rcases Bool.eq_false_or_eq_true (isCode c) with hi | hi
  · exact h2 c (List.mem_filter.mpr ⟨hc, hi⟩)
  · simpa [hi] using h
set_option maxRecDepth 65536 in
theorem w_c0 : (Jvm.Cond.code x code maxLocals ret).before args0 about1 = true := code_word (m := ⟨1, 1⟩) (meth := k1m1) (c := k1c1) (by decide +kernel) rfl rfl rfl (by decide +kernel)
set_option maxRecDepth 65536 in
theorem w_c1 : (Jvm.Cond.code ({ cls := "com/example/stubwright/stubwright/ConnectionMode", name := "fromCode", desc := "(I)Lcom/example/stubwright/stubwright/ConnectionMode;" } : Jvm.MethodName) prog_14_method_5_code (5 : Nat) (Option.some (Jvm.ClassFile.FieldType.object "com/example/stubwright/stubwright/ConnectionMode"))).before args0 about1 = true := code_word (m := ⟨6, 2⟩) (meth := k6m2) (c := k6c2) (by decide +kernel) rfl rfl rfl (by decide +kernel)
set_option maxRecDepth 65536 in
theorem w_c2 : (Jvm.Cond.code ({ cls := "com/example/stubwright/stubwright/ConnectionMode", name := "values", desc := "()[Lcom/example/stubwright/stubwright/ConnectionMode;" } : Jvm.MethodName) prog_14_method_1_code (0 : Nat) (Option.some (Jvm.ClassFile.FieldType.array (Jvm.ClassFile.FieldType.object "com/example/stubwright/stubwright/ConnectionMode")))).before args0 about1 = true := code_word (m := ⟨6, 0⟩) (meth := k6m0) (c := k6c0) (by decide +kernel) rfl rfl rfl (by decide +kernel)
set_option maxRecDepth 65536 in
theorem w_c3 : (Jvm.Cond.code ({ cls := "com/example/stubwright/stubwright/ConnectionMode", name := "code", desc := "()I" } : Jvm.MethodName) prog_14_method_4_code (1 : Nat) (Option.some Jvm.ClassFile.FieldType.int)).before args0 about1 = true := code_word (m := ⟨6, 1⟩) (meth := k6m1) (c := k6c1) (by decide +kernel) rfl rfl rfl (by decide +kernel)
def codes1 : List Jvm.Cond := [Jvm.Cond.code x code maxLocals ret, Jvm.Cond.code ({ cls := "com/example/stubwright/stubwright/ConnectionMode", name := "fromCode", desc := "(I)Lcom/example/stubwright/stubwright/ConnectionMode;" } : Jvm.MethodName) prog_14_method_5_code (5 : Nat) (Option.some (Jvm.ClassFile.FieldType.object "com/example/stubwright/stubwright/ConnectionMode")), Jvm.Cond.code ({ cls := "com/example/stubwright/stubwright/ConnectionMode", name := "values", desc := "()[Lcom/example/stubwright/stubwright/ConnectionMode;" } : Jvm.MethodName) prog_14_method_1_code (0 : Nat) (Option.some (Jvm.ClassFile.FieldType.array (Jvm.ClassFile.FieldType.object "com/example/stubwright/stubwright/ConnectionMode"))), Jvm.Cond.code ({ cls := "com/example/stubwright/stubwright/ConnectionMode", name := "code", desc := "()I" } : Jvm.MethodName) prog_14_method_4_code (1 : Nat) (Option.some Jvm.ClassFile.FieldType.int)]
set_option maxRecDepth 65536 in
theorem codes_eq : words1.filter isCode = codes1 := rfl
theorem w_codes : ∀ c ∈ words1.filter isCode, c.before args0 about1 = true := by
  rw [codes_eq]
  intro c hc
  simp only [codes1, List.mem_cons, List.not_mem_nil, or_false] at hc
  rcases hc with rfl | rfl | rfl | rfl
  · exact w_c0
  · exact w_c1
  · exact w_c2
  · exact w_c3
set_option maxRecDepth 65536 in
theorem w_t1 : (words1.take 24).all (fun c => isCode c || c.before args0 about1) = true := by decide +kernel
set_option maxRecDepth 65536 in
theorem w_t2 : (words1.drop 24).all (fun c => isCode c || c.before args0 about1) = true := by decide +kernel
theorem w_tables : (allAtoms (Jvm.Cond.code x code maxLocals ret :: tables_1)).before args0 about1 = true := by
  rw [allAtoms_all]
  show words1.all (fun c => c.before args0 about1) = true
  refine all_split ?_ w_codes
  rw [← List.take_append_drop 24 words1, List.all_append, w_t1, w_t2]
  rfl
set_option maxRecDepth 65536 in
theorem w_case : (Jvm.Cond.and given_1 narrow_1).before args0 about1 = true := by decide +kernel
theorem w_applies : (headSpec (Jvm.Cond.code x code maxLocals ret :: tables_1) room_1).applies x e0.platform about1 = true :=
  (Spec.applies_iff w_frames).mpr ⟨w_running, w_runnable, w_alone, w_named, w_hears, w_ripe, w_room, w_tables⟩
theorem atStart : AtStart classFile x code maxLocals ret World_1 tables_1 room_1 Calls_1 rest_1 Pre_1 launch0 p0 e0 about1 theMethod args0 below0 :=
  ⟨lists_1, trivial, launch0.admits_env _ _ _, launch0.least_env, fairChoices_fair.cas, fairChoices_fair.clock, w_frames, w_args, w_heap, w_applies, trivial, trivial, w_case⟩
end start1
theorem witness_1 : WitnessClaimed_1 := ⟨start1.p0, start1.e0, start1.about1, start1.theMethod, start1.args0, start1.below0, start1.atStart⟩
end Jvm.Pilot.@@N@@
