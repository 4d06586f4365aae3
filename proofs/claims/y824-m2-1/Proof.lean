import JvmDerived
import JvmDerived.Pilot.@@N@@Statement
import JvmDerived.Pilot.@@N@@Code
set_option linter.unusedVariables false
set_option linter.unusedSimpArgs false

namespace Jvm.Pilot.@@N@@
open Jvm Jvm.ClassFile Sem Op Lib Jvm.Free Jvm.Stand Jvm.LawKit Jvm.RoadKit Bundle Jvm.Pilot.@@N@@.Jvm.D
/-- from here the run comes to its end, and G holds there -/
def Go (p : Program) (e : Env) (below : List Frame) (G : Outcome → State → Prop) (T : State) (g : JFrame) : Prop := ∃ s₂ o, Steps p.tables e below (T.setTop g) s₂ ∧ s₂.status = .running ∧ Ended s₂ below o ∧ G o s₂
theorem Go.on {p : Program} {e : Env} {below : List Frame} {G : Outcome → State → Prop} {T T' : State} {g g' : JFrame} (h : ∀ t, Steps p.tables e below (T'.setTop g') t → Steps p.tables e below (T.setTop g) t) (k : Go p e below G T' g') : Go p e below G T g := by
  obtain ⟨s2, o, k1, k2⟩ := k
  exact ⟨s2, o, h _ k1, k2⟩
/-- a body that writes nothing: what it returns; the heap as it was -/
def Qp (r : Option Value) (h0 : Heap) (n0 : Nat) (v : Option Value) (h : Heap) (L : List Loc) : Prop := v = r ∧ Fr n0 L ∧ h = h0
def Ql (r : Option Value) (n0 : Nat) (v : Option Value) (L : List Loc) : Prop := v = r ∧ Fr n0 L
/-- a body that only makes new cells -/
def Qx (r : Option Value) (F : Heap → Prop) (h0 : Heap) (n0 : Nat) (v : Option Value) (h : Heap) (L : List Loc) : Prop := v = r ∧ Fr n0 L ∧ Ext h0 h ∧ F h
theorem own_ext0 (h : Heap) : Ext h h := ⟨Nat.le_refl _, fun _ _ q => q⟩
theorem own_ext2 {a b c : Heap} (E : Ext a b) (F : Ext b c) : Ext a c := ⟨Nat.le_trans E.1 F.1, fun x y q => F.2 x y (E.2 x y q)⟩
theorem own_extw {h0 h h' : Heap} {a : Addr} {sl : Nat} {v : Value} (E : Ext h0 h) (W : Wr h h' a sl v) (q : h0.size ≤ a) : Ext h0 h' := by
  refine ⟨by rw [W.size]; exact E.1, fun x c hx => ?_⟩
  obtain ⟨c', g1, -, -, -, g5, -⟩ := wr_at W (E.2 x c hx)
  have hne : x ≠ a := Nat.ne_of_lt (Nat.lt_of_lt_of_le (Array.getElem?_eq_some_iff.mp hx).1 q)
  rw [g1, g5 hne]
theorem own_extE {h a b : Heap} (e : a = b) (X : Ext h b) : Ext h a := e ▸ X
theorem own_arrE {Z : State} {a b : Heap} {x : Addr} {c : Cell} {ty : FieldType} (e : a = b) (A : Arr Z b x c ty) : Arr Z a x c ty := e ▸ A
theorem own_ne {Z : State} {h : Heap} {a b : Addr} {C n d : String} {v v' : Value} (F : Fld Z h a C n d v) (G : Fld Z h b C n d v') (hv : v ≠ v') : ¬ (a = b) := by
  rintro rfl
  obtain ⟨cell, cf, k, i, f, h1, h2, -, -, -, -, h7⟩ := F
  obtain ⟨cell', cf', k', i', f', g1, g2, -, -, -, -, g7⟩ := G
  cases h1.symm.trans g1
  cases h2.symm.trans g2
  exact hv (Option.some.inj (h7.symm.trans g7))
theorem own_irrI (x : Int32) : ¬ (x < x) := by simp
theorem own_irrJ (x : Int64) : ¬ (x < x) := by simp
theorem own_eqI {args : Array Value} {s : State} {t : Term} {n : Int32} (h : (Jvm.Cond.eq t (.int n)).value args s none s [] = some true) : t.eval args s none [] s = some (.int n) := by
  exact eqv_i (Term.int_eval n) h
theorem own_len {args : Array Value} {s : State} {t : Term} {n : Int32} {a : Addr} {cl : Cell} {ty : FieldType} {k : Nat} (h : (Term.length t).eval args s none [] s = some (.int n)) (ht : t.eval args s none [] s = some (.ref a)) (A : Arr s s.heap a cl ty) (hk : n.toInt = k) : cl.slots.size = k := by
  have ha := A.fin (U := s) (Vm.Alike.refl _)
  by_cases hl : cl.slots.size < 2 ^ 31
  · have e := (len_f ht ha hl).symm.trans h
    have e2 : cl.slots.size.toInt32 = n := by simpa using e
    have e3 := len_toInt hl
    rw [e2, hk] at e3
    omega
  · simp [Term.eval, ht, ha, hl] at h
theorem own_slots {cl : Cell} {vs : List Value} (h1 : cl.slots.size = vs.length) (h2 : ∀ (i : Nat) (v : Value), vs[i]? = some v → cl.slots[i]? = some v) : cl.slots = vs.toArray := by
  apply Array.ext
  · simp [h1]
  · intro i hi hj
    have hj' : i < vs.length := by simpa using hj
    have q := h2 i vs[i] (by simp [hj'])
    rw [Array.getElem?_eq_getElem hi] at q
    simpa using q
theorem own_eqR {args : Array Value} {s : State} {t u : Term} {a : Addr} (h : (Jvm.Cond.eq t u).value args s none s [] = some true) (hu : u.eval args s none [] s = some (.ref a)) : t.eval args s none [] s = some (.ref a) := by
  obtain ⟨x, y, h1, h2, k1, k2⟩ := cmp_v (Or.inl h)
  cases h2.symm.trans hu
  have q := gotT (eq_R h1 h2 k2.2 rfl) h
  rw [h1, q]
def Pins (Z : State) (h : Heap) (w : Nat → Addr) : Prop :=
  Sta Z h "com/example/stubwright/stubwright/PacketType" "$VALUES" "[Lcom/example/stubwright/stubwright/PacketType;" (.ref (w 0)) ∧
  Sta Z h "com/example/stubwright/stubwright/PacketType" "REQUEST" "Lcom/example/stubwright/stubwright/PacketType;" (.ref (w 1)) ∧
  Sta Z h "com/example/stubwright/stubwright/PacketType" "RESPONSE" "Lcom/example/stubwright/stubwright/PacketType;" (.ref (w 2)) ∧
  Sta Z h "com/example/stubwright/stubwright/PacketType" "REJECT" "Lcom/example/stubwright/stubwright/PacketType;" (.ref (w 3)) ∧
  Sta Z h "com/example/stubwright/stubwright/PacketType" "UNKOBJECT" "Lcom/example/stubwright/stubwright/PacketType;" (.ref (w 4)) ∧
  Sta Z h "com/example/stubwright/stubwright/PacketType" "OVERFLOW" "Lcom/example/stubwright/stubwright/PacketType;" (.ref (w 5)) ∧
  Sta Z h "com/example/stubwright/stubwright/PacketType" "REJECTBYAGENT" "Lcom/example/stubwright/stubwright/PacketType;" (.ref (w 6)) ∧
  Exa Z h (w 0) "[Lcom/example/stubwright/stubwright/PacketType;" ∧
  Exa Z h (w 1) "com/example/stubwright/stubwright/PacketType" ∧
  Exa Z h (w 2) "com/example/stubwright/stubwright/PacketType" ∧
  Exa Z h (w 3) "com/example/stubwright/stubwright/PacketType" ∧
  Exa Z h (w 4) "com/example/stubwright/stubwright/PacketType" ∧
  Exa Z h (w 5) "com/example/stubwright/stubwright/PacketType" ∧
  Exa Z h (w 6) "com/example/stubwright/stubwright/PacketType" ∧
  Fld Z h (w 1) "com/example/stubwright/stubwright/PacketType" "code" "I" (.int (0 : Int32)) ∧
  Fld Z h (w 2) "com/example/stubwright/stubwright/PacketType" "code" "I" (.int (1 : Int32)) ∧
  Fld Z h (w 3) "com/example/stubwright/stubwright/PacketType" "code" "I" (.int (2 : Int32)) ∧
  Fld Z h (w 4) "com/example/stubwright/stubwright/PacketType" "code" "I" (.int (3 : Int32)) ∧
  Fld Z h (w 5) "com/example/stubwright/stubwright/PacketType" "code" "I" (.int (4 : Int32)) ∧
  Fld Z h (w 6) "com/example/stubwright/stubwright/PacketType" "code" "I" (.int (5 : Int32)) ∧
  (∃ cl : Cell, Arr Z h (w 0) cl (.object "com/example/stubwright/stubwright/PacketType") ∧ cl.slots = #[(.ref (w 1)), (.ref (w 2)), (.ref (w 3)), (.ref (w 4)), (.ref (w 5)), (.ref (w 6))] ∧ FitC Z cl) ∧
  True
theorem pin_0 {Z : State} {h : Heap} {w : Nat → Addr} (P : Pins Z h w) : Sta Z h "com/example/stubwright/stubwright/PacketType" "$VALUES" "[Lcom/example/stubwright/stubwright/PacketType;" (.ref (w 0)) := P.1
theorem pin_1 {Z : State} {h : Heap} {w : Nat → Addr} (P : Pins Z h w) : Sta Z h "com/example/stubwright/stubwright/PacketType" "REQUEST" "Lcom/example/stubwright/stubwright/PacketType;" (.ref (w 1)) := P.2.1
theorem pin_2 {Z : State} {h : Heap} {w : Nat → Addr} (P : Pins Z h w) : Sta Z h "com/example/stubwright/stubwright/PacketType" "RESPONSE" "Lcom/example/stubwright/stubwright/PacketType;" (.ref (w 2)) := P.2.2.1
theorem pin_3 {Z : State} {h : Heap} {w : Nat → Addr} (P : Pins Z h w) : Sta Z h "com/example/stubwright/stubwright/PacketType" "REJECT" "Lcom/example/stubwright/stubwright/PacketType;" (.ref (w 3)) := P.2.2.2.1
theorem pin_4 {Z : State} {h : Heap} {w : Nat → Addr} (P : Pins Z h w) : Sta Z h "com/example/stubwright/stubwright/PacketType" "UNKOBJECT" "Lcom/example/stubwright/stubwright/PacketType;" (.ref (w 4)) := P.2.2.2.2.1
theorem pin_5 {Z : State} {h : Heap} {w : Nat → Addr} (P : Pins Z h w) : Sta Z h "com/example/stubwright/stubwright/PacketType" "OVERFLOW" "Lcom/example/stubwright/stubwright/PacketType;" (.ref (w 5)) := P.2.2.2.2.2.1
theorem pin_6 {Z : State} {h : Heap} {w : Nat → Addr} (P : Pins Z h w) : Sta Z h "com/example/stubwright/stubwright/PacketType" "REJECTBYAGENT" "Lcom/example/stubwright/stubwright/PacketType;" (.ref (w 6)) := P.2.2.2.2.2.2.1
theorem pin_7 {Z : State} {h : Heap} {w : Nat → Addr} (P : Pins Z h w) : Exa Z h (w 0) "[Lcom/example/stubwright/stubwright/PacketType;" := P.2.2.2.2.2.2.2.1
theorem pin_8 {Z : State} {h : Heap} {w : Nat → Addr} (P : Pins Z h w) : Exa Z h (w 1) "com/example/stubwright/stubwright/PacketType" := P.2.2.2.2.2.2.2.2.1
theorem pin_9 {Z : State} {h : Heap} {w : Nat → Addr} (P : Pins Z h w) : Exa Z h (w 2) "com/example/stubwright/stubwright/PacketType" := P.2.2.2.2.2.2.2.2.2.1
theorem pin_10 {Z : State} {h : Heap} {w : Nat → Addr} (P : Pins Z h w) : Exa Z h (w 3) "com/example/stubwright/stubwright/PacketType" := P.2.2.2.2.2.2.2.2.2.2.1
theorem pin_11 {Z : State} {h : Heap} {w : Nat → Addr} (P : Pins Z h w) : Exa Z h (w 4) "com/example/stubwright/stubwright/PacketType" := P.2.2.2.2.2.2.2.2.2.2.2.1
theorem pin_12 {Z : State} {h : Heap} {w : Nat → Addr} (P : Pins Z h w) : Exa Z h (w 5) "com/example/stubwright/stubwright/PacketType" := P.2.2.2.2.2.2.2.2.2.2.2.2.1
theorem pin_13 {Z : State} {h : Heap} {w : Nat → Addr} (P : Pins Z h w) : Exa Z h (w 6) "com/example/stubwright/stubwright/PacketType" := P.2.2.2.2.2.2.2.2.2.2.2.2.2.1
theorem pin_14 {Z : State} {h : Heap} {w : Nat → Addr} (P : Pins Z h w) : Fld Z h (w 1) "com/example/stubwright/stubwright/PacketType" "code" "I" (.int (0 : Int32)) := P.2.2.2.2.2.2.2.2.2.2.2.2.2.2.1
theorem pin_15 {Z : State} {h : Heap} {w : Nat → Addr} (P : Pins Z h w) : Fld Z h (w 2) "com/example/stubwright/stubwright/PacketType" "code" "I" (.int (1 : Int32)) := P.2.2.2.2.2.2.2.2.2.2.2.2.2.2.2.1
theorem pin_16 {Z : State} {h : Heap} {w : Nat → Addr} (P : Pins Z h w) : Fld Z h (w 3) "com/example/stubwright/stubwright/PacketType" "code" "I" (.int (2 : Int32)) := P.2.2.2.2.2.2.2.2.2.2.2.2.2.2.2.2.1
theorem pin_17 {Z : State} {h : Heap} {w : Nat → Addr} (P : Pins Z h w) : Fld Z h (w 4) "com/example/stubwright/stubwright/PacketType" "code" "I" (.int (3 : Int32)) := P.2.2.2.2.2.2.2.2.2.2.2.2.2.2.2.2.2.1
theorem pin_18 {Z : State} {h : Heap} {w : Nat → Addr} (P : Pins Z h w) : Fld Z h (w 5) "com/example/stubwright/stubwright/PacketType" "code" "I" (.int (4 : Int32)) := P.2.2.2.2.2.2.2.2.2.2.2.2.2.2.2.2.2.2.1
theorem pin_19 {Z : State} {h : Heap} {w : Nat → Addr} (P : Pins Z h w) : Fld Z h (w 6) "com/example/stubwright/stubwright/PacketType" "code" "I" (.int (5 : Int32)) := P.2.2.2.2.2.2.2.2.2.2.2.2.2.2.2.2.2.2.2.1
theorem pin_20 {Z : State} {h : Heap} {w : Nat → Addr} (P : Pins Z h w) : (∃ cl : Cell, Arr Z h (w 0) cl (.object "com/example/stubwright/stubwright/PacketType") ∧ cl.slots = #[(.ref (w 1)), (.ref (w 2)), (.ref (w 3)), (.ref (w 4)), (.ref (w 5)), (.ref (w 6))] ∧ FitC Z cl) := P.2.2.2.2.2.2.2.2.2.2.2.2.2.2.2.2.2.2.2.2.1
theorem pins_ext {Z : State} {h h' : Heap} {w : Nat → Addr} (E : Ext h h') (P : Pins Z h w) : Pins Z h' w :=
  ⟨(pin_0 P).ext E, (pin_1 P).ext E, (pin_2 P).ext E, (pin_3 P).ext E, (pin_4 P).ext E, (pin_5 P).ext E, (pin_6 P).ext E, (pin_7 P).ext E, (pin_8 P).ext E, (pin_9 P).ext E, (pin_10 P).ext E, (pin_11 P).ext E, (pin_12 P).ext E, (pin_13 P).ext E, (pin_14 P).ext E, (pin_15 P).ext E, (pin_16 P).ext E, (pin_17 P).ext E, (pin_18 P).ext E, (pin_19 P).ext E, (let ⟨c, A, r⟩ := pin_20 P; ⟨c, A.ext E, r⟩), trivial⟩
theorem d1_0 : decode prog_34_method_5_code 0 = .ok (.invokestatic 45, 3) := by decide +kernel
theorem d2_0 : decode prog_34_method_1_code 0 = .ok (.getstatic 22, 3) := by decide +kernel
theorem d2_3 : decode prog_34_method_1_code 3 = .ok (.invokevirtual 26, 3) := by decide +kernel
theorem d2_6 : decode prog_34_method_1_code 6 = .ok (.checkcast 27, 3) := by decide +kernel
theorem d2_9 : decode prog_34_method_1_code 9 = .ok (.areturn, 1) := by decide +kernel
theorem pn_0 : plainName "com/example/stubwright/stubwright/PacketType" = true := by first | (simp [plainName, overriddenIn]; done) | decide +kernel
set_option maxRecDepth 65536 in
set_option maxHeartbeats 40000000 in
theorem rm2_0 (l : Launch) (Z : State) (a0 : Array Value) (hw : ∀ d ∈ tables_1, d.before a0 Z = true) (ws : List Jvm.Cond) (w : Nat → Addr) (h0 : Heap) (n0 : Nat) (Z0 : n0 ≤ h0.size) (hP : Pins Z h0 w) :
    MetFree l (⟨"com/example/stubwright/stubwright/PacketType", "values", "()[Lcom/example/stubwright/stubwright/PacketType;"⟩ : MethodName) (head1 (Jvm.Cond.code (⟨"com/example/stubwright/stubwright/PacketType", "values", "()[Lcom/example/stubwright/stubwright/PacketType;"⟩ : MethodName) prog_34_method_1_code 0 (some (.array (.object "com/example/stubwright/stubwright/PacketType"))) :: ws) ({ frames := 1, cells := 1, slots := 6, locals := 14 } : Room)) (fun a U => a = #[] ∧ Z.Warmed39 U.vm ∧ U.heap = h0) (fun _ _ _ _ _ => True) (fun _ U o U' => ∃ v L, o = .returned v ∧ Qx (some (.ref (h0.size))) (fun h => ∃ kc, Arr Z h (h0.size) ({ cls := kc, slots := #[(.ref (w 1)), (.ref (w 2)), (.ref (w 3)), (.ref (w 4)), (.ref (w 5)), (.ref (w 6))] } : Cell) (.object "com/example/stubwright/stubwright/PacketType")) h0 n0 v U'.heap L ∧ FrameEnd U o U' L ({ frames := 1, cells := 1, slots := 6, locals := 14 } : Room).cells ({ frames := 1, cells := 1, slots := 6, locals := 14 } : Room).slots) := by
  refine MetFree.of_bodySF (plainFor_of_name pn_0) hisR ?_
  intro p e s m args below meth c s₁ Bd hml0 hP0 hK
  obtain ⟨rfl, hZ, hh⟩ := hP0
  have hx := Bd.exec
  have hby := Bd.bytes
  have hml : c.maxLocals = 0 := hml0
  have hown : s.vm.findClass "com/example/stubwright/stubwright/PacketType" = some m.cls := findClass_of_methodNamed Bd.named
  have hnm := (name_of_methodNamed Bd.named Bd.method).1
  have X0 : Stand p l e ({ frames := 1, cells := 1, slots := 6, locals := 14 } : Room) s m #[] below meth c s₁ [] 0 0 := Stand.of_body Bd
  have e0 : s₁.heap = h0 := by rw [← hh, Bd.state]; rfl
  have N0 := Fr.nil n0
  suffices hgo : Go p e below (fun o U' => ∃ v L, o = .returned v ∧ Qx (some (.ref (h0.size))) (fun h => ∃ kc, Arr Z h (h0.size) ({ cls := kc, slots := #[(.ref (w 1)), (.ref (w 2)), (.ref (w 3)), (.ref (w 4)), (.ref (w 5)), (.ref (w 6))] } : Cell) (.object "com/example/stubwright/stubwright/PacketType")) h0 n0 v U'.heap L ∧ FrameEnd s o U' L ({ frames := 1, cells := 1, slots := 6, locals := 14 } : Room).cells ({ frames := 1, cells := 1, slots := 6, locals := 14 } : Room).slots) s₁ (mkF m 0 #[] []) by
    obtain ⟨s2, o, g1, g2, g3, g4⟩ := hgo
    refine ⟨s2, o, castTop (?_ : entryFrame m #[] 0 = _) g1, g2, g3, g4⟩
    first | (simp [entryFrame, mkF, argsToLocals, Value.category]; done) | rfl
  obtain ⟨T19, X19, e19, st19⟩ := getS2 X0 hx hZ hown (host := "") (Or.inl (hw _ (List.mem_of_getElem? (i := 7) rfl))) Via.refl e0 (pin_0 hP) (g := (mkF m 0 #[] [])) rfl (hb hby d2_0)
  refine Go.on (T' := T19) (g' := (mkF m 3 #[] [(.ref (w 0))])) st19 ?_
  obtain ⟨cl20, Aq20, sq20, Fq20⟩ := (pin_20 hP)
  obtain ⟨T20, h20, X20, e20, E20, A20, EX20, st20⟩ := cloneA X19 hx hZ hown (hw _ (List.mem_of_getElem? (i := 9) rfl)) (hw _ (List.mem_of_getElem? (i := 10) rfl)) (hw _ (List.mem_of_getElem? (i := 14) rfl)) (hw _ (List.mem_of_getElem? (i := 12) rfl)) (hw _ (List.mem_of_getElem? (i := 13) rfl)) (hw _ (List.mem_of_getElem? (i := 15) rfl)) e19 Aq20 (pin_7 hP) Fq20 (g := (mkF m 3 #[] [(.ref (w 0))])) rfl (by rw [hml]; rfl) rfl (hb hby d2_3) (by decide) (W := 0) (by show 2 * 0 + _ ≤ _; exact Nat.le_of_eq rfl) (by decide) (cap := 6) (by rw [sq20]; exact Nat.le_of_ble_eq_true rfl) (by decide) (by decide)
  have sz20 : h0.size ≤ (h0.size) := (own_ext0 h0).1
  have XT20 := own_ext2 (own_ext0 h0) E20
  have Ar20_0 : Arr Z h20 (h0.size) ({ cls := cl20.cls, slots := #[(.ref (w 1)), (.ref (w 2)), (.ref (w 3)), (.ref (w 4)), (.ref (w 5)), (.ref (w 6))] } : Cell) (.object "com/example/stubwright/stubwright/PacketType") := (by rw [← sq20]; exact A20)
  refine Go.on (T' := T20) (g' := (mkF m 6 #[] [(.ref (h0.size))])) st20 ?_
  obtain ⟨T21, X21, e21, st21⟩ := castY X20 hx hZ hown (hw _ (List.mem_of_getElem? (i := 23) rfl)) e20 (Ins.self EX20) (g := (mkF m 6 #[] [(.ref (h0.size))])) rfl rfl (hb hby d2_6)
  refine Go.on (T' := T21) (g' := (mkF m 9 #[] [(.ref (h0.size))])) st21 ?_
  obtain ⟨fs, hr, hrun, hended, hW, hsame⟩ := X21.leave (v := some (.ref (h0.size))) (fun h => by rw [Bd.returns] at h; cases h)
  exact ⟨_, _, retOut X21 hx Bd.returns rfl (Or.inr (Or.inr (Or.inr (Or.inr ⟨rfl, rfl, rfl⟩)))) (hb hby d2_9) hr, hrun, hended, _, _, rfl, ⟨rfl, N0, own_extE e21 XT20, ⟨_, own_arrE e21 Ar20_0⟩⟩, ⟨_, rfl⟩, hW, hsame.mono (by decide) (by decide)⟩
theorem pd_0 : parseMethodDescriptor "()[Lcom/example/stubwright/stubwright/PacketType;" = some ⟨[], some (.array (.object "com/example/stubwright/stubwright/PacketType"))⟩ := by decide +kernel
theorem d1_3 : decode prog_34_method_5_code 3 = .ok (.astore_n 1, 1) := by decide +kernel
theorem d1_4 : decode prog_34_method_5_code 4 = .ok (.aload_n 1, 1) := by decide +kernel
theorem d1_5 : decode prog_34_method_5_code 5 = .ok (.arraylength, 1) := by decide +kernel
theorem d1_6 : decode prog_34_method_5_code 6 = .ok (.istore_n 2, 1) := by decide +kernel
theorem d1_7 : decode prog_34_method_5_code 7 = .ok (.iconst 0, 1) := by decide +kernel
theorem d1_8 : decode prog_34_method_5_code 8 = .ok (.istore_n 3, 1) := by decide +kernel
theorem d1_9 : decode prog_34_method_5_code 9 = .ok (.iload_n 3, 1) := by decide +kernel
theorem d1_10 : decode prog_34_method_5_code 10 = .ok (.iload_n 2, 1) := by decide +kernel
theorem d1_11 : decode prog_34_method_5_code 11 = .ok (.if_icmp .ge 26, 3) := by decide +kernel
theorem d1_14 : decode prog_34_method_5_code 14 = .ok (.aload_n 1, 1) := by decide +kernel
theorem d1_15 : decode prog_34_method_5_code 15 = .ok (.iload_n 3, 1) := by decide +kernel
theorem d1_16 : decode prog_34_method_5_code 16 = .ok (.aaload, 1) := by decide +kernel
theorem d1_17 : decode prog_34_method_5_code 17 = .ok (.astore 4, 2) := by decide +kernel
theorem d1_19 : decode prog_34_method_5_code 19 = .ok (.aload 4, 2) := by decide +kernel
theorem d1_21 : decode prog_34_method_5_code 21 = .ok (.getfield 41, 3) := by decide +kernel
theorem d1_24 : decode prog_34_method_5_code 24 = .ok (.iload_n 0, 1) := by decide +kernel
theorem d1_25 : decode prog_34_method_5_code 25 = .ok (.if_icmp .ne 6, 3) := by decide +kernel
theorem d1_28 : decode prog_34_method_5_code 28 = .ok (.aload 4, 2) := by decide +kernel
theorem d1_30 : decode prog_34_method_5_code 30 = .ok (.areturn, 1) := by decide +kernel
set_option maxRecDepth 65536 in
set_option maxHeartbeats 40000000 in
theorem rm1_0 (l : Launch) (Z : State) (a0 : Array Value) (hw : ∀ d ∈ tables_1, d.before a0 Z = true) (ws : List Jvm.Cond) (w : Nat → Addr) (h0 : Heap) (n0 : Nat) (Z0 : n0 ≤ h0.size) (hP : Pins Z h0 w) (pa0 : Int32) (hp0 : (0 : Int32) = pa0) :
    MetFree l (⟨"com/example/stubwright/stubwright/PacketType", "fromCode", "(I)Lcom/example/stubwright/stubwright/PacketType;"⟩ : MethodName) (head1 (Jvm.Cond.code (⟨"com/example/stubwright/stubwright/PacketType", "fromCode", "(I)Lcom/example/stubwright/stubwright/PacketType;"⟩ : MethodName) prog_34_method_5_code 5 (some (.object "com/example/stubwright/stubwright/PacketType")) :: ws) ({ frames := 2, cells := 1, slots := 6, locals := 25 } : Room)) (fun a U => a = #[(.int pa0)] ∧ Z.Warmed39 U.vm ∧ U.heap = h0) (fun _ _ _ _ _ => True) (fun _ U o U' => ∃ v L, o = .returned v ∧ Qx (some (.ref (w 1))) (fun h => True) h0 n0 v U'.heap L ∧ FrameEnd U o U' L ({ frames := 2, cells := 1, slots := 6, locals := 25 } : Room).cells ({ frames := 2, cells := 1, slots := 6, locals := 25 } : Room).slots) := by
  refine MetFree.of_bodySF (plainFor_of_name pn_0) hisR ?_
  intro p e s m args below meth c s₁ Bd hml0 hP0 hK
  obtain ⟨rfl, hZ, hh⟩ := hP0
  have hx := Bd.exec
  have hby := Bd.bytes
  have hml : c.maxLocals = 5 := hml0
  have hown : s.vm.findClass "com/example/stubwright/stubwright/PacketType" = some m.cls := findClass_of_methodNamed Bd.named
  have hnm := (name_of_methodNamed Bd.named Bd.method).1
  have X0 : Stand p l e ({ frames := 2, cells := 1, slots := 6, locals := 25 } : Room) s m #[(.int pa0)] below meth c s₁ [] 0 0 := Stand.of_body Bd
  have e0 : s₁.heap = h0 := by rw [← hh, Bd.state]; rfl
  have N0 := Fr.nil n0
  suffices hgo : Go p e below (fun o U' => ∃ v L, o = .returned v ∧ Qx (some (.ref (w 1))) (fun h => True) h0 n0 v U'.heap L ∧ FrameEnd s o U' L ({ frames := 2, cells := 1, slots := 6, locals := 25 } : Room).cells ({ frames := 2, cells := 1, slots := 6, locals := 25 } : Room).slots) s₁ (mkF m 0 #[.val (.int pa0), .unset, .unset, .unset, .unset] []) by
    obtain ⟨s2, o, g1, g2, g3, g4⟩ := hgo
    refine ⟨s2, o, castTop (?_ : entryFrame m #[(.int pa0)] 5 = _) g1, g2, g3, g4⟩
    first | (simp [entryFrame, mkF, argsToLocals, Value.category]; done) | rfl
  obtain ⟨_, _, ⟨T22, L22, k22, n22⟩, -, X22, ⟨Lc22, hQ22, l22, y22, z22⟩, st22⟩ := Jvm.LawKit.callS X0 hx (y := (⟨"com/example/stubwright/stubwright/PacketType", "values", "()[Lcom/example/stubwright/stubwright/PacketType;"⟩ : MethodName)) hown (mvT hZ (hw _ (List.mem_of_getElem? (i := 4) rfl))) (mvT hZ (hw _ (List.mem_of_getElem? (i := 5) rfl))) (mvT hZ (hw _ (List.mem_of_getElem? (i := 2) rfl))) (mvT hZ (hw _ (List.mem_of_getElem? (i := 6) rfl))) (by decide) (backOf (W := 0) (rm2_0 l Z a0 hw [] w h0 n0 (Nat.le_trans Z0 (own_ext0 h0).1) hP) hZ (hw _ (List.mem_of_getElem? (i := 6) rfl)) (hw _ (List.mem_of_getElem? (i := 2) rfl)) (by decide) (by decide)) (g := (mkF m 0 #[.val (.int pa0), .unset, .unset, .unset, .unset] [])) rfl (by rw [hml]; rfl) (argsL := []) (rest := []) (lenOf pd_0 rfl) rfl (by show 2 * 0 + _ ≤ _; exact Nat.le_of_eq rfl) (hb hby d1_0) (fun _ _ => ⟨rfl, e0, (by decide : 0 + 1 ≤ _), (by decide : 0 + 6 ≤ _)⟩)
  dsimp only [Pt.U, Pt.locs, Pt.cells, Pt.slots] at X22 l22 y22 z22 st22 hQ22
  subst l22 y22 z22
  obtain ⟨rfl, N22q, x22, f22⟩ := hQ22
  have N22 := Fr.app N0 N22q
  have e22 : T22.heap = T22.heap := rfl
  have sz22 : h0.size ≤ h0.size := (own_ext0 h0).1
  have XT22 := own_ext2 (own_ext0 h0) x22
  obtain ⟨k22, A22⟩ := f22
  refine Go.on (T' := T22) (g' := (mkF m 3 #[.val (.int pa0), .unset, .unset, .unset, .unset] [(.ref (h0.size))])) st22 ?_
  refine Go.on (T' := T22) (g' := (mkF m 4 #[.val (.int pa0), .val (.ref (h0.size)), .unset, .unset, .unset] [])) (fun t k => XS.astoreN X22.here hx rfl (hb hby d1_3) rfl rfl (l' := #[.val (.int pa0), .val (.ref (h0.size)), .unset, .unset, .unset]) rfl k) ?_
  refine Go.on (T' := T22) (g' := (mkF m 5 #[.val (.int pa0), .val (.ref (h0.size)), .unset, .unset, .unset] [(.ref (h0.size))])) (fun t k => XS.aloadN X22.here hx rfl (hb hby d1_4) rfl rfl k) ?_
  refine Go.on (T' := T22) (g' := (mkF m 6 #[.val (.int pa0), .val (.ref (h0.size)), .unset, .unset, .unset] [(.int (6 : Int32))])) (fun t k => X22.arraylength hx (by rw [e22]; exact A22.1) (State.isArrayOf_alike hZ.alike A22.2.1) (g := (mkF m 5 #[.val (.int pa0), .val (.ref (h0.size)), .unset, .unset, .unset] [(.ref (h0.size))])) rfl rfl (hb hby d1_5) t k) ?_
  refine Go.on (T' := T22) (g' := (mkF m 7 #[.val (.int pa0), .val (.ref (h0.size)), .val (.int (6 : Int32)), .unset, .unset] [])) (fun t k => XS.istoreN X22.here hx rfl (hb hby d1_6) rfl (l' := #[.val (.int pa0), .val (.ref (h0.size)), .val (.int (6 : Int32)), .unset, .unset]) rfl k) ?_
  refine Go.on (T' := T22) (g' := (mkF m 8 #[.val (.int pa0), .val (.ref (h0.size)), .val (.int (6 : Int32)), .unset, .unset] [(.int (0 : Int32))])) (fun t k => XS.iconst X22.here hx rfl (hb hby d1_7) k) ?_
  refine Go.on (T' := T22) (g' := (mkF m 9 #[.val (.int pa0), .val (.ref (h0.size)), .val (.int (6 : Int32)), .val (.int (0 : Int32)), .unset] [])) (fun t k => XS.istoreN X22.here hx rfl (hb hby d1_8) rfl (l' := #[.val (.int pa0), .val (.ref (h0.size)), .val (.int (6 : Int32)), .val (.int (0 : Int32)), .unset]) rfl k) ?_
  refine Go.on (T' := T22) (g' := (mkF m 10 #[.val (.int pa0), .val (.ref (h0.size)), .val (.int (6 : Int32)), .val (.int (0 : Int32)), .unset] [(.int (0 : Int32))])) (fun t k => XS.iloadN X22.here hx rfl (hb hby d1_9) rfl k) ?_
  refine Go.on (T' := T22) (g' := (mkF m 11 #[.val (.int pa0), .val (.ref (h0.size)), .val (.int (6 : Int32)), .val (.int (0 : Int32)), .unset] [(.int (6 : Int32)), (.int (0 : Int32))])) (fun t k => XS.iloadN X22.here hx rfl (hb hby d1_10) rfl k) ?_
  refine Go.on (T' := T22) (g' := (mkF m 14 #[.val (.int pa0), .val (.ref (h0.size)), .val (.int (6 : Int32)), .val (.int (0 : Int32)), .unset] [])) (fun t k => XS.icmpNo X22.here hx rfl (hb hby d1_11) rfl (tlt (by decide : (0 : Int32) < (6 : Int32))).2.1 k) ?_
  refine Go.on (T' := T22) (g' := (mkF m 15 #[.val (.int pa0), .val (.ref (h0.size)), .val (.int (6 : Int32)), .val (.int (0 : Int32)), .unset] [(.ref (h0.size))])) (fun t k => XS.aloadN X22.here hx rfl (hb hby d1_14) rfl rfl k) ?_
  refine Go.on (T' := T22) (g' := (mkF m 16 #[.val (.int pa0), .val (.ref (h0.size)), .val (.int (6 : Int32)), .val (.int (0 : Int32)), .unset] [(.int (0 : Int32)), (.ref (h0.size))])) (fun t k => XS.iloadN X22.here hx rfl (hb hby d1_15) rfl k) ?_
  refine Go.on (T' := T22) (g' := (mkF m 17 #[.val (.int pa0), .val (.ref (h0.size)), .val (.int (6 : Int32)), .val (.int (0 : Int32)), .unset] [(.ref (w 1))])) (fun t k => X22.aaload hx (j := (0 : Int32)) (v := (.ref (w 1))) (by rw [e22]; exact A22.1) (State.isArrayOf_alike hZ.alike A22.2.1) rfl A22.2.2 (by show ¬ (_ ∨ (6 : Nat) ≤ _); decide) rfl (g := (mkF m 16 #[.val (.int pa0), .val (.ref (h0.size)), .val (.int (6 : Int32)), .val (.int (0 : Int32)), .unset] [(.int (0 : Int32)), (.ref (h0.size))])) rfl rfl (hb hby d1_16) t k) ?_
  refine Go.on (T' := T22) (g' := (mkF m 19 #[.val (.int pa0), .val (.ref (h0.size)), .val (.int (6 : Int32)), .val (.int (0 : Int32)), .val (.ref (w 1))] [])) (fun t k => XS.astore X22.here hx rfl (hb hby d1_17) rfl rfl (l' := #[.val (.int pa0), .val (.ref (h0.size)), .val (.int (6 : Int32)), .val (.int (0 : Int32)), .val (.ref (w 1))]) rfl k) ?_
  refine Go.on (T' := T22) (g' := (mkF m 21 #[.val (.int pa0), .val (.ref (h0.size)), .val (.int (6 : Int32)), .val (.int (0 : Int32)), .val (.ref (w 1))] [(.ref (w 1))])) (fun t k => XS.aload X22.here hx rfl (hb hby d1_19) rfl rfl k) ?_
  obtain ⟨T23, X23, e23, st23⟩ := getF X22 hx hZ hown (host := "") (Or.inl (hw _ (List.mem_of_getElem? (i := 25) rfl))) Via.refl e22 (pin_14 (pins_ext XT22 hP)) (g := (mkF m 21 #[.val (.int pa0), .val (.ref (h0.size)), .val (.int (6 : Int32)), .val (.int (0 : Int32)), .val (.ref (w 1))] [(.ref (w 1))])) rfl rfl (hb hby d1_21)
  refine Go.on (T' := T23) (g' := (mkF m 24 #[.val (.int pa0), .val (.ref (h0.size)), .val (.int (6 : Int32)), .val (.int (0 : Int32)), .val (.ref (w 1))] [(.int (0 : Int32))])) st23 ?_
  refine Go.on (T' := T23) (g' := (mkF m 25 #[.val (.int pa0), .val (.ref (h0.size)), .val (.int (6 : Int32)), .val (.int (0 : Int32)), .val (.ref (w 1))] [(.int pa0), (.int (0 : Int32))])) (fun t k => XS.iloadN X23.here hx rfl (hb hby d1_24) rfl k) ?_
  refine Go.on (T' := T23) (g' := (mkF m 28 #[.val (.int pa0), .val (.ref (h0.size)), .val (.int (6 : Int32)), .val (.int (0 : Int32)), .val (.ref (w 1))] [])) (fun t k => XS.icmpNo X23.here hx rfl (hb hby d1_25) rfl (teq hp0).2 k) ?_
  refine Go.on (T' := T23) (g' := (mkF m 30 #[.val (.int pa0), .val (.ref (h0.size)), .val (.int (6 : Int32)), .val (.int (0 : Int32)), .val (.ref (w 1))] [(.ref (w 1))])) (fun t k => XS.aload X23.here hx rfl (hb hby d1_28) rfl rfl k) ?_
  obtain ⟨fs, hr, hrun, hended, hW, hsame⟩ := X23.leave (v := some (.ref (w 1))) (fun h => by rw [Bd.returns] at h; cases h)
  exact ⟨_, _, retOut X23 hx Bd.returns rfl (Or.inr (Or.inr (Or.inr (Or.inr ⟨rfl, rfl, rfl⟩)))) (hb hby d1_30) hr, hrun, hended, _, _, rfl, ⟨rfl, N22, own_extE e23 XT22, trivial⟩, ⟨_, rfl⟩, hW, hsame.mono (by decide) (by decide)⟩
theorem pd_1 : parseMethodDescriptor "(I)Lcom/example/stubwright/stubwright/PacketType;" = some ⟨[.int], some (.object "com/example/stubwright/stubwright/PacketType")⟩ := by decide +kernel
theorem d3_0 : decode method_3_code 0 = .ok (.iload_n 0, 1) := by decide +kernel
theorem d3_1 : decode method_3_code 1 = .ok (.ifCond .ne 7, 3) := by decide +kernel
theorem d3_4 : decode method_3_code 4 = .ok (.getstatic 22, 3) := by decide +kernel
theorem d3_7 : decode method_3_code 7 = .ok (.areturn, 1) := by decide +kernel
theorem pn_1 : plainName "com/example/stubwright/stubwright/PacketTypeFromCodePinLaw" = true := by first | (simp [plainName, overriddenIn]; done) | decide +kernel
set_option maxRecDepth 65536 in
set_option maxHeartbeats 40000000 in
theorem rm3_0 (l : Launch) (Z : State) (a0 : Array Value) (hw : ∀ d ∈ tables_1, d.before a0 Z = true) (ws : List Jvm.Cond) (w : Nat → Addr) (h0 : Heap) (n0 : Nat) (Z0 : n0 ≤ h0.size) (hP : Pins Z h0 w) (pa0 : Int32) (hp0 : pa0 = (0 : Int32)) :
    MetFree l (⟨"com/example/stubwright/stubwright/PacketTypeFromCodePinLaw", "expected", "(I)Lcom/example/stubwright/stubwright/PacketType;"⟩ : MethodName) (head1 (Jvm.Cond.code (⟨"com/example/stubwright/stubwright/PacketTypeFromCodePinLaw", "expected", "(I)Lcom/example/stubwright/stubwright/PacketType;"⟩ : MethodName) method_3_code 1 (some (.object "com/example/stubwright/stubwright/PacketType")) :: ws) ({ frames := 0, cells := 0, slots := 0, locals := 0 } : Room)) (fun a U => a = #[(.int pa0)] ∧ Z.Warmed39 U.vm ∧ U.heap = h0) (fun _ _ _ _ _ => True) (fun _ U o U' => ∃ v L, o = .returned v ∧ Qp (some (.ref (w 1))) h0 n0 v U'.heap L ∧ FrameEnd U o U' L ({ frames := 0, cells := 0, slots := 0, locals := 0 } : Room).cells ({ frames := 0, cells := 0, slots := 0, locals := 0 } : Room).slots) := by
  refine MetFree.of_bodySF (plainFor_of_name pn_1) hisR ?_
  intro p e s m args below meth c s₁ Bd hml0 hP0 hK
  obtain ⟨rfl, hZ, hh⟩ := hP0
  have hx := Bd.exec
  have hby := Bd.bytes
  have hml : c.maxLocals = 1 := hml0
  have hown : s.vm.findClass "com/example/stubwright/stubwright/PacketTypeFromCodePinLaw" = some m.cls := findClass_of_methodNamed Bd.named
  have hnm := (name_of_methodNamed Bd.named Bd.method).1
  have X0 : Stand p l e ({ frames := 0, cells := 0, slots := 0, locals := 0 } : Room) s m #[(.int pa0)] below meth c s₁ [] 0 0 := Stand.of_body Bd
  have e0 : s₁.heap = h0 := by rw [← hh, Bd.state]; rfl
  have N0 := Fr.nil n0
  suffices hgo : Go p e below (fun o U' => ∃ v L, o = .returned v ∧ Qp (some (.ref (w 1))) h0 n0 v U'.heap L ∧ FrameEnd s o U' L ({ frames := 0, cells := 0, slots := 0, locals := 0 } : Room).cells ({ frames := 0, cells := 0, slots := 0, locals := 0 } : Room).slots) s₁ (mkF m 0 #[.val (.int pa0)] []) by
    obtain ⟨s2, o, g1, g2, g3, g4⟩ := hgo
    refine ⟨s2, o, castTop (?_ : entryFrame m #[(.int pa0)] 1 = _) g1, g2, g3, g4⟩
    first | (simp [entryFrame, mkF, argsToLocals, Value.category]; done) | rfl
  refine Go.on (T' := s₁) (g' := (mkF m 1 #[.val (.int pa0)] [(.int pa0)])) (fun t k => XS.iloadN X0.here hx rfl (hb hby d3_0) rfl k) ?_
  refine Go.on (T' := s₁) (g' := (mkF m 4 #[.val (.int pa0)] [])) (fun t k => XS.ifNo X0.here hx rfl (hb hby d3_1) rfl ((if0 _ _).trans (teq hp0).2) k) ?_
  obtain ⟨T37, X37, e37, st37⟩ := getS2 X0 hx hZ hown (host := "") (Or.inl (hw _ (List.mem_of_getElem? (i := 31) rfl))) Via.refl e0 (pin_1 hP) (g := (mkF m 4 #[.val (.int pa0)] [])) rfl (hb hby d3_4)
  refine Go.on (T' := T37) (g' := (mkF m 7 #[.val (.int pa0)] [(.ref (w 1))])) st37 ?_
  obtain ⟨fs, hr, hrun, hended, hW, hsame⟩ := X37.leave (v := some (.ref (w 1))) (fun h => by rw [Bd.returns] at h; cases h)
  exact ⟨_, _, retOut X37 hx Bd.returns rfl (Or.inr (Or.inr (Or.inr (Or.inr ⟨rfl, rfl, rfl⟩)))) (hb hby d3_7) hr, hrun, hended, _, _, rfl, ⟨rfl, N0, e37⟩, ⟨_, rfl⟩, hW, hsame.mono (by decide) (by decide)⟩
theorem d4_0 : decode prog_34_method_4_code 0 = .ok (.aload_n 0, 1) := by decide +kernel
theorem d4_1 : decode prog_34_method_4_code 1 = .ok (.getfield 41, 3) := by decide +kernel
theorem d4_4 : decode prog_34_method_4_code 4 = .ok (.ireturn, 1) := by decide +kernel
set_option maxRecDepth 65536 in
set_option maxHeartbeats 40000000 in
theorem rm4_0 (l : Launch) (Z : State) (a0 : Array Value) (hw : ∀ d ∈ tables_1, d.before a0 Z = true) (ws : List Jvm.Cond) (w : Nat → Addr) (h0 : Heap) (n0 : Nat) (Z0 : n0 ≤ h0.size) (hP : Pins Z h0 w) :
    MetFree l (⟨"com/example/stubwright/stubwright/PacketType", "code", "()I"⟩ : MethodName) (head1 (Jvm.Cond.code (⟨"com/example/stubwright/stubwright/PacketType", "code", "()I"⟩ : MethodName) prog_34_method_4_code 1 (some .int) :: ws) ({ frames := 0, cells := 0, slots := 0, locals := 0 } : Room)) (fun a U => a = #[(.ref (w 1))] ∧ Z.Warmed39 U.vm ∧ U.heap = h0) (fun _ _ _ _ _ => True) (fun _ U o U' => ∃ v L, o = .returned v ∧ Qp (some (.int (0 : Int32))) h0 n0 v U'.heap L ∧ FrameEnd U o U' L ({ frames := 0, cells := 0, slots := 0, locals := 0 } : Room).cells ({ frames := 0, cells := 0, slots := 0, locals := 0 } : Room).slots) := by
  refine MetFree.of_bodySF (plainFor_of_name pn_0) hisR ?_
  intro p e s m args below meth c s₁ Bd hml0 hP0 hK
  obtain ⟨rfl, hZ, hh⟩ := hP0
  have hx := Bd.exec
  have hby := Bd.bytes
  have hml : c.maxLocals = 1 := hml0
  have hown : s.vm.findClass "com/example/stubwright/stubwright/PacketType" = some m.cls := findClass_of_methodNamed Bd.named
  have hnm := (name_of_methodNamed Bd.named Bd.method).1
  have X0 : Stand p l e ({ frames := 0, cells := 0, slots := 0, locals := 0 } : Room) s m #[(.ref (w 1))] below meth c s₁ [] 0 0 := Stand.of_body Bd
  have e0 : s₁.heap = h0 := by rw [← hh, Bd.state]; rfl
  have N0 := Fr.nil n0
  suffices hgo : Go p e below (fun o U' => ∃ v L, o = .returned v ∧ Qp (some (.int (0 : Int32))) h0 n0 v U'.heap L ∧ FrameEnd s o U' L ({ frames := 0, cells := 0, slots := 0, locals := 0 } : Room).cells ({ frames := 0, cells := 0, slots := 0, locals := 0 } : Room).slots) s₁ (mkF m 0 #[.val (.ref (w 1))] []) by
    obtain ⟨s2, o, g1, g2, g3, g4⟩ := hgo
    refine ⟨s2, o, castTop (?_ : entryFrame m #[(.ref (w 1))] 1 = _) g1, g2, g3, g4⟩
    first | (simp [entryFrame, mkF, argsToLocals, Value.category]; done) | rfl
  refine Go.on (T' := s₁) (g' := (mkF m 1 #[.val (.ref (w 1))] [(.ref (w 1))])) (fun t k => XS.aloadN X0.here hx rfl (hb hby d4_0) rfl rfl k) ?_
  obtain ⟨T40, X40, e40, st40⟩ := getF X0 hx hZ hown (host := "") (Or.inl (hw _ (List.mem_of_getElem? (i := 25) rfl))) Via.refl e0 (pin_14 hP) (g := (mkF m 1 #[.val (.ref (w 1))] [(.ref (w 1))])) rfl rfl (hb hby d4_1)
  refine Go.on (T' := T40) (g' := (mkF m 4 #[.val (.ref (w 1))] [(.int (0 : Int32))])) st40 ?_
  obtain ⟨fs, hr, hrun, hended, hW, hsame⟩ := X40.leave (v := some (.int (0 : Int32))) (fun h => by rw [Bd.returns] at h; cases h)
  exact ⟨_, _, retOut X40 hx Bd.returns rfl (Or.inl ⟨rfl, Or.inl rfl, _, rfl⟩) (hb hby d4_4) hr, hrun, hended, _, _, rfl, ⟨rfl, N0, e40⟩, ⟨_, rfl⟩, hW, hsame.mono (by decide) (by decide)⟩
theorem pd_2 : parseMethodDescriptor "()I" = some ⟨[], some .int⟩ := by decide +kernel
theorem d1_31 : decode prog_34_method_5_code 31 = .ok (.iinc 3 1, 3) := by decide +kernel
theorem d1_34 : decode prog_34_method_5_code 34 = .ok (.goto (-25), 3) := by decide +kernel
set_option maxRecDepth 65536 in
set_option maxHeartbeats 40000000 in
theorem rm1_1 (l : Launch) (Z : State) (a0 : Array Value) (hw : ∀ d ∈ tables_1, d.before a0 Z = true) (ws : List Jvm.Cond) (w : Nat → Addr) (h0 : Heap) (n0 : Nat) (Z0 : n0 ≤ h0.size) (hP : Pins Z h0 w) (pa0 : Int32) (hp0 : ¬ ((0 : Int32) = pa0)) (hp1 : (1 : Int32) = pa0) :
    MetFree l (⟨"com/example/stubwright/stubwright/PacketType", "fromCode", "(I)Lcom/example/stubwright/stubwright/PacketType;"⟩ : MethodName) (head1 (Jvm.Cond.code (⟨"com/example/stubwright/stubwright/PacketType", "fromCode", "(I)Lcom/example/stubwright/stubwright/PacketType;"⟩ : MethodName) prog_34_method_5_code 5 (some (.object "com/example/stubwright/stubwright/PacketType")) :: ws) ({ frames := 2, cells := 1, slots := 6, locals := 25 } : Room)) (fun a U => a = #[(.int pa0)] ∧ Z.Warmed39 U.vm ∧ U.heap = h0) (fun _ _ _ _ _ => True) (fun _ U o U' => ∃ v L, o = .returned v ∧ Qx (some (.ref (w 2))) (fun h => True) h0 n0 v U'.heap L ∧ FrameEnd U o U' L ({ frames := 2, cells := 1, slots := 6, locals := 25 } : Room).cells ({ frames := 2, cells := 1, slots := 6, locals := 25 } : Room).slots) := by
  refine MetFree.of_bodySF (plainFor_of_name pn_0) hisR ?_
  intro p e s m args below meth c s₁ Bd hml0 hP0 hK
  obtain ⟨rfl, hZ, hh⟩ := hP0
  have hx := Bd.exec
  have hby := Bd.bytes
  have hml : c.maxLocals = 5 := hml0
  have hown : s.vm.findClass "com/example/stubwright/stubwright/PacketType" = some m.cls := findClass_of_methodNamed Bd.named
  have hnm := (name_of_methodNamed Bd.named Bd.method).1
  have X0 : Stand p l e ({ frames := 2, cells := 1, slots := 6, locals := 25 } : Room) s m #[(.int pa0)] below meth c s₁ [] 0 0 := Stand.of_body Bd
  have e0 : s₁.heap = h0 := by rw [← hh, Bd.state]; rfl
  have N0 := Fr.nil n0
  suffices hgo : Go p e below (fun o U' => ∃ v L, o = .returned v ∧ Qx (some (.ref (w 2))) (fun h => True) h0 n0 v U'.heap L ∧ FrameEnd s o U' L ({ frames := 2, cells := 1, slots := 6, locals := 25 } : Room).cells ({ frames := 2, cells := 1, slots := 6, locals := 25 } : Room).slots) s₁ (mkF m 0 #[.val (.int pa0), .unset, .unset, .unset, .unset] []) by
    obtain ⟨s2, o, g1, g2, g3, g4⟩ := hgo
    refine ⟨s2, o, castTop (?_ : entryFrame m #[(.int pa0)] 5 = _) g1, g2, g3, g4⟩
    first | (simp [entryFrame, mkF, argsToLocals, Value.category]; done) | rfl
  obtain ⟨_, _, ⟨T43, L43, k43, n43⟩, -, X43, ⟨Lc43, hQ43, l43, y43, z43⟩, st43⟩ := Jvm.LawKit.callS X0 hx (y := (⟨"com/example/stubwright/stubwright/PacketType", "values", "()[Lcom/example/stubwright/stubwright/PacketType;"⟩ : MethodName)) hown (mvT hZ (hw _ (List.mem_of_getElem? (i := 4) rfl))) (mvT hZ (hw _ (List.mem_of_getElem? (i := 5) rfl))) (mvT hZ (hw _ (List.mem_of_getElem? (i := 2) rfl))) (mvT hZ (hw _ (List.mem_of_getElem? (i := 6) rfl))) (by decide) (backOf (W := 0) (rm2_0 l Z a0 hw [] w h0 n0 (Nat.le_trans Z0 (own_ext0 h0).1) hP) hZ (hw _ (List.mem_of_getElem? (i := 6) rfl)) (hw _ (List.mem_of_getElem? (i := 2) rfl)) (by decide) (by decide)) (g := (mkF m 0 #[.val (.int pa0), .unset, .unset, .unset, .unset] [])) rfl (by rw [hml]; rfl) (argsL := []) (rest := []) (lenOf pd_0 rfl) rfl (by show 2 * 0 + _ ≤ _; exact Nat.le_of_eq rfl) (hb hby d1_0) (fun _ _ => ⟨rfl, e0, (by decide : 0 + 1 ≤ _), (by decide : 0 + 6 ≤ _)⟩)
  dsimp only [Pt.U, Pt.locs, Pt.cells, Pt.slots] at X43 l43 y43 z43 st43 hQ43
  subst l43 y43 z43
  obtain ⟨rfl, N43q, x43, f43⟩ := hQ43
  have N43 := Fr.app N0 N43q
  have e43 : T43.heap = T43.heap := rfl
  have sz43 : h0.size ≤ h0.size := (own_ext0 h0).1
  have XT43 := own_ext2 (own_ext0 h0) x43
  obtain ⟨k43, A43⟩ := f43
  refine Go.on (T' := T43) (g' := (mkF m 3 #[.val (.int pa0), .unset, .unset, .unset, .unset] [(.ref (h0.size))])) st43 ?_
  refine Go.on (T' := T43) (g' := (mkF m 4 #[.val (.int pa0), .val (.ref (h0.size)), .unset, .unset, .unset] [])) (fun t k => XS.astoreN X43.here hx rfl (hb hby d1_3) rfl rfl (l' := #[.val (.int pa0), .val (.ref (h0.size)), .unset, .unset, .unset]) rfl k) ?_
  refine Go.on (T' := T43) (g' := (mkF m 5 #[.val (.int pa0), .val (.ref (h0.size)), .unset, .unset, .unset] [(.ref (h0.size))])) (fun t k => XS.aloadN X43.here hx rfl (hb hby d1_4) rfl rfl k) ?_
  refine Go.on (T' := T43) (g' := (mkF m 6 #[.val (.int pa0), .val (.ref (h0.size)), .unset, .unset, .unset] [(.int (6 : Int32))])) (fun t k => X43.arraylength hx (by rw [e43]; exact A43.1) (State.isArrayOf_alike hZ.alike A43.2.1) (g := (mkF m 5 #[.val (.int pa0), .val (.ref (h0.size)), .unset, .unset, .unset] [(.ref (h0.size))])) rfl rfl (hb hby d1_5) t k) ?_
  refine Go.on (T' := T43) (g' := (mkF m 7 #[.val (.int pa0), .val (.ref (h0.size)), .val (.int (6 : Int32)), .unset, .unset] [])) (fun t k => XS.istoreN X43.here hx rfl (hb hby d1_6) rfl (l' := #[.val (.int pa0), .val (.ref (h0.size)), .val (.int (6 : Int32)), .unset, .unset]) rfl k) ?_
  refine Go.on (T' := T43) (g' := (mkF m 8 #[.val (.int pa0), .val (.ref (h0.size)), .val (.int (6 : Int32)), .unset, .unset] [(.int (0 : Int32))])) (fun t k => XS.iconst X43.here hx rfl (hb hby d1_7) k) ?_
  refine Go.on (T' := T43) (g' := (mkF m 9 #[.val (.int pa0), .val (.ref (h0.size)), .val (.int (6 : Int32)), .val (.int (0 : Int32)), .unset] [])) (fun t k => XS.istoreN X43.here hx rfl (hb hby d1_8) rfl (l' := #[.val (.int pa0), .val (.ref (h0.size)), .val (.int (6 : Int32)), .val (.int (0 : Int32)), .unset]) rfl k) ?_
  refine Go.on (T' := T43) (g' := (mkF m 10 #[.val (.int pa0), .val (.ref (h0.size)), .val (.int (6 : Int32)), .val (.int (0 : Int32)), .unset] [(.int (0 : Int32))])) (fun t k => XS.iloadN X43.here hx rfl (hb hby d1_9) rfl k) ?_
  refine Go.on (T' := T43) (g' := (mkF m 11 #[.val (.int pa0), .val (.ref (h0.size)), .val (.int (6 : Int32)), .val (.int (0 : Int32)), .unset] [(.int (6 : Int32)), (.int (0 : Int32))])) (fun t k => XS.iloadN X43.here hx rfl (hb hby d1_10) rfl k) ?_
  refine Go.on (T' := T43) (g' := (mkF m 14 #[.val (.int pa0), .val (.ref (h0.size)), .val (.int (6 : Int32)), .val (.int (0 : Int32)), .unset] [])) (fun t k => XS.icmpNo X43.here hx rfl (hb hby d1_11) rfl (tlt (by decide : (0 : Int32) < (6 : Int32))).2.1 k) ?_
  refine Go.on (T' := T43) (g' := (mkF m 15 #[.val (.int pa0), .val (.ref (h0.size)), .val (.int (6 : Int32)), .val (.int (0 : Int32)), .unset] [(.ref (h0.size))])) (fun t k => XS.aloadN X43.here hx rfl (hb hby d1_14) rfl rfl k) ?_
  refine Go.on (T' := T43) (g' := (mkF m 16 #[.val (.int pa0), .val (.ref (h0.size)), .val (.int (6 : Int32)), .val (.int (0 : Int32)), .unset] [(.int (0 : Int32)), (.ref (h0.size))])) (fun t k => XS.iloadN X43.here hx rfl (hb hby d1_15) rfl k) ?_
  refine Go.on (T' := T43) (g' := (mkF m 17 #[.val (.int pa0), .val (.ref (h0.size)), .val (.int (6 : Int32)), .val (.int (0 : Int32)), .unset] [(.ref (w 1))])) (fun t k => X43.aaload hx (j := (0 : Int32)) (v := (.ref (w 1))) (by rw [e43]; exact A43.1) (State.isArrayOf_alike hZ.alike A43.2.1) rfl A43.2.2 (by show ¬ (_ ∨ (6 : Nat) ≤ _); decide) rfl (g := (mkF m 16 #[.val (.int pa0), .val (.ref (h0.size)), .val (.int (6 : Int32)), .val (.int (0 : Int32)), .unset] [(.int (0 : Int32)), (.ref (h0.size))])) rfl rfl (hb hby d1_16) t k) ?_
  refine Go.on (T' := T43) (g' := (mkF m 19 #[.val (.int pa0), .val (.ref (h0.size)), .val (.int (6 : Int32)), .val (.int (0 : Int32)), .val (.ref (w 1))] [])) (fun t k => XS.astore X43.here hx rfl (hb hby d1_17) rfl rfl (l' := #[.val (.int pa0), .val (.ref (h0.size)), .val (.int (6 : Int32)), .val (.int (0 : Int32)), .val (.ref (w 1))]) rfl k) ?_
  refine Go.on (T' := T43) (g' := (mkF m 21 #[.val (.int pa0), .val (.ref (h0.size)), .val (.int (6 : Int32)), .val (.int (0 : Int32)), .val (.ref (w 1))] [(.ref (w 1))])) (fun t k => XS.aload X43.here hx rfl (hb hby d1_19) rfl rfl k) ?_
  obtain ⟨T44, X44, e44, st44⟩ := getF X43 hx hZ hown (host := "") (Or.inl (hw _ (List.mem_of_getElem? (i := 25) rfl))) Via.refl e43 (pin_14 (pins_ext XT43 hP)) (g := (mkF m 21 #[.val (.int pa0), .val (.ref (h0.size)), .val (.int (6 : Int32)), .val (.int (0 : Int32)), .val (.ref (w 1))] [(.ref (w 1))])) rfl rfl (hb hby d1_21)
  refine Go.on (T' := T44) (g' := (mkF m 24 #[.val (.int pa0), .val (.ref (h0.size)), .val (.int (6 : Int32)), .val (.int (0 : Int32)), .val (.ref (w 1))] [(.int (0 : Int32))])) st44 ?_
  refine Go.on (T' := T44) (g' := (mkF m 25 #[.val (.int pa0), .val (.ref (h0.size)), .val (.int (6 : Int32)), .val (.int (0 : Int32)), .val (.ref (w 1))] [(.int pa0), (.int (0 : Int32))])) (fun t k => XS.iloadN X44.here hx rfl (hb hby d1_24) rfl k) ?_
  refine Go.on (T' := T44) (g' := (mkF m 31 #[.val (.int pa0), .val (.ref (h0.size)), .val (.int (6 : Int32)), .val (.int (0 : Int32)), .val (.ref (w 1))] [])) (fun t k => XS.icmpYes X44.here hx rfl (pc0 := 25) (pc' := 31) rfl (hb hby d1_25) rfl (feq hp0).2 (by decide) (by decide) k) ?_
  refine Go.on (T' := T44) (g' := (mkF m 34 #[.val (.int pa0), .val (.ref (h0.size)), .val (.int (6 : Int32)), .val (.int (1 : Int32)), .val (.ref (w 1))] [])) (fun t k => XS.iinc X44.here hx rfl (hb hby d1_31) rfl (l' := #[.val (.int pa0), .val (.ref (h0.size)), .val (.int (6 : Int32)), .val (.int (1 : Int32)), .val (.ref (w 1))]) rfl k) ?_
  refine Go.on (T' := T44) (g' := (mkF m 9 #[.val (.int pa0), .val (.ref (h0.size)), .val (.int (6 : Int32)), .val (.int (1 : Int32)), .val (.ref (w 1))] [])) (fun t k => XS.goto X44.here hx rfl (pc0 := 34) (pc' := 9) rfl (hb hby d1_34) (by decide) (by decide) k) ?_
  refine Go.on (T' := T44) (g' := (mkF m 10 #[.val (.int pa0), .val (.ref (h0.size)), .val (.int (6 : Int32)), .val (.int (1 : Int32)), .val (.ref (w 1))] [(.int (1 : Int32))])) (fun t k => XS.iloadN X44.here hx rfl (hb hby d1_9) rfl k) ?_
  refine Go.on (T' := T44) (g' := (mkF m 11 #[.val (.int pa0), .val (.ref (h0.size)), .val (.int (6 : Int32)), .val (.int (1 : Int32)), .val (.ref (w 1))] [(.int (6 : Int32)), (.int (1 : Int32))])) (fun t k => XS.iloadN X44.here hx rfl (hb hby d1_10) rfl k) ?_
  refine Go.on (T' := T44) (g' := (mkF m 14 #[.val (.int pa0), .val (.ref (h0.size)), .val (.int (6 : Int32)), .val (.int (1 : Int32)), .val (.ref (w 1))] [])) (fun t k => XS.icmpNo X44.here hx rfl (hb hby d1_11) rfl (tlt (by decide : (1 : Int32) < (6 : Int32))).2.1 k) ?_
  refine Go.on (T' := T44) (g' := (mkF m 15 #[.val (.int pa0), .val (.ref (h0.size)), .val (.int (6 : Int32)), .val (.int (1 : Int32)), .val (.ref (w 1))] [(.ref (h0.size))])) (fun t k => XS.aloadN X44.here hx rfl (hb hby d1_14) rfl rfl k) ?_
  refine Go.on (T' := T44) (g' := (mkF m 16 #[.val (.int pa0), .val (.ref (h0.size)), .val (.int (6 : Int32)), .val (.int (1 : Int32)), .val (.ref (w 1))] [(.int (1 : Int32)), (.ref (h0.size))])) (fun t k => XS.iloadN X44.here hx rfl (hb hby d1_15) rfl k) ?_
  refine Go.on (T' := T44) (g' := (mkF m 17 #[.val (.int pa0), .val (.ref (h0.size)), .val (.int (6 : Int32)), .val (.int (1 : Int32)), .val (.ref (w 1))] [(.ref (w 2))])) (fun t k => X44.aaload hx (j := (1 : Int32)) (v := (.ref (w 2))) (by rw [e44]; exact A43.1) (State.isArrayOf_alike hZ.alike A43.2.1) rfl A43.2.2 (by show ¬ (_ ∨ (6 : Nat) ≤ _); decide) rfl (g := (mkF m 16 #[.val (.int pa0), .val (.ref (h0.size)), .val (.int (6 : Int32)), .val (.int (1 : Int32)), .val (.ref (w 1))] [(.int (1 : Int32)), (.ref (h0.size))])) rfl rfl (hb hby d1_16) t k) ?_
  refine Go.on (T' := T44) (g' := (mkF m 19 #[.val (.int pa0), .val (.ref (h0.size)), .val (.int (6 : Int32)), .val (.int (1 : Int32)), .val (.ref (w 2))] [])) (fun t k => XS.astore X44.here hx rfl (hb hby d1_17) rfl rfl (l' := #[.val (.int pa0), .val (.ref (h0.size)), .val (.int (6 : Int32)), .val (.int (1 : Int32)), .val (.ref (w 2))]) rfl k) ?_
  refine Go.on (T' := T44) (g' := (mkF m 21 #[.val (.int pa0), .val (.ref (h0.size)), .val (.int (6 : Int32)), .val (.int (1 : Int32)), .val (.ref (w 2))] [(.ref (w 2))])) (fun t k => XS.aload X44.here hx rfl (hb hby d1_19) rfl rfl k) ?_
  obtain ⟨T45, X45, e45, st45⟩ := getF X44 hx hZ hown (host := "") (Or.inl (hw _ (List.mem_of_getElem? (i := 25) rfl))) Via.refl e44 (pin_15 (pins_ext XT43 hP)) (g := (mkF m 21 #[.val (.int pa0), .val (.ref (h0.size)), .val (.int (6 : Int32)), .val (.int (1 : Int32)), .val (.ref (w 2))] [(.ref (w 2))])) rfl rfl (hb hby d1_21)
  refine Go.on (T' := T45) (g' := (mkF m 24 #[.val (.int pa0), .val (.ref (h0.size)), .val (.int (6 : Int32)), .val (.int (1 : Int32)), .val (.ref (w 2))] [(.int (1 : Int32))])) st45 ?_
  refine Go.on (T' := T45) (g' := (mkF m 25 #[.val (.int pa0), .val (.ref (h0.size)), .val (.int (6 : Int32)), .val (.int (1 : Int32)), .val (.ref (w 2))] [(.int pa0), (.int (1 : Int32))])) (fun t k => XS.iloadN X45.here hx rfl (hb hby d1_24) rfl k) ?_
  refine Go.on (T' := T45) (g' := (mkF m 28 #[.val (.int pa0), .val (.ref (h0.size)), .val (.int (6 : Int32)), .val (.int (1 : Int32)), .val (.ref (w 2))] [])) (fun t k => XS.icmpNo X45.here hx rfl (hb hby d1_25) rfl (teq hp1).2 k) ?_
  refine Go.on (T' := T45) (g' := (mkF m 30 #[.val (.int pa0), .val (.ref (h0.size)), .val (.int (6 : Int32)), .val (.int (1 : Int32)), .val (.ref (w 2))] [(.ref (w 2))])) (fun t k => XS.aload X45.here hx rfl (hb hby d1_28) rfl rfl k) ?_
  obtain ⟨fs, hr, hrun, hended, hW, hsame⟩ := X45.leave (v := some (.ref (w 2))) (fun h => by rw [Bd.returns] at h; cases h)
  exact ⟨_, _, retOut X45 hx Bd.returns rfl (Or.inr (Or.inr (Or.inr (Or.inr ⟨rfl, rfl, rfl⟩)))) (hb hby d1_30) hr, hrun, hended, _, _, rfl, ⟨rfl, N43, own_extE e45 XT43, trivial⟩, ⟨_, rfl⟩, hW, hsame.mono (by decide) (by decide)⟩
theorem d3_8 : decode method_3_code 8 = .ok (.iload_n 0, 1) := by decide +kernel
theorem d3_9 : decode method_3_code 9 = .ok (.iconst 1, 1) := by decide +kernel
theorem d3_10 : decode method_3_code 10 = .ok (.if_icmp .ne 7, 3) := by decide +kernel
theorem d3_13 : decode method_3_code 13 = .ok (.getstatic 26, 3) := by decide +kernel
theorem d3_16 : decode method_3_code 16 = .ok (.areturn, 1) := by decide +kernel
set_option maxRecDepth 65536 in
set_option maxHeartbeats 40000000 in
theorem rm3_1 (l : Launch) (Z : State) (a0 : Array Value) (hw : ∀ d ∈ tables_1, d.before a0 Z = true) (ws : List Jvm.Cond) (w : Nat → Addr) (h0 : Heap) (n0 : Nat) (Z0 : n0 ≤ h0.size) (hP : Pins Z h0 w) (pa0 : Int32) (hp0 : ¬ (pa0 = (0 : Int32))) (hp1 : pa0 = (1 : Int32)) :
    MetFree l (⟨"com/example/stubwright/stubwright/PacketTypeFromCodePinLaw", "expected", "(I)Lcom/example/stubwright/stubwright/PacketType;"⟩ : MethodName) (head1 (Jvm.Cond.code (⟨"com/example/stubwright/stubwright/PacketTypeFromCodePinLaw", "expected", "(I)Lcom/example/stubwright/stubwright/PacketType;"⟩ : MethodName) method_3_code 1 (some (.object "com/example/stubwright/stubwright/PacketType")) :: ws) ({ frames := 0, cells := 0, slots := 0, locals := 0 } : Room)) (fun a U => a = #[(.int pa0)] ∧ Z.Warmed39 U.vm ∧ U.heap = h0) (fun _ _ _ _ _ => True) (fun _ U o U' => ∃ v L, o = .returned v ∧ Qp (some (.ref (w 2))) h0 n0 v U'.heap L ∧ FrameEnd U o U' L ({ frames := 0, cells := 0, slots := 0, locals := 0 } : Room).cells ({ frames := 0, cells := 0, slots := 0, locals := 0 } : Room).slots) := by
  refine MetFree.of_bodySF (plainFor_of_name pn_1) hisR ?_
  intro p e s m args below meth c s₁ Bd hml0 hP0 hK
  obtain ⟨rfl, hZ, hh⟩ := hP0
  have hx := Bd.exec
  have hby := Bd.bytes
  have hml : c.maxLocals = 1 := hml0
  have hown : s.vm.findClass "com/example/stubwright/stubwright/PacketTypeFromCodePinLaw" = some m.cls := findClass_of_methodNamed Bd.named
  have hnm := (name_of_methodNamed Bd.named Bd.method).1
  have X0 : Stand p l e ({ frames := 0, cells := 0, slots := 0, locals := 0 } : Room) s m #[(.int pa0)] below meth c s₁ [] 0 0 := Stand.of_body Bd
  have e0 : s₁.heap = h0 := by rw [← hh, Bd.state]; rfl
  have N0 := Fr.nil n0
  suffices hgo : Go p e below (fun o U' => ∃ v L, o = .returned v ∧ Qp (some (.ref (w 2))) h0 n0 v U'.heap L ∧ FrameEnd s o U' L ({ frames := 0, cells := 0, slots := 0, locals := 0 } : Room).cells ({ frames := 0, cells := 0, slots := 0, locals := 0 } : Room).slots) s₁ (mkF m 0 #[.val (.int pa0)] []) by
    obtain ⟨s2, o, g1, g2, g3, g4⟩ := hgo
    refine ⟨s2, o, castTop (?_ : entryFrame m #[(.int pa0)] 1 = _) g1, g2, g3, g4⟩
    first | (simp [entryFrame, mkF, argsToLocals, Value.category]; done) | rfl
  refine Go.on (T' := s₁) (g' := (mkF m 1 #[.val (.int pa0)] [(.int pa0)])) (fun t k => XS.iloadN X0.here hx rfl (hb hby d3_0) rfl k) ?_
  refine Go.on (T' := s₁) (g' := (mkF m 8 #[.val (.int pa0)] [])) (fun t k => XS.ifYes X0.here hx rfl (pc0 := 1) (pc' := 8) rfl (hb hby d3_1) rfl ((if0 _ _).trans (feq hp0).2) (by decide) (by decide) k) ?_
  refine Go.on (T' := s₁) (g' := (mkF m 9 #[.val (.int pa0)] [(.int pa0)])) (fun t k => XS.iloadN X0.here hx rfl (hb hby d3_8) rfl k) ?_
  refine Go.on (T' := s₁) (g' := (mkF m 10 #[.val (.int pa0)] [(.int (1 : Int32)), (.int pa0)])) (fun t k => XS.iconst X0.here hx rfl (hb hby d3_9) k) ?_
  refine Go.on (T' := s₁) (g' := (mkF m 13 #[.val (.int pa0)] [])) (fun t k => XS.icmpNo X0.here hx rfl (hb hby d3_10) rfl (teq hp1).2 k) ?_
  obtain ⟨T47, X47, e47, st47⟩ := getS2 X0 hx hZ hown (host := "") (Or.inl (hw _ (List.mem_of_getElem? (i := 37) rfl))) Via.refl e0 (pin_2 hP) (g := (mkF m 13 #[.val (.int pa0)] [])) rfl (hb hby d3_13)
  refine Go.on (T' := T47) (g' := (mkF m 16 #[.val (.int pa0)] [(.ref (w 2))])) st47 ?_
  obtain ⟨fs, hr, hrun, hended, hW, hsame⟩ := X47.leave (v := some (.ref (w 2))) (fun h => by rw [Bd.returns] at h; cases h)
  exact ⟨_, _, retOut X47 hx Bd.returns rfl (Or.inr (Or.inr (Or.inr (Or.inr ⟨rfl, rfl, rfl⟩)))) (hb hby d3_16) hr, hrun, hended, _, _, rfl, ⟨rfl, N0, e47⟩, ⟨_, rfl⟩, hW, hsame.mono (by decide) (by decide)⟩
set_option maxRecDepth 65536 in
set_option maxHeartbeats 40000000 in
theorem rm4_1 (l : Launch) (Z : State) (a0 : Array Value) (hw : ∀ d ∈ tables_1, d.before a0 Z = true) (ws : List Jvm.Cond) (w : Nat → Addr) (h0 : Heap) (n0 : Nat) (Z0 : n0 ≤ h0.size) (hP : Pins Z h0 w) :
    MetFree l (⟨"com/example/stubwright/stubwright/PacketType", "code", "()I"⟩ : MethodName) (head1 (Jvm.Cond.code (⟨"com/example/stubwright/stubwright/PacketType", "code", "()I"⟩ : MethodName) prog_34_method_4_code 1 (some .int) :: ws) ({ frames := 0, cells := 0, slots := 0, locals := 0 } : Room)) (fun a U => a = #[(.ref (w 2))] ∧ Z.Warmed39 U.vm ∧ U.heap = h0) (fun _ _ _ _ _ => True) (fun _ U o U' => ∃ v L, o = .returned v ∧ Qp (some (.int (1 : Int32))) h0 n0 v U'.heap L ∧ FrameEnd U o U' L ({ frames := 0, cells := 0, slots := 0, locals := 0 } : Room).cells ({ frames := 0, cells := 0, slots := 0, locals := 0 } : Room).slots) := by
  refine MetFree.of_bodySF (plainFor_of_name pn_0) hisR ?_
  intro p e s m args below meth c s₁ Bd hml0 hP0 hK
  obtain ⟨rfl, hZ, hh⟩ := hP0
  have hx := Bd.exec
  have hby := Bd.bytes
  have hml : c.maxLocals = 1 := hml0
  have hown : s.vm.findClass "com/example/stubwright/stubwright/PacketType" = some m.cls := findClass_of_methodNamed Bd.named
  have hnm := (name_of_methodNamed Bd.named Bd.method).1
  have X0 : Stand p l e ({ frames := 0, cells := 0, slots := 0, locals := 0 } : Room) s m #[(.ref (w 2))] below meth c s₁ [] 0 0 := Stand.of_body Bd
  have e0 : s₁.heap = h0 := by rw [← hh, Bd.state]; rfl
  have N0 := Fr.nil n0
  suffices hgo : Go p e below (fun o U' => ∃ v L, o = .returned v ∧ Qp (some (.int (1 : Int32))) h0 n0 v U'.heap L ∧ FrameEnd s o U' L ({ frames := 0, cells := 0, slots := 0, locals := 0 } : Room).cells ({ frames := 0, cells := 0, slots := 0, locals := 0 } : Room).slots) s₁ (mkF m 0 #[.val (.ref (w 2))] []) by
    obtain ⟨s2, o, g1, g2, g3, g4⟩ := hgo
    refine ⟨s2, o, castTop (?_ : entryFrame m #[(.ref (w 2))] 1 = _) g1, g2, g3, g4⟩
    first | (simp [entryFrame, mkF, argsToLocals, Value.category]; done) | rfl
  refine Go.on (T' := s₁) (g' := (mkF m 1 #[.val (.ref (w 2))] [(.ref (w 2))])) (fun t k => XS.aloadN X0.here hx rfl (hb hby d4_0) rfl rfl k) ?_
  obtain ⟨T50, X50, e50, st50⟩ := getF X0 hx hZ hown (host := "") (Or.inl (hw _ (List.mem_of_getElem? (i := 25) rfl))) Via.refl e0 (pin_15 hP) (g := (mkF m 1 #[.val (.ref (w 2))] [(.ref (w 2))])) rfl rfl (hb hby d4_1)
  refine Go.on (T' := T50) (g' := (mkF m 4 #[.val (.ref (w 2))] [(.int (1 : Int32))])) st50 ?_
  obtain ⟨fs, hr, hrun, hended, hW, hsame⟩ := X50.leave (v := some (.int (1 : Int32))) (fun h => by rw [Bd.returns] at h; cases h)
  exact ⟨_, _, retOut X50 hx Bd.returns rfl (Or.inl ⟨rfl, Or.inl rfl, _, rfl⟩) (hb hby d4_4) hr, hrun, hended, _, _, rfl, ⟨rfl, N0, e50⟩, ⟨_, rfl⟩, hW, hsame.mono (by decide) (by decide)⟩
set_option maxRecDepth 65536 in
set_option maxHeartbeats 40000000 in
theorem rm1_2 (l : Launch) (Z : State) (a0 : Array Value) (hw : ∀ d ∈ tables_1, d.before a0 Z = true) (ws : List Jvm.Cond) (w : Nat → Addr) (h0 : Heap) (n0 : Nat) (Z0 : n0 ≤ h0.size) (hP : Pins Z h0 w) (pa0 : Int32) (hp0 : ¬ ((0 : Int32) = pa0)) (hp1 : ¬ ((1 : Int32) = pa0)) (hp2 : (2 : Int32) = pa0) :
    MetFree l (⟨"com/example/stubwright/stubwright/PacketType", "fromCode", "(I)Lcom/example/stubwright/stubwright/PacketType;"⟩ : MethodName) (head1 (Jvm.Cond.code (⟨"com/example/stubwright/stubwright/PacketType", "fromCode", "(I)Lcom/example/stubwright/stubwright/PacketType;"⟩ : MethodName) prog_34_method_5_code 5 (some (.object "com/example/stubwright/stubwright/PacketType")) :: ws) ({ frames := 2, cells := 1, slots := 6, locals := 25 } : Room)) (fun a U => a = #[(.int pa0)] ∧ Z.Warmed39 U.vm ∧ U.heap = h0) (fun _ _ _ _ _ => True) (fun _ U o U' => ∃ v L, o = .returned v ∧ Qx (some (.ref (w 3))) (fun h => True) h0 n0 v U'.heap L ∧ FrameEnd U o U' L ({ frames := 2, cells := 1, slots := 6, locals := 25 } : Room).cells ({ frames := 2, cells := 1, slots := 6, locals := 25 } : Room).slots) := by
  refine MetFree.of_bodySF (plainFor_of_name pn_0) hisR ?_
  intro p e s m args below meth c s₁ Bd hml0 hP0 hK
  obtain ⟨rfl, hZ, hh⟩ := hP0
  have hx := Bd.exec
  have hby := Bd.bytes
  have hml : c.maxLocals = 5 := hml0
  have hown : s.vm.findClass "com/example/stubwright/stubwright/PacketType" = some m.cls := findClass_of_methodNamed Bd.named
  have hnm := (name_of_methodNamed Bd.named Bd.method).1
  have X0 : Stand p l e ({ frames := 2, cells := 1, slots := 6, locals := 25 } : Room) s m #[(.int pa0)] below meth c s₁ [] 0 0 := Stand.of_body Bd
  have e0 : s₁.heap = h0 := by rw [← hh, Bd.state]; rfl
  have N0 := Fr.nil n0
  suffices hgo : Go p e below (fun o U' => ∃ v L, o = .returned v ∧ Qx (some (.ref (w 3))) (fun h => True) h0 n0 v U'.heap L ∧ FrameEnd s o U' L ({ frames := 2, cells := 1, slots := 6, locals := 25 } : Room).cells ({ frames := 2, cells := 1, slots := 6, locals := 25 } : Room).slots) s₁ (mkF m 0 #[.val (.int pa0), .unset, .unset, .unset, .unset] []) by
    obtain ⟨s2, o, g1, g2, g3, g4⟩ := hgo
    refine ⟨s2, o, castTop (?_ : entryFrame m #[(.int pa0)] 5 = _) g1, g2, g3, g4⟩
    first | (simp [entryFrame, mkF, argsToLocals, Value.category]; done) | rfl
  obtain ⟨_, _, ⟨T53, L53, k53, n53⟩, -, X53, ⟨Lc53, hQ53, l53, y53, z53⟩, st53⟩ := Jvm.LawKit.callS X0 hx (y := (⟨"com/example/stubwright/stubwright/PacketType", "values", "()[Lcom/example/stubwright/stubwright/PacketType;"⟩ : MethodName)) hown (mvT hZ (hw _ (List.mem_of_getElem? (i := 4) rfl))) (mvT hZ (hw _ (List.mem_of_getElem? (i := 5) rfl))) (mvT hZ (hw _ (List.mem_of_getElem? (i := 2) rfl))) (mvT hZ (hw _ (List.mem_of_getElem? (i := 6) rfl))) (by decide) (backOf (W := 0) (rm2_0 l Z a0 hw [] w h0 n0 (Nat.le_trans Z0 (own_ext0 h0).1) hP) hZ (hw _ (List.mem_of_getElem? (i := 6) rfl)) (hw _ (List.mem_of_getElem? (i := 2) rfl)) (by decide) (by decide)) (g := (mkF m 0 #[.val (.int pa0), .unset, .unset, .unset, .unset] [])) rfl (by rw [hml]; rfl) (argsL := []) (rest := []) (lenOf pd_0 rfl) rfl (by show 2 * 0 + _ ≤ _; exact Nat.le_of_eq rfl) (hb hby d1_0) (fun _ _ => ⟨rfl, e0, (by decide : 0 + 1 ≤ _), (by decide : 0 + 6 ≤ _)⟩)
  dsimp only [Pt.U, Pt.locs, Pt.cells, Pt.slots] at X53 l53 y53 z53 st53 hQ53
  subst l53 y53 z53
  obtain ⟨rfl, N53q, x53, f53⟩ := hQ53
  have N53 := Fr.app N0 N53q
  have e53 : T53.heap = T53.heap := rfl
  have sz53 : h0.size ≤ h0.size := (own_ext0 h0).1
  have XT53 := own_ext2 (own_ext0 h0) x53
  obtain ⟨k53, A53⟩ := f53
  refine Go.on (T' := T53) (g' := (mkF m 3 #[.val (.int pa0), .unset, .unset, .unset, .unset] [(.ref (h0.size))])) st53 ?_
  refine Go.on (T' := T53) (g' := (mkF m 4 #[.val (.int pa0), .val (.ref (h0.size)), .unset, .unset, .unset] [])) (fun t k => XS.astoreN X53.here hx rfl (hb hby d1_3) rfl rfl (l' := #[.val (.int pa0), .val (.ref (h0.size)), .unset, .unset, .unset]) rfl k) ?_
  refine Go.on (T' := T53) (g' := (mkF m 5 #[.val (.int pa0), .val (.ref (h0.size)), .unset, .unset, .unset] [(.ref (h0.size))])) (fun t k => XS.aloadN X53.here hx rfl (hb hby d1_4) rfl rfl k) ?_
  refine Go.on (T' := T53) (g' := (mkF m 6 #[.val (.int pa0), .val (.ref (h0.size)), .unset, .unset, .unset] [(.int (6 : Int32))])) (fun t k => X53.arraylength hx (by rw [e53]; exact A53.1) (State.isArrayOf_alike hZ.alike A53.2.1) (g := (mkF m 5 #[.val (.int pa0), .val (.ref (h0.size)), .unset, .unset, .unset] [(.ref (h0.size))])) rfl rfl (hb hby d1_5) t k) ?_
  refine Go.on (T' := T53) (g' := (mkF m 7 #[.val (.int pa0), .val (.ref (h0.size)), .val (.int (6 : Int32)), .unset, .unset] [])) (fun t k => XS.istoreN X53.here hx rfl (hb hby d1_6) rfl (l' := #[.val (.int pa0), .val (.ref (h0.size)), .val (.int (6 : Int32)), .unset, .unset]) rfl k) ?_
  refine Go.on (T' := T53) (g' := (mkF m 8 #[.val (.int pa0), .val (.ref (h0.size)), .val (.int (6 : Int32)), .unset, .unset] [(.int (0 : Int32))])) (fun t k => XS.iconst X53.here hx rfl (hb hby d1_7) k) ?_
  refine Go.on (T' := T53) (g' := (mkF m 9 #[.val (.int pa0), .val (.ref (h0.size)), .val (.int (6 : Int32)), .val (.int (0 : Int32)), .unset] [])) (fun t k => XS.istoreN X53.here hx rfl (hb hby d1_8) rfl (l' := #[.val (.int pa0), .val (.ref (h0.size)), .val (.int (6 : Int32)), .val (.int (0 : Int32)), .unset]) rfl k) ?_
  refine Go.on (T' := T53) (g' := (mkF m 10 #[.val (.int pa0), .val (.ref (h0.size)), .val (.int (6 : Int32)), .val (.int (0 : Int32)), .unset] [(.int (0 : Int32))])) (fun t k => XS.iloadN X53.here hx rfl (hb hby d1_9) rfl k) ?_
  refine Go.on (T' := T53) (g' := (mkF m 11 #[.val (.int pa0), .val (.ref (h0.size)), .val (.int (6 : Int32)), .val (.int (0 : Int32)), .unset] [(.int (6 : Int32)), (.int (0 : Int32))])) (fun t k => XS.iloadN X53.here hx rfl (hb hby d1_10) rfl k) ?_
  refine Go.on (T' := T53) (g' := (mkF m 14 #[.val (.int pa0), .val (.ref (h0.size)), .val (.int (6 : Int32)), .val (.int (0 : Int32)), .unset] [])) (fun t k => XS.icmpNo X53.here hx rfl (hb hby d1_11) rfl (tlt (by decide : (0 : Int32) < (6 : Int32))).2.1 k) ?_
  refine Go.on (T' := T53) (g' := (mkF m 15 #[.val (.int pa0), .val (.ref (h0.size)), .val (.int (6 : Int32)), .val (.int (0 : Int32)), .unset] [(.ref (h0.size))])) (fun t k => XS.aloadN X53.here hx rfl (hb hby d1_14) rfl rfl k) ?_
  refine Go.on (T' := T53) (g' := (mkF m 16 #[.val (.int pa0), .val (.ref (h0.size)), .val (.int (6 : Int32)), .val (.int (0 : Int32)), .unset] [(.int (0 : Int32)), (.ref (h0.size))])) (fun t k => XS.iloadN X53.here hx rfl (hb hby d1_15) rfl k) ?_
  refine Go.on (T' := T53) (g' := (mkF m 17 #[.val (.int pa0), .val (.ref (h0.size)), .val (.int (6 : Int32)), .val (.int (0 : Int32)), .unset] [(.ref (w 1))])) (fun t k => X53.aaload hx (j := (0 : Int32)) (v := (.ref (w 1))) (by rw [e53]; exact A53.1) (State.isArrayOf_alike hZ.alike A53.2.1) rfl A53.2.2 (by show ¬ (_ ∨ (6 : Nat) ≤ _); decide) rfl (g := (mkF m 16 #[.val (.int pa0), .val (.ref (h0.size)), .val (.int (6 : Int32)), .val (.int (0 : Int32)), .unset] [(.int (0 : Int32)), (.ref (h0.size))])) rfl rfl (hb hby d1_16) t k) ?_
  refine Go.on (T' := T53) (g' := (mkF m 19 #[.val (.int pa0), .val (.ref (h0.size)), .val (.int (6 : Int32)), .val (.int (0 : Int32)), .val (.ref (w 1))] [])) (fun t k => XS.astore X53.here hx rfl (hb hby d1_17) rfl rfl (l' := #[.val (.int pa0), .val (.ref (h0.size)), .val (.int (6 : Int32)), .val (.int (0 : Int32)), .val (.ref (w 1))]) rfl k) ?_
  refine Go.on (T' := T53) (g' := (mkF m 21 #[.val (.int pa0), .val (.ref (h0.size)), .val (.int (6 : Int32)), .val (.int (0 : Int32)), .val (.ref (w 1))] [(.ref (w 1))])) (fun t k => XS.aload X53.here hx rfl (hb hby d1_19) rfl rfl k) ?_
  obtain ⟨T54, X54, e54, st54⟩ := getF X53 hx hZ hown (host := "") (Or.inl (hw _ (List.mem_of_getElem? (i := 25) rfl))) Via.refl e53 (pin_14 (pins_ext XT53 hP)) (g := (mkF m 21 #[.val (.int pa0), .val (.ref (h0.size)), .val (.int (6 : Int32)), .val (.int (0 : Int32)), .val (.ref (w 1))] [(.ref (w 1))])) rfl rfl (hb hby d1_21)
  refine Go.on (T' := T54) (g' := (mkF m 24 #[.val (.int pa0), .val (.ref (h0.size)), .val (.int (6 : Int32)), .val (.int (0 : Int32)), .val (.ref (w 1))] [(.int (0 : Int32))])) st54 ?_
  refine Go.on (T' := T54) (g' := (mkF m 25 #[.val (.int pa0), .val (.ref (h0.size)), .val (.int (6 : Int32)), .val (.int (0 : Int32)), .val (.ref (w 1))] [(.int pa0), (.int (0 : Int32))])) (fun t k => XS.iloadN X54.here hx rfl (hb hby d1_24) rfl k) ?_
  refine Go.on (T' := T54) (g' := (mkF m 31 #[.val (.int pa0), .val (.ref (h0.size)), .val (.int (6 : Int32)), .val (.int (0 : Int32)), .val (.ref (w 1))] [])) (fun t k => XS.icmpYes X54.here hx rfl (pc0 := 25) (pc' := 31) rfl (hb hby d1_25) rfl (feq hp0).2 (by decide) (by decide) k) ?_
  refine Go.on (T' := T54) (g' := (mkF m 34 #[.val (.int pa0), .val (.ref (h0.size)), .val (.int (6 : Int32)), .val (.int (1 : Int32)), .val (.ref (w 1))] [])) (fun t k => XS.iinc X54.here hx rfl (hb hby d1_31) rfl (l' := #[.val (.int pa0), .val (.ref (h0.size)), .val (.int (6 : Int32)), .val (.int (1 : Int32)), .val (.ref (w 1))]) rfl k) ?_
  refine Go.on (T' := T54) (g' := (mkF m 9 #[.val (.int pa0), .val (.ref (h0.size)), .val (.int (6 : Int32)), .val (.int (1 : Int32)), .val (.ref (w 1))] [])) (fun t k => XS.goto X54.here hx rfl (pc0 := 34) (pc' := 9) rfl (hb hby d1_34) (by decide) (by decide) k) ?_
  refine Go.on (T' := T54) (g' := (mkF m 10 #[.val (.int pa0), .val (.ref (h0.size)), .val (.int (6 : Int32)), .val (.int (1 : Int32)), .val (.ref (w 1))] [(.int (1 : Int32))])) (fun t k => XS.iloadN X54.here hx rfl (hb hby d1_9) rfl k) ?_
  refine Go.on (T' := T54) (g' := (mkF m 11 #[.val (.int pa0), .val (.ref (h0.size)), .val (.int (6 : Int32)), .val (.int (1 : Int32)), .val (.ref (w 1))] [(.int (6 : Int32)), (.int (1 : Int32))])) (fun t k => XS.iloadN X54.here hx rfl (hb hby d1_10) rfl k) ?_
  refine Go.on (T' := T54) (g' := (mkF m 14 #[.val (.int pa0), .val (.ref (h0.size)), .val (.int (6 : Int32)), .val (.int (1 : Int32)), .val (.ref (w 1))] [])) (fun t k => XS.icmpNo X54.here hx rfl (hb hby d1_11) rfl (tlt (by decide : (1 : Int32) < (6 : Int32))).2.1 k) ?_
  refine Go.on (T' := T54) (g' := (mkF m 15 #[.val (.int pa0), .val (.ref (h0.size)), .val (.int (6 : Int32)), .val (.int (1 : Int32)), .val (.ref (w 1))] [(.ref (h0.size))])) (fun t k => XS.aloadN X54.here hx rfl (hb hby d1_14) rfl rfl k) ?_
  refine Go.on (T' := T54) (g' := (mkF m 16 #[.val (.int pa0), .val (.ref (h0.size)), .val (.int (6 : Int32)), .val (.int (1 : Int32)), .val (.ref (w 1))] [(.int (1 : Int32)), (.ref (h0.size))])) (fun t k => XS.iloadN X54.here hx rfl (hb hby d1_15) rfl k) ?_
  refine Go.on (T' := T54) (g' := (mkF m 17 #[.val (.int pa0), .val (.ref (h0.size)), .val (.int (6 : Int32)), .val (.int (1 : Int32)), .val (.ref (w 1))] [(.ref (w 2))])) (fun t k => X54.aaload hx (j := (1 : Int32)) (v := (.ref (w 2))) (by rw [e54]; exact A53.1) (State.isArrayOf_alike hZ.alike A53.2.1) rfl A53.2.2 (by show ¬ (_ ∨ (6 : Nat) ≤ _); decide) rfl (g := (mkF m 16 #[.val (.int pa0), .val (.ref (h0.size)), .val (.int (6 : Int32)), .val (.int (1 : Int32)), .val (.ref (w 1))] [(.int (1 : Int32)), (.ref (h0.size))])) rfl rfl (hb hby d1_16) t k) ?_
  refine Go.on (T' := T54) (g' := (mkF m 19 #[.val (.int pa0), .val (.ref (h0.size)), .val (.int (6 : Int32)), .val (.int (1 : Int32)), .val (.ref (w 2))] [])) (fun t k => XS.astore X54.here hx rfl (hb hby d1_17) rfl rfl (l' := #[.val (.int pa0), .val (.ref (h0.size)), .val (.int (6 : Int32)), .val (.int (1 : Int32)), .val (.ref (w 2))]) rfl k) ?_
  refine Go.on (T' := T54) (g' := (mkF m 21 #[.val (.int pa0), .val (.ref (h0.size)), .val (.int (6 : Int32)), .val (.int (1 : Int32)), .val (.ref (w 2))] [(.ref (w 2))])) (fun t k => XS.aload X54.here hx rfl (hb hby d1_19) rfl rfl k) ?_
  obtain ⟨T55, X55, e55, st55⟩ := getF X54 hx hZ hown (host := "") (Or.inl (hw _ (List.mem_of_getElem? (i := 25) rfl))) Via.refl e54 (pin_15 (pins_ext XT53 hP)) (g := (mkF m 21 #[.val (.int pa0), .val (.ref (h0.size)), .val (.int (6 : Int32)), .val (.int (1 : Int32)), .val (.ref (w 2))] [(.ref (w 2))])) rfl rfl (hb hby d1_21)
  refine Go.on (T' := T55) (g' := (mkF m 24 #[.val (.int pa0), .val (.ref (h0.size)), .val (.int (6 : Int32)), .val (.int (1 : Int32)), .val (.ref (w 2))] [(.int (1 : Int32))])) st55 ?_
  refine Go.on (T' := T55) (g' := (mkF m 25 #[.val (.int pa0), .val (.ref (h0.size)), .val (.int (6 : Int32)), .val (.int (1 : Int32)), .val (.ref (w 2))] [(.int pa0), (.int (1 : Int32))])) (fun t k => XS.iloadN X55.here hx rfl (hb hby d1_24) rfl k) ?_
  refine Go.on (T' := T55) (g' := (mkF m 31 #[.val (.int pa0), .val (.ref (h0.size)), .val (.int (6 : Int32)), .val (.int (1 : Int32)), .val (.ref (w 2))] [])) (fun t k => XS.icmpYes X55.here hx rfl (pc0 := 25) (pc' := 31) rfl (hb hby d1_25) rfl (feq hp1).2 (by decide) (by decide) k) ?_
  refine Go.on (T' := T55) (g' := (mkF m 34 #[.val (.int pa0), .val (.ref (h0.size)), .val (.int (6 : Int32)), .val (.int (2 : Int32)), .val (.ref (w 2))] [])) (fun t k => XS.iinc X55.here hx rfl (hb hby d1_31) rfl (l' := #[.val (.int pa0), .val (.ref (h0.size)), .val (.int (6 : Int32)), .val (.int (2 : Int32)), .val (.ref (w 2))]) rfl k) ?_
  refine Go.on (T' := T55) (g' := (mkF m 9 #[.val (.int pa0), .val (.ref (h0.size)), .val (.int (6 : Int32)), .val (.int (2 : Int32)), .val (.ref (w 2))] [])) (fun t k => XS.goto X55.here hx rfl (pc0 := 34) (pc' := 9) rfl (hb hby d1_34) (by decide) (by decide) k) ?_
  refine Go.on (T' := T55) (g' := (mkF m 10 #[.val (.int pa0), .val (.ref (h0.size)), .val (.int (6 : Int32)), .val (.int (2 : Int32)), .val (.ref (w 2))] [(.int (2 : Int32))])) (fun t k => XS.iloadN X55.here hx rfl (hb hby d1_9) rfl k) ?_
  refine Go.on (T' := T55) (g' := (mkF m 11 #[.val (.int pa0), .val (.ref (h0.size)), .val (.int (6 : Int32)), .val (.int (2 : Int32)), .val (.ref (w 2))] [(.int (6 : Int32)), (.int (2 : Int32))])) (fun t k => XS.iloadN X55.here hx rfl (hb hby d1_10) rfl k) ?_
  refine Go.on (T' := T55) (g' := (mkF m 14 #[.val (.int pa0), .val (.ref (h0.size)), .val (.int (6 : Int32)), .val (.int (2 : Int32)), .val (.ref (w 2))] [])) (fun t k => XS.icmpNo X55.here hx rfl (hb hby d1_11) rfl (tlt (by decide : (2 : Int32) < (6 : Int32))).2.1 k) ?_
  refine Go.on (T' := T55) (g' := (mkF m 15 #[.val (.int pa0), .val (.ref (h0.size)), .val (.int (6 : Int32)), .val (.int (2 : Int32)), .val (.ref (w 2))] [(.ref (h0.size))])) (fun t k => XS.aloadN X55.here hx rfl (hb hby d1_14) rfl rfl k) ?_
  refine Go.on (T' := T55) (g' := (mkF m 16 #[.val (.int pa0), .val (.ref (h0.size)), .val (.int (6 : Int32)), .val (.int (2 : Int32)), .val (.ref (w 2))] [(.int (2 : Int32)), (.ref (h0.size))])) (fun t k => XS.iloadN X55.here hx rfl (hb hby d1_15) rfl k) ?_
  refine Go.on (T' := T55) (g' := (mkF m 17 #[.val (.int pa0), .val (.ref (h0.size)), .val (.int (6 : Int32)), .val (.int (2 : Int32)), .val (.ref (w 2))] [(.ref (w 3))])) (fun t k => X55.aaload hx (j := (2 : Int32)) (v := (.ref (w 3))) (by rw [e55]; exact A53.1) (State.isArrayOf_alike hZ.alike A53.2.1) rfl A53.2.2 (by show ¬ (_ ∨ (6 : Nat) ≤ _); decide) rfl (g := (mkF m 16 #[.val (.int pa0), .val (.ref (h0.size)), .val (.int (6 : Int32)), .val (.int (2 : Int32)), .val (.ref (w 2))] [(.int (2 : Int32)), (.ref (h0.size))])) rfl rfl (hb hby d1_16) t k) ?_
  refine Go.on (T' := T55) (g' := (mkF m 19 #[.val (.int pa0), .val (.ref (h0.size)), .val (.int (6 : Int32)), .val (.int (2 : Int32)), .val (.ref (w 3))] [])) (fun t k => XS.astore X55.here hx rfl (hb hby d1_17) rfl rfl (l' := #[.val (.int pa0), .val (.ref (h0.size)), .val (.int (6 : Int32)), .val (.int (2 : Int32)), .val (.ref (w 3))]) rfl k) ?_
  refine Go.on (T' := T55) (g' := (mkF m 21 #[.val (.int pa0), .val (.ref (h0.size)), .val (.int (6 : Int32)), .val (.int (2 : Int32)), .val (.ref (w 3))] [(.ref (w 3))])) (fun t k => XS.aload X55.here hx rfl (hb hby d1_19) rfl rfl k) ?_
  obtain ⟨T56, X56, e56, st56⟩ := getF X55 hx hZ hown (host := "") (Or.inl (hw _ (List.mem_of_getElem? (i := 25) rfl))) Via.refl e55 (pin_16 (pins_ext XT53 hP)) (g := (mkF m 21 #[.val (.int pa0), .val (.ref (h0.size)), .val (.int (6 : Int32)), .val (.int (2 : Int32)), .val (.ref (w 3))] [(.ref (w 3))])) rfl rfl (hb hby d1_21)
  refine Go.on (T' := T56) (g' := (mkF m 24 #[.val (.int pa0), .val (.ref (h0.size)), .val (.int (6 : Int32)), .val (.int (2 : Int32)), .val (.ref (w 3))] [(.int (2 : Int32))])) st56 ?_
  refine Go.on (T' := T56) (g' := (mkF m 25 #[.val (.int pa0), .val (.ref (h0.size)), .val (.int (6 : Int32)), .val (.int (2 : Int32)), .val (.ref (w 3))] [(.int pa0), (.int (2 : Int32))])) (fun t k => XS.iloadN X56.here hx rfl (hb hby d1_24) rfl k) ?_
  refine Go.on (T' := T56) (g' := (mkF m 28 #[.val (.int pa0), .val (.ref (h0.size)), .val (.int (6 : Int32)), .val (.int (2 : Int32)), .val (.ref (w 3))] [])) (fun t k => XS.icmpNo X56.here hx rfl (hb hby d1_25) rfl (teq hp2).2 k) ?_
  refine Go.on (T' := T56) (g' := (mkF m 30 #[.val (.int pa0), .val (.ref (h0.size)), .val (.int (6 : Int32)), .val (.int (2 : Int32)), .val (.ref (w 3))] [(.ref (w 3))])) (fun t k => XS.aload X56.here hx rfl (hb hby d1_28) rfl rfl k) ?_
  obtain ⟨fs, hr, hrun, hended, hW, hsame⟩ := X56.leave (v := some (.ref (w 3))) (fun h => by rw [Bd.returns] at h; cases h)
  exact ⟨_, _, retOut X56 hx Bd.returns rfl (Or.inr (Or.inr (Or.inr (Or.inr ⟨rfl, rfl, rfl⟩)))) (hb hby d1_30) hr, hrun, hended, _, _, rfl, ⟨rfl, N53, own_extE e56 XT53, trivial⟩, ⟨_, rfl⟩, hW, hsame.mono (by decide) (by decide)⟩
theorem d3_17 : decode method_3_code 17 = .ok (.iload_n 0, 1) := by decide +kernel
theorem d3_18 : decode method_3_code 18 = .ok (.iconst 2, 1) := by decide +kernel
theorem d3_19 : decode method_3_code 19 = .ok (.if_icmp .ne 7, 3) := by decide +kernel
theorem d3_22 : decode method_3_code 22 = .ok (.getstatic 29, 3) := by decide +kernel
theorem d3_25 : decode method_3_code 25 = .ok (.areturn, 1) := by decide +kernel
set_option maxRecDepth 65536 in
set_option maxHeartbeats 40000000 in
theorem rm3_2 (l : Launch) (Z : State) (a0 : Array Value) (hw : ∀ d ∈ tables_1, d.before a0 Z = true) (ws : List Jvm.Cond) (w : Nat → Addr) (h0 : Heap) (n0 : Nat) (Z0 : n0 ≤ h0.size) (hP : Pins Z h0 w) (pa0 : Int32) (hp0 : ¬ (pa0 = (0 : Int32))) (hp1 : ¬ (pa0 = (1 : Int32))) (hp2 : pa0 = (2 : Int32)) :
    MetFree l (⟨"com/example/stubwright/stubwright/PacketTypeFromCodePinLaw", "expected", "(I)Lcom/example/stubwright/stubwright/PacketType;"⟩ : MethodName) (head1 (Jvm.Cond.code (⟨"com/example/stubwright/stubwright/PacketTypeFromCodePinLaw", "expected", "(I)Lcom/example/stubwright/stubwright/PacketType;"⟩ : MethodName) method_3_code 1 (some (.object "com/example/stubwright/stubwright/PacketType")) :: ws) ({ frames := 0, cells := 0, slots := 0, locals := 0 } : Room)) (fun a U => a = #[(.int pa0)] ∧ Z.Warmed39 U.vm ∧ U.heap = h0) (fun _ _ _ _ _ => True) (fun _ U o U' => ∃ v L, o = .returned v ∧ Qp (some (.ref (w 3))) h0 n0 v U'.heap L ∧ FrameEnd U o U' L ({ frames := 0, cells := 0, slots := 0, locals := 0 } : Room).cells ({ frames := 0, cells := 0, slots := 0, locals := 0 } : Room).slots) := by
  refine MetFree.of_bodySF (plainFor_of_name pn_1) hisR ?_
  intro p e s m args below meth c s₁ Bd hml0 hP0 hK
  obtain ⟨rfl, hZ, hh⟩ := hP0
  have hx := Bd.exec
  have hby := Bd.bytes
  have hml : c.maxLocals = 1 := hml0
  have hown : s.vm.findClass "com/example/stubwright/stubwright/PacketTypeFromCodePinLaw" = some m.cls := findClass_of_methodNamed Bd.named
  have hnm := (name_of_methodNamed Bd.named Bd.method).1
  have X0 : Stand p l e ({ frames := 0, cells := 0, slots := 0, locals := 0 } : Room) s m #[(.int pa0)] below meth c s₁ [] 0 0 := Stand.of_body Bd
  have e0 : s₁.heap = h0 := by rw [← hh, Bd.state]; rfl
  have N0 := Fr.nil n0
  suffices hgo : Go p e below (fun o U' => ∃ v L, o = .returned v ∧ Qp (some (.ref (w 3))) h0 n0 v U'.heap L ∧ FrameEnd s o U' L ({ frames := 0, cells := 0, slots := 0, locals := 0 } : Room).cells ({ frames := 0, cells := 0, slots := 0, locals := 0 } : Room).slots) s₁ (mkF m 0 #[.val (.int pa0)] []) by
    obtain ⟨s2, o, g1, g2, g3, g4⟩ := hgo
    refine ⟨s2, o, castTop (?_ : entryFrame m #[(.int pa0)] 1 = _) g1, g2, g3, g4⟩
    first | (simp [entryFrame, mkF, argsToLocals, Value.category]; done) | rfl
  refine Go.on (T' := s₁) (g' := (mkF m 1 #[.val (.int pa0)] [(.int pa0)])) (fun t k => XS.iloadN X0.here hx rfl (hb hby d3_0) rfl k) ?_
  refine Go.on (T' := s₁) (g' := (mkF m 8 #[.val (.int pa0)] [])) (fun t k => XS.ifYes X0.here hx rfl (pc0 := 1) (pc' := 8) rfl (hb hby d3_1) rfl ((if0 _ _).trans (feq hp0).2) (by decide) (by decide) k) ?_
  refine Go.on (T' := s₁) (g' := (mkF m 9 #[.val (.int pa0)] [(.int pa0)])) (fun t k => XS.iloadN X0.here hx rfl (hb hby d3_8) rfl k) ?_
  refine Go.on (T' := s₁) (g' := (mkF m 10 #[.val (.int pa0)] [(.int (1 : Int32)), (.int pa0)])) (fun t k => XS.iconst X0.here hx rfl (hb hby d3_9) k) ?_
  refine Go.on (T' := s₁) (g' := (mkF m 17 #[.val (.int pa0)] [])) (fun t k => XS.icmpYes X0.here hx rfl (pc0 := 10) (pc' := 17) rfl (hb hby d3_10) rfl (feq hp1).2 (by decide) (by decide) k) ?_
  refine Go.on (T' := s₁) (g' := (mkF m 18 #[.val (.int pa0)] [(.int pa0)])) (fun t k => XS.iloadN X0.here hx rfl (hb hby d3_17) rfl k) ?_
  refine Go.on (T' := s₁) (g' := (mkF m 19 #[.val (.int pa0)] [(.int (2 : Int32)), (.int pa0)])) (fun t k => XS.iconst X0.here hx rfl (hb hby d3_18) k) ?_
  refine Go.on (T' := s₁) (g' := (mkF m 22 #[.val (.int pa0)] [])) (fun t k => XS.icmpNo X0.here hx rfl (hb hby d3_19) rfl (teq hp2).2 k) ?_
  obtain ⟨T58, X58, e58, st58⟩ := getS2 X0 hx hZ hown (host := "") (Or.inl (hw _ (List.mem_of_getElem? (i := 41) rfl))) Via.refl e0 (pin_3 hP) (g := (mkF m 22 #[.val (.int pa0)] [])) rfl (hb hby d3_22)
  refine Go.on (T' := T58) (g' := (mkF m 25 #[.val (.int pa0)] [(.ref (w 3))])) st58 ?_
  obtain ⟨fs, hr, hrun, hended, hW, hsame⟩ := X58.leave (v := some (.ref (w 3))) (fun h => by rw [Bd.returns] at h; cases h)
  exact ⟨_, _, retOut X58 hx Bd.returns rfl (Or.inr (Or.inr (Or.inr (Or.inr ⟨rfl, rfl, rfl⟩)))) (hb hby d3_25) hr, hrun, hended, _, _, rfl, ⟨rfl, N0, e58⟩, ⟨_, rfl⟩, hW, hsame.mono (by decide) (by decide)⟩
set_option maxRecDepth 65536 in
set_option maxHeartbeats 40000000 in
theorem rm4_2 (l : Launch) (Z : State) (a0 : Array Value) (hw : ∀ d ∈ tables_1, d.before a0 Z = true) (ws : List Jvm.Cond) (w : Nat → Addr) (h0 : Heap) (n0 : Nat) (Z0 : n0 ≤ h0.size) (hP : Pins Z h0 w) :
    MetFree l (⟨"com/example/stubwright/stubwright/PacketType", "code", "()I"⟩ : MethodName) (head1 (Jvm.Cond.code (⟨"com/example/stubwright/stubwright/PacketType", "code", "()I"⟩ : MethodName) prog_34_method_4_code 1 (some .int) :: ws) ({ frames := 0, cells := 0, slots := 0, locals := 0 } : Room)) (fun a U => a = #[(.ref (w 3))] ∧ Z.Warmed39 U.vm ∧ U.heap = h0) (fun _ _ _ _ _ => True) (fun _ U o U' => ∃ v L, o = .returned v ∧ Qp (some (.int (2 : Int32))) h0 n0 v U'.heap L ∧ FrameEnd U o U' L ({ frames := 0, cells := 0, slots := 0, locals := 0 } : Room).cells ({ frames := 0, cells := 0, slots := 0, locals := 0 } : Room).slots) := by
  refine MetFree.of_bodySF (plainFor_of_name pn_0) hisR ?_
  intro p e s m args below meth c s₁ Bd hml0 hP0 hK
  obtain ⟨rfl, hZ, hh⟩ := hP0
  have hx := Bd.exec
  have hby := Bd.bytes
  have hml : c.maxLocals = 1 := hml0
  have hown : s.vm.findClass "com/example/stubwright/stubwright/PacketType" = some m.cls := findClass_of_methodNamed Bd.named
  have hnm := (name_of_methodNamed Bd.named Bd.method).1
  have X0 : Stand p l e ({ frames := 0, cells := 0, slots := 0, locals := 0 } : Room) s m #[(.ref (w 3))] below meth c s₁ [] 0 0 := Stand.of_body Bd
  have e0 : s₁.heap = h0 := by rw [← hh, Bd.state]; rfl
  have N0 := Fr.nil n0
  suffices hgo : Go p e below (fun o U' => ∃ v L, o = .returned v ∧ Qp (some (.int (2 : Int32))) h0 n0 v U'.heap L ∧ FrameEnd s o U' L ({ frames := 0, cells := 0, slots := 0, locals := 0 } : Room).cells ({ frames := 0, cells := 0, slots := 0, locals := 0 } : Room).slots) s₁ (mkF m 0 #[.val (.ref (w 3))] []) by
    obtain ⟨s2, o, g1, g2, g3, g4⟩ := hgo
    refine ⟨s2, o, castTop (?_ : entryFrame m #[(.ref (w 3))] 1 = _) g1, g2, g3, g4⟩
    first | (simp [entryFrame, mkF, argsToLocals, Value.category]; done) | rfl
  refine Go.on (T' := s₁) (g' := (mkF m 1 #[.val (.ref (w 3))] [(.ref (w 3))])) (fun t k => XS.aloadN X0.here hx rfl (hb hby d4_0) rfl rfl k) ?_
  obtain ⟨T61, X61, e61, st61⟩ := getF X0 hx hZ hown (host := "") (Or.inl (hw _ (List.mem_of_getElem? (i := 25) rfl))) Via.refl e0 (pin_16 hP) (g := (mkF m 1 #[.val (.ref (w 3))] [(.ref (w 3))])) rfl rfl (hb hby d4_1)
  refine Go.on (T' := T61) (g' := (mkF m 4 #[.val (.ref (w 3))] [(.int (2 : Int32))])) st61 ?_
  obtain ⟨fs, hr, hrun, hended, hW, hsame⟩ := X61.leave (v := some (.int (2 : Int32))) (fun h => by rw [Bd.returns] at h; cases h)
  exact ⟨_, _, retOut X61 hx Bd.returns rfl (Or.inl ⟨rfl, Or.inl rfl, _, rfl⟩) (hb hby d4_4) hr, hrun, hended, _, _, rfl, ⟨rfl, N0, e61⟩, ⟨_, rfl⟩, hW, hsame.mono (by decide) (by decide)⟩
set_option maxRecDepth 65536 in
set_option maxHeartbeats 40000000 in
theorem rm1_3 (l : Launch) (Z : State) (a0 : Array Value) (hw : ∀ d ∈ tables_1, d.before a0 Z = true) (ws : List Jvm.Cond) (w : Nat → Addr) (h0 : Heap) (n0 : Nat) (Z0 : n0 ≤ h0.size) (hP : Pins Z h0 w) (pa0 : Int32) (hp0 : ¬ ((0 : Int32) = pa0)) (hp1 : ¬ ((1 : Int32) = pa0)) (hp2 : ¬ ((2 : Int32) = pa0)) (hp3 : (3 : Int32) = pa0) :
    MetFree l (⟨"com/example/stubwright/stubwright/PacketType", "fromCode", "(I)Lcom/example/stubwright/stubwright/PacketType;"⟩ : MethodName) (head1 (Jvm.Cond.code (⟨"com/example/stubwright/stubwright/PacketType", "fromCode", "(I)Lcom/example/stubwright/stubwright/PacketType;"⟩ : MethodName) prog_34_method_5_code 5 (some (.object "com/example/stubwright/stubwright/PacketType")) :: ws) ({ frames := 2, cells := 1, slots := 6, locals := 25 } : Room)) (fun a U => a = #[(.int pa0)] ∧ Z.Warmed39 U.vm ∧ U.heap = h0) (fun _ _ _ _ _ => True) (fun _ U o U' => ∃ v L, o = .returned v ∧ Qx (some (.ref (w 4))) (fun h => True) h0 n0 v U'.heap L ∧ FrameEnd U o U' L ({ frames := 2, cells := 1, slots := 6, locals := 25 } : Room).cells ({ frames := 2, cells := 1, slots := 6, locals := 25 } : Room).slots) := by
  refine MetFree.of_bodySF (plainFor_of_name pn_0) hisR ?_
  intro p e s m args below meth c s₁ Bd hml0 hP0 hK
  obtain ⟨rfl, hZ, hh⟩ := hP0
  have hx := Bd.exec
  have hby := Bd.bytes
  have hml : c.maxLocals = 5 := hml0
  have hown : s.vm.findClass "com/example/stubwright/stubwright/PacketType" = some m.cls := findClass_of_methodNamed Bd.named
  have hnm := (name_of_methodNamed Bd.named Bd.method).1
  have X0 : Stand p l e ({ frames := 2, cells := 1, slots := 6, locals := 25 } : Room) s m #[(.int pa0)] below meth c s₁ [] 0 0 := Stand.of_body Bd
  have e0 : s₁.heap = h0 := by rw [← hh, Bd.state]; rfl
  have N0 := Fr.nil n0
  suffices hgo : Go p e below (fun o U' => ∃ v L, o = .returned v ∧ Qx (some (.ref (w 4))) (fun h => True) h0 n0 v U'.heap L ∧ FrameEnd s o U' L ({ frames := 2, cells := 1, slots := 6, locals := 25 } : Room).cells ({ frames := 2, cells := 1, slots := 6, locals := 25 } : Room).slots) s₁ (mkF m 0 #[.val (.int pa0), .unset, .unset, .unset, .unset] []) by
    obtain ⟨s2, o, g1, g2, g3, g4⟩ := hgo
    refine ⟨s2, o, castTop (?_ : entryFrame m #[(.int pa0)] 5 = _) g1, g2, g3, g4⟩
    first | (simp [entryFrame, mkF, argsToLocals, Value.category]; done) | rfl
  obtain ⟨_, _, ⟨T64, L64, k64, n64⟩, -, X64, ⟨Lc64, hQ64, l64, y64, z64⟩, st64⟩ := Jvm.LawKit.callS X0 hx (y := (⟨"com/example/stubwright/stubwright/PacketType", "values", "()[Lcom/example/stubwright/stubwright/PacketType;"⟩ : MethodName)) hown (mvT hZ (hw _ (List.mem_of_getElem? (i := 4) rfl))) (mvT hZ (hw _ (List.mem_of_getElem? (i := 5) rfl))) (mvT hZ (hw _ (List.mem_of_getElem? (i := 2) rfl))) (mvT hZ (hw _ (List.mem_of_getElem? (i := 6) rfl))) (by decide) (backOf (W := 0) (rm2_0 l Z a0 hw [] w h0 n0 (Nat.le_trans Z0 (own_ext0 h0).1) hP) hZ (hw _ (List.mem_of_getElem? (i := 6) rfl)) (hw _ (List.mem_of_getElem? (i := 2) rfl)) (by decide) (by decide)) (g := (mkF m 0 #[.val (.int pa0), .unset, .unset, .unset, .unset] [])) rfl (by rw [hml]; rfl) (argsL := []) (rest := []) (lenOf pd_0 rfl) rfl (by show 2 * 0 + _ ≤ _; exact Nat.le_of_eq rfl) (hb hby d1_0) (fun _ _ => ⟨rfl, e0, (by decide : 0 + 1 ≤ _), (by decide : 0 + 6 ≤ _)⟩)
  dsimp only [Pt.U, Pt.locs, Pt.cells, Pt.slots] at X64 l64 y64 z64 st64 hQ64
  subst l64 y64 z64
  obtain ⟨rfl, N64q, x64, f64⟩ := hQ64
  have N64 := Fr.app N0 N64q
  have e64 : T64.heap = T64.heap := rfl
  have sz64 : h0.size ≤ h0.size := (own_ext0 h0).1
  have XT64 := own_ext2 (own_ext0 h0) x64
  obtain ⟨k64, A64⟩ := f64
  refine Go.on (T' := T64) (g' := (mkF m 3 #[.val (.int pa0), .unset, .unset, .unset, .unset] [(.ref (h0.size))])) st64 ?_
  refine Go.on (T' := T64) (g' := (mkF m 4 #[.val (.int pa0), .val (.ref (h0.size)), .unset, .unset, .unset] [])) (fun t k => XS.astoreN X64.here hx rfl (hb hby d1_3) rfl rfl (l' := #[.val (.int pa0), .val (.ref (h0.size)), .unset, .unset, .unset]) rfl k) ?_
  refine Go.on (T' := T64) (g' := (mkF m 5 #[.val (.int pa0), .val (.ref (h0.size)), .unset, .unset, .unset] [(.ref (h0.size))])) (fun t k => XS.aloadN X64.here hx rfl (hb hby d1_4) rfl rfl k) ?_
  refine Go.on (T' := T64) (g' := (mkF m 6 #[.val (.int pa0), .val (.ref (h0.size)), .unset, .unset, .unset] [(.int (6 : Int32))])) (fun t k => X64.arraylength hx (by rw [e64]; exact A64.1) (State.isArrayOf_alike hZ.alike A64.2.1) (g := (mkF m 5 #[.val (.int pa0), .val (.ref (h0.size)), .unset, .unset, .unset] [(.ref (h0.size))])) rfl rfl (hb hby d1_5) t k) ?_
  refine Go.on (T' := T64) (g' := (mkF m 7 #[.val (.int pa0), .val (.ref (h0.size)), .val (.int (6 : Int32)), .unset, .unset] [])) (fun t k => XS.istoreN X64.here hx rfl (hb hby d1_6) rfl (l' := #[.val (.int pa0), .val (.ref (h0.size)), .val (.int (6 : Int32)), .unset, .unset]) rfl k) ?_
  refine Go.on (T' := T64) (g' := (mkF m 8 #[.val (.int pa0), .val (.ref (h0.size)), .val (.int (6 : Int32)), .unset, .unset] [(.int (0 : Int32))])) (fun t k => XS.iconst X64.here hx rfl (hb hby d1_7) k) ?_
  refine Go.on (T' := T64) (g' := (mkF m 9 #[.val (.int pa0), .val (.ref (h0.size)), .val (.int (6 : Int32)), .val (.int (0 : Int32)), .unset] [])) (fun t k => XS.istoreN X64.here hx rfl (hb hby d1_8) rfl (l' := #[.val (.int pa0), .val (.ref (h0.size)), .val (.int (6 : Int32)), .val (.int (0 : Int32)), .unset]) rfl k) ?_
  refine Go.on (T' := T64) (g' := (mkF m 10 #[.val (.int pa0), .val (.ref (h0.size)), .val (.int (6 : Int32)), .val (.int (0 : Int32)), .unset] [(.int (0 : Int32))])) (fun t k => XS.iloadN X64.here hx rfl (hb hby d1_9) rfl k) ?_
  refine Go.on (T' := T64) (g' := (mkF m 11 #[.val (.int pa0), .val (.ref (h0.size)), .val (.int (6 : Int32)), .val (.int (0 : Int32)), .unset] [(.int (6 : Int32)), (.int (0 : Int32))])) (fun t k => XS.iloadN X64.here hx rfl (hb hby d1_10) rfl k) ?_
  refine Go.on (T' := T64) (g' := (mkF m 14 #[.val (.int pa0), .val (.ref (h0.size)), .val (.int (6 : Int32)), .val (.int (0 : Int32)), .unset] [])) (fun t k => XS.icmpNo X64.here hx rfl (hb hby d1_11) rfl (tlt (by decide : (0 : Int32) < (6 : Int32))).2.1 k) ?_
  refine Go.on (T' := T64) (g' := (mkF m 15 #[.val (.int pa0), .val (.ref (h0.size)), .val (.int (6 : Int32)), .val (.int (0 : Int32)), .unset] [(.ref (h0.size))])) (fun t k => XS.aloadN X64.here hx rfl (hb hby d1_14) rfl rfl k) ?_
  refine Go.on (T' := T64) (g' := (mkF m 16 #[.val (.int pa0), .val (.ref (h0.size)), .val (.int (6 : Int32)), .val (.int (0 : Int32)), .unset] [(.int (0 : Int32)), (.ref (h0.size))])) (fun t k => XS.iloadN X64.here hx rfl (hb hby d1_15) rfl k) ?_
  refine Go.on (T' := T64) (g' := (mkF m 17 #[.val (.int pa0), .val (.ref (h0.size)), .val (.int (6 : Int32)), .val (.int (0 : Int32)), .unset] [(.ref (w 1))])) (fun t k => X64.aaload hx (j := (0 : Int32)) (v := (.ref (w 1))) (by rw [e64]; exact A64.1) (State.isArrayOf_alike hZ.alike A64.2.1) rfl A64.2.2 (by show ¬ (_ ∨ (6 : Nat) ≤ _); decide) rfl (g := (mkF m 16 #[.val (.int pa0), .val (.ref (h0.size)), .val (.int (6 : Int32)), .val (.int (0 : Int32)), .unset] [(.int (0 : Int32)), (.ref (h0.size))])) rfl rfl (hb hby d1_16) t k) ?_
  refine Go.on (T' := T64) (g' := (mkF m 19 #[.val (.int pa0), .val (.ref (h0.size)), .val (.int (6 : Int32)), .val (.int (0 : Int32)), .val (.ref (w 1))] [])) (fun t k => XS.astore X64.here hx rfl (hb hby d1_17) rfl rfl (l' := #[.val (.int pa0), .val (.ref (h0.size)), .val (.int (6 : Int32)), .val (.int (0 : Int32)), .val (.ref (w 1))]) rfl k) ?_
  refine Go.on (T' := T64) (g' := (mkF m 21 #[.val (.int pa0), .val (.ref (h0.size)), .val (.int (6 : Int32)), .val (.int (0 : Int32)), .val (.ref (w 1))] [(.ref (w 1))])) (fun t k => XS.aload X64.here hx rfl (hb hby d1_19) rfl rfl k) ?_
  obtain ⟨T65, X65, e65, st65⟩ := getF X64 hx hZ hown (host := "") (Or.inl (hw _ (List.mem_of_getElem? (i := 25) rfl))) Via.refl e64 (pin_14 (pins_ext XT64 hP)) (g := (mkF m 21 #[.val (.int pa0), .val (.ref (h0.size)), .val (.int (6 : Int32)), .val (.int (0 : Int32)), .val (.ref (w 1))] [(.ref (w 1))])) rfl rfl (hb hby d1_21)
  refine Go.on (T' := T65) (g' := (mkF m 24 #[.val (.int pa0), .val (.ref (h0.size)), .val (.int (6 : Int32)), .val (.int (0 : Int32)), .val (.ref (w 1))] [(.int (0 : Int32))])) st65 ?_
  refine Go.on (T' := T65) (g' := (mkF m 25 #[.val (.int pa0), .val (.ref (h0.size)), .val (.int (6 : Int32)), .val (.int (0 : Int32)), .val (.ref (w 1))] [(.int pa0), (.int (0 : Int32))])) (fun t k => XS.iloadN X65.here hx rfl (hb hby d1_24) rfl k) ?_
  refine Go.on (T' := T65) (g' := (mkF m 31 #[.val (.int pa0), .val (.ref (h0.size)), .val (.int (6 : Int32)), .val (.int (0 : Int32)), .val (.ref (w 1))] [])) (fun t k => XS.icmpYes X65.here hx rfl (pc0 := 25) (pc' := 31) rfl (hb hby d1_25) rfl (feq hp0).2 (by decide) (by decide) k) ?_
  refine Go.on (T' := T65) (g' := (mkF m 34 #[.val (.int pa0), .val (.ref (h0.size)), .val (.int (6 : Int32)), .val (.int (1 : Int32)), .val (.ref (w 1))] [])) (fun t k => XS.iinc X65.here hx rfl (hb hby d1_31) rfl (l' := #[.val (.int pa0), .val (.ref (h0.size)), .val (.int (6 : Int32)), .val (.int (1 : Int32)), .val (.ref (w 1))]) rfl k) ?_
  refine Go.on (T' := T65) (g' := (mkF m 9 #[.val (.int pa0), .val (.ref (h0.size)), .val (.int (6 : Int32)), .val (.int (1 : Int32)), .val (.ref (w 1))] [])) (fun t k => XS.goto X65.here hx rfl (pc0 := 34) (pc' := 9) rfl (hb hby d1_34) (by decide) (by decide) k) ?_
  refine Go.on (T' := T65) (g' := (mkF m 10 #[.val (.int pa0), .val (.ref (h0.size)), .val (.int (6 : Int32)), .val (.int (1 : Int32)), .val (.ref (w 1))] [(.int (1 : Int32))])) (fun t k => XS.iloadN X65.here hx rfl (hb hby d1_9) rfl k) ?_
  refine Go.on (T' := T65) (g' := (mkF m 11 #[.val (.int pa0), .val (.ref (h0.size)), .val (.int (6 : Int32)), .val (.int (1 : Int32)), .val (.ref (w 1))] [(.int (6 : Int32)), (.int (1 : Int32))])) (fun t k => XS.iloadN X65.here hx rfl (hb hby d1_10) rfl k) ?_
  refine Go.on (T' := T65) (g' := (mkF m 14 #[.val (.int pa0), .val (.ref (h0.size)), .val (.int (6 : Int32)), .val (.int (1 : Int32)), .val (.ref (w 1))] [])) (fun t k => XS.icmpNo X65.here hx rfl (hb hby d1_11) rfl (tlt (by decide : (1 : Int32) < (6 : Int32))).2.1 k) ?_
  refine Go.on (T' := T65) (g' := (mkF m 15 #[.val (.int pa0), .val (.ref (h0.size)), .val (.int (6 : Int32)), .val (.int (1 : Int32)), .val (.ref (w 1))] [(.ref (h0.size))])) (fun t k => XS.aloadN X65.here hx rfl (hb hby d1_14) rfl rfl k) ?_
  refine Go.on (T' := T65) (g' := (mkF m 16 #[.val (.int pa0), .val (.ref (h0.size)), .val (.int (6 : Int32)), .val (.int (1 : Int32)), .val (.ref (w 1))] [(.int (1 : Int32)), (.ref (h0.size))])) (fun t k => XS.iloadN X65.here hx rfl (hb hby d1_15) rfl k) ?_
  refine Go.on (T' := T65) (g' := (mkF m 17 #[.val (.int pa0), .val (.ref (h0.size)), .val (.int (6 : Int32)), .val (.int (1 : Int32)), .val (.ref (w 1))] [(.ref (w 2))])) (fun t k => X65.aaload hx (j := (1 : Int32)) (v := (.ref (w 2))) (by rw [e65]; exact A64.1) (State.isArrayOf_alike hZ.alike A64.2.1) rfl A64.2.2 (by show ¬ (_ ∨ (6 : Nat) ≤ _); decide) rfl (g := (mkF m 16 #[.val (.int pa0), .val (.ref (h0.size)), .val (.int (6 : Int32)), .val (.int (1 : Int32)), .val (.ref (w 1))] [(.int (1 : Int32)), (.ref (h0.size))])) rfl rfl (hb hby d1_16) t k) ?_
  refine Go.on (T' := T65) (g' := (mkF m 19 #[.val (.int pa0), .val (.ref (h0.size)), .val (.int (6 : Int32)), .val (.int (1 : Int32)), .val (.ref (w 2))] [])) (fun t k => XS.astore X65.here hx rfl (hb hby d1_17) rfl rfl (l' := #[.val (.int pa0), .val (.ref (h0.size)), .val (.int (6 : Int32)), .val (.int (1 : Int32)), .val (.ref (w 2))]) rfl k) ?_
  refine Go.on (T' := T65) (g' := (mkF m 21 #[.val (.int pa0), .val (.ref (h0.size)), .val (.int (6 : Int32)), .val (.int (1 : Int32)), .val (.ref (w 2))] [(.ref (w 2))])) (fun t k => XS.aload X65.here hx rfl (hb hby d1_19) rfl rfl k) ?_
  obtain ⟨T66, X66, e66, st66⟩ := getF X65 hx hZ hown (host := "") (Or.inl (hw _ (List.mem_of_getElem? (i := 25) rfl))) Via.refl e65 (pin_15 (pins_ext XT64 hP)) (g := (mkF m 21 #[.val (.int pa0), .val (.ref (h0.size)), .val (.int (6 : Int32)), .val (.int (1 : Int32)), .val (.ref (w 2))] [(.ref (w 2))])) rfl rfl (hb hby d1_21)
  refine Go.on (T' := T66) (g' := (mkF m 24 #[.val (.int pa0), .val (.ref (h0.size)), .val (.int (6 : Int32)), .val (.int (1 : Int32)), .val (.ref (w 2))] [(.int (1 : Int32))])) st66 ?_
  refine Go.on (T' := T66) (g' := (mkF m 25 #[.val (.int pa0), .val (.ref (h0.size)), .val (.int (6 : Int32)), .val (.int (1 : Int32)), .val (.ref (w 2))] [(.int pa0), (.int (1 : Int32))])) (fun t k => XS.iloadN X66.here hx rfl (hb hby d1_24) rfl k) ?_
  refine Go.on (T' := T66) (g' := (mkF m 31 #[.val (.int pa0), .val (.ref (h0.size)), .val (.int (6 : Int32)), .val (.int (1 : Int32)), .val (.ref (w 2))] [])) (fun t k => XS.icmpYes X66.here hx rfl (pc0 := 25) (pc' := 31) rfl (hb hby d1_25) rfl (feq hp1).2 (by decide) (by decide) k) ?_
  refine Go.on (T' := T66) (g' := (mkF m 34 #[.val (.int pa0), .val (.ref (h0.size)), .val (.int (6 : Int32)), .val (.int (2 : Int32)), .val (.ref (w 2))] [])) (fun t k => XS.iinc X66.here hx rfl (hb hby d1_31) rfl (l' := #[.val (.int pa0), .val (.ref (h0.size)), .val (.int (6 : Int32)), .val (.int (2 : Int32)), .val (.ref (w 2))]) rfl k) ?_
  refine Go.on (T' := T66) (g' := (mkF m 9 #[.val (.int pa0), .val (.ref (h0.size)), .val (.int (6 : Int32)), .val (.int (2 : Int32)), .val (.ref (w 2))] [])) (fun t k => XS.goto X66.here hx rfl (pc0 := 34) (pc' := 9) rfl (hb hby d1_34) (by decide) (by decide) k) ?_
  refine Go.on (T' := T66) (g' := (mkF m 10 #[.val (.int pa0), .val (.ref (h0.size)), .val (.int (6 : Int32)), .val (.int (2 : Int32)), .val (.ref (w 2))] [(.int (2 : Int32))])) (fun t k => XS.iloadN X66.here hx rfl (hb hby d1_9) rfl k) ?_
  refine Go.on (T' := T66) (g' := (mkF m 11 #[.val (.int pa0), .val (.ref (h0.size)), .val (.int (6 : Int32)), .val (.int (2 : Int32)), .val (.ref (w 2))] [(.int (6 : Int32)), (.int (2 : Int32))])) (fun t k => XS.iloadN X66.here hx rfl (hb hby d1_10) rfl k) ?_
  refine Go.on (T' := T66) (g' := (mkF m 14 #[.val (.int pa0), .val (.ref (h0.size)), .val (.int (6 : Int32)), .val (.int (2 : Int32)), .val (.ref (w 2))] [])) (fun t k => XS.icmpNo X66.here hx rfl (hb hby d1_11) rfl (tlt (by decide : (2 : Int32) < (6 : Int32))).2.1 k) ?_
  refine Go.on (T' := T66) (g' := (mkF m 15 #[.val (.int pa0), .val (.ref (h0.size)), .val (.int (6 : Int32)), .val (.int (2 : Int32)), .val (.ref (w 2))] [(.ref (h0.size))])) (fun t k => XS.aloadN X66.here hx rfl (hb hby d1_14) rfl rfl k) ?_
  refine Go.on (T' := T66) (g' := (mkF m 16 #[.val (.int pa0), .val (.ref (h0.size)), .val (.int (6 : Int32)), .val (.int (2 : Int32)), .val (.ref (w 2))] [(.int (2 : Int32)), (.ref (h0.size))])) (fun t k => XS.iloadN X66.here hx rfl (hb hby d1_15) rfl k) ?_
  refine Go.on (T' := T66) (g' := (mkF m 17 #[.val (.int pa0), .val (.ref (h0.size)), .val (.int (6 : Int32)), .val (.int (2 : Int32)), .val (.ref (w 2))] [(.ref (w 3))])) (fun t k => X66.aaload hx (j := (2 : Int32)) (v := (.ref (w 3))) (by rw [e66]; exact A64.1) (State.isArrayOf_alike hZ.alike A64.2.1) rfl A64.2.2 (by show ¬ (_ ∨ (6 : Nat) ≤ _); decide) rfl (g := (mkF m 16 #[.val (.int pa0), .val (.ref (h0.size)), .val (.int (6 : Int32)), .val (.int (2 : Int32)), .val (.ref (w 2))] [(.int (2 : Int32)), (.ref (h0.size))])) rfl rfl (hb hby d1_16) t k) ?_
  refine Go.on (T' := T66) (g' := (mkF m 19 #[.val (.int pa0), .val (.ref (h0.size)), .val (.int (6 : Int32)), .val (.int (2 : Int32)), .val (.ref (w 3))] [])) (fun t k => XS.astore X66.here hx rfl (hb hby d1_17) rfl rfl (l' := #[.val (.int pa0), .val (.ref (h0.size)), .val (.int (6 : Int32)), .val (.int (2 : Int32)), .val (.ref (w 3))]) rfl k) ?_
  refine Go.on (T' := T66) (g' := (mkF m 21 #[.val (.int pa0), .val (.ref (h0.size)), .val (.int (6 : Int32)), .val (.int (2 : Int32)), .val (.ref (w 3))] [(.ref (w 3))])) (fun t k => XS.aload X66.here hx rfl (hb hby d1_19) rfl rfl k) ?_
  obtain ⟨T67, X67, e67, st67⟩ := getF X66 hx hZ hown (host := "") (Or.inl (hw _ (List.mem_of_getElem? (i := 25) rfl))) Via.refl e66 (pin_16 (pins_ext XT64 hP)) (g := (mkF m 21 #[.val (.int pa0), .val (.ref (h0.size)), .val (.int (6 : Int32)), .val (.int (2 : Int32)), .val (.ref (w 3))] [(.ref (w 3))])) rfl rfl (hb hby d1_21)
  refine Go.on (T' := T67) (g' := (mkF m 24 #[.val (.int pa0), .val (.ref (h0.size)), .val (.int (6 : Int32)), .val (.int (2 : Int32)), .val (.ref (w 3))] [(.int (2 : Int32))])) st67 ?_
  refine Go.on (T' := T67) (g' := (mkF m 25 #[.val (.int pa0), .val (.ref (h0.size)), .val (.int (6 : Int32)), .val (.int (2 : Int32)), .val (.ref (w 3))] [(.int pa0), (.int (2 : Int32))])) (fun t k => XS.iloadN X67.here hx rfl (hb hby d1_24) rfl k) ?_
  refine Go.on (T' := T67) (g' := (mkF m 31 #[.val (.int pa0), .val (.ref (h0.size)), .val (.int (6 : Int32)), .val (.int (2 : Int32)), .val (.ref (w 3))] [])) (fun t k => XS.icmpYes X67.here hx rfl (pc0 := 25) (pc' := 31) rfl (hb hby d1_25) rfl (feq hp2).2 (by decide) (by decide) k) ?_
  refine Go.on (T' := T67) (g' := (mkF m 34 #[.val (.int pa0), .val (.ref (h0.size)), .val (.int (6 : Int32)), .val (.int (3 : Int32)), .val (.ref (w 3))] [])) (fun t k => XS.iinc X67.here hx rfl (hb hby d1_31) rfl (l' := #[.val (.int pa0), .val (.ref (h0.size)), .val (.int (6 : Int32)), .val (.int (3 : Int32)), .val (.ref (w 3))]) rfl k) ?_
  refine Go.on (T' := T67) (g' := (mkF m 9 #[.val (.int pa0), .val (.ref (h0.size)), .val (.int (6 : Int32)), .val (.int (3 : Int32)), .val (.ref (w 3))] [])) (fun t k => XS.goto X67.here hx rfl (pc0 := 34) (pc' := 9) rfl (hb hby d1_34) (by decide) (by decide) k) ?_
  refine Go.on (T' := T67) (g' := (mkF m 10 #[.val (.int pa0), .val (.ref (h0.size)), .val (.int (6 : Int32)), .val (.int (3 : Int32)), .val (.ref (w 3))] [(.int (3 : Int32))])) (fun t k => XS.iloadN X67.here hx rfl (hb hby d1_9) rfl k) ?_
  refine Go.on (T' := T67) (g' := (mkF m 11 #[.val (.int pa0), .val (.ref (h0.size)), .val (.int (6 : Int32)), .val (.int (3 : Int32)), .val (.ref (w 3))] [(.int (6 : Int32)), (.int (3 : Int32))])) (fun t k => XS.iloadN X67.here hx rfl (hb hby d1_10) rfl k) ?_
  refine Go.on (T' := T67) (g' := (mkF m 14 #[.val (.int pa0), .val (.ref (h0.size)), .val (.int (6 : Int32)), .val (.int (3 : Int32)), .val (.ref (w 3))] [])) (fun t k => XS.icmpNo X67.here hx rfl (hb hby d1_11) rfl (tlt (by decide : (3 : Int32) < (6 : Int32))).2.1 k) ?_
  refine Go.on (T' := T67) (g' := (mkF m 15 #[.val (.int pa0), .val (.ref (h0.size)), .val (.int (6 : Int32)), .val (.int (3 : Int32)), .val (.ref (w 3))] [(.ref (h0.size))])) (fun t k => XS.aloadN X67.here hx rfl (hb hby d1_14) rfl rfl k) ?_
  refine Go.on (T' := T67) (g' := (mkF m 16 #[.val (.int pa0), .val (.ref (h0.size)), .val (.int (6 : Int32)), .val (.int (3 : Int32)), .val (.ref (w 3))] [(.int (3 : Int32)), (.ref (h0.size))])) (fun t k => XS.iloadN X67.here hx rfl (hb hby d1_15) rfl k) ?_
  refine Go.on (T' := T67) (g' := (mkF m 17 #[.val (.int pa0), .val (.ref (h0.size)), .val (.int (6 : Int32)), .val (.int (3 : Int32)), .val (.ref (w 3))] [(.ref (w 4))])) (fun t k => X67.aaload hx (j := (3 : Int32)) (v := (.ref (w 4))) (by rw [e67]; exact A64.1) (State.isArrayOf_alike hZ.alike A64.2.1) rfl A64.2.2 (by show ¬ (_ ∨ (6 : Nat) ≤ _); decide) rfl (g := (mkF m 16 #[.val (.int pa0), .val (.ref (h0.size)), .val (.int (6 : Int32)), .val (.int (3 : Int32)), .val (.ref (w 3))] [(.int (3 : Int32)), (.ref (h0.size))])) rfl rfl (hb hby d1_16) t k) ?_
  refine Go.on (T' := T67) (g' := (mkF m 19 #[.val (.int pa0), .val (.ref (h0.size)), .val (.int (6 : Int32)), .val (.int (3 : Int32)), .val (.ref (w 4))] [])) (fun t k => XS.astore X67.here hx rfl (hb hby d1_17) rfl rfl (l' := #[.val (.int pa0), .val (.ref (h0.size)), .val (.int (6 : Int32)), .val (.int (3 : Int32)), .val (.ref (w 4))]) rfl k) ?_
  refine Go.on (T' := T67) (g' := (mkF m 21 #[.val (.int pa0), .val (.ref (h0.size)), .val (.int (6 : Int32)), .val (.int (3 : Int32)), .val (.ref (w 4))] [(.ref (w 4))])) (fun t k => XS.aload X67.here hx rfl (hb hby d1_19) rfl rfl k) ?_
  obtain ⟨T68, X68, e68, st68⟩ := getF X67 hx hZ hown (host := "") (Or.inl (hw _ (List.mem_of_getElem? (i := 25) rfl))) Via.refl e67 (pin_17 (pins_ext XT64 hP)) (g := (mkF m 21 #[.val (.int pa0), .val (.ref (h0.size)), .val (.int (6 : Int32)), .val (.int (3 : Int32)), .val (.ref (w 4))] [(.ref (w 4))])) rfl rfl (hb hby d1_21)
  refine Go.on (T' := T68) (g' := (mkF m 24 #[.val (.int pa0), .val (.ref (h0.size)), .val (.int (6 : Int32)), .val (.int (3 : Int32)), .val (.ref (w 4))] [(.int (3 : Int32))])) st68 ?_
  refine Go.on (T' := T68) (g' := (mkF m 25 #[.val (.int pa0), .val (.ref (h0.size)), .val (.int (6 : Int32)), .val (.int (3 : Int32)), .val (.ref (w 4))] [(.int pa0), (.int (3 : Int32))])) (fun t k => XS.iloadN X68.here hx rfl (hb hby d1_24) rfl k) ?_
  refine Go.on (T' := T68) (g' := (mkF m 28 #[.val (.int pa0), .val (.ref (h0.size)), .val (.int (6 : Int32)), .val (.int (3 : Int32)), .val (.ref (w 4))] [])) (fun t k => XS.icmpNo X68.here hx rfl (hb hby d1_25) rfl (teq hp3).2 k) ?_
  refine Go.on (T' := T68) (g' := (mkF m 30 #[.val (.int pa0), .val (.ref (h0.size)), .val (.int (6 : Int32)), .val (.int (3 : Int32)), .val (.ref (w 4))] [(.ref (w 4))])) (fun t k => XS.aload X68.here hx rfl (hb hby d1_28) rfl rfl k) ?_
  obtain ⟨fs, hr, hrun, hended, hW, hsame⟩ := X68.leave (v := some (.ref (w 4))) (fun h => by rw [Bd.returns] at h; cases h)
  exact ⟨_, _, retOut X68 hx Bd.returns rfl (Or.inr (Or.inr (Or.inr (Or.inr ⟨rfl, rfl, rfl⟩)))) (hb hby d1_30) hr, hrun, hended, _, _, rfl, ⟨rfl, N64, own_extE e68 XT64, trivial⟩, ⟨_, rfl⟩, hW, hsame.mono (by decide) (by decide)⟩
theorem d3_26 : decode method_3_code 26 = .ok (.iload_n 0, 1) := by decide +kernel
theorem d3_27 : decode method_3_code 27 = .ok (.iconst 3, 1) := by decide +kernel
theorem d3_28 : decode method_3_code 28 = .ok (.if_icmp .ne 7, 3) := by decide +kernel
theorem d3_31 : decode method_3_code 31 = .ok (.getstatic 32, 3) := by decide +kernel
theorem d3_34 : decode method_3_code 34 = .ok (.areturn, 1) := by decide +kernel
set_option maxRecDepth 65536 in
set_option maxHeartbeats 40000000 in
theorem rm3_3 (l : Launch) (Z : State) (a0 : Array Value) (hw : ∀ d ∈ tables_1, d.before a0 Z = true) (ws : List Jvm.Cond) (w : Nat → Addr) (h0 : Heap) (n0 : Nat) (Z0 : n0 ≤ h0.size) (hP : Pins Z h0 w) (pa0 : Int32) (hp0 : ¬ (pa0 = (0 : Int32))) (hp1 : ¬ (pa0 = (1 : Int32))) (hp2 : ¬ (pa0 = (2 : Int32))) (hp3 : pa0 = (3 : Int32)) :
    MetFree l (⟨"com/example/stubwright/stubwright/PacketTypeFromCodePinLaw", "expected", "(I)Lcom/example/stubwright/stubwright/PacketType;"⟩ : MethodName) (head1 (Jvm.Cond.code (⟨"com/example/stubwright/stubwright/PacketTypeFromCodePinLaw", "expected", "(I)Lcom/example/stubwright/stubwright/PacketType;"⟩ : MethodName) method_3_code 1 (some (.object "com/example/stubwright/stubwright/PacketType")) :: ws) ({ frames := 0, cells := 0, slots := 0, locals := 0 } : Room)) (fun a U => a = #[(.int pa0)] ∧ Z.Warmed39 U.vm ∧ U.heap = h0) (fun _ _ _ _ _ => True) (fun _ U o U' => ∃ v L, o = .returned v ∧ Qp (some (.ref (w 4))) h0 n0 v U'.heap L ∧ FrameEnd U o U' L ({ frames := 0, cells := 0, slots := 0, locals := 0 } : Room).cells ({ frames := 0, cells := 0, slots := 0, locals := 0 } : Room).slots) := by
  refine MetFree.of_bodySF (plainFor_of_name pn_1) hisR ?_
  intro p e s m args below meth c s₁ Bd hml0 hP0 hK
  obtain ⟨rfl, hZ, hh⟩ := hP0
  have hx := Bd.exec
  have hby := Bd.bytes
  have hml : c.maxLocals = 1 := hml0
  have hown : s.vm.findClass "com/example/stubwright/stubwright/PacketTypeFromCodePinLaw" = some m.cls := findClass_of_methodNamed Bd.named
  have hnm := (name_of_methodNamed Bd.named Bd.method).1
  have X0 : Stand p l e ({ frames := 0, cells := 0, slots := 0, locals := 0 } : Room) s m #[(.int pa0)] below meth c s₁ [] 0 0 := Stand.of_body Bd
  have e0 : s₁.heap = h0 := by rw [← hh, Bd.state]; rfl
  have N0 := Fr.nil n0
  suffices hgo : Go p e below (fun o U' => ∃ v L, o = .returned v ∧ Qp (some (.ref (w 4))) h0 n0 v U'.heap L ∧ FrameEnd s o U' L ({ frames := 0, cells := 0, slots := 0, locals := 0 } : Room).cells ({ frames := 0, cells := 0, slots := 0, locals := 0 } : Room).slots) s₁ (mkF m 0 #[.val (.int pa0)] []) by
    obtain ⟨s2, o, g1, g2, g3, g4⟩ := hgo
    refine ⟨s2, o, castTop (?_ : entryFrame m #[(.int pa0)] 1 = _) g1, g2, g3, g4⟩
    first | (simp [entryFrame, mkF, argsToLocals, Value.category]; done) | rfl
  refine Go.on (T' := s₁) (g' := (mkF m 1 #[.val (.int pa0)] [(.int pa0)])) (fun t k => XS.iloadN X0.here hx rfl (hb hby d3_0) rfl k) ?_
  refine Go.on (T' := s₁) (g' := (mkF m 8 #[.val (.int pa0)] [])) (fun t k => XS.ifYes X0.here hx rfl (pc0 := 1) (pc' := 8) rfl (hb hby d3_1) rfl ((if0 _ _).trans (feq hp0).2) (by decide) (by decide) k) ?_
  refine Go.on (T' := s₁) (g' := (mkF m 9 #[.val (.int pa0)] [(.int pa0)])) (fun t k => XS.iloadN X0.here hx rfl (hb hby d3_8) rfl k) ?_
  refine Go.on (T' := s₁) (g' := (mkF m 10 #[.val (.int pa0)] [(.int (1 : Int32)), (.int pa0)])) (fun t k => XS.iconst X0.here hx rfl (hb hby d3_9) k) ?_
  refine Go.on (T' := s₁) (g' := (mkF m 17 #[.val (.int pa0)] [])) (fun t k => XS.icmpYes X0.here hx rfl (pc0 := 10) (pc' := 17) rfl (hb hby d3_10) rfl (feq hp1).2 (by decide) (by decide) k) ?_
  refine Go.on (T' := s₁) (g' := (mkF m 18 #[.val (.int pa0)] [(.int pa0)])) (fun t k => XS.iloadN X0.here hx rfl (hb hby d3_17) rfl k) ?_
  refine Go.on (T' := s₁) (g' := (mkF m 19 #[.val (.int pa0)] [(.int (2 : Int32)), (.int pa0)])) (fun t k => XS.iconst X0.here hx rfl (hb hby d3_18) k) ?_
  refine Go.on (T' := s₁) (g' := (mkF m 26 #[.val (.int pa0)] [])) (fun t k => XS.icmpYes X0.here hx rfl (pc0 := 19) (pc' := 26) rfl (hb hby d3_19) rfl (feq hp2).2 (by decide) (by decide) k) ?_
  refine Go.on (T' := s₁) (g' := (mkF m 27 #[.val (.int pa0)] [(.int pa0)])) (fun t k => XS.iloadN X0.here hx rfl (hb hby d3_26) rfl k) ?_
  refine Go.on (T' := s₁) (g' := (mkF m 28 #[.val (.int pa0)] [(.int (3 : Int32)), (.int pa0)])) (fun t k => XS.iconst X0.here hx rfl (hb hby d3_27) k) ?_
  refine Go.on (T' := s₁) (g' := (mkF m 31 #[.val (.int pa0)] [])) (fun t k => XS.icmpNo X0.here hx rfl (hb hby d3_28) rfl (teq hp3).2 k) ?_
  obtain ⟨T70, X70, e70, st70⟩ := getS2 X0 hx hZ hown (host := "") (Or.inl (hw _ (List.mem_of_getElem? (i := 38) rfl))) Via.refl e0 (pin_4 hP) (g := (mkF m 31 #[.val (.int pa0)] [])) rfl (hb hby d3_31)
  refine Go.on (T' := T70) (g' := (mkF m 34 #[.val (.int pa0)] [(.ref (w 4))])) st70 ?_
  obtain ⟨fs, hr, hrun, hended, hW, hsame⟩ := X70.leave (v := some (.ref (w 4))) (fun h => by rw [Bd.returns] at h; cases h)
  exact ⟨_, _, retOut X70 hx Bd.returns rfl (Or.inr (Or.inr (Or.inr (Or.inr ⟨rfl, rfl, rfl⟩)))) (hb hby d3_34) hr, hrun, hended, _, _, rfl, ⟨rfl, N0, e70⟩, ⟨_, rfl⟩, hW, hsame.mono (by decide) (by decide)⟩
set_option maxRecDepth 65536 in
set_option maxHeartbeats 40000000 in
theorem rm4_3 (l : Launch) (Z : State) (a0 : Array Value) (hw : ∀ d ∈ tables_1, d.before a0 Z = true) (ws : List Jvm.Cond) (w : Nat → Addr) (h0 : Heap) (n0 : Nat) (Z0 : n0 ≤ h0.size) (hP : Pins Z h0 w) :
    MetFree l (⟨"com/example/stubwright/stubwright/PacketType", "code", "()I"⟩ : MethodName) (head1 (Jvm.Cond.code (⟨"com/example/stubwright/stubwright/PacketType", "code", "()I"⟩ : MethodName) prog_34_method_4_code 1 (some .int) :: ws) ({ frames := 0, cells := 0, slots := 0, locals := 0 } : Room)) (fun a U => a = #[(.ref (w 4))] ∧ Z.Warmed39 U.vm ∧ U.heap = h0) (fun _ _ _ _ _ => True) (fun _ U o U' => ∃ v L, o = .returned v ∧ Qp (some (.int (3 : Int32))) h0 n0 v U'.heap L ∧ FrameEnd U o U' L ({ frames := 0, cells := 0, slots := 0, locals := 0 } : Room).cells ({ frames := 0, cells := 0, slots := 0, locals := 0 } : Room).slots) := by
  refine MetFree.of_bodySF (plainFor_of_name pn_0) hisR ?_
  intro p e s m args below meth c s₁ Bd hml0 hP0 hK
  obtain ⟨rfl, hZ, hh⟩ := hP0
  have hx := Bd.exec
  have hby := Bd.bytes
  have hml : c.maxLocals = 1 := hml0
  have hown : s.vm.findClass "com/example/stubwright/stubwright/PacketType" = some m.cls := findClass_of_methodNamed Bd.named
  have hnm := (name_of_methodNamed Bd.named Bd.method).1
  have X0 : Stand p l e ({ frames := 0, cells := 0, slots := 0, locals := 0 } : Room) s m #[(.ref (w 4))] below meth c s₁ [] 0 0 := Stand.of_body Bd
  have e0 : s₁.heap = h0 := by rw [← hh, Bd.state]; rfl
  have N0 := Fr.nil n0
  suffices hgo : Go p e below (fun o U' => ∃ v L, o = .returned v ∧ Qp (some (.int (3 : Int32))) h0 n0 v U'.heap L ∧ FrameEnd s o U' L ({ frames := 0, cells := 0, slots := 0, locals := 0 } : Room).cells ({ frames := 0, cells := 0, slots := 0, locals := 0 } : Room).slots) s₁ (mkF m 0 #[.val (.ref (w 4))] []) by
    obtain ⟨s2, o, g1, g2, g3, g4⟩ := hgo
    refine ⟨s2, o, castTop (?_ : entryFrame m #[(.ref (w 4))] 1 = _) g1, g2, g3, g4⟩
    first | (simp [entryFrame, mkF, argsToLocals, Value.category]; done) | rfl
  refine Go.on (T' := s₁) (g' := (mkF m 1 #[.val (.ref (w 4))] [(.ref (w 4))])) (fun t k => XS.aloadN X0.here hx rfl (hb hby d4_0) rfl rfl k) ?_
  obtain ⟨T73, X73, e73, st73⟩ := getF X0 hx hZ hown (host := "") (Or.inl (hw _ (List.mem_of_getElem? (i := 25) rfl))) Via.refl e0 (pin_17 hP) (g := (mkF m 1 #[.val (.ref (w 4))] [(.ref (w 4))])) rfl rfl (hb hby d4_1)
  refine Go.on (T' := T73) (g' := (mkF m 4 #[.val (.ref (w 4))] [(.int (3 : Int32))])) st73 ?_
  obtain ⟨fs, hr, hrun, hended, hW, hsame⟩ := X73.leave (v := some (.int (3 : Int32))) (fun h => by rw [Bd.returns] at h; cases h)
  exact ⟨_, _, retOut X73 hx Bd.returns rfl (Or.inl ⟨rfl, Or.inl rfl, _, rfl⟩) (hb hby d4_4) hr, hrun, hended, _, _, rfl, ⟨rfl, N0, e73⟩, ⟨_, rfl⟩, hW, hsame.mono (by decide) (by decide)⟩
set_option maxRecDepth 65536 in
set_option maxHeartbeats 40000000 in
theorem rm1_4 (l : Launch) (Z : State) (a0 : Array Value) (hw : ∀ d ∈ tables_1, d.before a0 Z = true) (ws : List Jvm.Cond) (w : Nat → Addr) (h0 : Heap) (n0 : Nat) (Z0 : n0 ≤ h0.size) (hP : Pins Z h0 w) (pa0 : Int32) (hp0 : ¬ ((0 : Int32) = pa0)) (hp1 : ¬ ((1 : Int32) = pa0)) (hp2 : ¬ ((2 : Int32) = pa0)) (hp3 : ¬ ((3 : Int32) = pa0)) (hp4 : (4 : Int32) = pa0) :
    MetFree l (⟨"com/example/stubwright/stubwright/PacketType", "fromCode", "(I)Lcom/example/stubwright/stubwright/PacketType;"⟩ : MethodName) (head1 (Jvm.Cond.code (⟨"com/example/stubwright/stubwright/PacketType", "fromCode", "(I)Lcom/example/stubwright/stubwright/PacketType;"⟩ : MethodName) prog_34_method_5_code 5 (some (.object "com/example/stubwright/stubwright/PacketType")) :: ws) ({ frames := 2, cells := 1, slots := 6, locals := 25 } : Room)) (fun a U => a = #[(.int pa0)] ∧ Z.Warmed39 U.vm ∧ U.heap = h0) (fun _ _ _ _ _ => True) (fun _ U o U' => ∃ v L, o = .returned v ∧ Qx (some (.ref (w 5))) (fun h => True) h0 n0 v U'.heap L ∧ FrameEnd U o U' L ({ frames := 2, cells := 1, slots := 6, locals := 25 } : Room).cells ({ frames := 2, cells := 1, slots := 6, locals := 25 } : Room).slots) := by
  refine MetFree.of_bodySF (plainFor_of_name pn_0) hisR ?_
  intro p e s m args below meth c s₁ Bd hml0 hP0 hK
  obtain ⟨rfl, hZ, hh⟩ := hP0
  have hx := Bd.exec
  have hby := Bd.bytes
  have hml : c.maxLocals = 5 := hml0
  have hown : s.vm.findClass "com/example/stubwright/stubwright/PacketType" = some m.cls := findClass_of_methodNamed Bd.named
  have hnm := (name_of_methodNamed Bd.named Bd.method).1
  have X0 : Stand p l e ({ frames := 2, cells := 1, slots := 6, locals := 25 } : Room) s m #[(.int pa0)] below meth c s₁ [] 0 0 := Stand.of_body Bd
  have e0 : s₁.heap = h0 := by rw [← hh, Bd.state]; rfl
  have N0 := Fr.nil n0
  suffices hgo : Go p e below (fun o U' => ∃ v L, o = .returned v ∧ Qx (some (.ref (w 5))) (fun h => True) h0 n0 v U'.heap L ∧ FrameEnd s o U' L ({ frames := 2, cells := 1, slots := 6, locals := 25 } : Room).cells ({ frames := 2, cells := 1, slots := 6, locals := 25 } : Room).slots) s₁ (mkF m 0 #[.val (.int pa0), .unset, .unset, .unset, .unset] []) by
    obtain ⟨s2, o, g1, g2, g3, g4⟩ := hgo
    refine ⟨s2, o, castTop (?_ : entryFrame m #[(.int pa0)] 5 = _) g1, g2, g3, g4⟩
    first | (simp [entryFrame, mkF, argsToLocals, Value.category]; done) | rfl
  obtain ⟨_, _, ⟨T76, L76, k76, n76⟩, -, X76, ⟨Lc76, hQ76, l76, y76, z76⟩, st76⟩ := Jvm.LawKit.callS X0 hx (y := (⟨"com/example/stubwright/stubwright/PacketType", "values", "()[Lcom/example/stubwright/stubwright/PacketType;"⟩ : MethodName)) hown (mvT hZ (hw _ (List.mem_of_getElem? (i := 4) rfl))) (mvT hZ (hw _ (List.mem_of_getElem? (i := 5) rfl))) (mvT hZ (hw _ (List.mem_of_getElem? (i := 2) rfl))) (mvT hZ (hw _ (List.mem_of_getElem? (i := 6) rfl))) (by decide) (backOf (W := 0) (rm2_0 l Z a0 hw [] w h0 n0 (Nat.le_trans Z0 (own_ext0 h0).1) hP) hZ (hw _ (List.mem_of_getElem? (i := 6) rfl)) (hw _ (List.mem_of_getElem? (i := 2) rfl)) (by decide) (by decide)) (g := (mkF m 0 #[.val (.int pa0), .unset, .unset, .unset, .unset] [])) rfl (by rw [hml]; rfl) (argsL := []) (rest := []) (lenOf pd_0 rfl) rfl (by show 2 * 0 + _ ≤ _; exact Nat.le_of_eq rfl) (hb hby d1_0) (fun _ _ => ⟨rfl, e0, (by decide : 0 + 1 ≤ _), (by decide : 0 + 6 ≤ _)⟩)
  dsimp only [Pt.U, Pt.locs, Pt.cells, Pt.slots] at X76 l76 y76 z76 st76 hQ76
  subst l76 y76 z76
  obtain ⟨rfl, N76q, x76, f76⟩ := hQ76
  have N76 := Fr.app N0 N76q
  have e76 : T76.heap = T76.heap := rfl
  have sz76 : h0.size ≤ h0.size := (own_ext0 h0).1
  have XT76 := own_ext2 (own_ext0 h0) x76
  obtain ⟨k76, A76⟩ := f76
  refine Go.on (T' := T76) (g' := (mkF m 3 #[.val (.int pa0), .unset, .unset, .unset, .unset] [(.ref (h0.size))])) st76 ?_
  refine Go.on (T' := T76) (g' := (mkF m 4 #[.val (.int pa0), .val (.ref (h0.size)), .unset, .unset, .unset] [])) (fun t k => XS.astoreN X76.here hx rfl (hb hby d1_3) rfl rfl (l' := #[.val (.int pa0), .val (.ref (h0.size)), .unset, .unset, .unset]) rfl k) ?_
  refine Go.on (T' := T76) (g' := (mkF m 5 #[.val (.int pa0), .val (.ref (h0.size)), .unset, .unset, .unset] [(.ref (h0.size))])) (fun t k => XS.aloadN X76.here hx rfl (hb hby d1_4) rfl rfl k) ?_
  refine Go.on (T' := T76) (g' := (mkF m 6 #[.val (.int pa0), .val (.ref (h0.size)), .unset, .unset, .unset] [(.int (6 : Int32))])) (fun t k => X76.arraylength hx (by rw [e76]; exact A76.1) (State.isArrayOf_alike hZ.alike A76.2.1) (g := (mkF m 5 #[.val (.int pa0), .val (.ref (h0.size)), .unset, .unset, .unset] [(.ref (h0.size))])) rfl rfl (hb hby d1_5) t k) ?_
  refine Go.on (T' := T76) (g' := (mkF m 7 #[.val (.int pa0), .val (.ref (h0.size)), .val (.int (6 : Int32)), .unset, .unset] [])) (fun t k => XS.istoreN X76.here hx rfl (hb hby d1_6) rfl (l' := #[.val (.int pa0), .val (.ref (h0.size)), .val (.int (6 : Int32)), .unset, .unset]) rfl k) ?_
  refine Go.on (T' := T76) (g' := (mkF m 8 #[.val (.int pa0), .val (.ref (h0.size)), .val (.int (6 : Int32)), .unset, .unset] [(.int (0 : Int32))])) (fun t k => XS.iconst X76.here hx rfl (hb hby d1_7) k) ?_
  refine Go.on (T' := T76) (g' := (mkF m 9 #[.val (.int pa0), .val (.ref (h0.size)), .val (.int (6 : Int32)), .val (.int (0 : Int32)), .unset] [])) (fun t k => XS.istoreN X76.here hx rfl (hb hby d1_8) rfl (l' := #[.val (.int pa0), .val (.ref (h0.size)), .val (.int (6 : Int32)), .val (.int (0 : Int32)), .unset]) rfl k) ?_
  refine Go.on (T' := T76) (g' := (mkF m 10 #[.val (.int pa0), .val (.ref (h0.size)), .val (.int (6 : Int32)), .val (.int (0 : Int32)), .unset] [(.int (0 : Int32))])) (fun t k => XS.iloadN X76.here hx rfl (hb hby d1_9) rfl k) ?_
  refine Go.on (T' := T76) (g' := (mkF m 11 #[.val (.int pa0), .val (.ref (h0.size)), .val (.int (6 : Int32)), .val (.int (0 : Int32)), .unset] [(.int (6 : Int32)), (.int (0 : Int32))])) (fun t k => XS.iloadN X76.here hx rfl (hb hby d1_10) rfl k) ?_
  refine Go.on (T' := T76) (g' := (mkF m 14 #[.val (.int pa0), .val (.ref (h0.size)), .val (.int (6 : Int32)), .val (.int (0 : Int32)), .unset] [])) (fun t k => XS.icmpNo X76.here hx rfl (hb hby d1_11) rfl (tlt (by decide : (0 : Int32) < (6 : Int32))).2.1 k) ?_
  refine Go.on (T' := T76) (g' := (mkF m 15 #[.val (.int pa0), .val (.ref (h0.size)), .val (.int (6 : Int32)), .val (.int (0 : Int32)), .unset] [(.ref (h0.size))])) (fun t k => XS.aloadN X76.here hx rfl (hb hby d1_14) rfl rfl k) ?_
  refine Go.on (T' := T76) (g' := (mkF m 16 #[.val (.int pa0), .val (.ref (h0.size)), .val (.int (6 : Int32)), .val (.int (0 : Int32)), .unset] [(.int (0 : Int32)), (.ref (h0.size))])) (fun t k => XS.iloadN X76.here hx rfl (hb hby d1_15) rfl k) ?_
  refine Go.on (T' := T76) (g' := (mkF m 17 #[.val (.int pa0), .val (.ref (h0.size)), .val (.int (6 : Int32)), .val (.int (0 : Int32)), .unset] [(.ref (w 1))])) (fun t k => X76.aaload hx (j := (0 : Int32)) (v := (.ref (w 1))) (by rw [e76]; exact A76.1) (State.isArrayOf_alike hZ.alike A76.2.1) rfl A76.2.2 (by show ¬ (_ ∨ (6 : Nat) ≤ _); decide) rfl (g := (mkF m 16 #[.val (.int pa0), .val (.ref (h0.size)), .val (.int (6 : Int32)), .val (.int (0 : Int32)), .unset] [(.int (0 : Int32)), (.ref (h0.size))])) rfl rfl (hb hby d1_16) t k) ?_
  refine Go.on (T' := T76) (g' := (mkF m 19 #[.val (.int pa0), .val (.ref (h0.size)), .val (.int (6 : Int32)), .val (.int (0 : Int32)), .val (.ref (w 1))] [])) (fun t k => XS.astore X76.here hx rfl (hb hby d1_17) rfl rfl (l' := #[.val (.int pa0), .val (.ref (h0.size)), .val (.int (6 : Int32)), .val (.int (0 : Int32)), .val (.ref (w 1))]) rfl k) ?_
  refine Go.on (T' := T76) (g' := (mkF m 21 #[.val (.int pa0), .val (.ref (h0.size)), .val (.int (6 : Int32)), .val (.int (0 : Int32)), .val (.ref (w 1))] [(.ref (w 1))])) (fun t k => XS.aload X76.here hx rfl (hb hby d1_19) rfl rfl k) ?_
  obtain ⟨T77, X77, e77, st77⟩ := getF X76 hx hZ hown (host := "") (Or.inl (hw _ (List.mem_of_getElem? (i := 25) rfl))) Via.refl e76 (pin_14 (pins_ext XT76 hP)) (g := (mkF m 21 #[.val (.int pa0), .val (.ref (h0.size)), .val (.int (6 : Int32)), .val (.int (0 : Int32)), .val (.ref (w 1))] [(.ref (w 1))])) rfl rfl (hb hby d1_21)
  refine Go.on (T' := T77) (g' := (mkF m 24 #[.val (.int pa0), .val (.ref (h0.size)), .val (.int (6 : Int32)), .val (.int (0 : Int32)), .val (.ref (w 1))] [(.int (0 : Int32))])) st77 ?_
  refine Go.on (T' := T77) (g' := (mkF m 25 #[.val (.int pa0), .val (.ref (h0.size)), .val (.int (6 : Int32)), .val (.int (0 : Int32)), .val (.ref (w 1))] [(.int pa0), (.int (0 : Int32))])) (fun t k => XS.iloadN X77.here hx rfl (hb hby d1_24) rfl k) ?_
  refine Go.on (T' := T77) (g' := (mkF m 31 #[.val (.int pa0), .val (.ref (h0.size)), .val (.int (6 : Int32)), .val (.int (0 : Int32)), .val (.ref (w 1))] [])) (fun t k => XS.icmpYes X77.here hx rfl (pc0 := 25) (pc' := 31) rfl (hb hby d1_25) rfl (feq hp0).2 (by decide) (by decide) k) ?_
  refine Go.on (T' := T77) (g' := (mkF m 34 #[.val (.int pa0), .val (.ref (h0.size)), .val (.int (6 : Int32)), .val (.int (1 : Int32)), .val (.ref (w 1))] [])) (fun t k => XS.iinc X77.here hx rfl (hb hby d1_31) rfl (l' := #[.val (.int pa0), .val (.ref (h0.size)), .val (.int (6 : Int32)), .val (.int (1 : Int32)), .val (.ref (w 1))]) rfl k) ?_
  refine Go.on (T' := T77) (g' := (mkF m 9 #[.val (.int pa0), .val (.ref (h0.size)), .val (.int (6 : Int32)), .val (.int (1 : Int32)), .val (.ref (w 1))] [])) (fun t k => XS.goto X77.here hx rfl (pc0 := 34) (pc' := 9) rfl (hb hby d1_34) (by decide) (by decide) k) ?_
  refine Go.on (T' := T77) (g' := (mkF m 10 #[.val (.int pa0), .val (.ref (h0.size)), .val (.int (6 : Int32)), .val (.int (1 : Int32)), .val (.ref (w 1))] [(.int (1 : Int32))])) (fun t k => XS.iloadN X77.here hx rfl (hb hby d1_9) rfl k) ?_
  refine Go.on (T' := T77) (g' := (mkF m 11 #[.val (.int pa0), .val (.ref (h0.size)), .val (.int (6 : Int32)), .val (.int (1 : Int32)), .val (.ref (w 1))] [(.int (6 : Int32)), (.int (1 : Int32))])) (fun t k => XS.iloadN X77.here hx rfl (hb hby d1_10) rfl k) ?_
  refine Go.on (T' := T77) (g' := (mkF m 14 #[.val (.int pa0), .val (.ref (h0.size)), .val (.int (6 : Int32)), .val (.int (1 : Int32)), .val (.ref (w 1))] [])) (fun t k => XS.icmpNo X77.here hx rfl (hb hby d1_11) rfl (tlt (by decide : (1 : Int32) < (6 : Int32))).2.1 k) ?_
  refine Go.on (T' := T77) (g' := (mkF m 15 #[.val (.int pa0), .val (.ref (h0.size)), .val (.int (6 : Int32)), .val (.int (1 : Int32)), .val (.ref (w 1))] [(.ref (h0.size))])) (fun t k => XS.aloadN X77.here hx rfl (hb hby d1_14) rfl rfl k) ?_
  refine Go.on (T' := T77) (g' := (mkF m 16 #[.val (.int pa0), .val (.ref (h0.size)), .val (.int (6 : Int32)), .val (.int (1 : Int32)), .val (.ref (w 1))] [(.int (1 : Int32)), (.ref (h0.size))])) (fun t k => XS.iloadN X77.here hx rfl (hb hby d1_15) rfl k) ?_
  refine Go.on (T' := T77) (g' := (mkF m 17 #[.val (.int pa0), .val (.ref (h0.size)), .val (.int (6 : Int32)), .val (.int (1 : Int32)), .val (.ref (w 1))] [(.ref (w 2))])) (fun t k => X77.aaload hx (j := (1 : Int32)) (v := (.ref (w 2))) (by rw [e77]; exact A76.1) (State.isArrayOf_alike hZ.alike A76.2.1) rfl A76.2.2 (by show ¬ (_ ∨ (6 : Nat) ≤ _); decide) rfl (g := (mkF m 16 #[.val (.int pa0), .val (.ref (h0.size)), .val (.int (6 : Int32)), .val (.int (1 : Int32)), .val (.ref (w 1))] [(.int (1 : Int32)), (.ref (h0.size))])) rfl rfl (hb hby d1_16) t k) ?_
  refine Go.on (T' := T77) (g' := (mkF m 19 #[.val (.int pa0), .val (.ref (h0.size)), .val (.int (6 : Int32)), .val (.int (1 : Int32)), .val (.ref (w 2))] [])) (fun t k => XS.astore X77.here hx rfl (hb hby d1_17) rfl rfl (l' := #[.val (.int pa0), .val (.ref (h0.size)), .val (.int (6 : Int32)), .val (.int (1 : Int32)), .val (.ref (w 2))]) rfl k) ?_
  refine Go.on (T' := T77) (g' := (mkF m 21 #[.val (.int pa0), .val (.ref (h0.size)), .val (.int (6 : Int32)), .val (.int (1 : Int32)), .val (.ref (w 2))] [(.ref (w 2))])) (fun t k => XS.aload X77.here hx rfl (hb hby d1_19) rfl rfl k) ?_
  obtain ⟨T78, X78, e78, st78⟩ := getF X77 hx hZ hown (host := "") (Or.inl (hw _ (List.mem_of_getElem? (i := 25) rfl))) Via.refl e77 (pin_15 (pins_ext XT76 hP)) (g := (mkF m 21 #[.val (.int pa0), .val (.ref (h0.size)), .val (.int (6 : Int32)), .val (.int (1 : Int32)), .val (.ref (w 2))] [(.ref (w 2))])) rfl rfl (hb hby d1_21)
  refine Go.on (T' := T78) (g' := (mkF m 24 #[.val (.int pa0), .val (.ref (h0.size)), .val (.int (6 : Int32)), .val (.int (1 : Int32)), .val (.ref (w 2))] [(.int (1 : Int32))])) st78 ?_
  refine Go.on (T' := T78) (g' := (mkF m 25 #[.val (.int pa0), .val (.ref (h0.size)), .val (.int (6 : Int32)), .val (.int (1 : Int32)), .val (.ref (w 2))] [(.int pa0), (.int (1 : Int32))])) (fun t k => XS.iloadN X78.here hx rfl (hb hby d1_24) rfl k) ?_
  refine Go.on (T' := T78) (g' := (mkF m 31 #[.val (.int pa0), .val (.ref (h0.size)), .val (.int (6 : Int32)), .val (.int (1 : Int32)), .val (.ref (w 2))] [])) (fun t k => XS.icmpYes X78.here hx rfl (pc0 := 25) (pc' := 31) rfl (hb hby d1_25) rfl (feq hp1).2 (by decide) (by decide) k) ?_
  refine Go.on (T' := T78) (g' := (mkF m 34 #[.val (.int pa0), .val (.ref (h0.size)), .val (.int (6 : Int32)), .val (.int (2 : Int32)), .val (.ref (w 2))] [])) (fun t k => XS.iinc X78.here hx rfl (hb hby d1_31) rfl (l' := #[.val (.int pa0), .val (.ref (h0.size)), .val (.int (6 : Int32)), .val (.int (2 : Int32)), .val (.ref (w 2))]) rfl k) ?_
  refine Go.on (T' := T78) (g' := (mkF m 9 #[.val (.int pa0), .val (.ref (h0.size)), .val (.int (6 : Int32)), .val (.int (2 : Int32)), .val (.ref (w 2))] [])) (fun t k => XS.goto X78.here hx rfl (pc0 := 34) (pc' := 9) rfl (hb hby d1_34) (by decide) (by decide) k) ?_
  refine Go.on (T' := T78) (g' := (mkF m 10 #[.val (.int pa0), .val (.ref (h0.size)), .val (.int (6 : Int32)), .val (.int (2 : Int32)), .val (.ref (w 2))] [(.int (2 : Int32))])) (fun t k => XS.iloadN X78.here hx rfl (hb hby d1_9) rfl k) ?_
  refine Go.on (T' := T78) (g' := (mkF m 11 #[.val (.int pa0), .val (.ref (h0.size)), .val (.int (6 : Int32)), .val (.int (2 : Int32)), .val (.ref (w 2))] [(.int (6 : Int32)), (.int (2 : Int32))])) (fun t k => XS.iloadN X78.here hx rfl (hb hby d1_10) rfl k) ?_
  refine Go.on (T' := T78) (g' := (mkF m 14 #[.val (.int pa0), .val (.ref (h0.size)), .val (.int (6 : Int32)), .val (.int (2 : Int32)), .val (.ref (w 2))] [])) (fun t k => XS.icmpNo X78.here hx rfl (hb hby d1_11) rfl (tlt (by decide : (2 : Int32) < (6 : Int32))).2.1 k) ?_
  refine Go.on (T' := T78) (g' := (mkF m 15 #[.val (.int pa0), .val (.ref (h0.size)), .val (.int (6 : Int32)), .val (.int (2 : Int32)), .val (.ref (w 2))] [(.ref (h0.size))])) (fun t k => XS.aloadN X78.here hx rfl (hb hby d1_14) rfl rfl k) ?_
  refine Go.on (T' := T78) (g' := (mkF m 16 #[.val (.int pa0), .val (.ref (h0.size)), .val (.int (6 : Int32)), .val (.int (2 : Int32)), .val (.ref (w 2))] [(.int (2 : Int32)), (.ref (h0.size))])) (fun t k => XS.iloadN X78.here hx rfl (hb hby d1_15) rfl k) ?_
  refine Go.on (T' := T78) (g' := (mkF m 17 #[.val (.int pa0), .val (.ref (h0.size)), .val (.int (6 : Int32)), .val (.int (2 : Int32)), .val (.ref (w 2))] [(.ref (w 3))])) (fun t k => X78.aaload hx (j := (2 : Int32)) (v := (.ref (w 3))) (by rw [e78]; exact A76.1) (State.isArrayOf_alike hZ.alike A76.2.1) rfl A76.2.2 (by show ¬ (_ ∨ (6 : Nat) ≤ _); decide) rfl (g := (mkF m 16 #[.val (.int pa0), .val (.ref (h0.size)), .val (.int (6 : Int32)), .val (.int (2 : Int32)), .val (.ref (w 2))] [(.int (2 : Int32)), (.ref (h0.size))])) rfl rfl (hb hby d1_16) t k) ?_
  refine Go.on (T' := T78) (g' := (mkF m 19 #[.val (.int pa0), .val (.ref (h0.size)), .val (.int (6 : Int32)), .val (.int (2 : Int32)), .val (.ref (w 3))] [])) (fun t k => XS.astore X78.here hx rfl (hb hby d1_17) rfl rfl (l' := #[.val (.int pa0), .val (.ref (h0.size)), .val (.int (6 : Int32)), .val (.int (2 : Int32)), .val (.ref (w 3))]) rfl k) ?_
  refine Go.on (T' := T78) (g' := (mkF m 21 #[.val (.int pa0), .val (.ref (h0.size)), .val (.int (6 : Int32)), .val (.int (2 : Int32)), .val (.ref (w 3))] [(.ref (w 3))])) (fun t k => XS.aload X78.here hx rfl (hb hby d1_19) rfl rfl k) ?_
  obtain ⟨T79, X79, e79, st79⟩ := getF X78 hx hZ hown (host := "") (Or.inl (hw _ (List.mem_of_getElem? (i := 25) rfl))) Via.refl e78 (pin_16 (pins_ext XT76 hP)) (g := (mkF m 21 #[.val (.int pa0), .val (.ref (h0.size)), .val (.int (6 : Int32)), .val (.int (2 : Int32)), .val (.ref (w 3))] [(.ref (w 3))])) rfl rfl (hb hby d1_21)
  refine Go.on (T' := T79) (g' := (mkF m 24 #[.val (.int pa0), .val (.ref (h0.size)), .val (.int (6 : Int32)), .val (.int (2 : Int32)), .val (.ref (w 3))] [(.int (2 : Int32))])) st79 ?_
  refine Go.on (T' := T79) (g' := (mkF m 25 #[.val (.int pa0), .val (.ref (h0.size)), .val (.int (6 : Int32)), .val (.int (2 : Int32)), .val (.ref (w 3))] [(.int pa0), (.int (2 : Int32))])) (fun t k => XS.iloadN X79.here hx rfl (hb hby d1_24) rfl k) ?_
  refine Go.on (T' := T79) (g' := (mkF m 31 #[.val (.int pa0), .val (.ref (h0.size)), .val (.int (6 : Int32)), .val (.int (2 : Int32)), .val (.ref (w 3))] [])) (fun t k => XS.icmpYes X79.here hx rfl (pc0 := 25) (pc' := 31) rfl (hb hby d1_25) rfl (feq hp2).2 (by decide) (by decide) k) ?_
  refine Go.on (T' := T79) (g' := (mkF m 34 #[.val (.int pa0), .val (.ref (h0.size)), .val (.int (6 : Int32)), .val (.int (3 : Int32)), .val (.ref (w 3))] [])) (fun t k => XS.iinc X79.here hx rfl (hb hby d1_31) rfl (l' := #[.val (.int pa0), .val (.ref (h0.size)), .val (.int (6 : Int32)), .val (.int (3 : Int32)), .val (.ref (w 3))]) rfl k) ?_
  refine Go.on (T' := T79) (g' := (mkF m 9 #[.val (.int pa0), .val (.ref (h0.size)), .val (.int (6 : Int32)), .val (.int (3 : Int32)), .val (.ref (w 3))] [])) (fun t k => XS.goto X79.here hx rfl (pc0 := 34) (pc' := 9) rfl (hb hby d1_34) (by decide) (by decide) k) ?_
  refine Go.on (T' := T79) (g' := (mkF m 10 #[.val (.int pa0), .val (.ref (h0.size)), .val (.int (6 : Int32)), .val (.int (3 : Int32)), .val (.ref (w 3))] [(.int (3 : Int32))])) (fun t k => XS.iloadN X79.here hx rfl (hb hby d1_9) rfl k) ?_
  refine Go.on (T' := T79) (g' := (mkF m 11 #[.val (.int pa0), .val (.ref (h0.size)), .val (.int (6 : Int32)), .val (.int (3 : Int32)), .val (.ref (w 3))] [(.int (6 : Int32)), (.int (3 : Int32))])) (fun t k => XS.iloadN X79.here hx rfl (hb hby d1_10) rfl k) ?_
  refine Go.on (T' := T79) (g' := (mkF m 14 #[.val (.int pa0), .val (.ref (h0.size)), .val (.int (6 : Int32)), .val (.int (3 : Int32)), .val (.ref (w 3))] [])) (fun t k => XS.icmpNo X79.here hx rfl (hb hby d1_11) rfl (tlt (by decide : (3 : Int32) < (6 : Int32))).2.1 k) ?_
  refine Go.on (T' := T79) (g' := (mkF m 15 #[.val (.int pa0), .val (.ref (h0.size)), .val (.int (6 : Int32)), .val (.int (3 : Int32)), .val (.ref (w 3))] [(.ref (h0.size))])) (fun t k => XS.aloadN X79.here hx rfl (hb hby d1_14) rfl rfl k) ?_
  refine Go.on (T' := T79) (g' := (mkF m 16 #[.val (.int pa0), .val (.ref (h0.size)), .val (.int (6 : Int32)), .val (.int (3 : Int32)), .val (.ref (w 3))] [(.int (3 : Int32)), (.ref (h0.size))])) (fun t k => XS.iloadN X79.here hx rfl (hb hby d1_15) rfl k) ?_
  refine Go.on (T' := T79) (g' := (mkF m 17 #[.val (.int pa0), .val (.ref (h0.size)), .val (.int (6 : Int32)), .val (.int (3 : Int32)), .val (.ref (w 3))] [(.ref (w 4))])) (fun t k => X79.aaload hx (j := (3 : Int32)) (v := (.ref (w 4))) (by rw [e79]; exact A76.1) (State.isArrayOf_alike hZ.alike A76.2.1) rfl A76.2.2 (by show ¬ (_ ∨ (6 : Nat) ≤ _); decide) rfl (g := (mkF m 16 #[.val (.int pa0), .val (.ref (h0.size)), .val (.int (6 : Int32)), .val (.int (3 : Int32)), .val (.ref (w 3))] [(.int (3 : Int32)), (.ref (h0.size))])) rfl rfl (hb hby d1_16) t k) ?_
  refine Go.on (T' := T79) (g' := (mkF m 19 #[.val (.int pa0), .val (.ref (h0.size)), .val (.int (6 : Int32)), .val (.int (3 : Int32)), .val (.ref (w 4))] [])) (fun t k => XS.astore X79.here hx rfl (hb hby d1_17) rfl rfl (l' := #[.val (.int pa0), .val (.ref (h0.size)), .val (.int (6 : Int32)), .val (.int (3 : Int32)), .val (.ref (w 4))]) rfl k) ?_
  refine Go.on (T' := T79) (g' := (mkF m 21 #[.val (.int pa0), .val (.ref (h0.size)), .val (.int (6 : Int32)), .val (.int (3 : Int32)), .val (.ref (w 4))] [(.ref (w 4))])) (fun t k => XS.aload X79.here hx rfl (hb hby d1_19) rfl rfl k) ?_
  obtain ⟨T80, X80, e80, st80⟩ := getF X79 hx hZ hown (host := "") (Or.inl (hw _ (List.mem_of_getElem? (i := 25) rfl))) Via.refl e79 (pin_17 (pins_ext XT76 hP)) (g := (mkF m 21 #[.val (.int pa0), .val (.ref (h0.size)), .val (.int (6 : Int32)), .val (.int (3 : Int32)), .val (.ref (w 4))] [(.ref (w 4))])) rfl rfl (hb hby d1_21)
  refine Go.on (T' := T80) (g' := (mkF m 24 #[.val (.int pa0), .val (.ref (h0.size)), .val (.int (6 : Int32)), .val (.int (3 : Int32)), .val (.ref (w 4))] [(.int (3 : Int32))])) st80 ?_
  refine Go.on (T' := T80) (g' := (mkF m 25 #[.val (.int pa0), .val (.ref (h0.size)), .val (.int (6 : Int32)), .val (.int (3 : Int32)), .val (.ref (w 4))] [(.int pa0), (.int (3 : Int32))])) (fun t k => XS.iloadN X80.here hx rfl (hb hby d1_24) rfl k) ?_
  refine Go.on (T' := T80) (g' := (mkF m 31 #[.val (.int pa0), .val (.ref (h0.size)), .val (.int (6 : Int32)), .val (.int (3 : Int32)), .val (.ref (w 4))] [])) (fun t k => XS.icmpYes X80.here hx rfl (pc0 := 25) (pc' := 31) rfl (hb hby d1_25) rfl (feq hp3).2 (by decide) (by decide) k) ?_
  refine Go.on (T' := T80) (g' := (mkF m 34 #[.val (.int pa0), .val (.ref (h0.size)), .val (.int (6 : Int32)), .val (.int (4 : Int32)), .val (.ref (w 4))] [])) (fun t k => XS.iinc X80.here hx rfl (hb hby d1_31) rfl (l' := #[.val (.int pa0), .val (.ref (h0.size)), .val (.int (6 : Int32)), .val (.int (4 : Int32)), .val (.ref (w 4))]) rfl k) ?_
  refine Go.on (T' := T80) (g' := (mkF m 9 #[.val (.int pa0), .val (.ref (h0.size)), .val (.int (6 : Int32)), .val (.int (4 : Int32)), .val (.ref (w 4))] [])) (fun t k => XS.goto X80.here hx rfl (pc0 := 34) (pc' := 9) rfl (hb hby d1_34) (by decide) (by decide) k) ?_
  refine Go.on (T' := T80) (g' := (mkF m 10 #[.val (.int pa0), .val (.ref (h0.size)), .val (.int (6 : Int32)), .val (.int (4 : Int32)), .val (.ref (w 4))] [(.int (4 : Int32))])) (fun t k => XS.iloadN X80.here hx rfl (hb hby d1_9) rfl k) ?_
  refine Go.on (T' := T80) (g' := (mkF m 11 #[.val (.int pa0), .val (.ref (h0.size)), .val (.int (6 : Int32)), .val (.int (4 : Int32)), .val (.ref (w 4))] [(.int (6 : Int32)), (.int (4 : Int32))])) (fun t k => XS.iloadN X80.here hx rfl (hb hby d1_10) rfl k) ?_
  refine Go.on (T' := T80) (g' := (mkF m 14 #[.val (.int pa0), .val (.ref (h0.size)), .val (.int (6 : Int32)), .val (.int (4 : Int32)), .val (.ref (w 4))] [])) (fun t k => XS.icmpNo X80.here hx rfl (hb hby d1_11) rfl (tlt (by decide : (4 : Int32) < (6 : Int32))).2.1 k) ?_
  refine Go.on (T' := T80) (g' := (mkF m 15 #[.val (.int pa0), .val (.ref (h0.size)), .val (.int (6 : Int32)), .val (.int (4 : Int32)), .val (.ref (w 4))] [(.ref (h0.size))])) (fun t k => XS.aloadN X80.here hx rfl (hb hby d1_14) rfl rfl k) ?_
  refine Go.on (T' := T80) (g' := (mkF m 16 #[.val (.int pa0), .val (.ref (h0.size)), .val (.int (6 : Int32)), .val (.int (4 : Int32)), .val (.ref (w 4))] [(.int (4 : Int32)), (.ref (h0.size))])) (fun t k => XS.iloadN X80.here hx rfl (hb hby d1_15) rfl k) ?_
  refine Go.on (T' := T80) (g' := (mkF m 17 #[.val (.int pa0), .val (.ref (h0.size)), .val (.int (6 : Int32)), .val (.int (4 : Int32)), .val (.ref (w 4))] [(.ref (w 5))])) (fun t k => X80.aaload hx (j := (4 : Int32)) (v := (.ref (w 5))) (by rw [e80]; exact A76.1) (State.isArrayOf_alike hZ.alike A76.2.1) rfl A76.2.2 (by show ¬ (_ ∨ (6 : Nat) ≤ _); decide) rfl (g := (mkF m 16 #[.val (.int pa0), .val (.ref (h0.size)), .val (.int (6 : Int32)), .val (.int (4 : Int32)), .val (.ref (w 4))] [(.int (4 : Int32)), (.ref (h0.size))])) rfl rfl (hb hby d1_16) t k) ?_
  refine Go.on (T' := T80) (g' := (mkF m 19 #[.val (.int pa0), .val (.ref (h0.size)), .val (.int (6 : Int32)), .val (.int (4 : Int32)), .val (.ref (w 5))] [])) (fun t k => XS.astore X80.here hx rfl (hb hby d1_17) rfl rfl (l' := #[.val (.int pa0), .val (.ref (h0.size)), .val (.int (6 : Int32)), .val (.int (4 : Int32)), .val (.ref (w 5))]) rfl k) ?_
  refine Go.on (T' := T80) (g' := (mkF m 21 #[.val (.int pa0), .val (.ref (h0.size)), .val (.int (6 : Int32)), .val (.int (4 : Int32)), .val (.ref (w 5))] [(.ref (w 5))])) (fun t k => XS.aload X80.here hx rfl (hb hby d1_19) rfl rfl k) ?_
  obtain ⟨T81, X81, e81, st81⟩ := getF X80 hx hZ hown (host := "") (Or.inl (hw _ (List.mem_of_getElem? (i := 25) rfl))) Via.refl e80 (pin_18 (pins_ext XT76 hP)) (g := (mkF m 21 #[.val (.int pa0), .val (.ref (h0.size)), .val (.int (6 : Int32)), .val (.int (4 : Int32)), .val (.ref (w 5))] [(.ref (w 5))])) rfl rfl (hb hby d1_21)
  refine Go.on (T' := T81) (g' := (mkF m 24 #[.val (.int pa0), .val (.ref (h0.size)), .val (.int (6 : Int32)), .val (.int (4 : Int32)), .val (.ref (w 5))] [(.int (4 : Int32))])) st81 ?_
  refine Go.on (T' := T81) (g' := (mkF m 25 #[.val (.int pa0), .val (.ref (h0.size)), .val (.int (6 : Int32)), .val (.int (4 : Int32)), .val (.ref (w 5))] [(.int pa0), (.int (4 : Int32))])) (fun t k => XS.iloadN X81.here hx rfl (hb hby d1_24) rfl k) ?_
  refine Go.on (T' := T81) (g' := (mkF m 28 #[.val (.int pa0), .val (.ref (h0.size)), .val (.int (6 : Int32)), .val (.int (4 : Int32)), .val (.ref (w 5))] [])) (fun t k => XS.icmpNo X81.here hx rfl (hb hby d1_25) rfl (teq hp4).2 k) ?_
  refine Go.on (T' := T81) (g' := (mkF m 30 #[.val (.int pa0), .val (.ref (h0.size)), .val (.int (6 : Int32)), .val (.int (4 : Int32)), .val (.ref (w 5))] [(.ref (w 5))])) (fun t k => XS.aload X81.here hx rfl (hb hby d1_28) rfl rfl k) ?_
  obtain ⟨fs, hr, hrun, hended, hW, hsame⟩ := X81.leave (v := some (.ref (w 5))) (fun h => by rw [Bd.returns] at h; cases h)
  exact ⟨_, _, retOut X81 hx Bd.returns rfl (Or.inr (Or.inr (Or.inr (Or.inr ⟨rfl, rfl, rfl⟩)))) (hb hby d1_30) hr, hrun, hended, _, _, rfl, ⟨rfl, N76, own_extE e81 XT76, trivial⟩, ⟨_, rfl⟩, hW, hsame.mono (by decide) (by decide)⟩
theorem d3_35 : decode method_3_code 35 = .ok (.iload_n 0, 1) := by decide +kernel
theorem d3_36 : decode method_3_code 36 = .ok (.iconst 4, 1) := by decide +kernel
theorem d3_37 : decode method_3_code 37 = .ok (.if_icmp .ne 7, 3) := by decide +kernel
theorem d3_40 : decode method_3_code 40 = .ok (.getstatic 35, 3) := by decide +kernel
theorem d3_43 : decode method_3_code 43 = .ok (.areturn, 1) := by decide +kernel
set_option maxRecDepth 65536 in
set_option maxHeartbeats 40000000 in
theorem rm3_4 (l : Launch) (Z : State) (a0 : Array Value) (hw : ∀ d ∈ tables_1, d.before a0 Z = true) (ws : List Jvm.Cond) (w : Nat → Addr) (h0 : Heap) (n0 : Nat) (Z0 : n0 ≤ h0.size) (hP : Pins Z h0 w) (pa0 : Int32) (hp0 : ¬ (pa0 = (0 : Int32))) (hp1 : ¬ (pa0 = (1 : Int32))) (hp2 : ¬ (pa0 = (2 : Int32))) (hp3 : ¬ (pa0 = (3 : Int32))) (hp4 : pa0 = (4 : Int32)) :
    MetFree l (⟨"com/example/stubwright/stubwright/PacketTypeFromCodePinLaw", "expected", "(I)Lcom/example/stubwright/stubwright/PacketType;"⟩ : MethodName) (head1 (Jvm.Cond.code (⟨"com/example/stubwright/stubwright/PacketTypeFromCodePinLaw", "expected", "(I)Lcom/example/stubwright/stubwright/PacketType;"⟩ : MethodName) method_3_code 1 (some (.object "com/example/stubwright/stubwright/PacketType")) :: ws) ({ frames := 0, cells := 0, slots := 0, locals := 0 } : Room)) (fun a U => a = #[(.int pa0)] ∧ Z.Warmed39 U.vm ∧ U.heap = h0) (fun _ _ _ _ _ => True) (fun _ U o U' => ∃ v L, o = .returned v ∧ Qp (some (.ref (w 5))) h0 n0 v U'.heap L ∧ FrameEnd U o U' L ({ frames := 0, cells := 0, slots := 0, locals := 0 } : Room).cells ({ frames := 0, cells := 0, slots := 0, locals := 0 } : Room).slots) := by
  refine MetFree.of_bodySF (plainFor_of_name pn_1) hisR ?_
  intro p e s m args below meth c s₁ Bd hml0 hP0 hK
  obtain ⟨rfl, hZ, hh⟩ := hP0
  have hx := Bd.exec
  have hby := Bd.bytes
  have hml : c.maxLocals = 1 := hml0
  have hown : s.vm.findClass "com/example/stubwright/stubwright/PacketTypeFromCodePinLaw" = some m.cls := findClass_of_methodNamed Bd.named
  have hnm := (name_of_methodNamed Bd.named Bd.method).1
  have X0 : Stand p l e ({ frames := 0, cells := 0, slots := 0, locals := 0 } : Room) s m #[(.int pa0)] below meth c s₁ [] 0 0 := Stand.of_body Bd
  have e0 : s₁.heap = h0 := by rw [← hh, Bd.state]; rfl
  have N0 := Fr.nil n0
  suffices hgo : Go p e below (fun o U' => ∃ v L, o = .returned v ∧ Qp (some (.ref (w 5))) h0 n0 v U'.heap L ∧ FrameEnd s o U' L ({ frames := 0, cells := 0, slots := 0, locals := 0 } : Room).cells ({ frames := 0, cells := 0, slots := 0, locals := 0 } : Room).slots) s₁ (mkF m 0 #[.val (.int pa0)] []) by
    obtain ⟨s2, o, g1, g2, g3, g4⟩ := hgo
    refine ⟨s2, o, castTop (?_ : entryFrame m #[(.int pa0)] 1 = _) g1, g2, g3, g4⟩
    first | (simp [entryFrame, mkF, argsToLocals, Value.category]; done) | rfl
  refine Go.on (T' := s₁) (g' := (mkF m 1 #[.val (.int pa0)] [(.int pa0)])) (fun t k => XS.iloadN X0.here hx rfl (hb hby d3_0) rfl k) ?_
  refine Go.on (T' := s₁) (g' := (mkF m 8 #[.val (.int pa0)] [])) (fun t k => XS.ifYes X0.here hx rfl (pc0 := 1) (pc' := 8) rfl (hb hby d3_1) rfl ((if0 _ _).trans (feq hp0).2) (by decide) (by decide) k) ?_
  refine Go.on (T' := s₁) (g' := (mkF m 9 #[.val (.int pa0)] [(.int pa0)])) (fun t k => XS.iloadN X0.here hx rfl (hb hby d3_8) rfl k) ?_
  refine Go.on (T' := s₁) (g' := (mkF m 10 #[.val (.int pa0)] [(.int (1 : Int32)), (.int pa0)])) (fun t k => XS.iconst X0.here hx rfl (hb hby d3_9) k) ?_
  refine Go.on (T' := s₁) (g' := (mkF m 17 #[.val (.int pa0)] [])) (fun t k => XS.icmpYes X0.here hx rfl (pc0 := 10) (pc' := 17) rfl (hb hby d3_10) rfl (feq hp1).2 (by decide) (by decide) k) ?_
  refine Go.on (T' := s₁) (g' := (mkF m 18 #[.val (.int pa0)] [(.int pa0)])) (fun t k => XS.iloadN X0.here hx rfl (hb hby d3_17) rfl k) ?_
  refine Go.on (T' := s₁) (g' := (mkF m 19 #[.val (.int pa0)] [(.int (2 : Int32)), (.int pa0)])) (fun t k => XS.iconst X0.here hx rfl (hb hby d3_18) k) ?_
  refine Go.on (T' := s₁) (g' := (mkF m 26 #[.val (.int pa0)] [])) (fun t k => XS.icmpYes X0.here hx rfl (pc0 := 19) (pc' := 26) rfl (hb hby d3_19) rfl (feq hp2).2 (by decide) (by decide) k) ?_
  refine Go.on (T' := s₁) (g' := (mkF m 27 #[.val (.int pa0)] [(.int pa0)])) (fun t k => XS.iloadN X0.here hx rfl (hb hby d3_26) rfl k) ?_
  refine Go.on (T' := s₁) (g' := (mkF m 28 #[.val (.int pa0)] [(.int (3 : Int32)), (.int pa0)])) (fun t k => XS.iconst X0.here hx rfl (hb hby d3_27) k) ?_
  refine Go.on (T' := s₁) (g' := (mkF m 35 #[.val (.int pa0)] [])) (fun t k => XS.icmpYes X0.here hx rfl (pc0 := 28) (pc' := 35) rfl (hb hby d3_28) rfl (feq hp3).2 (by decide) (by decide) k) ?_
  refine Go.on (T' := s₁) (g' := (mkF m 36 #[.val (.int pa0)] [(.int pa0)])) (fun t k => XS.iloadN X0.here hx rfl (hb hby d3_35) rfl k) ?_
  refine Go.on (T' := s₁) (g' := (mkF m 37 #[.val (.int pa0)] [(.int (4 : Int32)), (.int pa0)])) (fun t k => XS.iconst X0.here hx rfl (hb hby d3_36) k) ?_
  refine Go.on (T' := s₁) (g' := (mkF m 40 #[.val (.int pa0)] [])) (fun t k => XS.icmpNo X0.here hx rfl (hb hby d3_37) rfl (teq hp4).2 k) ?_
  obtain ⟨T83, X83, e83, st83⟩ := getS2 X0 hx hZ hown (host := "") (Or.inl (hw _ (List.mem_of_getElem? (i := 40) rfl))) Via.refl e0 (pin_5 hP) (g := (mkF m 40 #[.val (.int pa0)] [])) rfl (hb hby d3_40)
  refine Go.on (T' := T83) (g' := (mkF m 43 #[.val (.int pa0)] [(.ref (w 5))])) st83 ?_
  obtain ⟨fs, hr, hrun, hended, hW, hsame⟩ := X83.leave (v := some (.ref (w 5))) (fun h => by rw [Bd.returns] at h; cases h)
  exact ⟨_, _, retOut X83 hx Bd.returns rfl (Or.inr (Or.inr (Or.inr (Or.inr ⟨rfl, rfl, rfl⟩)))) (hb hby d3_43) hr, hrun, hended, _, _, rfl, ⟨rfl, N0, e83⟩, ⟨_, rfl⟩, hW, hsame.mono (by decide) (by decide)⟩
set_option maxRecDepth 65536 in
set_option maxHeartbeats 40000000 in
theorem rm4_4 (l : Launch) (Z : State) (a0 : Array Value) (hw : ∀ d ∈ tables_1, d.before a0 Z = true) (ws : List Jvm.Cond) (w : Nat → Addr) (h0 : Heap) (n0 : Nat) (Z0 : n0 ≤ h0.size) (hP : Pins Z h0 w) :
    MetFree l (⟨"com/example/stubwright/stubwright/PacketType", "code", "()I"⟩ : MethodName) (head1 (Jvm.Cond.code (⟨"com/example/stubwright/stubwright/PacketType", "code", "()I"⟩ : MethodName) prog_34_method_4_code 1 (some .int) :: ws) ({ frames := 0, cells := 0, slots := 0, locals := 0 } : Room)) (fun a U => a = #[(.ref (w 5))] ∧ Z.Warmed39 U.vm ∧ U.heap = h0) (fun _ _ _ _ _ => True) (fun _ U o U' => ∃ v L, o = .returned v ∧ Qp (some (.int (4 : Int32))) h0 n0 v U'.heap L ∧ FrameEnd U o U' L ({ frames := 0, cells := 0, slots := 0, locals := 0 } : Room).cells ({ frames := 0, cells := 0, slots := 0, locals := 0 } : Room).slots) := by
  refine MetFree.of_bodySF (plainFor_of_name pn_0) hisR ?_
  intro p e s m args below meth c s₁ Bd hml0 hP0 hK
  obtain ⟨rfl, hZ, hh⟩ := hP0
  have hx := Bd.exec
  have hby := Bd.bytes
  have hml : c.maxLocals = 1 := hml0
  have hown : s.vm.findClass "com/example/stubwright/stubwright/PacketType" = some m.cls := findClass_of_methodNamed Bd.named
  have hnm := (name_of_methodNamed Bd.named Bd.method).1
  have X0 : Stand p l e ({ frames := 0, cells := 0, slots := 0, locals := 0 } : Room) s m #[(.ref (w 5))] below meth c s₁ [] 0 0 := Stand.of_body Bd
  have e0 : s₁.heap = h0 := by rw [← hh, Bd.state]; rfl
  have N0 := Fr.nil n0
  suffices hgo : Go p e below (fun o U' => ∃ v L, o = .returned v ∧ Qp (some (.int (4 : Int32))) h0 n0 v U'.heap L ∧ FrameEnd s o U' L ({ frames := 0, cells := 0, slots := 0, locals := 0 } : Room).cells ({ frames := 0, cells := 0, slots := 0, locals := 0 } : Room).slots) s₁ (mkF m 0 #[.val (.ref (w 5))] []) by
    obtain ⟨s2, o, g1, g2, g3, g4⟩ := hgo
    refine ⟨s2, o, castTop (?_ : entryFrame m #[(.ref (w 5))] 1 = _) g1, g2, g3, g4⟩
    first | (simp [entryFrame, mkF, argsToLocals, Value.category]; done) | rfl
  refine Go.on (T' := s₁) (g' := (mkF m 1 #[.val (.ref (w 5))] [(.ref (w 5))])) (fun t k => XS.aloadN X0.here hx rfl (hb hby d4_0) rfl rfl k) ?_
  obtain ⟨T86, X86, e86, st86⟩ := getF X0 hx hZ hown (host := "") (Or.inl (hw _ (List.mem_of_getElem? (i := 25) rfl))) Via.refl e0 (pin_18 hP) (g := (mkF m 1 #[.val (.ref (w 5))] [(.ref (w 5))])) rfl rfl (hb hby d4_1)
  refine Go.on (T' := T86) (g' := (mkF m 4 #[.val (.ref (w 5))] [(.int (4 : Int32))])) st86 ?_
  obtain ⟨fs, hr, hrun, hended, hW, hsame⟩ := X86.leave (v := some (.int (4 : Int32))) (fun h => by rw [Bd.returns] at h; cases h)
  exact ⟨_, _, retOut X86 hx Bd.returns rfl (Or.inl ⟨rfl, Or.inl rfl, _, rfl⟩) (hb hby d4_4) hr, hrun, hended, _, _, rfl, ⟨rfl, N0, e86⟩, ⟨_, rfl⟩, hW, hsame.mono (by decide) (by decide)⟩
set_option maxRecDepth 65536 in
set_option maxHeartbeats 40000000 in
theorem rm1_5 (l : Launch) (Z : State) (a0 : Array Value) (hw : ∀ d ∈ tables_1, d.before a0 Z = true) (ws : List Jvm.Cond) (w : Nat → Addr) (h0 : Heap) (n0 : Nat) (Z0 : n0 ≤ h0.size) (hP : Pins Z h0 w) (pa0 : Int32) (hp0 : ¬ ((0 : Int32) = pa0)) (hp1 : ¬ ((1 : Int32) = pa0)) (hp2 : ¬ ((2 : Int32) = pa0)) (hp3 : ¬ ((3 : Int32) = pa0)) (hp4 : ¬ ((4 : Int32) = pa0)) (hp5 : (5 : Int32) = pa0) :
    MetFree l (⟨"com/example/stubwright/stubwright/PacketType", "fromCode", "(I)Lcom/example/stubwright/stubwright/PacketType;"⟩ : MethodName) (head1 (Jvm.Cond.code (⟨"com/example/stubwright/stubwright/PacketType", "fromCode", "(I)Lcom/example/stubwright/stubwright/PacketType;"⟩ : MethodName) prog_34_method_5_code 5 (some (.object "com/example/stubwright/stubwright/PacketType")) :: ws) ({ frames := 2, cells := 1, slots := 6, locals := 25 } : Room)) (fun a U => a = #[(.int pa0)] ∧ Z.Warmed39 U.vm ∧ U.heap = h0) (fun _ _ _ _ _ => True) (fun _ U o U' => ∃ v L, o = .returned v ∧ Qx (some (.ref (w 6))) (fun h => True) h0 n0 v U'.heap L ∧ FrameEnd U o U' L ({ frames := 2, cells := 1, slots := 6, locals := 25 } : Room).cells ({ frames := 2, cells := 1, slots := 6, locals := 25 } : Room).slots) := by
  refine MetFree.of_bodySF (plainFor_of_name pn_0) hisR ?_
  intro p e s m args below meth c s₁ Bd hml0 hP0 hK
  obtain ⟨rfl, hZ, hh⟩ := hP0
  have hx := Bd.exec
  have hby := Bd.bytes
  have hml : c.maxLocals = 5 := hml0
  have hown : s.vm.findClass "com/example/stubwright/stubwright/PacketType" = some m.cls := findClass_of_methodNamed Bd.named
  have hnm := (name_of_methodNamed Bd.named Bd.method).1
  have X0 : Stand p l e ({ frames := 2, cells := 1, slots := 6, locals := 25 } : Room) s m #[(.int pa0)] below meth c s₁ [] 0 0 := Stand.of_body Bd
  have e0 : s₁.heap = h0 := by rw [← hh, Bd.state]; rfl
  have N0 := Fr.nil n0
  suffices hgo : Go p e below (fun o U' => ∃ v L, o = .returned v ∧ Qx (some (.ref (w 6))) (fun h => True) h0 n0 v U'.heap L ∧ FrameEnd s o U' L ({ frames := 2, cells := 1, slots := 6, locals := 25 } : Room).cells ({ frames := 2, cells := 1, slots := 6, locals := 25 } : Room).slots) s₁ (mkF m 0 #[.val (.int pa0), .unset, .unset, .unset, .unset] []) by
    obtain ⟨s2, o, g1, g2, g3, g4⟩ := hgo
    refine ⟨s2, o, castTop (?_ : entryFrame m #[(.int pa0)] 5 = _) g1, g2, g3, g4⟩
    first | (simp [entryFrame, mkF, argsToLocals, Value.category]; done) | rfl
  obtain ⟨_, _, ⟨T89, L89, k89, n89⟩, -, X89, ⟨Lc89, hQ89, l89, y89, z89⟩, st89⟩ := Jvm.LawKit.callS X0 hx (y := (⟨"com/example/stubwright/stubwright/PacketType", "values", "()[Lcom/example/stubwright/stubwright/PacketType;"⟩ : MethodName)) hown (mvT hZ (hw _ (List.mem_of_getElem? (i := 4) rfl))) (mvT hZ (hw _ (List.mem_of_getElem? (i := 5) rfl))) (mvT hZ (hw _ (List.mem_of_getElem? (i := 2) rfl))) (mvT hZ (hw _ (List.mem_of_getElem? (i := 6) rfl))) (by decide) (backOf (W := 0) (rm2_0 l Z a0 hw [] w h0 n0 (Nat.le_trans Z0 (own_ext0 h0).1) hP) hZ (hw _ (List.mem_of_getElem? (i := 6) rfl)) (hw _ (List.mem_of_getElem? (i := 2) rfl)) (by decide) (by decide)) (g := (mkF m 0 #[.val (.int pa0), .unset, .unset, .unset, .unset] [])) rfl (by rw [hml]; rfl) (argsL := []) (rest := []) (lenOf pd_0 rfl) rfl (by show 2 * 0 + _ ≤ _; exact Nat.le_of_eq rfl) (hb hby d1_0) (fun _ _ => ⟨rfl, e0, (by decide : 0 + 1 ≤ _), (by decide : 0 + 6 ≤ _)⟩)
  dsimp only [Pt.U, Pt.locs, Pt.cells, Pt.slots] at X89 l89 y89 z89 st89 hQ89
  subst l89 y89 z89
  obtain ⟨rfl, N89q, x89, f89⟩ := hQ89
  have N89 := Fr.app N0 N89q
  have e89 : T89.heap = T89.heap := rfl
  have sz89 : h0.size ≤ h0.size := (own_ext0 h0).1
  have XT89 := own_ext2 (own_ext0 h0) x89
  obtain ⟨k89, A89⟩ := f89
  refine Go.on (T' := T89) (g' := (mkF m 3 #[.val (.int pa0), .unset, .unset, .unset, .unset] [(.ref (h0.size))])) st89 ?_
  refine Go.on (T' := T89) (g' := (mkF m 4 #[.val (.int pa0), .val (.ref (h0.size)), .unset, .unset, .unset] [])) (fun t k => XS.astoreN X89.here hx rfl (hb hby d1_3) rfl rfl (l' := #[.val (.int pa0), .val (.ref (h0.size)), .unset, .unset, .unset]) rfl k) ?_
  refine Go.on (T' := T89) (g' := (mkF m 5 #[.val (.int pa0), .val (.ref (h0.size)), .unset, .unset, .unset] [(.ref (h0.size))])) (fun t k => XS.aloadN X89.here hx rfl (hb hby d1_4) rfl rfl k) ?_
  refine Go.on (T' := T89) (g' := (mkF m 6 #[.val (.int pa0), .val (.ref (h0.size)), .unset, .unset, .unset] [(.int (6 : Int32))])) (fun t k => X89.arraylength hx (by rw [e89]; exact A89.1) (State.isArrayOf_alike hZ.alike A89.2.1) (g := (mkF m 5 #[.val (.int pa0), .val (.ref (h0.size)), .unset, .unset, .unset] [(.ref (h0.size))])) rfl rfl (hb hby d1_5) t k) ?_
  refine Go.on (T' := T89) (g' := (mkF m 7 #[.val (.int pa0), .val (.ref (h0.size)), .val (.int (6 : Int32)), .unset, .unset] [])) (fun t k => XS.istoreN X89.here hx rfl (hb hby d1_6) rfl (l' := #[.val (.int pa0), .val (.ref (h0.size)), .val (.int (6 : Int32)), .unset, .unset]) rfl k) ?_
  refine Go.on (T' := T89) (g' := (mkF m 8 #[.val (.int pa0), .val (.ref (h0.size)), .val (.int (6 : Int32)), .unset, .unset] [(.int (0 : Int32))])) (fun t k => XS.iconst X89.here hx rfl (hb hby d1_7) k) ?_
  refine Go.on (T' := T89) (g' := (mkF m 9 #[.val (.int pa0), .val (.ref (h0.size)), .val (.int (6 : Int32)), .val (.int (0 : Int32)), .unset] [])) (fun t k => XS.istoreN X89.here hx rfl (hb hby d1_8) rfl (l' := #[.val (.int pa0), .val (.ref (h0.size)), .val (.int (6 : Int32)), .val (.int (0 : Int32)), .unset]) rfl k) ?_
  refine Go.on (T' := T89) (g' := (mkF m 10 #[.val (.int pa0), .val (.ref (h0.size)), .val (.int (6 : Int32)), .val (.int (0 : Int32)), .unset] [(.int (0 : Int32))])) (fun t k => XS.iloadN X89.here hx rfl (hb hby d1_9) rfl k) ?_
  refine Go.on (T' := T89) (g' := (mkF m 11 #[.val (.int pa0), .val (.ref (h0.size)), .val (.int (6 : Int32)), .val (.int (0 : Int32)), .unset] [(.int (6 : Int32)), (.int (0 : Int32))])) (fun t k => XS.iloadN X89.here hx rfl (hb hby d1_10) rfl k) ?_
  refine Go.on (T' := T89) (g' := (mkF m 14 #[.val (.int pa0), .val (.ref (h0.size)), .val (.int (6 : Int32)), .val (.int (0 : Int32)), .unset] [])) (fun t k => XS.icmpNo X89.here hx rfl (hb hby d1_11) rfl (tlt (by decide : (0 : Int32) < (6 : Int32))).2.1 k) ?_
  refine Go.on (T' := T89) (g' := (mkF m 15 #[.val (.int pa0), .val (.ref (h0.size)), .val (.int (6 : Int32)), .val (.int (0 : Int32)), .unset] [(.ref (h0.size))])) (fun t k => XS.aloadN X89.here hx rfl (hb hby d1_14) rfl rfl k) ?_
  refine Go.on (T' := T89) (g' := (mkF m 16 #[.val (.int pa0), .val (.ref (h0.size)), .val (.int (6 : Int32)), .val (.int (0 : Int32)), .unset] [(.int (0 : Int32)), (.ref (h0.size))])) (fun t k => XS.iloadN X89.here hx rfl (hb hby d1_15) rfl k) ?_
  refine Go.on (T' := T89) (g' := (mkF m 17 #[.val (.int pa0), .val (.ref (h0.size)), .val (.int (6 : Int32)), .val (.int (0 : Int32)), .unset] [(.ref (w 1))])) (fun t k => X89.aaload hx (j := (0 : Int32)) (v := (.ref (w 1))) (by rw [e89]; exact A89.1) (State.isArrayOf_alike hZ.alike A89.2.1) rfl A89.2.2 (by show ¬ (_ ∨ (6 : Nat) ≤ _); decide) rfl (g := (mkF m 16 #[.val (.int pa0), .val (.ref (h0.size)), .val (.int (6 : Int32)), .val (.int (0 : Int32)), .unset] [(.int (0 : Int32)), (.ref (h0.size))])) rfl rfl (hb hby d1_16) t k) ?_
  refine Go.on (T' := T89) (g' := (mkF m 19 #[.val (.int pa0), .val (.ref (h0.size)), .val (.int (6 : Int32)), .val (.int (0 : Int32)), .val (.ref (w 1))] [])) (fun t k => XS.astore X89.here hx rfl (hb hby d1_17) rfl rfl (l' := #[.val (.int pa0), .val (.ref (h0.size)), .val (.int (6 : Int32)), .val (.int (0 : Int32)), .val (.ref (w 1))]) rfl k) ?_
  refine Go.on (T' := T89) (g' := (mkF m 21 #[.val (.int pa0), .val (.ref (h0.size)), .val (.int (6 : Int32)), .val (.int (0 : Int32)), .val (.ref (w 1))] [(.ref (w 1))])) (fun t k => XS.aload X89.here hx rfl (hb hby d1_19) rfl rfl k) ?_
  obtain ⟨T90, X90, e90, st90⟩ := getF X89 hx hZ hown (host := "") (Or.inl (hw _ (List.mem_of_getElem? (i := 25) rfl))) Via.refl e89 (pin_14 (pins_ext XT89 hP)) (g := (mkF m 21 #[.val (.int pa0), .val (.ref (h0.size)), .val (.int (6 : Int32)), .val (.int (0 : Int32)), .val (.ref (w 1))] [(.ref (w 1))])) rfl rfl (hb hby d1_21)
  refine Go.on (T' := T90) (g' := (mkF m 24 #[.val (.int pa0), .val (.ref (h0.size)), .val (.int (6 : Int32)), .val (.int (0 : Int32)), .val (.ref (w 1))] [(.int (0 : Int32))])) st90 ?_
  refine Go.on (T' := T90) (g' := (mkF m 25 #[.val (.int pa0), .val (.ref (h0.size)), .val (.int (6 : Int32)), .val (.int (0 : Int32)), .val (.ref (w 1))] [(.int pa0), (.int (0 : Int32))])) (fun t k => XS.iloadN X90.here hx rfl (hb hby d1_24) rfl k) ?_
  refine Go.on (T' := T90) (g' := (mkF m 31 #[.val (.int pa0), .val (.ref (h0.size)), .val (.int (6 : Int32)), .val (.int (0 : Int32)), .val (.ref (w 1))] [])) (fun t k => XS.icmpYes X90.here hx rfl (pc0 := 25) (pc' := 31) rfl (hb hby d1_25) rfl (feq hp0).2 (by decide) (by decide) k) ?_
  refine Go.on (T' := T90) (g' := (mkF m 34 #[.val (.int pa0), .val (.ref (h0.size)), .val (.int (6 : Int32)), .val (.int (1 : Int32)), .val (.ref (w 1))] [])) (fun t k => XS.iinc X90.here hx rfl (hb hby d1_31) rfl (l' := #[.val (.int pa0), .val (.ref (h0.size)), .val (.int (6 : Int32)), .val (.int (1 : Int32)), .val (.ref (w 1))]) rfl k) ?_
  refine Go.on (T' := T90) (g' := (mkF m 9 #[.val (.int pa0), .val (.ref (h0.size)), .val (.int (6 : Int32)), .val (.int (1 : Int32)), .val (.ref (w 1))] [])) (fun t k => XS.goto X90.here hx rfl (pc0 := 34) (pc' := 9) rfl (hb hby d1_34) (by decide) (by decide) k) ?_
  refine Go.on (T' := T90) (g' := (mkF m 10 #[.val (.int pa0), .val (.ref (h0.size)), .val (.int (6 : Int32)), .val (.int (1 : Int32)), .val (.ref (w 1))] [(.int (1 : Int32))])) (fun t k => XS.iloadN X90.here hx rfl (hb hby d1_9) rfl k) ?_
  refine Go.on (T' := T90) (g' := (mkF m 11 #[.val (.int pa0), .val (.ref (h0.size)), .val (.int (6 : Int32)), .val (.int (1 : Int32)), .val (.ref (w 1))] [(.int (6 : Int32)), (.int (1 : Int32))])) (fun t k => XS.iloadN X90.here hx rfl (hb hby d1_10) rfl k) ?_
  refine Go.on (T' := T90) (g' := (mkF m 14 #[.val (.int pa0), .val (.ref (h0.size)), .val (.int (6 : Int32)), .val (.int (1 : Int32)), .val (.ref (w 1))] [])) (fun t k => XS.icmpNo X90.here hx rfl (hb hby d1_11) rfl (tlt (by decide : (1 : Int32) < (6 : Int32))).2.1 k) ?_
  refine Go.on (T' := T90) (g' := (mkF m 15 #[.val (.int pa0), .val (.ref (h0.size)), .val (.int (6 : Int32)), .val (.int (1 : Int32)), .val (.ref (w 1))] [(.ref (h0.size))])) (fun t k => XS.aloadN X90.here hx rfl (hb hby d1_14) rfl rfl k) ?_
  refine Go.on (T' := T90) (g' := (mkF m 16 #[.val (.int pa0), .val (.ref (h0.size)), .val (.int (6 : Int32)), .val (.int (1 : Int32)), .val (.ref (w 1))] [(.int (1 : Int32)), (.ref (h0.size))])) (fun t k => XS.iloadN X90.here hx rfl (hb hby d1_15) rfl k) ?_
  refine Go.on (T' := T90) (g' := (mkF m 17 #[.val (.int pa0), .val (.ref (h0.size)), .val (.int (6 : Int32)), .val (.int (1 : Int32)), .val (.ref (w 1))] [(.ref (w 2))])) (fun t k => X90.aaload hx (j := (1 : Int32)) (v := (.ref (w 2))) (by rw [e90]; exact A89.1) (State.isArrayOf_alike hZ.alike A89.2.1) rfl A89.2.2 (by show ¬ (_ ∨ (6 : Nat) ≤ _); decide) rfl (g := (mkF m 16 #[.val (.int pa0), .val (.ref (h0.size)), .val (.int (6 : Int32)), .val (.int (1 : Int32)), .val (.ref (w 1))] [(.int (1 : Int32)), (.ref (h0.size))])) rfl rfl (hb hby d1_16) t k) ?_
  refine Go.on (T' := T90) (g' := (mkF m 19 #[.val (.int pa0), .val (.ref (h0.size)), .val (.int (6 : Int32)), .val (.int (1 : Int32)), .val (.ref (w 2))] [])) (fun t k => XS.astore X90.here hx rfl (hb hby d1_17) rfl rfl (l' := #[.val (.int pa0), .val (.ref (h0.size)), .val (.int (6 : Int32)), .val (.int (1 : Int32)), .val (.ref (w 2))]) rfl k) ?_
  refine Go.on (T' := T90) (g' := (mkF m 21 #[.val (.int pa0), .val (.ref (h0.size)), .val (.int (6 : Int32)), .val (.int (1 : Int32)), .val (.ref (w 2))] [(.ref (w 2))])) (fun t k => XS.aload X90.here hx rfl (hb hby d1_19) rfl rfl k) ?_
  obtain ⟨T91, X91, e91, st91⟩ := getF X90 hx hZ hown (host := "") (Or.inl (hw _ (List.mem_of_getElem? (i := 25) rfl))) Via.refl e90 (pin_15 (pins_ext XT89 hP)) (g := (mkF m 21 #[.val (.int pa0), .val (.ref (h0.size)), .val (.int (6 : Int32)), .val (.int (1 : Int32)), .val (.ref (w 2))] [(.ref (w 2))])) rfl rfl (hb hby d1_21)
  refine Go.on (T' := T91) (g' := (mkF m 24 #[.val (.int pa0), .val (.ref (h0.size)), .val (.int (6 : Int32)), .val (.int (1 : Int32)), .val (.ref (w 2))] [(.int (1 : Int32))])) st91 ?_
  refine Go.on (T' := T91) (g' := (mkF m 25 #[.val (.int pa0), .val (.ref (h0.size)), .val (.int (6 : Int32)), .val (.int (1 : Int32)), .val (.ref (w 2))] [(.int pa0), (.int (1 : Int32))])) (fun t k => XS.iloadN X91.here hx rfl (hb hby d1_24) rfl k) ?_
  refine Go.on (T' := T91) (g' := (mkF m 31 #[.val (.int pa0), .val (.ref (h0.size)), .val (.int (6 : Int32)), .val (.int (1 : Int32)), .val (.ref (w 2))] [])) (fun t k => XS.icmpYes X91.here hx rfl (pc0 := 25) (pc' := 31) rfl (hb hby d1_25) rfl (feq hp1).2 (by decide) (by decide) k) ?_
  refine Go.on (T' := T91) (g' := (mkF m 34 #[.val (.int pa0), .val (.ref (h0.size)), .val (.int (6 : Int32)), .val (.int (2 : Int32)), .val (.ref (w 2))] [])) (fun t k => XS.iinc X91.here hx rfl (hb hby d1_31) rfl (l' := #[.val (.int pa0), .val (.ref (h0.size)), .val (.int (6 : Int32)), .val (.int (2 : Int32)), .val (.ref (w 2))]) rfl k) ?_
  refine Go.on (T' := T91) (g' := (mkF m 9 #[.val (.int pa0), .val (.ref (h0.size)), .val (.int (6 : Int32)), .val (.int (2 : Int32)), .val (.ref (w 2))] [])) (fun t k => XS.goto X91.here hx rfl (pc0 := 34) (pc' := 9) rfl (hb hby d1_34) (by decide) (by decide) k) ?_
  refine Go.on (T' := T91) (g' := (mkF m 10 #[.val (.int pa0), .val (.ref (h0.size)), .val (.int (6 : Int32)), .val (.int (2 : Int32)), .val (.ref (w 2))] [(.int (2 : Int32))])) (fun t k => XS.iloadN X91.here hx rfl (hb hby d1_9) rfl k) ?_
  refine Go.on (T' := T91) (g' := (mkF m 11 #[.val (.int pa0), .val (.ref (h0.size)), .val (.int (6 : Int32)), .val (.int (2 : Int32)), .val (.ref (w 2))] [(.int (6 : Int32)), (.int (2 : Int32))])) (fun t k => XS.iloadN X91.here hx rfl (hb hby d1_10) rfl k) ?_
  refine Go.on (T' := T91) (g' := (mkF m 14 #[.val (.int pa0), .val (.ref (h0.size)), .val (.int (6 : Int32)), .val (.int (2 : Int32)), .val (.ref (w 2))] [])) (fun t k => XS.icmpNo X91.here hx rfl (hb hby d1_11) rfl (tlt (by decide : (2 : Int32) < (6 : Int32))).2.1 k) ?_
  refine Go.on (T' := T91) (g' := (mkF m 15 #[.val (.int pa0), .val (.ref (h0.size)), .val (.int (6 : Int32)), .val (.int (2 : Int32)), .val (.ref (w 2))] [(.ref (h0.size))])) (fun t k => XS.aloadN X91.here hx rfl (hb hby d1_14) rfl rfl k) ?_
  refine Go.on (T' := T91) (g' := (mkF m 16 #[.val (.int pa0), .val (.ref (h0.size)), .val (.int (6 : Int32)), .val (.int (2 : Int32)), .val (.ref (w 2))] [(.int (2 : Int32)), (.ref (h0.size))])) (fun t k => XS.iloadN X91.here hx rfl (hb hby d1_15) rfl k) ?_
  refine Go.on (T' := T91) (g' := (mkF m 17 #[.val (.int pa0), .val (.ref (h0.size)), .val (.int (6 : Int32)), .val (.int (2 : Int32)), .val (.ref (w 2))] [(.ref (w 3))])) (fun t k => X91.aaload hx (j := (2 : Int32)) (v := (.ref (w 3))) (by rw [e91]; exact A89.1) (State.isArrayOf_alike hZ.alike A89.2.1) rfl A89.2.2 (by show ¬ (_ ∨ (6 : Nat) ≤ _); decide) rfl (g := (mkF m 16 #[.val (.int pa0), .val (.ref (h0.size)), .val (.int (6 : Int32)), .val (.int (2 : Int32)), .val (.ref (w 2))] [(.int (2 : Int32)), (.ref (h0.size))])) rfl rfl (hb hby d1_16) t k) ?_
  refine Go.on (T' := T91) (g' := (mkF m 19 #[.val (.int pa0), .val (.ref (h0.size)), .val (.int (6 : Int32)), .val (.int (2 : Int32)), .val (.ref (w 3))] [])) (fun t k => XS.astore X91.here hx rfl (hb hby d1_17) rfl rfl (l' := #[.val (.int pa0), .val (.ref (h0.size)), .val (.int (6 : Int32)), .val (.int (2 : Int32)), .val (.ref (w 3))]) rfl k) ?_
  refine Go.on (T' := T91) (g' := (mkF m 21 #[.val (.int pa0), .val (.ref (h0.size)), .val (.int (6 : Int32)), .val (.int (2 : Int32)), .val (.ref (w 3))] [(.ref (w 3))])) (fun t k => XS.aload X91.here hx rfl (hb hby d1_19) rfl rfl k) ?_
  obtain ⟨T92, X92, e92, st92⟩ := getF X91 hx hZ hown (host := "") (Or.inl (hw _ (List.mem_of_getElem? (i := 25) rfl))) Via.refl e91 (pin_16 (pins_ext XT89 hP)) (g := (mkF m 21 #[.val (.int pa0), .val (.ref (h0.size)), .val (.int (6 : Int32)), .val (.int (2 : Int32)), .val (.ref (w 3))] [(.ref (w 3))])) rfl rfl (hb hby d1_21)
  refine Go.on (T' := T92) (g' := (mkF m 24 #[.val (.int pa0), .val (.ref (h0.size)), .val (.int (6 : Int32)), .val (.int (2 : Int32)), .val (.ref (w 3))] [(.int (2 : Int32))])) st92 ?_
  refine Go.on (T' := T92) (g' := (mkF m 25 #[.val (.int pa0), .val (.ref (h0.size)), .val (.int (6 : Int32)), .val (.int (2 : Int32)), .val (.ref (w 3))] [(.int pa0), (.int (2 : Int32))])) (fun t k => XS.iloadN X92.here hx rfl (hb hby d1_24) rfl k) ?_
  refine Go.on (T' := T92) (g' := (mkF m 31 #[.val (.int pa0), .val (.ref (h0.size)), .val (.int (6 : Int32)), .val (.int (2 : Int32)), .val (.ref (w 3))] [])) (fun t k => XS.icmpYes X92.here hx rfl (pc0 := 25) (pc' := 31) rfl (hb hby d1_25) rfl (feq hp2).2 (by decide) (by decide) k) ?_
  refine Go.on (T' := T92) (g' := (mkF m 34 #[.val (.int pa0), .val (.ref (h0.size)), .val (.int (6 : Int32)), .val (.int (3 : Int32)), .val (.ref (w 3))] [])) (fun t k => XS.iinc X92.here hx rfl (hb hby d1_31) rfl (l' := #[.val (.int pa0), .val (.ref (h0.size)), .val (.int (6 : Int32)), .val (.int (3 : Int32)), .val (.ref (w 3))]) rfl k) ?_
  refine Go.on (T' := T92) (g' := (mkF m 9 #[.val (.int pa0), .val (.ref (h0.size)), .val (.int (6 : Int32)), .val (.int (3 : Int32)), .val (.ref (w 3))] [])) (fun t k => XS.goto X92.here hx rfl (pc0 := 34) (pc' := 9) rfl (hb hby d1_34) (by decide) (by decide) k) ?_
  refine Go.on (T' := T92) (g' := (mkF m 10 #[.val (.int pa0), .val (.ref (h0.size)), .val (.int (6 : Int32)), .val (.int (3 : Int32)), .val (.ref (w 3))] [(.int (3 : Int32))])) (fun t k => XS.iloadN X92.here hx rfl (hb hby d1_9) rfl k) ?_
  refine Go.on (T' := T92) (g' := (mkF m 11 #[.val (.int pa0), .val (.ref (h0.size)), .val (.int (6 : Int32)), .val (.int (3 : Int32)), .val (.ref (w 3))] [(.int (6 : Int32)), (.int (3 : Int32))])) (fun t k => XS.iloadN X92.here hx rfl (hb hby d1_10) rfl k) ?_
  refine Go.on (T' := T92) (g' := (mkF m 14 #[.val (.int pa0), .val (.ref (h0.size)), .val (.int (6 : Int32)), .val (.int (3 : Int32)), .val (.ref (w 3))] [])) (fun t k => XS.icmpNo X92.here hx rfl (hb hby d1_11) rfl (tlt (by decide : (3 : Int32) < (6 : Int32))).2.1 k) ?_
  refine Go.on (T' := T92) (g' := (mkF m 15 #[.val (.int pa0), .val (.ref (h0.size)), .val (.int (6 : Int32)), .val (.int (3 : Int32)), .val (.ref (w 3))] [(.ref (h0.size))])) (fun t k => XS.aloadN X92.here hx rfl (hb hby d1_14) rfl rfl k) ?_
  refine Go.on (T' := T92) (g' := (mkF m 16 #[.val (.int pa0), .val (.ref (h0.size)), .val (.int (6 : Int32)), .val (.int (3 : Int32)), .val (.ref (w 3))] [(.int (3 : Int32)), (.ref (h0.size))])) (fun t k => XS.iloadN X92.here hx rfl (hb hby d1_15) rfl k) ?_
  refine Go.on (T' := T92) (g' := (mkF m 17 #[.val (.int pa0), .val (.ref (h0.size)), .val (.int (6 : Int32)), .val (.int (3 : Int32)), .val (.ref (w 3))] [(.ref (w 4))])) (fun t k => X92.aaload hx (j := (3 : Int32)) (v := (.ref (w 4))) (by rw [e92]; exact A89.1) (State.isArrayOf_alike hZ.alike A89.2.1) rfl A89.2.2 (by show ¬ (_ ∨ (6 : Nat) ≤ _); decide) rfl (g := (mkF m 16 #[.val (.int pa0), .val (.ref (h0.size)), .val (.int (6 : Int32)), .val (.int (3 : Int32)), .val (.ref (w 3))] [(.int (3 : Int32)), (.ref (h0.size))])) rfl rfl (hb hby d1_16) t k) ?_
  refine Go.on (T' := T92) (g' := (mkF m 19 #[.val (.int pa0), .val (.ref (h0.size)), .val (.int (6 : Int32)), .val (.int (3 : Int32)), .val (.ref (w 4))] [])) (fun t k => XS.astore X92.here hx rfl (hb hby d1_17) rfl rfl (l' := #[.val (.int pa0), .val (.ref (h0.size)), .val (.int (6 : Int32)), .val (.int (3 : Int32)), .val (.ref (w 4))]) rfl k) ?_
  refine Go.on (T' := T92) (g' := (mkF m 21 #[.val (.int pa0), .val (.ref (h0.size)), .val (.int (6 : Int32)), .val (.int (3 : Int32)), .val (.ref (w 4))] [(.ref (w 4))])) (fun t k => XS.aload X92.here hx rfl (hb hby d1_19) rfl rfl k) ?_
  obtain ⟨T93, X93, e93, st93⟩ := getF X92 hx hZ hown (host := "") (Or.inl (hw _ (List.mem_of_getElem? (i := 25) rfl))) Via.refl e92 (pin_17 (pins_ext XT89 hP)) (g := (mkF m 21 #[.val (.int pa0), .val (.ref (h0.size)), .val (.int (6 : Int32)), .val (.int (3 : Int32)), .val (.ref (w 4))] [(.ref (w 4))])) rfl rfl (hb hby d1_21)
  refine Go.on (T' := T93) (g' := (mkF m 24 #[.val (.int pa0), .val (.ref (h0.size)), .val (.int (6 : Int32)), .val (.int (3 : Int32)), .val (.ref (w 4))] [(.int (3 : Int32))])) st93 ?_
  refine Go.on (T' := T93) (g' := (mkF m 25 #[.val (.int pa0), .val (.ref (h0.size)), .val (.int (6 : Int32)), .val (.int (3 : Int32)), .val (.ref (w 4))] [(.int pa0), (.int (3 : Int32))])) (fun t k => XS.iloadN X93.here hx rfl (hb hby d1_24) rfl k) ?_
  refine Go.on (T' := T93) (g' := (mkF m 31 #[.val (.int pa0), .val (.ref (h0.size)), .val (.int (6 : Int32)), .val (.int (3 : Int32)), .val (.ref (w 4))] [])) (fun t k => XS.icmpYes X93.here hx rfl (pc0 := 25) (pc' := 31) rfl (hb hby d1_25) rfl (feq hp3).2 (by decide) (by decide) k) ?_
  refine Go.on (T' := T93) (g' := (mkF m 34 #[.val (.int pa0), .val (.ref (h0.size)), .val (.int (6 : Int32)), .val (.int (4 : Int32)), .val (.ref (w 4))] [])) (fun t k => XS.iinc X93.here hx rfl (hb hby d1_31) rfl (l' := #[.val (.int pa0), .val (.ref (h0.size)), .val (.int (6 : Int32)), .val (.int (4 : Int32)), .val (.ref (w 4))]) rfl k) ?_
  refine Go.on (T' := T93) (g' := (mkF m 9 #[.val (.int pa0), .val (.ref (h0.size)), .val (.int (6 : Int32)), .val (.int (4 : Int32)), .val (.ref (w 4))] [])) (fun t k => XS.goto X93.here hx rfl (pc0 := 34) (pc' := 9) rfl (hb hby d1_34) (by decide) (by decide) k) ?_
  refine Go.on (T' := T93) (g' := (mkF m 10 #[.val (.int pa0), .val (.ref (h0.size)), .val (.int (6 : Int32)), .val (.int (4 : Int32)), .val (.ref (w 4))] [(.int (4 : Int32))])) (fun t k => XS.iloadN X93.here hx rfl (hb hby d1_9) rfl k) ?_
  refine Go.on (T' := T93) (g' := (mkF m 11 #[.val (.int pa0), .val (.ref (h0.size)), .val (.int (6 : Int32)), .val (.int (4 : Int32)), .val (.ref (w 4))] [(.int (6 : Int32)), (.int (4 : Int32))])) (fun t k => XS.iloadN X93.here hx rfl (hb hby d1_10) rfl k) ?_
  refine Go.on (T' := T93) (g' := (mkF m 14 #[.val (.int pa0), .val (.ref (h0.size)), .val (.int (6 : Int32)), .val (.int (4 : Int32)), .val (.ref (w 4))] [])) (fun t k => XS.icmpNo X93.here hx rfl (hb hby d1_11) rfl (tlt (by decide : (4 : Int32) < (6 : Int32))).2.1 k) ?_
  refine Go.on (T' := T93) (g' := (mkF m 15 #[.val (.int pa0), .val (.ref (h0.size)), .val (.int (6 : Int32)), .val (.int (4 : Int32)), .val (.ref (w 4))] [(.ref (h0.size))])) (fun t k => XS.aloadN X93.here hx rfl (hb hby d1_14) rfl rfl k) ?_
  refine Go.on (T' := T93) (g' := (mkF m 16 #[.val (.int pa0), .val (.ref (h0.size)), .val (.int (6 : Int32)), .val (.int (4 : Int32)), .val (.ref (w 4))] [(.int (4 : Int32)), (.ref (h0.size))])) (fun t k => XS.iloadN X93.here hx rfl (hb hby d1_15) rfl k) ?_
  refine Go.on (T' := T93) (g' := (mkF m 17 #[.val (.int pa0), .val (.ref (h0.size)), .val (.int (6 : Int32)), .val (.int (4 : Int32)), .val (.ref (w 4))] [(.ref (w 5))])) (fun t k => X93.aaload hx (j := (4 : Int32)) (v := (.ref (w 5))) (by rw [e93]; exact A89.1) (State.isArrayOf_alike hZ.alike A89.2.1) rfl A89.2.2 (by show ¬ (_ ∨ (6 : Nat) ≤ _); decide) rfl (g := (mkF m 16 #[.val (.int pa0), .val (.ref (h0.size)), .val (.int (6 : Int32)), .val (.int (4 : Int32)), .val (.ref (w 4))] [(.int (4 : Int32)), (.ref (h0.size))])) rfl rfl (hb hby d1_16) t k) ?_
  refine Go.on (T' := T93) (g' := (mkF m 19 #[.val (.int pa0), .val (.ref (h0.size)), .val (.int (6 : Int32)), .val (.int (4 : Int32)), .val (.ref (w 5))] [])) (fun t k => XS.astore X93.here hx rfl (hb hby d1_17) rfl rfl (l' := #[.val (.int pa0), .val (.ref (h0.size)), .val (.int (6 : Int32)), .val (.int (4 : Int32)), .val (.ref (w 5))]) rfl k) ?_
  refine Go.on (T' := T93) (g' := (mkF m 21 #[.val (.int pa0), .val (.ref (h0.size)), .val (.int (6 : Int32)), .val (.int (4 : Int32)), .val (.ref (w 5))] [(.ref (w 5))])) (fun t k => XS.aload X93.here hx rfl (hb hby d1_19) rfl rfl k) ?_
  obtain ⟨T94, X94, e94, st94⟩ := getF X93 hx hZ hown (host := "") (Or.inl (hw _ (List.mem_of_getElem? (i := 25) rfl))) Via.refl e93 (pin_18 (pins_ext XT89 hP)) (g := (mkF m 21 #[.val (.int pa0), .val (.ref (h0.size)), .val (.int (6 : Int32)), .val (.int (4 : Int32)), .val (.ref (w 5))] [(.ref (w 5))])) rfl rfl (hb hby d1_21)
  refine Go.on (T' := T94) (g' := (mkF m 24 #[.val (.int pa0), .val (.ref (h0.size)), .val (.int (6 : Int32)), .val (.int (4 : Int32)), .val (.ref (w 5))] [(.int (4 : Int32))])) st94 ?_
  refine Go.on (T' := T94) (g' := (mkF m 25 #[.val (.int pa0), .val (.ref (h0.size)), .val (.int (6 : Int32)), .val (.int (4 : Int32)), .val (.ref (w 5))] [(.int pa0), (.int (4 : Int32))])) (fun t k => XS.iloadN X94.here hx rfl (hb hby d1_24) rfl k) ?_
  refine Go.on (T' := T94) (g' := (mkF m 31 #[.val (.int pa0), .val (.ref (h0.size)), .val (.int (6 : Int32)), .val (.int (4 : Int32)), .val (.ref (w 5))] [])) (fun t k => XS.icmpYes X94.here hx rfl (pc0 := 25) (pc' := 31) rfl (hb hby d1_25) rfl (feq hp4).2 (by decide) (by decide) k) ?_
  refine Go.on (T' := T94) (g' := (mkF m 34 #[.val (.int pa0), .val (.ref (h0.size)), .val (.int (6 : Int32)), .val (.int (5 : Int32)), .val (.ref (w 5))] [])) (fun t k => XS.iinc X94.here hx rfl (hb hby d1_31) rfl (l' := #[.val (.int pa0), .val (.ref (h0.size)), .val (.int (6 : Int32)), .val (.int (5 : Int32)), .val (.ref (w 5))]) rfl k) ?_
  refine Go.on (T' := T94) (g' := (mkF m 9 #[.val (.int pa0), .val (.ref (h0.size)), .val (.int (6 : Int32)), .val (.int (5 : Int32)), .val (.ref (w 5))] [])) (fun t k => XS.goto X94.here hx rfl (pc0 := 34) (pc' := 9) rfl (hb hby d1_34) (by decide) (by decide) k) ?_
  refine Go.on (T' := T94) (g' := (mkF m 10 #[.val (.int pa0), .val (.ref (h0.size)), .val (.int (6 : Int32)), .val (.int (5 : Int32)), .val (.ref (w 5))] [(.int (5 : Int32))])) (fun t k => XS.iloadN X94.here hx rfl (hb hby d1_9) rfl k) ?_
  refine Go.on (T' := T94) (g' := (mkF m 11 #[.val (.int pa0), .val (.ref (h0.size)), .val (.int (6 : Int32)), .val (.int (5 : Int32)), .val (.ref (w 5))] [(.int (6 : Int32)), (.int (5 : Int32))])) (fun t k => XS.iloadN X94.here hx rfl (hb hby d1_10) rfl k) ?_
  refine Go.on (T' := T94) (g' := (mkF m 14 #[.val (.int pa0), .val (.ref (h0.size)), .val (.int (6 : Int32)), .val (.int (5 : Int32)), .val (.ref (w 5))] [])) (fun t k => XS.icmpNo X94.here hx rfl (hb hby d1_11) rfl (tlt (by decide : (5 : Int32) < (6 : Int32))).2.1 k) ?_
  refine Go.on (T' := T94) (g' := (mkF m 15 #[.val (.int pa0), .val (.ref (h0.size)), .val (.int (6 : Int32)), .val (.int (5 : Int32)), .val (.ref (w 5))] [(.ref (h0.size))])) (fun t k => XS.aloadN X94.here hx rfl (hb hby d1_14) rfl rfl k) ?_
  refine Go.on (T' := T94) (g' := (mkF m 16 #[.val (.int pa0), .val (.ref (h0.size)), .val (.int (6 : Int32)), .val (.int (5 : Int32)), .val (.ref (w 5))] [(.int (5 : Int32)), (.ref (h0.size))])) (fun t k => XS.iloadN X94.here hx rfl (hb hby d1_15) rfl k) ?_
  refine Go.on (T' := T94) (g' := (mkF m 17 #[.val (.int pa0), .val (.ref (h0.size)), .val (.int (6 : Int32)), .val (.int (5 : Int32)), .val (.ref (w 5))] [(.ref (w 6))])) (fun t k => X94.aaload hx (j := (5 : Int32)) (v := (.ref (w 6))) (by rw [e94]; exact A89.1) (State.isArrayOf_alike hZ.alike A89.2.1) rfl A89.2.2 (by show ¬ (_ ∨ (6 : Nat) ≤ _); decide) rfl (g := (mkF m 16 #[.val (.int pa0), .val (.ref (h0.size)), .val (.int (6 : Int32)), .val (.int (5 : Int32)), .val (.ref (w 5))] [(.int (5 : Int32)), (.ref (h0.size))])) rfl rfl (hb hby d1_16) t k) ?_
  refine Go.on (T' := T94) (g' := (mkF m 19 #[.val (.int pa0), .val (.ref (h0.size)), .val (.int (6 : Int32)), .val (.int (5 : Int32)), .val (.ref (w 6))] [])) (fun t k => XS.astore X94.here hx rfl (hb hby d1_17) rfl rfl (l' := #[.val (.int pa0), .val (.ref (h0.size)), .val (.int (6 : Int32)), .val (.int (5 : Int32)), .val (.ref (w 6))]) rfl k) ?_
  refine Go.on (T' := T94) (g' := (mkF m 21 #[.val (.int pa0), .val (.ref (h0.size)), .val (.int (6 : Int32)), .val (.int (5 : Int32)), .val (.ref (w 6))] [(.ref (w 6))])) (fun t k => XS.aload X94.here hx rfl (hb hby d1_19) rfl rfl k) ?_
  obtain ⟨T95, X95, e95, st95⟩ := getF X94 hx hZ hown (host := "") (Or.inl (hw _ (List.mem_of_getElem? (i := 25) rfl))) Via.refl e94 (pin_19 (pins_ext XT89 hP)) (g := (mkF m 21 #[.val (.int pa0), .val (.ref (h0.size)), .val (.int (6 : Int32)), .val (.int (5 : Int32)), .val (.ref (w 6))] [(.ref (w 6))])) rfl rfl (hb hby d1_21)
  refine Go.on (T' := T95) (g' := (mkF m 24 #[.val (.int pa0), .val (.ref (h0.size)), .val (.int (6 : Int32)), .val (.int (5 : Int32)), .val (.ref (w 6))] [(.int (5 : Int32))])) st95 ?_
  refine Go.on (T' := T95) (g' := (mkF m 25 #[.val (.int pa0), .val (.ref (h0.size)), .val (.int (6 : Int32)), .val (.int (5 : Int32)), .val (.ref (w 6))] [(.int pa0), (.int (5 : Int32))])) (fun t k => XS.iloadN X95.here hx rfl (hb hby d1_24) rfl k) ?_
  refine Go.on (T' := T95) (g' := (mkF m 28 #[.val (.int pa0), .val (.ref (h0.size)), .val (.int (6 : Int32)), .val (.int (5 : Int32)), .val (.ref (w 6))] [])) (fun t k => XS.icmpNo X95.here hx rfl (hb hby d1_25) rfl (teq hp5).2 k) ?_
  refine Go.on (T' := T95) (g' := (mkF m 30 #[.val (.int pa0), .val (.ref (h0.size)), .val (.int (6 : Int32)), .val (.int (5 : Int32)), .val (.ref (w 6))] [(.ref (w 6))])) (fun t k => XS.aload X95.here hx rfl (hb hby d1_28) rfl rfl k) ?_
  obtain ⟨fs, hr, hrun, hended, hW, hsame⟩ := X95.leave (v := some (.ref (w 6))) (fun h => by rw [Bd.returns] at h; cases h)
  exact ⟨_, _, retOut X95 hx Bd.returns rfl (Or.inr (Or.inr (Or.inr (Or.inr ⟨rfl, rfl, rfl⟩)))) (hb hby d1_30) hr, hrun, hended, _, _, rfl, ⟨rfl, N89, own_extE e95 XT89, trivial⟩, ⟨_, rfl⟩, hW, hsame.mono (by decide) (by decide)⟩
theorem d3_44 : decode method_3_code 44 = .ok (.iload_n 0, 1) := by decide +kernel
theorem d3_45 : decode method_3_code 45 = .ok (.iconst 5, 1) := by decide +kernel
theorem d3_46 : decode method_3_code 46 = .ok (.if_icmp .ne 7, 3) := by decide +kernel
theorem d3_49 : decode method_3_code 49 = .ok (.getstatic 38, 3) := by decide +kernel
theorem d3_52 : decode method_3_code 52 = .ok (.areturn, 1) := by decide +kernel
set_option maxRecDepth 65536 in
set_option maxHeartbeats 40000000 in
theorem rm3_5 (l : Launch) (Z : State) (a0 : Array Value) (hw : ∀ d ∈ tables_1, d.before a0 Z = true) (ws : List Jvm.Cond) (w : Nat → Addr) (h0 : Heap) (n0 : Nat) (Z0 : n0 ≤ h0.size) (hP : Pins Z h0 w) (pa0 : Int32) (hp0 : ¬ (pa0 = (0 : Int32))) (hp1 : ¬ (pa0 = (1 : Int32))) (hp2 : ¬ (pa0 = (2 : Int32))) (hp3 : ¬ (pa0 = (3 : Int32))) (hp4 : ¬ (pa0 = (4 : Int32))) (hp5 : pa0 = (5 : Int32)) :
    MetFree l (⟨"com/example/stubwright/stubwright/PacketTypeFromCodePinLaw", "expected", "(I)Lcom/example/stubwright/stubwright/PacketType;"⟩ : MethodName) (head1 (Jvm.Cond.code (⟨"com/example/stubwright/stubwright/PacketTypeFromCodePinLaw", "expected", "(I)Lcom/example/stubwright/stubwright/PacketType;"⟩ : MethodName) method_3_code 1 (some (.object "com/example/stubwright/stubwright/PacketType")) :: ws) ({ frames := 0, cells := 0, slots := 0, locals := 0 } : Room)) (fun a U => a = #[(.int pa0)] ∧ Z.Warmed39 U.vm ∧ U.heap = h0) (fun _ _ _ _ _ => True) (fun _ U o U' => ∃ v L, o = .returned v ∧ Qp (some (.ref (w 6))) h0 n0 v U'.heap L ∧ FrameEnd U o U' L ({ frames := 0, cells := 0, slots := 0, locals := 0 } : Room).cells ({ frames := 0, cells := 0, slots := 0, locals := 0 } : Room).slots) := by
  refine MetFree.of_bodySF (plainFor_of_name pn_1) hisR ?_
  intro p e s m args below meth c s₁ Bd hml0 hP0 hK
  obtain ⟨rfl, hZ, hh⟩ := hP0
  have hx := Bd.exec
  have hby := Bd.bytes
  have hml : c.maxLocals = 1 := hml0
  have hown : s.vm.findClass "com/example/stubwright/stubwright/PacketTypeFromCodePinLaw" = some m.cls := findClass_of_methodNamed Bd.named
  have hnm := (name_of_methodNamed Bd.named Bd.method).1
  have X0 : Stand p l e ({ frames := 0, cells := 0, slots := 0, locals := 0 } : Room) s m #[(.int pa0)] below meth c s₁ [] 0 0 := Stand.of_body Bd
  have e0 : s₁.heap = h0 := by rw [← hh, Bd.state]; rfl
  have N0 := Fr.nil n0
  suffices hgo : Go p e below (fun o U' => ∃ v L, o = .returned v ∧ Qp (some (.ref (w 6))) h0 n0 v U'.heap L ∧ FrameEnd s o U' L ({ frames := 0, cells := 0, slots := 0, locals := 0 } : Room).cells ({ frames := 0, cells := 0, slots := 0, locals := 0 } : Room).slots) s₁ (mkF m 0 #[.val (.int pa0)] []) by
    obtain ⟨s2, o, g1, g2, g3, g4⟩ := hgo
    refine ⟨s2, o, castTop (?_ : entryFrame m #[(.int pa0)] 1 = _) g1, g2, g3, g4⟩
    first | (simp [entryFrame, mkF, argsToLocals, Value.category]; done) | rfl
  refine Go.on (T' := s₁) (g' := (mkF m 1 #[.val (.int pa0)] [(.int pa0)])) (fun t k => XS.iloadN X0.here hx rfl (hb hby d3_0) rfl k) ?_
  refine Go.on (T' := s₁) (g' := (mkF m 8 #[.val (.int pa0)] [])) (fun t k => XS.ifYes X0.here hx rfl (pc0 := 1) (pc' := 8) rfl (hb hby d3_1) rfl ((if0 _ _).trans (feq hp0).2) (by decide) (by decide) k) ?_
  refine Go.on (T' := s₁) (g' := (mkF m 9 #[.val (.int pa0)] [(.int pa0)])) (fun t k => XS.iloadN X0.here hx rfl (hb hby d3_8) rfl k) ?_
  refine Go.on (T' := s₁) (g' := (mkF m 10 #[.val (.int pa0)] [(.int (1 : Int32)), (.int pa0)])) (fun t k => XS.iconst X0.here hx rfl (hb hby d3_9) k) ?_
  refine Go.on (T' := s₁) (g' := (mkF m 17 #[.val (.int pa0)] [])) (fun t k => XS.icmpYes X0.here hx rfl (pc0 := 10) (pc' := 17) rfl (hb hby d3_10) rfl (feq hp1).2 (by decide) (by decide) k) ?_
  refine Go.on (T' := s₁) (g' := (mkF m 18 #[.val (.int pa0)] [(.int pa0)])) (fun t k => XS.iloadN X0.here hx rfl (hb hby d3_17) rfl k) ?_
  refine Go.on (T' := s₁) (g' := (mkF m 19 #[.val (.int pa0)] [(.int (2 : Int32)), (.int pa0)])) (fun t k => XS.iconst X0.here hx rfl (hb hby d3_18) k) ?_
  refine Go.on (T' := s₁) (g' := (mkF m 26 #[.val (.int pa0)] [])) (fun t k => XS.icmpYes X0.here hx rfl (pc0 := 19) (pc' := 26) rfl (hb hby d3_19) rfl (feq hp2).2 (by decide) (by decide) k) ?_
  refine Go.on (T' := s₁) (g' := (mkF m 27 #[.val (.int pa0)] [(.int pa0)])) (fun t k => XS.iloadN X0.here hx rfl (hb hby d3_26) rfl k) ?_
  refine Go.on (T' := s₁) (g' := (mkF m 28 #[.val (.int pa0)] [(.int (3 : Int32)), (.int pa0)])) (fun t k => XS.iconst X0.here hx rfl (hb hby d3_27) k) ?_
  refine Go.on (T' := s₁) (g' := (mkF m 35 #[.val (.int pa0)] [])) (fun t k => XS.icmpYes X0.here hx rfl (pc0 := 28) (pc' := 35) rfl (hb hby d3_28) rfl (feq hp3).2 (by decide) (by decide) k) ?_
  refine Go.on (T' := s₁) (g' := (mkF m 36 #[.val (.int pa0)] [(.int pa0)])) (fun t k => XS.iloadN X0.here hx rfl (hb hby d3_35) rfl k) ?_
  refine Go.on (T' := s₁) (g' := (mkF m 37 #[.val (.int pa0)] [(.int (4 : Int32)), (.int pa0)])) (fun t k => XS.iconst X0.here hx rfl (hb hby d3_36) k) ?_
  refine Go.on (T' := s₁) (g' := (mkF m 44 #[.val (.int pa0)] [])) (fun t k => XS.icmpYes X0.here hx rfl (pc0 := 37) (pc' := 44) rfl (hb hby d3_37) rfl (feq hp4).2 (by decide) (by decide) k) ?_
  refine Go.on (T' := s₁) (g' := (mkF m 45 #[.val (.int pa0)] [(.int pa0)])) (fun t k => XS.iloadN X0.here hx rfl (hb hby d3_44) rfl k) ?_
  refine Go.on (T' := s₁) (g' := (mkF m 46 #[.val (.int pa0)] [(.int (5 : Int32)), (.int pa0)])) (fun t k => XS.iconst X0.here hx rfl (hb hby d3_45) k) ?_
  refine Go.on (T' := s₁) (g' := (mkF m 49 #[.val (.int pa0)] [])) (fun t k => XS.icmpNo X0.here hx rfl (hb hby d3_46) rfl (teq hp5).2 k) ?_
  obtain ⟨T97, X97, e97, st97⟩ := getS2 X0 hx hZ hown (host := "") (Or.inl (hw _ (List.mem_of_getElem? (i := 39) rfl))) Via.refl e0 (pin_6 hP) (g := (mkF m 49 #[.val (.int pa0)] [])) rfl (hb hby d3_49)
  refine Go.on (T' := T97) (g' := (mkF m 52 #[.val (.int pa0)] [(.ref (w 6))])) st97 ?_
  obtain ⟨fs, hr, hrun, hended, hW, hsame⟩ := X97.leave (v := some (.ref (w 6))) (fun h => by rw [Bd.returns] at h; cases h)
  exact ⟨_, _, retOut X97 hx Bd.returns rfl (Or.inr (Or.inr (Or.inr (Or.inr ⟨rfl, rfl, rfl⟩)))) (hb hby d3_52) hr, hrun, hended, _, _, rfl, ⟨rfl, N0, e97⟩, ⟨_, rfl⟩, hW, hsame.mono (by decide) (by decide)⟩
set_option maxRecDepth 65536 in
set_option maxHeartbeats 40000000 in
theorem rm4_5 (l : Launch) (Z : State) (a0 : Array Value) (hw : ∀ d ∈ tables_1, d.before a0 Z = true) (ws : List Jvm.Cond) (w : Nat → Addr) (h0 : Heap) (n0 : Nat) (Z0 : n0 ≤ h0.size) (hP : Pins Z h0 w) :
    MetFree l (⟨"com/example/stubwright/stubwright/PacketType", "code", "()I"⟩ : MethodName) (head1 (Jvm.Cond.code (⟨"com/example/stubwright/stubwright/PacketType", "code", "()I"⟩ : MethodName) prog_34_method_4_code 1 (some .int) :: ws) ({ frames := 0, cells := 0, slots := 0, locals := 0 } : Room)) (fun a U => a = #[(.ref (w 6))] ∧ Z.Warmed39 U.vm ∧ U.heap = h0) (fun _ _ _ _ _ => True) (fun _ U o U' => ∃ v L, o = .returned v ∧ Qp (some (.int (5 : Int32))) h0 n0 v U'.heap L ∧ FrameEnd U o U' L ({ frames := 0, cells := 0, slots := 0, locals := 0 } : Room).cells ({ frames := 0, cells := 0, slots := 0, locals := 0 } : Room).slots) := by
  refine MetFree.of_bodySF (plainFor_of_name pn_0) hisR ?_
  intro p e s m args below meth c s₁ Bd hml0 hP0 hK
  obtain ⟨rfl, hZ, hh⟩ := hP0
  have hx := Bd.exec
  have hby := Bd.bytes
  have hml : c.maxLocals = 1 := hml0
  have hown : s.vm.findClass "com/example/stubwright/stubwright/PacketType" = some m.cls := findClass_of_methodNamed Bd.named
  have hnm := (name_of_methodNamed Bd.named Bd.method).1
  have X0 : Stand p l e ({ frames := 0, cells := 0, slots := 0, locals := 0 } : Room) s m #[(.ref (w 6))] below meth c s₁ [] 0 0 := Stand.of_body Bd
  have e0 : s₁.heap = h0 := by rw [← hh, Bd.state]; rfl
  have N0 := Fr.nil n0
  suffices hgo : Go p e below (fun o U' => ∃ v L, o = .returned v ∧ Qp (some (.int (5 : Int32))) h0 n0 v U'.heap L ∧ FrameEnd s o U' L ({ frames := 0, cells := 0, slots := 0, locals := 0 } : Room).cells ({ frames := 0, cells := 0, slots := 0, locals := 0 } : Room).slots) s₁ (mkF m 0 #[.val (.ref (w 6))] []) by
    obtain ⟨s2, o, g1, g2, g3, g4⟩ := hgo
    refine ⟨s2, o, castTop (?_ : entryFrame m #[(.ref (w 6))] 1 = _) g1, g2, g3, g4⟩
    first | (simp [entryFrame, mkF, argsToLocals, Value.category]; done) | rfl
  refine Go.on (T' := s₁) (g' := (mkF m 1 #[.val (.ref (w 6))] [(.ref (w 6))])) (fun t k => XS.aloadN X0.here hx rfl (hb hby d4_0) rfl rfl k) ?_
  obtain ⟨T100, X100, e100, st100⟩ := getF X0 hx hZ hown (host := "") (Or.inl (hw _ (List.mem_of_getElem? (i := 25) rfl))) Via.refl e0 (pin_19 hP) (g := (mkF m 1 #[.val (.ref (w 6))] [(.ref (w 6))])) rfl rfl (hb hby d4_1)
  refine Go.on (T' := T100) (g' := (mkF m 4 #[.val (.ref (w 6))] [(.int (5 : Int32))])) st100 ?_
  obtain ⟨fs, hr, hrun, hended, hW, hsame⟩ := X100.leave (v := some (.int (5 : Int32))) (fun h => by rw [Bd.returns] at h; cases h)
  exact ⟨_, _, retOut X100 hx Bd.returns rfl (Or.inl ⟨rfl, Or.inl rfl, _, rfl⟩) (hb hby d4_4) hr, hrun, hended, _, _, rfl, ⟨rfl, N0, e100⟩, ⟨_, rfl⟩, hW, hsame.mono (by decide) (by decide)⟩
theorem d1_37 : decode prog_34_method_5_code 37 = .ok (.aconst_null, 1) := by decide +kernel
theorem d1_38 : decode prog_34_method_5_code 38 = .ok (.areturn, 1) := by decide +kernel
set_option maxRecDepth 65536 in
set_option maxHeartbeats 40000000 in
theorem rm1_6 (l : Launch) (Z : State) (a0 : Array Value) (hw : ∀ d ∈ tables_1, d.before a0 Z = true) (ws : List Jvm.Cond) (w : Nat → Addr) (h0 : Heap) (n0 : Nat) (Z0 : n0 ≤ h0.size) (hP : Pins Z h0 w) (pa0 : Int32) (hp0 : ¬ ((0 : Int32) = pa0)) (hp1 : ¬ ((1 : Int32) = pa0)) (hp2 : ¬ ((2 : Int32) = pa0)) (hp3 : ¬ ((3 : Int32) = pa0)) (hp4 : ¬ ((4 : Int32) = pa0)) (hp5 : ¬ ((5 : Int32) = pa0)) :
    MetFree l (⟨"com/example/stubwright/stubwright/PacketType", "fromCode", "(I)Lcom/example/stubwright/stubwright/PacketType;"⟩ : MethodName) (head1 (Jvm.Cond.code (⟨"com/example/stubwright/stubwright/PacketType", "fromCode", "(I)Lcom/example/stubwright/stubwright/PacketType;"⟩ : MethodName) prog_34_method_5_code 5 (some (.object "com/example/stubwright/stubwright/PacketType")) :: ws) ({ frames := 2, cells := 1, slots := 6, locals := 25 } : Room)) (fun a U => a = #[(.int pa0)] ∧ Z.Warmed39 U.vm ∧ U.heap = h0) (fun _ _ _ _ _ => True) (fun _ U o U' => ∃ v L, o = .returned v ∧ Qx (some .null) (fun h => True) h0 n0 v U'.heap L ∧ FrameEnd U o U' L ({ frames := 2, cells := 1, slots := 6, locals := 25 } : Room).cells ({ frames := 2, cells := 1, slots := 6, locals := 25 } : Room).slots) := by
  refine MetFree.of_bodySF (plainFor_of_name pn_0) hisR ?_
  intro p e s m args below meth c s₁ Bd hml0 hP0 hK
  obtain ⟨rfl, hZ, hh⟩ := hP0
  have hx := Bd.exec
  have hby := Bd.bytes
  have hml : c.maxLocals = 5 := hml0
  have hown : s.vm.findClass "com/example/stubwright/stubwright/PacketType" = some m.cls := findClass_of_methodNamed Bd.named
  have hnm := (name_of_methodNamed Bd.named Bd.method).1
  have X0 : Stand p l e ({ frames := 2, cells := 1, slots := 6, locals := 25 } : Room) s m #[(.int pa0)] below meth c s₁ [] 0 0 := Stand.of_body Bd
  have e0 : s₁.heap = h0 := by rw [← hh, Bd.state]; rfl
  have N0 := Fr.nil n0
  suffices hgo : Go p e below (fun o U' => ∃ v L, o = .returned v ∧ Qx (some .null) (fun h => True) h0 n0 v U'.heap L ∧ FrameEnd s o U' L ({ frames := 2, cells := 1, slots := 6, locals := 25 } : Room).cells ({ frames := 2, cells := 1, slots := 6, locals := 25 } : Room).slots) s₁ (mkF m 0 #[.val (.int pa0), .unset, .unset, .unset, .unset] []) by
    obtain ⟨s2, o, g1, g2, g3, g4⟩ := hgo
    refine ⟨s2, o, castTop (?_ : entryFrame m #[(.int pa0)] 5 = _) g1, g2, g3, g4⟩
    first | (simp [entryFrame, mkF, argsToLocals, Value.category]; done) | rfl
  obtain ⟨_, _, ⟨T102, L102, k102, n102⟩, -, X102, ⟨Lc102, hQ102, l102, y102, z102⟩, st102⟩ := Jvm.LawKit.callS X0 hx (y := (⟨"com/example/stubwright/stubwright/PacketType", "values", "()[Lcom/example/stubwright/stubwright/PacketType;"⟩ : MethodName)) hown (mvT hZ (hw _ (List.mem_of_getElem? (i := 4) rfl))) (mvT hZ (hw _ (List.mem_of_getElem? (i := 5) rfl))) (mvT hZ (hw _ (List.mem_of_getElem? (i := 2) rfl))) (mvT hZ (hw _ (List.mem_of_getElem? (i := 6) rfl))) (by decide) (backOf (W := 0) (rm2_0 l Z a0 hw [] w h0 n0 (Nat.le_trans Z0 (own_ext0 h0).1) hP) hZ (hw _ (List.mem_of_getElem? (i := 6) rfl)) (hw _ (List.mem_of_getElem? (i := 2) rfl)) (by decide) (by decide)) (g := (mkF m 0 #[.val (.int pa0), .unset, .unset, .unset, .unset] [])) rfl (by rw [hml]; rfl) (argsL := []) (rest := []) (lenOf pd_0 rfl) rfl (by show 2 * 0 + _ ≤ _; exact Nat.le_of_eq rfl) (hb hby d1_0) (fun _ _ => ⟨rfl, e0, (by decide : 0 + 1 ≤ _), (by decide : 0 + 6 ≤ _)⟩)
  dsimp only [Pt.U, Pt.locs, Pt.cells, Pt.slots] at X102 l102 y102 z102 st102 hQ102
  subst l102 y102 z102
  obtain ⟨rfl, N102q, x102, f102⟩ := hQ102
  have N102 := Fr.app N0 N102q
  have e102 : T102.heap = T102.heap := rfl
  have sz102 : h0.size ≤ h0.size := (own_ext0 h0).1
  have XT102 := own_ext2 (own_ext0 h0) x102
  obtain ⟨k102, A102⟩ := f102
  refine Go.on (T' := T102) (g' := (mkF m 3 #[.val (.int pa0), .unset, .unset, .unset, .unset] [(.ref (h0.size))])) st102 ?_
  refine Go.on (T' := T102) (g' := (mkF m 4 #[.val (.int pa0), .val (.ref (h0.size)), .unset, .unset, .unset] [])) (fun t k => XS.astoreN X102.here hx rfl (hb hby d1_3) rfl rfl (l' := #[.val (.int pa0), .val (.ref (h0.size)), .unset, .unset, .unset]) rfl k) ?_
  refine Go.on (T' := T102) (g' := (mkF m 5 #[.val (.int pa0), .val (.ref (h0.size)), .unset, .unset, .unset] [(.ref (h0.size))])) (fun t k => XS.aloadN X102.here hx rfl (hb hby d1_4) rfl rfl k) ?_
  refine Go.on (T' := T102) (g' := (mkF m 6 #[.val (.int pa0), .val (.ref (h0.size)), .unset, .unset, .unset] [(.int (6 : Int32))])) (fun t k => X102.arraylength hx (by rw [e102]; exact A102.1) (State.isArrayOf_alike hZ.alike A102.2.1) (g := (mkF m 5 #[.val (.int pa0), .val (.ref (h0.size)), .unset, .unset, .unset] [(.ref (h0.size))])) rfl rfl (hb hby d1_5) t k) ?_
  refine Go.on (T' := T102) (g' := (mkF m 7 #[.val (.int pa0), .val (.ref (h0.size)), .val (.int (6 : Int32)), .unset, .unset] [])) (fun t k => XS.istoreN X102.here hx rfl (hb hby d1_6) rfl (l' := #[.val (.int pa0), .val (.ref (h0.size)), .val (.int (6 : Int32)), .unset, .unset]) rfl k) ?_
  refine Go.on (T' := T102) (g' := (mkF m 8 #[.val (.int pa0), .val (.ref (h0.size)), .val (.int (6 : Int32)), .unset, .unset] [(.int (0 : Int32))])) (fun t k => XS.iconst X102.here hx rfl (hb hby d1_7) k) ?_
  refine Go.on (T' := T102) (g' := (mkF m 9 #[.val (.int pa0), .val (.ref (h0.size)), .val (.int (6 : Int32)), .val (.int (0 : Int32)), .unset] [])) (fun t k => XS.istoreN X102.here hx rfl (hb hby d1_8) rfl (l' := #[.val (.int pa0), .val (.ref (h0.size)), .val (.int (6 : Int32)), .val (.int (0 : Int32)), .unset]) rfl k) ?_
  refine Go.on (T' := T102) (g' := (mkF m 10 #[.val (.int pa0), .val (.ref (h0.size)), .val (.int (6 : Int32)), .val (.int (0 : Int32)), .unset] [(.int (0 : Int32))])) (fun t k => XS.iloadN X102.here hx rfl (hb hby d1_9) rfl k) ?_
  refine Go.on (T' := T102) (g' := (mkF m 11 #[.val (.int pa0), .val (.ref (h0.size)), .val (.int (6 : Int32)), .val (.int (0 : Int32)), .unset] [(.int (6 : Int32)), (.int (0 : Int32))])) (fun t k => XS.iloadN X102.here hx rfl (hb hby d1_10) rfl k) ?_
  refine Go.on (T' := T102) (g' := (mkF m 14 #[.val (.int pa0), .val (.ref (h0.size)), .val (.int (6 : Int32)), .val (.int (0 : Int32)), .unset] [])) (fun t k => XS.icmpNo X102.here hx rfl (hb hby d1_11) rfl (tlt (by decide : (0 : Int32) < (6 : Int32))).2.1 k) ?_
  refine Go.on (T' := T102) (g' := (mkF m 15 #[.val (.int pa0), .val (.ref (h0.size)), .val (.int (6 : Int32)), .val (.int (0 : Int32)), .unset] [(.ref (h0.size))])) (fun t k => XS.aloadN X102.here hx rfl (hb hby d1_14) rfl rfl k) ?_
  refine Go.on (T' := T102) (g' := (mkF m 16 #[.val (.int pa0), .val (.ref (h0.size)), .val (.int (6 : Int32)), .val (.int (0 : Int32)), .unset] [(.int (0 : Int32)), (.ref (h0.size))])) (fun t k => XS.iloadN X102.here hx rfl (hb hby d1_15) rfl k) ?_
  refine Go.on (T' := T102) (g' := (mkF m 17 #[.val (.int pa0), .val (.ref (h0.size)), .val (.int (6 : Int32)), .val (.int (0 : Int32)), .unset] [(.ref (w 1))])) (fun t k => X102.aaload hx (j := (0 : Int32)) (v := (.ref (w 1))) (by rw [e102]; exact A102.1) (State.isArrayOf_alike hZ.alike A102.2.1) rfl A102.2.2 (by show ¬ (_ ∨ (6 : Nat) ≤ _); decide) rfl (g := (mkF m 16 #[.val (.int pa0), .val (.ref (h0.size)), .val (.int (6 : Int32)), .val (.int (0 : Int32)), .unset] [(.int (0 : Int32)), (.ref (h0.size))])) rfl rfl (hb hby d1_16) t k) ?_
  refine Go.on (T' := T102) (g' := (mkF m 19 #[.val (.int pa0), .val (.ref (h0.size)), .val (.int (6 : Int32)), .val (.int (0 : Int32)), .val (.ref (w 1))] [])) (fun t k => XS.astore X102.here hx rfl (hb hby d1_17) rfl rfl (l' := #[.val (.int pa0), .val (.ref (h0.size)), .val (.int (6 : Int32)), .val (.int (0 : Int32)), .val (.ref (w 1))]) rfl k) ?_
  refine Go.on (T' := T102) (g' := (mkF m 21 #[.val (.int pa0), .val (.ref (h0.size)), .val (.int (6 : Int32)), .val (.int (0 : Int32)), .val (.ref (w 1))] [(.ref (w 1))])) (fun t k => XS.aload X102.here hx rfl (hb hby d1_19) rfl rfl k) ?_
  obtain ⟨T103, X103, e103, st103⟩ := getF X102 hx hZ hown (host := "") (Or.inl (hw _ (List.mem_of_getElem? (i := 25) rfl))) Via.refl e102 (pin_14 (pins_ext XT102 hP)) (g := (mkF m 21 #[.val (.int pa0), .val (.ref (h0.size)), .val (.int (6 : Int32)), .val (.int (0 : Int32)), .val (.ref (w 1))] [(.ref (w 1))])) rfl rfl (hb hby d1_21)
  refine Go.on (T' := T103) (g' := (mkF m 24 #[.val (.int pa0), .val (.ref (h0.size)), .val (.int (6 : Int32)), .val (.int (0 : Int32)), .val (.ref (w 1))] [(.int (0 : Int32))])) st103 ?_
  refine Go.on (T' := T103) (g' := (mkF m 25 #[.val (.int pa0), .val (.ref (h0.size)), .val (.int (6 : Int32)), .val (.int (0 : Int32)), .val (.ref (w 1))] [(.int pa0), (.int (0 : Int32))])) (fun t k => XS.iloadN X103.here hx rfl (hb hby d1_24) rfl k) ?_
  refine Go.on (T' := T103) (g' := (mkF m 31 #[.val (.int pa0), .val (.ref (h0.size)), .val (.int (6 : Int32)), .val (.int (0 : Int32)), .val (.ref (w 1))] [])) (fun t k => XS.icmpYes X103.here hx rfl (pc0 := 25) (pc' := 31) rfl (hb hby d1_25) rfl (feq hp0).2 (by decide) (by decide) k) ?_
  refine Go.on (T' := T103) (g' := (mkF m 34 #[.val (.int pa0), .val (.ref (h0.size)), .val (.int (6 : Int32)), .val (.int (1 : Int32)), .val (.ref (w 1))] [])) (fun t k => XS.iinc X103.here hx rfl (hb hby d1_31) rfl (l' := #[.val (.int pa0), .val (.ref (h0.size)), .val (.int (6 : Int32)), .val (.int (1 : Int32)), .val (.ref (w 1))]) rfl k) ?_
  refine Go.on (T' := T103) (g' := (mkF m 9 #[.val (.int pa0), .val (.ref (h0.size)), .val (.int (6 : Int32)), .val (.int (1 : Int32)), .val (.ref (w 1))] [])) (fun t k => XS.goto X103.here hx rfl (pc0 := 34) (pc' := 9) rfl (hb hby d1_34) (by decide) (by decide) k) ?_
  refine Go.on (T' := T103) (g' := (mkF m 10 #[.val (.int pa0), .val (.ref (h0.size)), .val (.int (6 : Int32)), .val (.int (1 : Int32)), .val (.ref (w 1))] [(.int (1 : Int32))])) (fun t k => XS.iloadN X103.here hx rfl (hb hby d1_9) rfl k) ?_
  refine Go.on (T' := T103) (g' := (mkF m 11 #[.val (.int pa0), .val (.ref (h0.size)), .val (.int (6 : Int32)), .val (.int (1 : Int32)), .val (.ref (w 1))] [(.int (6 : Int32)), (.int (1 : Int32))])) (fun t k => XS.iloadN X103.here hx rfl (hb hby d1_10) rfl k) ?_
  refine Go.on (T' := T103) (g' := (mkF m 14 #[.val (.int pa0), .val (.ref (h0.size)), .val (.int (6 : Int32)), .val (.int (1 : Int32)), .val (.ref (w 1))] [])) (fun t k => XS.icmpNo X103.here hx rfl (hb hby d1_11) rfl (tlt (by decide : (1 : Int32) < (6 : Int32))).2.1 k) ?_
  refine Go.on (T' := T103) (g' := (mkF m 15 #[.val (.int pa0), .val (.ref (h0.size)), .val (.int (6 : Int32)), .val (.int (1 : Int32)), .val (.ref (w 1))] [(.ref (h0.size))])) (fun t k => XS.aloadN X103.here hx rfl (hb hby d1_14) rfl rfl k) ?_
  refine Go.on (T' := T103) (g' := (mkF m 16 #[.val (.int pa0), .val (.ref (h0.size)), .val (.int (6 : Int32)), .val (.int (1 : Int32)), .val (.ref (w 1))] [(.int (1 : Int32)), (.ref (h0.size))])) (fun t k => XS.iloadN X103.here hx rfl (hb hby d1_15) rfl k) ?_
  refine Go.on (T' := T103) (g' := (mkF m 17 #[.val (.int pa0), .val (.ref (h0.size)), .val (.int (6 : Int32)), .val (.int (1 : Int32)), .val (.ref (w 1))] [(.ref (w 2))])) (fun t k => X103.aaload hx (j := (1 : Int32)) (v := (.ref (w 2))) (by rw [e103]; exact A102.1) (State.isArrayOf_alike hZ.alike A102.2.1) rfl A102.2.2 (by show ¬ (_ ∨ (6 : Nat) ≤ _); decide) rfl (g := (mkF m 16 #[.val (.int pa0), .val (.ref (h0.size)), .val (.int (6 : Int32)), .val (.int (1 : Int32)), .val (.ref (w 1))] [(.int (1 : Int32)), (.ref (h0.size))])) rfl rfl (hb hby d1_16) t k) ?_
  refine Go.on (T' := T103) (g' := (mkF m 19 #[.val (.int pa0), .val (.ref (h0.size)), .val (.int (6 : Int32)), .val (.int (1 : Int32)), .val (.ref (w 2))] [])) (fun t k => XS.astore X103.here hx rfl (hb hby d1_17) rfl rfl (l' := #[.val (.int pa0), .val (.ref (h0.size)), .val (.int (6 : Int32)), .val (.int (1 : Int32)), .val (.ref (w 2))]) rfl k) ?_
  refine Go.on (T' := T103) (g' := (mkF m 21 #[.val (.int pa0), .val (.ref (h0.size)), .val (.int (6 : Int32)), .val (.int (1 : Int32)), .val (.ref (w 2))] [(.ref (w 2))])) (fun t k => XS.aload X103.here hx rfl (hb hby d1_19) rfl rfl k) ?_
  obtain ⟨T104, X104, e104, st104⟩ := getF X103 hx hZ hown (host := "") (Or.inl (hw _ (List.mem_of_getElem? (i := 25) rfl))) Via.refl e103 (pin_15 (pins_ext XT102 hP)) (g := (mkF m 21 #[.val (.int pa0), .val (.ref (h0.size)), .val (.int (6 : Int32)), .val (.int (1 : Int32)), .val (.ref (w 2))] [(.ref (w 2))])) rfl rfl (hb hby d1_21)
  refine Go.on (T' := T104) (g' := (mkF m 24 #[.val (.int pa0), .val (.ref (h0.size)), .val (.int (6 : Int32)), .val (.int (1 : Int32)), .val (.ref (w 2))] [(.int (1 : Int32))])) st104 ?_
  refine Go.on (T' := T104) (g' := (mkF m 25 #[.val (.int pa0), .val (.ref (h0.size)), .val (.int (6 : Int32)), .val (.int (1 : Int32)), .val (.ref (w 2))] [(.int pa0), (.int (1 : Int32))])) (fun t k => XS.iloadN X104.here hx rfl (hb hby d1_24) rfl k) ?_
  refine Go.on (T' := T104) (g' := (mkF m 31 #[.val (.int pa0), .val (.ref (h0.size)), .val (.int (6 : Int32)), .val (.int (1 : Int32)), .val (.ref (w 2))] [])) (fun t k => XS.icmpYes X104.here hx rfl (pc0 := 25) (pc' := 31) rfl (hb hby d1_25) rfl (feq hp1).2 (by decide) (by decide) k) ?_
  refine Go.on (T' := T104) (g' := (mkF m 34 #[.val (.int pa0), .val (.ref (h0.size)), .val (.int (6 : Int32)), .val (.int (2 : Int32)), .val (.ref (w 2))] [])) (fun t k => XS.iinc X104.here hx rfl (hb hby d1_31) rfl (l' := #[.val (.int pa0), .val (.ref (h0.size)), .val (.int (6 : Int32)), .val (.int (2 : Int32)), .val (.ref (w 2))]) rfl k) ?_
  refine Go.on (T' := T104) (g' := (mkF m 9 #[.val (.int pa0), .val (.ref (h0.size)), .val (.int (6 : Int32)), .val (.int (2 : Int32)), .val (.ref (w 2))] [])) (fun t k => XS.goto X104.here hx rfl (pc0 := 34) (pc' := 9) rfl (hb hby d1_34) (by decide) (by decide) k) ?_
  refine Go.on (T' := T104) (g' := (mkF m 10 #[.val (.int pa0), .val (.ref (h0.size)), .val (.int (6 : Int32)), .val (.int (2 : Int32)), .val (.ref (w 2))] [(.int (2 : Int32))])) (fun t k => XS.iloadN X104.here hx rfl (hb hby d1_9) rfl k) ?_
  refine Go.on (T' := T104) (g' := (mkF m 11 #[.val (.int pa0), .val (.ref (h0.size)), .val (.int (6 : Int32)), .val (.int (2 : Int32)), .val (.ref (w 2))] [(.int (6 : Int32)), (.int (2 : Int32))])) (fun t k => XS.iloadN X104.here hx rfl (hb hby d1_10) rfl k) ?_
  refine Go.on (T' := T104) (g' := (mkF m 14 #[.val (.int pa0), .val (.ref (h0.size)), .val (.int (6 : Int32)), .val (.int (2 : Int32)), .val (.ref (w 2))] [])) (fun t k => XS.icmpNo X104.here hx rfl (hb hby d1_11) rfl (tlt (by decide : (2 : Int32) < (6 : Int32))).2.1 k) ?_
  refine Go.on (T' := T104) (g' := (mkF m 15 #[.val (.int pa0), .val (.ref (h0.size)), .val (.int (6 : Int32)), .val (.int (2 : Int32)), .val (.ref (w 2))] [(.ref (h0.size))])) (fun t k => XS.aloadN X104.here hx rfl (hb hby d1_14) rfl rfl k) ?_
  refine Go.on (T' := T104) (g' := (mkF m 16 #[.val (.int pa0), .val (.ref (h0.size)), .val (.int (6 : Int32)), .val (.int (2 : Int32)), .val (.ref (w 2))] [(.int (2 : Int32)), (.ref (h0.size))])) (fun t k => XS.iloadN X104.here hx rfl (hb hby d1_15) rfl k) ?_
  refine Go.on (T' := T104) (g' := (mkF m 17 #[.val (.int pa0), .val (.ref (h0.size)), .val (.int (6 : Int32)), .val (.int (2 : Int32)), .val (.ref (w 2))] [(.ref (w 3))])) (fun t k => X104.aaload hx (j := (2 : Int32)) (v := (.ref (w 3))) (by rw [e104]; exact A102.1) (State.isArrayOf_alike hZ.alike A102.2.1) rfl A102.2.2 (by show ¬ (_ ∨ (6 : Nat) ≤ _); decide) rfl (g := (mkF m 16 #[.val (.int pa0), .val (.ref (h0.size)), .val (.int (6 : Int32)), .val (.int (2 : Int32)), .val (.ref (w 2))] [(.int (2 : Int32)), (.ref (h0.size))])) rfl rfl (hb hby d1_16) t k) ?_
  refine Go.on (T' := T104) (g' := (mkF m 19 #[.val (.int pa0), .val (.ref (h0.size)), .val (.int (6 : Int32)), .val (.int (2 : Int32)), .val (.ref (w 3))] [])) (fun t k => XS.astore X104.here hx rfl (hb hby d1_17) rfl rfl (l' := #[.val (.int pa0), .val (.ref (h0.size)), .val (.int (6 : Int32)), .val (.int (2 : Int32)), .val (.ref (w 3))]) rfl k) ?_
  refine Go.on (T' := T104) (g' := (mkF m 21 #[.val (.int pa0), .val (.ref (h0.size)), .val (.int (6 : Int32)), .val (.int (2 : Int32)), .val (.ref (w 3))] [(.ref (w 3))])) (fun t k => XS.aload X104.here hx rfl (hb hby d1_19) rfl rfl k) ?_
  obtain ⟨T105, X105, e105, st105⟩ := getF X104 hx hZ hown (host := "") (Or.inl (hw _ (List.mem_of_getElem? (i := 25) rfl))) Via.refl e104 (pin_16 (pins_ext XT102 hP)) (g := (mkF m 21 #[.val (.int pa0), .val (.ref (h0.size)), .val (.int (6 : Int32)), .val (.int (2 : Int32)), .val (.ref (w 3))] [(.ref (w 3))])) rfl rfl (hb hby d1_21)
  refine Go.on (T' := T105) (g' := (mkF m 24 #[.val (.int pa0), .val (.ref (h0.size)), .val (.int (6 : Int32)), .val (.int (2 : Int32)), .val (.ref (w 3))] [(.int (2 : Int32))])) st105 ?_
  refine Go.on (T' := T105) (g' := (mkF m 25 #[.val (.int pa0), .val (.ref (h0.size)), .val (.int (6 : Int32)), .val (.int (2 : Int32)), .val (.ref (w 3))] [(.int pa0), (.int (2 : Int32))])) (fun t k => XS.iloadN X105.here hx rfl (hb hby d1_24) rfl k) ?_
  refine Go.on (T' := T105) (g' := (mkF m 31 #[.val (.int pa0), .val (.ref (h0.size)), .val (.int (6 : Int32)), .val (.int (2 : Int32)), .val (.ref (w 3))] [])) (fun t k => XS.icmpYes X105.here hx rfl (pc0 := 25) (pc' := 31) rfl (hb hby d1_25) rfl (feq hp2).2 (by decide) (by decide) k) ?_
  refine Go.on (T' := T105) (g' := (mkF m 34 #[.val (.int pa0), .val (.ref (h0.size)), .val (.int (6 : Int32)), .val (.int (3 : Int32)), .val (.ref (w 3))] [])) (fun t k => XS.iinc X105.here hx rfl (hb hby d1_31) rfl (l' := #[.val (.int pa0), .val (.ref (h0.size)), .val (.int (6 : Int32)), .val (.int (3 : Int32)), .val (.ref (w 3))]) rfl k) ?_
  refine Go.on (T' := T105) (g' := (mkF m 9 #[.val (.int pa0), .val (.ref (h0.size)), .val (.int (6 : Int32)), .val (.int (3 : Int32)), .val (.ref (w 3))] [])) (fun t k => XS.goto X105.here hx rfl (pc0 := 34) (pc' := 9) rfl (hb hby d1_34) (by decide) (by decide) k) ?_
  refine Go.on (T' := T105) (g' := (mkF m 10 #[.val (.int pa0), .val (.ref (h0.size)), .val (.int (6 : Int32)), .val (.int (3 : Int32)), .val (.ref (w 3))] [(.int (3 : Int32))])) (fun t k => XS.iloadN X105.here hx rfl (hb hby d1_9) rfl k) ?_
  refine Go.on (T' := T105) (g' := (mkF m 11 #[.val (.int pa0), .val (.ref (h0.size)), .val (.int (6 : Int32)), .val (.int (3 : Int32)), .val (.ref (w 3))] [(.int (6 : Int32)), (.int (3 : Int32))])) (fun t k => XS.iloadN X105.here hx rfl (hb hby d1_10) rfl k) ?_
  refine Go.on (T' := T105) (g' := (mkF m 14 #[.val (.int pa0), .val (.ref (h0.size)), .val (.int (6 : Int32)), .val (.int (3 : Int32)), .val (.ref (w 3))] [])) (fun t k => XS.icmpNo X105.here hx rfl (hb hby d1_11) rfl (tlt (by decide : (3 : Int32) < (6 : Int32))).2.1 k) ?_
  refine Go.on (T' := T105) (g' := (mkF m 15 #[.val (.int pa0), .val (.ref (h0.size)), .val (.int (6 : Int32)), .val (.int (3 : Int32)), .val (.ref (w 3))] [(.ref (h0.size))])) (fun t k => XS.aloadN X105.here hx rfl (hb hby d1_14) rfl rfl k) ?_
  refine Go.on (T' := T105) (g' := (mkF m 16 #[.val (.int pa0), .val (.ref (h0.size)), .val (.int (6 : Int32)), .val (.int (3 : Int32)), .val (.ref (w 3))] [(.int (3 : Int32)), (.ref (h0.size))])) (fun t k => XS.iloadN X105.here hx rfl (hb hby d1_15) rfl k) ?_
  refine Go.on (T' := T105) (g' := (mkF m 17 #[.val (.int pa0), .val (.ref (h0.size)), .val (.int (6 : Int32)), .val (.int (3 : Int32)), .val (.ref (w 3))] [(.ref (w 4))])) (fun t k => X105.aaload hx (j := (3 : Int32)) (v := (.ref (w 4))) (by rw [e105]; exact A102.1) (State.isArrayOf_alike hZ.alike A102.2.1) rfl A102.2.2 (by show ¬ (_ ∨ (6 : Nat) ≤ _); decide) rfl (g := (mkF m 16 #[.val (.int pa0), .val (.ref (h0.size)), .val (.int (6 : Int32)), .val (.int (3 : Int32)), .val (.ref (w 3))] [(.int (3 : Int32)), (.ref (h0.size))])) rfl rfl (hb hby d1_16) t k) ?_
  refine Go.on (T' := T105) (g' := (mkF m 19 #[.val (.int pa0), .val (.ref (h0.size)), .val (.int (6 : Int32)), .val (.int (3 : Int32)), .val (.ref (w 4))] [])) (fun t k => XS.astore X105.here hx rfl (hb hby d1_17) rfl rfl (l' := #[.val (.int pa0), .val (.ref (h0.size)), .val (.int (6 : Int32)), .val (.int (3 : Int32)), .val (.ref (w 4))]) rfl k) ?_
  refine Go.on (T' := T105) (g' := (mkF m 21 #[.val (.int pa0), .val (.ref (h0.size)), .val (.int (6 : Int32)), .val (.int (3 : Int32)), .val (.ref (w 4))] [(.ref (w 4))])) (fun t k => XS.aload X105.here hx rfl (hb hby d1_19) rfl rfl k) ?_
  obtain ⟨T106, X106, e106, st106⟩ := getF X105 hx hZ hown (host := "") (Or.inl (hw _ (List.mem_of_getElem? (i := 25) rfl))) Via.refl e105 (pin_17 (pins_ext XT102 hP)) (g := (mkF m 21 #[.val (.int pa0), .val (.ref (h0.size)), .val (.int (6 : Int32)), .val (.int (3 : Int32)), .val (.ref (w 4))] [(.ref (w 4))])) rfl rfl (hb hby d1_21)
  refine Go.on (T' := T106) (g' := (mkF m 24 #[.val (.int pa0), .val (.ref (h0.size)), .val (.int (6 : Int32)), .val (.int (3 : Int32)), .val (.ref (w 4))] [(.int (3 : Int32))])) st106 ?_
  refine Go.on (T' := T106) (g' := (mkF m 25 #[.val (.int pa0), .val (.ref (h0.size)), .val (.int (6 : Int32)), .val (.int (3 : Int32)), .val (.ref (w 4))] [(.int pa0), (.int (3 : Int32))])) (fun t k => XS.iloadN X106.here hx rfl (hb hby d1_24) rfl k) ?_
  refine Go.on (T' := T106) (g' := (mkF m 31 #[.val (.int pa0), .val (.ref (h0.size)), .val (.int (6 : Int32)), .val (.int (3 : Int32)), .val (.ref (w 4))] [])) (fun t k => XS.icmpYes X106.here hx rfl (pc0 := 25) (pc' := 31) rfl (hb hby d1_25) rfl (feq hp3).2 (by decide) (by decide) k) ?_
  refine Go.on (T' := T106) (g' := (mkF m 34 #[.val (.int pa0), .val (.ref (h0.size)), .val (.int (6 : Int32)), .val (.int (4 : Int32)), .val (.ref (w 4))] [])) (fun t k => XS.iinc X106.here hx rfl (hb hby d1_31) rfl (l' := #[.val (.int pa0), .val (.ref (h0.size)), .val (.int (6 : Int32)), .val (.int (4 : Int32)), .val (.ref (w 4))]) rfl k) ?_
  refine Go.on (T' := T106) (g' := (mkF m 9 #[.val (.int pa0), .val (.ref (h0.size)), .val (.int (6 : Int32)), .val (.int (4 : Int32)), .val (.ref (w 4))] [])) (fun t k => XS.goto X106.here hx rfl (pc0 := 34) (pc' := 9) rfl (hb hby d1_34) (by decide) (by decide) k) ?_
  refine Go.on (T' := T106) (g' := (mkF m 10 #[.val (.int pa0), .val (.ref (h0.size)), .val (.int (6 : Int32)), .val (.int (4 : Int32)), .val (.ref (w 4))] [(.int (4 : Int32))])) (fun t k => XS.iloadN X106.here hx rfl (hb hby d1_9) rfl k) ?_
  refine Go.on (T' := T106) (g' := (mkF m 11 #[.val (.int pa0), .val (.ref (h0.size)), .val (.int (6 : Int32)), .val (.int (4 : Int32)), .val (.ref (w 4))] [(.int (6 : Int32)), (.int (4 : Int32))])) (fun t k => XS.iloadN X106.here hx rfl (hb hby d1_10) rfl k) ?_
  refine Go.on (T' := T106) (g' := (mkF m 14 #[.val (.int pa0), .val (.ref (h0.size)), .val (.int (6 : Int32)), .val (.int (4 : Int32)), .val (.ref (w 4))] [])) (fun t k => XS.icmpNo X106.here hx rfl (hb hby d1_11) rfl (tlt (by decide : (4 : Int32) < (6 : Int32))).2.1 k) ?_
  refine Go.on (T' := T106) (g' := (mkF m 15 #[.val (.int pa0), .val (.ref (h0.size)), .val (.int (6 : Int32)), .val (.int (4 : Int32)), .val (.ref (w 4))] [(.ref (h0.size))])) (fun t k => XS.aloadN X106.here hx rfl (hb hby d1_14) rfl rfl k) ?_
  refine Go.on (T' := T106) (g' := (mkF m 16 #[.val (.int pa0), .val (.ref (h0.size)), .val (.int (6 : Int32)), .val (.int (4 : Int32)), .val (.ref (w 4))] [(.int (4 : Int32)), (.ref (h0.size))])) (fun t k => XS.iloadN X106.here hx rfl (hb hby d1_15) rfl k) ?_
  refine Go.on (T' := T106) (g' := (mkF m 17 #[.val (.int pa0), .val (.ref (h0.size)), .val (.int (6 : Int32)), .val (.int (4 : Int32)), .val (.ref (w 4))] [(.ref (w 5))])) (fun t k => X106.aaload hx (j := (4 : Int32)) (v := (.ref (w 5))) (by rw [e106]; exact A102.1) (State.isArrayOf_alike hZ.alike A102.2.1) rfl A102.2.2 (by show ¬ (_ ∨ (6 : Nat) ≤ _); decide) rfl (g := (mkF m 16 #[.val (.int pa0), .val (.ref (h0.size)), .val (.int (6 : Int32)), .val (.int (4 : Int32)), .val (.ref (w 4))] [(.int (4 : Int32)), (.ref (h0.size))])) rfl rfl (hb hby d1_16) t k) ?_
  refine Go.on (T' := T106) (g' := (mkF m 19 #[.val (.int pa0), .val (.ref (h0.size)), .val (.int (6 : Int32)), .val (.int (4 : Int32)), .val (.ref (w 5))] [])) (fun t k => XS.astore X106.here hx rfl (hb hby d1_17) rfl rfl (l' := #[.val (.int pa0), .val (.ref (h0.size)), .val (.int (6 : Int32)), .val (.int (4 : Int32)), .val (.ref (w 5))]) rfl k) ?_
  refine Go.on (T' := T106) (g' := (mkF m 21 #[.val (.int pa0), .val (.ref (h0.size)), .val (.int (6 : Int32)), .val (.int (4 : Int32)), .val (.ref (w 5))] [(.ref (w 5))])) (fun t k => XS.aload X106.here hx rfl (hb hby d1_19) rfl rfl k) ?_
  obtain ⟨T107, X107, e107, st107⟩ := getF X106 hx hZ hown (host := "") (Or.inl (hw _ (List.mem_of_getElem? (i := 25) rfl))) Via.refl e106 (pin_18 (pins_ext XT102 hP)) (g := (mkF m 21 #[.val (.int pa0), .val (.ref (h0.size)), .val (.int (6 : Int32)), .val (.int (4 : Int32)), .val (.ref (w 5))] [(.ref (w 5))])) rfl rfl (hb hby d1_21)
  refine Go.on (T' := T107) (g' := (mkF m 24 #[.val (.int pa0), .val (.ref (h0.size)), .val (.int (6 : Int32)), .val (.int (4 : Int32)), .val (.ref (w 5))] [(.int (4 : Int32))])) st107 ?_
  refine Go.on (T' := T107) (g' := (mkF m 25 #[.val (.int pa0), .val (.ref (h0.size)), .val (.int (6 : Int32)), .val (.int (4 : Int32)), .val (.ref (w 5))] [(.int pa0), (.int (4 : Int32))])) (fun t k => XS.iloadN X107.here hx rfl (hb hby d1_24) rfl k) ?_
  refine Go.on (T' := T107) (g' := (mkF m 31 #[.val (.int pa0), .val (.ref (h0.size)), .val (.int (6 : Int32)), .val (.int (4 : Int32)), .val (.ref (w 5))] [])) (fun t k => XS.icmpYes X107.here hx rfl (pc0 := 25) (pc' := 31) rfl (hb hby d1_25) rfl (feq hp4).2 (by decide) (by decide) k) ?_
  refine Go.on (T' := T107) (g' := (mkF m 34 #[.val (.int pa0), .val (.ref (h0.size)), .val (.int (6 : Int32)), .val (.int (5 : Int32)), .val (.ref (w 5))] [])) (fun t k => XS.iinc X107.here hx rfl (hb hby d1_31) rfl (l' := #[.val (.int pa0), .val (.ref (h0.size)), .val (.int (6 : Int32)), .val (.int (5 : Int32)), .val (.ref (w 5))]) rfl k) ?_
  refine Go.on (T' := T107) (g' := (mkF m 9 #[.val (.int pa0), .val (.ref (h0.size)), .val (.int (6 : Int32)), .val (.int (5 : Int32)), .val (.ref (w 5))] [])) (fun t k => XS.goto X107.here hx rfl (pc0 := 34) (pc' := 9) rfl (hb hby d1_34) (by decide) (by decide) k) ?_
  refine Go.on (T' := T107) (g' := (mkF m 10 #[.val (.int pa0), .val (.ref (h0.size)), .val (.int (6 : Int32)), .val (.int (5 : Int32)), .val (.ref (w 5))] [(.int (5 : Int32))])) (fun t k => XS.iloadN X107.here hx rfl (hb hby d1_9) rfl k) ?_
  refine Go.on (T' := T107) (g' := (mkF m 11 #[.val (.int pa0), .val (.ref (h0.size)), .val (.int (6 : Int32)), .val (.int (5 : Int32)), .val (.ref (w 5))] [(.int (6 : Int32)), (.int (5 : Int32))])) (fun t k => XS.iloadN X107.here hx rfl (hb hby d1_10) rfl k) ?_
  refine Go.on (T' := T107) (g' := (mkF m 14 #[.val (.int pa0), .val (.ref (h0.size)), .val (.int (6 : Int32)), .val (.int (5 : Int32)), .val (.ref (w 5))] [])) (fun t k => XS.icmpNo X107.here hx rfl (hb hby d1_11) rfl (tlt (by decide : (5 : Int32) < (6 : Int32))).2.1 k) ?_
  refine Go.on (T' := T107) (g' := (mkF m 15 #[.val (.int pa0), .val (.ref (h0.size)), .val (.int (6 : Int32)), .val (.int (5 : Int32)), .val (.ref (w 5))] [(.ref (h0.size))])) (fun t k => XS.aloadN X107.here hx rfl (hb hby d1_14) rfl rfl k) ?_
  refine Go.on (T' := T107) (g' := (mkF m 16 #[.val (.int pa0), .val (.ref (h0.size)), .val (.int (6 : Int32)), .val (.int (5 : Int32)), .val (.ref (w 5))] [(.int (5 : Int32)), (.ref (h0.size))])) (fun t k => XS.iloadN X107.here hx rfl (hb hby d1_15) rfl k) ?_
  refine Go.on (T' := T107) (g' := (mkF m 17 #[.val (.int pa0), .val (.ref (h0.size)), .val (.int (6 : Int32)), .val (.int (5 : Int32)), .val (.ref (w 5))] [(.ref (w 6))])) (fun t k => X107.aaload hx (j := (5 : Int32)) (v := (.ref (w 6))) (by rw [e107]; exact A102.1) (State.isArrayOf_alike hZ.alike A102.2.1) rfl A102.2.2 (by show ¬ (_ ∨ (6 : Nat) ≤ _); decide) rfl (g := (mkF m 16 #[.val (.int pa0), .val (.ref (h0.size)), .val (.int (6 : Int32)), .val (.int (5 : Int32)), .val (.ref (w 5))] [(.int (5 : Int32)), (.ref (h0.size))])) rfl rfl (hb hby d1_16) t k) ?_
  refine Go.on (T' := T107) (g' := (mkF m 19 #[.val (.int pa0), .val (.ref (h0.size)), .val (.int (6 : Int32)), .val (.int (5 : Int32)), .val (.ref (w 6))] [])) (fun t k => XS.astore X107.here hx rfl (hb hby d1_17) rfl rfl (l' := #[.val (.int pa0), .val (.ref (h0.size)), .val (.int (6 : Int32)), .val (.int (5 : Int32)), .val (.ref (w 6))]) rfl k) ?_
  refine Go.on (T' := T107) (g' := (mkF m 21 #[.val (.int pa0), .val (.ref (h0.size)), .val (.int (6 : Int32)), .val (.int (5 : Int32)), .val (.ref (w 6))] [(.ref (w 6))])) (fun t k => XS.aload X107.here hx rfl (hb hby d1_19) rfl rfl k) ?_
  obtain ⟨T108, X108, e108, st108⟩ := getF X107 hx hZ hown (host := "") (Or.inl (hw _ (List.mem_of_getElem? (i := 25) rfl))) Via.refl e107 (pin_19 (pins_ext XT102 hP)) (g := (mkF m 21 #[.val (.int pa0), .val (.ref (h0.size)), .val (.int (6 : Int32)), .val (.int (5 : Int32)), .val (.ref (w 6))] [(.ref (w 6))])) rfl rfl (hb hby d1_21)
  refine Go.on (T' := T108) (g' := (mkF m 24 #[.val (.int pa0), .val (.ref (h0.size)), .val (.int (6 : Int32)), .val (.int (5 : Int32)), .val (.ref (w 6))] [(.int (5 : Int32))])) st108 ?_
  refine Go.on (T' := T108) (g' := (mkF m 25 #[.val (.int pa0), .val (.ref (h0.size)), .val (.int (6 : Int32)), .val (.int (5 : Int32)), .val (.ref (w 6))] [(.int pa0), (.int (5 : Int32))])) (fun t k => XS.iloadN X108.here hx rfl (hb hby d1_24) rfl k) ?_
  refine Go.on (T' := T108) (g' := (mkF m 31 #[.val (.int pa0), .val (.ref (h0.size)), .val (.int (6 : Int32)), .val (.int (5 : Int32)), .val (.ref (w 6))] [])) (fun t k => XS.icmpYes X108.here hx rfl (pc0 := 25) (pc' := 31) rfl (hb hby d1_25) rfl (feq hp5).2 (by decide) (by decide) k) ?_
  refine Go.on (T' := T108) (g' := (mkF m 34 #[.val (.int pa0), .val (.ref (h0.size)), .val (.int (6 : Int32)), .val (.int (6 : Int32)), .val (.ref (w 6))] [])) (fun t k => XS.iinc X108.here hx rfl (hb hby d1_31) rfl (l' := #[.val (.int pa0), .val (.ref (h0.size)), .val (.int (6 : Int32)), .val (.int (6 : Int32)), .val (.ref (w 6))]) rfl k) ?_
  refine Go.on (T' := T108) (g' := (mkF m 9 #[.val (.int pa0), .val (.ref (h0.size)), .val (.int (6 : Int32)), .val (.int (6 : Int32)), .val (.ref (w 6))] [])) (fun t k => XS.goto X108.here hx rfl (pc0 := 34) (pc' := 9) rfl (hb hby d1_34) (by decide) (by decide) k) ?_
  refine Go.on (T' := T108) (g' := (mkF m 10 #[.val (.int pa0), .val (.ref (h0.size)), .val (.int (6 : Int32)), .val (.int (6 : Int32)), .val (.ref (w 6))] [(.int (6 : Int32))])) (fun t k => XS.iloadN X108.here hx rfl (hb hby d1_9) rfl k) ?_
  refine Go.on (T' := T108) (g' := (mkF m 11 #[.val (.int pa0), .val (.ref (h0.size)), .val (.int (6 : Int32)), .val (.int (6 : Int32)), .val (.ref (w 6))] [(.int (6 : Int32)), (.int (6 : Int32))])) (fun t k => XS.iloadN X108.here hx rfl (hb hby d1_10) rfl k) ?_
  refine Go.on (T' := T108) (g' := (mkF m 37 #[.val (.int pa0), .val (.ref (h0.size)), .val (.int (6 : Int32)), .val (.int (6 : Int32)), .val (.ref (w 6))] [])) (fun t k => XS.icmpYes X108.here hx rfl (pc0 := 11) (pc' := 37) rfl (hb hby d1_11) rfl (flt (by decide : ¬ ((6 : Int32) < (6 : Int32)))).2.1 (by decide) (by decide) k) ?_
  refine Go.on (T' := T108) (g' := (mkF m 38 #[.val (.int pa0), .val (.ref (h0.size)), .val (.int (6 : Int32)), .val (.int (6 : Int32)), .val (.ref (w 6))] [.null])) (fun t k => XS.aconstNull X108.here hx rfl (hb hby d1_37) k) ?_
  obtain ⟨fs, hr, hrun, hended, hW, hsame⟩ := X108.leave (v := some .null) (fun h => by rw [Bd.returns] at h; cases h)
  exact ⟨_, _, retOut X108 hx Bd.returns rfl (Or.inr (Or.inr (Or.inr (Or.inr ⟨rfl, rfl, rfl⟩)))) (hb hby d1_38) hr, hrun, hended, _, _, rfl, ⟨rfl, N102, own_extE e108 XT102, trivial⟩, ⟨_, rfl⟩, hW, hsame.mono (by decide) (by decide)⟩
theorem d3_53 : decode method_3_code 53 = .ok (.aconst_null, 1) := by decide +kernel
theorem d3_54 : decode method_3_code 54 = .ok (.areturn, 1) := by decide +kernel
set_option maxRecDepth 65536 in
set_option maxHeartbeats 40000000 in
theorem rm3_6 (l : Launch) (Z : State) (a0 : Array Value) (hw : ∀ d ∈ tables_1, d.before a0 Z = true) (ws : List Jvm.Cond) (w : Nat → Addr) (h0 : Heap) (n0 : Nat) (Z0 : n0 ≤ h0.size) (hP : Pins Z h0 w) (pa0 : Int32) (hp0 : ¬ (pa0 = (0 : Int32))) (hp1 : ¬ (pa0 = (1 : Int32))) (hp2 : ¬ (pa0 = (2 : Int32))) (hp3 : ¬ (pa0 = (3 : Int32))) (hp4 : ¬ (pa0 = (4 : Int32))) (hp5 : ¬ (pa0 = (5 : Int32))) :
    MetFree l (⟨"com/example/stubwright/stubwright/PacketTypeFromCodePinLaw", "expected", "(I)Lcom/example/stubwright/stubwright/PacketType;"⟩ : MethodName) (head1 (Jvm.Cond.code (⟨"com/example/stubwright/stubwright/PacketTypeFromCodePinLaw", "expected", "(I)Lcom/example/stubwright/stubwright/PacketType;"⟩ : MethodName) method_3_code 1 (some (.object "com/example/stubwright/stubwright/PacketType")) :: ws) ({ frames := 0, cells := 0, slots := 0, locals := 0 } : Room)) (fun a U => a = #[(.int pa0)] ∧ Z.Warmed39 U.vm ∧ U.heap = h0) (fun _ _ _ _ _ => True) (fun _ U o U' => ∃ v L, o = .returned v ∧ Qp (some .null) h0 n0 v U'.heap L ∧ FrameEnd U o U' L ({ frames := 0, cells := 0, slots := 0, locals := 0 } : Room).cells ({ frames := 0, cells := 0, slots := 0, locals := 0 } : Room).slots) := by
  refine MetFree.of_bodySF (plainFor_of_name pn_1) hisR ?_
  intro p e s m args below meth c s₁ Bd hml0 hP0 hK
  obtain ⟨rfl, hZ, hh⟩ := hP0
  have hx := Bd.exec
  have hby := Bd.bytes
  have hml : c.maxLocals = 1 := hml0
  have hown : s.vm.findClass "com/example/stubwright/stubwright/PacketTypeFromCodePinLaw" = some m.cls := findClass_of_methodNamed Bd.named
  have hnm := (name_of_methodNamed Bd.named Bd.method).1
  have X0 : Stand p l e ({ frames := 0, cells := 0, slots := 0, locals := 0 } : Room) s m #[(.int pa0)] below meth c s₁ [] 0 0 := Stand.of_body Bd
  have e0 : s₁.heap = h0 := by rw [← hh, Bd.state]; rfl
  have N0 := Fr.nil n0
  suffices hgo : Go p e below (fun o U' => ∃ v L, o = .returned v ∧ Qp (some .null) h0 n0 v U'.heap L ∧ FrameEnd s o U' L ({ frames := 0, cells := 0, slots := 0, locals := 0 } : Room).cells ({ frames := 0, cells := 0, slots := 0, locals := 0 } : Room).slots) s₁ (mkF m 0 #[.val (.int pa0)] []) by
    obtain ⟨s2, o, g1, g2, g3, g4⟩ := hgo
    refine ⟨s2, o, castTop (?_ : entryFrame m #[(.int pa0)] 1 = _) g1, g2, g3, g4⟩
    first | (simp [entryFrame, mkF, argsToLocals, Value.category]; done) | rfl
  refine Go.on (T' := s₁) (g' := (mkF m 1 #[.val (.int pa0)] [(.int pa0)])) (fun t k => XS.iloadN X0.here hx rfl (hb hby d3_0) rfl k) ?_
  refine Go.on (T' := s₁) (g' := (mkF m 8 #[.val (.int pa0)] [])) (fun t k => XS.ifYes X0.here hx rfl (pc0 := 1) (pc' := 8) rfl (hb hby d3_1) rfl ((if0 _ _).trans (feq hp0).2) (by decide) (by decide) k) ?_
  refine Go.on (T' := s₁) (g' := (mkF m 9 #[.val (.int pa0)] [(.int pa0)])) (fun t k => XS.iloadN X0.here hx rfl (hb hby d3_8) rfl k) ?_
  refine Go.on (T' := s₁) (g' := (mkF m 10 #[.val (.int pa0)] [(.int (1 : Int32)), (.int pa0)])) (fun t k => XS.iconst X0.here hx rfl (hb hby d3_9) k) ?_
  refine Go.on (T' := s₁) (g' := (mkF m 17 #[.val (.int pa0)] [])) (fun t k => XS.icmpYes X0.here hx rfl (pc0 := 10) (pc' := 17) rfl (hb hby d3_10) rfl (feq hp1).2 (by decide) (by decide) k) ?_
  refine Go.on (T' := s₁) (g' := (mkF m 18 #[.val (.int pa0)] [(.int pa0)])) (fun t k => XS.iloadN X0.here hx rfl (hb hby d3_17) rfl k) ?_
  refine Go.on (T' := s₁) (g' := (mkF m 19 #[.val (.int pa0)] [(.int (2 : Int32)), (.int pa0)])) (fun t k => XS.iconst X0.here hx rfl (hb hby d3_18) k) ?_
  refine Go.on (T' := s₁) (g' := (mkF m 26 #[.val (.int pa0)] [])) (fun t k => XS.icmpYes X0.here hx rfl (pc0 := 19) (pc' := 26) rfl (hb hby d3_19) rfl (feq hp2).2 (by decide) (by decide) k) ?_
  refine Go.on (T' := s₁) (g' := (mkF m 27 #[.val (.int pa0)] [(.int pa0)])) (fun t k => XS.iloadN X0.here hx rfl (hb hby d3_26) rfl k) ?_
  refine Go.on (T' := s₁) (g' := (mkF m 28 #[.val (.int pa0)] [(.int (3 : Int32)), (.int pa0)])) (fun t k => XS.iconst X0.here hx rfl (hb hby d3_27) k) ?_
  refine Go.on (T' := s₁) (g' := (mkF m 35 #[.val (.int pa0)] [])) (fun t k => XS.icmpYes X0.here hx rfl (pc0 := 28) (pc' := 35) rfl (hb hby d3_28) rfl (feq hp3).2 (by decide) (by decide) k) ?_
  refine Go.on (T' := s₁) (g' := (mkF m 36 #[.val (.int pa0)] [(.int pa0)])) (fun t k => XS.iloadN X0.here hx rfl (hb hby d3_35) rfl k) ?_
  refine Go.on (T' := s₁) (g' := (mkF m 37 #[.val (.int pa0)] [(.int (4 : Int32)), (.int pa0)])) (fun t k => XS.iconst X0.here hx rfl (hb hby d3_36) k) ?_
  refine Go.on (T' := s₁) (g' := (mkF m 44 #[.val (.int pa0)] [])) (fun t k => XS.icmpYes X0.here hx rfl (pc0 := 37) (pc' := 44) rfl (hb hby d3_37) rfl (feq hp4).2 (by decide) (by decide) k) ?_
  refine Go.on (T' := s₁) (g' := (mkF m 45 #[.val (.int pa0)] [(.int pa0)])) (fun t k => XS.iloadN X0.here hx rfl (hb hby d3_44) rfl k) ?_
  refine Go.on (T' := s₁) (g' := (mkF m 46 #[.val (.int pa0)] [(.int (5 : Int32)), (.int pa0)])) (fun t k => XS.iconst X0.here hx rfl (hb hby d3_45) k) ?_
  refine Go.on (T' := s₁) (g' := (mkF m 53 #[.val (.int pa0)] [])) (fun t k => XS.icmpYes X0.here hx rfl (pc0 := 46) (pc' := 53) rfl (hb hby d3_46) rfl (feq hp5).2 (by decide) (by decide) k) ?_
  refine Go.on (T' := s₁) (g' := (mkF m 54 #[.val (.int pa0)] [.null])) (fun t k => XS.aconstNull X0.here hx rfl (hb hby d3_53) k) ?_
  obtain ⟨fs, hr, hrun, hended, hW, hsame⟩ := X0.leave (v := some .null) (fun h => by rw [Bd.returns] at h; cases h)
  exact ⟨_, _, retOut X0 hx Bd.returns rfl (Or.inr (Or.inr (Or.inr (Or.inr ⟨rfl, rfl, rfl⟩)))) (hb hby d3_54) hr, hrun, hended, _, _, rfl, ⟨rfl, N0, e0⟩, ⟨_, rfl⟩, hW, hsame.mono (by decide) (by decide)⟩
set_option maxRecDepth 65536 in
set_option maxHeartbeats 40000000 in
theorem rm0 (l : Launch) (Z : State) (a0 : Array Value) (hw : ∀ d ∈ tables_1, d.before a0 Z = true) (ws : List Jvm.Cond) (w : Nat → Addr) (h0 : Heap) (n0 : Nat) (Z0 : n0 ≤ h0.size) (hP : Pins Z h0 w) (i0 : Int32) (i1 : Int32) :
    MetFree l x (head1 (Jvm.Cond.code x code maxLocals ret :: ws) room_1) (fun a U => a = #[(.int i0), (.int i1)] ∧ Z.Warmed39 U.vm ∧ U.heap = h0) (fun _ _ _ _ _ => True) (fun _ U o U' => ∃ v L, o = .returned v ∧ Ql (some (.int (1 : Int32))) n0 v L ∧ FrameEnd U o U' L 16 128) := by
  refine MetFree.of_bodySF (plainFor_of_name pn_1) hisR ?_
  intro p e s m args below meth c s₁ Bd hml0 hP0 hK
  obtain ⟨rfl, hZ, hh⟩ := hP0
  have hx := Bd.exec
  have hby := Bd.bytes
  have hml : c.maxLocals = 5 := hml0
  have hown : s.vm.findClass "com/example/stubwright/stubwright/PacketTypeFromCodePinLaw" = some m.cls := findClass_of_methodNamed Bd.named
  have hnm := (name_of_methodNamed Bd.named Bd.method).1
  have X0 : Stand p l e room_1 s m #[(.int i0), (.int i1)] below meth c s₁ [] 0 0 := Stand.of_body Bd
  have e0 : s₁.heap = h0 := by rw [← hh, Bd.state]; rfl
  have N0 := Fr.nil n0
  suffices hgo : Go p e below (fun o U' => ∃ v L, o = .returned v ∧ Ql (some (.int (1 : Int32))) n0 v L ∧ FrameEnd s o U' L 16 128) s₁ (mkF m 0 #[.val (.int i0), .val (.int i1), .unset, .unset, .unset] []) by
    obtain ⟨s2, o, g1, g2, g3, g4⟩ := hgo
    refine ⟨s2, o, castTop (?_ : entryFrame m #[(.int i0), (.int i1)] maxLocals = _) g1, g2, g3, g4⟩
    first | (simp [entryFrame, mkF, argsToLocals, Value.category, maxLocals]; done) | rfl
  refine Go.on (T' := s₁) (g' := (mkF m 1 #[.val (.int i0), .val (.int i1), .unset, .unset, .unset] [(.int i1)])) (fun t k => XS.iloadN X0.here hx rfl (hb hby at_0) rfl k) ?_
  refine Go.on (T' := s₁) (g' := (mkF m 2 #[.val (.int i0), .val (.int i1), .unset, .unset, .unset] [(.int (1 : Int32)), (.int i1)])) (fun t k => XS.iconst X0.here hx rfl (hb hby at_1) k) ?_
  refine Go.on (T' := s₁) (g' := (mkF m 3 #[.val (.int i0), .val (.int i1), .unset, .unset, .unset] [(.int (i1 &&& (1 : Int32)))])) (fun t k => XS.iand X0.here hx rfl (hb hby at_2) rfl k) ?_
  by_cases h1 : (i1 &&& (1 : Int32)) = (0 : Int32)
  · skip
    refine Go.on (T' := s₁) (g' := (mkF m 10 #[.val (.int i0), .val (.int i1), .unset, .unset, .unset] [])) (fun t k => XS.ifYes X0.here hx rfl (pc0 := 3) (pc' := 10) rfl (hb hby at_3) rfl ((if0 _ _).trans (teq h1).1) (by decide) (by decide) k) ?_
    refine Go.on (T' := s₁) (g' := (mkF m 11 #[.val (.int i0), .val (.int i1), .unset, .unset, .unset] [(.int i1)])) (fun t k => XS.iloadN X0.here hx rfl (hb hby at_10) rfl k) ?_
    refine Go.on (T' := s₁) (g' := (mkF m 12 #[.val (.int i0), .val (.int i1), .unset, .unset, .unset] [(.int (1 : Int32)), (.int i1)])) (fun t k => XS.iconst X0.here hx rfl (hb hby at_11) k) ?_
    refine Go.on (T' := s₁) (g' := (mkF m 13 #[.val (.int i0), .val (.int i1), .unset, .unset, .unset] [(.int ((i1.toUInt32 >>> ((1 : Int32) &&& 31).toUInt32).toInt32))])) (fun t k => XS.iushr X0.here hx rfl (hb hby at_12) rfl k) ?_
    refine Go.on (T' := s₁) (g' := (mkF m 15 #[.val (.int i0), .val (.int i1), .unset, .unset, .unset] [(.int (8 : Int32)), (.int ((i1.toUInt32 >>> ((1 : Int32) &&& 31).toUInt32).toInt32))])) (fun t k => XS.bipush X0.here hx rfl (hb hby at_13) k) ?_
    refine Go.on (T' := s₁) (g' := (mkF m 16 #[.val (.int i0), .val (.int i1), .unset, .unset, .unset] [(.int (((i1.toUInt32 >>> ((1 : Int32) &&& 31).toUInt32).toInt32) % (8 : Int32)))])) (fun t k => iremM X0 hx rfl (hb hby at_15) rfl (by decide) k) ?_
    refine Go.on (T' := s₁) (g' := (mkF m 17 #[.val (.int i0), .val (.int i1), .unset, .unset, .unset] [(.int (1 : Int32)), (.int (((i1.toUInt32 >>> ((1 : Int32) &&& 31).toUInt32).toInt32) % (8 : Int32)))])) (fun t k => XS.iconst X0.here hx rfl (hb hby at_16) k) ?_
    refine Go.on (T' := s₁) (g' := (mkF m 18 #[.val (.int i0), .val (.int i1), .unset, .unset, .unset] [(.int ((((i1.toUInt32 >>> ((1 : Int32) &&& 31).toUInt32).toInt32) % (8 : Int32)) - (1 : Int32)))])) (fun t k => XS.isub X0.here hx rfl (hb hby at_17) rfl k) ?_
    refine Go.on (T' := s₁) (g' := (mkF m 19 #[.val (.int i0), .val (.int i1), .val (.int ((((i1.toUInt32 >>> ((1 : Int32) &&& 31).toUInt32).toInt32) % (8 : Int32)) - (1 : Int32))), .unset, .unset] [])) (fun t k => XS.istoreN X0.here hx rfl (hb hby at_18) rfl (l' := #[.val (.int i0), .val (.int i1), .val (.int ((((i1.toUInt32 >>> ((1 : Int32) &&& 31).toUInt32).toInt32) % (8 : Int32)) - (1 : Int32))), .unset, .unset]) rfl k) ?_
    refine Go.on (T' := s₁) (g' := (mkF m 20 #[.val (.int i0), .val (.int i1), .val (.int ((((i1.toUInt32 >>> ((1 : Int32) &&& 31).toUInt32).toInt32) % (8 : Int32)) - (1 : Int32))), .unset, .unset] [(.int ((((i1.toUInt32 >>> ((1 : Int32) &&& 31).toUInt32).toInt32) % (8 : Int32)) - (1 : Int32)))])) (fun t k => XS.iloadN X0.here hx rfl (hb hby at_19) rfl k) ?_
    by_cases h18 : (0 : Int32) = ((((i1.toUInt32 >>> ((1 : Int32) &&& 31).toUInt32).toInt32) % (8 : Int32)) - (1 : Int32))
    · skip
      obtain ⟨_, _, ⟨T24, L24, k24, n24⟩, -, X24, ⟨Lc24, hQ24, l24, y24, z24⟩, st24⟩ := Jvm.LawKit.callS X0 hx (y := (⟨"com/example/stubwright/stubwright/PacketType", "fromCode", "(I)Lcom/example/stubwright/stubwright/PacketType;"⟩ : MethodName)) hown (mvT hZ (hw _ (List.mem_of_getElem? (i := 0) rfl))) (mvT hZ (hw _ (List.mem_of_getElem? (i := 1) rfl))) (mvT hZ (hw _ (List.mem_of_getElem? (i := 2) rfl))) (mvT hZ (hw _ (List.mem_of_getElem? (i := 3) rfl))) (by decide) (backOf (W := 0) (rm1_0 l Z a0 hw [] w h0 n0 (Nat.le_trans Z0 (own_ext0 h0).1) hP ((((i1.toUInt32 >>> ((1 : Int32) &&& 31).toUInt32).toInt32) % (8 : Int32)) - (1 : Int32)) h18) hZ (hw _ (List.mem_of_getElem? (i := 3) rfl)) (hw _ (List.mem_of_getElem? (i := 2) rfl)) (by decide) (by decide)) (g := (mkF m 20 #[.val (.int i0), .val (.int i1), .val (.int ((((i1.toUInt32 >>> ((1 : Int32) &&& 31).toUInt32).toInt32) % (8 : Int32)) - (1 : Int32))), .unset, .unset] [(.int ((((i1.toUInt32 >>> ((1 : Int32) &&& 31).toUInt32).toInt32) % (8 : Int32)) - (1 : Int32)))])) rfl (by rw [hml]; rfl) (argsL := [(.int ((((i1.toUInt32 >>> ((1 : Int32) &&& 31).toUInt32).toInt32) % (8 : Int32)) - (1 : Int32)))]) (rest := []) (lenOf pd_1 rfl) rfl (by show 2 * 0 + _ ≤ _; exact Nat.le_of_eq rfl) (hb hby at_20) (fun _ _ => ⟨rfl, e0, (by decide : 0 + 1 ≤ _), (by decide : 0 + 6 ≤ _)⟩)
      dsimp only [Pt.U, Pt.locs, Pt.cells, Pt.slots] at X24 l24 y24 z24 st24 hQ24
      subst l24 y24 z24
      obtain ⟨rfl, N24q, x24, f24⟩ := hQ24
      have N24 := Fr.app N0 N24q
      have e24 : T24.heap = T24.heap := rfl
      have XT24 := own_ext2 (own_ext0 h0) x24
      refine Go.on (T' := T24) (g' := (mkF m 23 #[.val (.int i0), .val (.int i1), .val (.int ((((i1.toUInt32 >>> ((1 : Int32) &&& 31).toUInt32).toInt32) % (8 : Int32)) - (1 : Int32))), .unset, .unset] [(.ref (w 1))])) st24 ?_
      refine Go.on (T' := T24) (g' := (mkF m 24 #[.val (.int i0), .val (.int i1), .val (.int ((((i1.toUInt32 >>> ((1 : Int32) &&& 31).toUInt32).toInt32) % (8 : Int32)) - (1 : Int32))), .val (.ref (w 1)), .unset] [])) (fun t k => XS.astoreN X24.here hx rfl (hb hby at_23) rfl rfl (l' := #[.val (.int i0), .val (.int i1), .val (.int ((((i1.toUInt32 >>> ((1 : Int32) &&& 31).toUInt32).toInt32) % (8 : Int32)) - (1 : Int32))), .val (.ref (w 1)), .unset]) rfl k) ?_
      refine Go.on (T' := T24) (g' := (mkF m 25 #[.val (.int i0), .val (.int i1), .val (.int ((((i1.toUInt32 >>> ((1 : Int32) &&& 31).toUInt32).toInt32) % (8 : Int32)) - (1 : Int32))), .val (.ref (w 1)), .unset] [(.int ((((i1.toUInt32 >>> ((1 : Int32) &&& 31).toUInt32).toInt32) % (8 : Int32)) - (1 : Int32)))])) (fun t k => XS.iloadN X24.here hx rfl (hb hby at_24) rfl k) ?_
      obtain ⟨_, _, ⟨T38, L38, k38, n38⟩, -, X38, ⟨Lc38, hQ38, l38, y38, z38⟩, st38⟩ := Jvm.LawKit.callS X24 hx (y := (⟨"com/example/stubwright/stubwright/PacketTypeFromCodePinLaw", "expected", "(I)Lcom/example/stubwright/stubwright/PacketType;"⟩ : MethodName)) hown (mvT hZ (hw _ (List.mem_of_getElem? (i := 27) rfl))) (mvT hZ (hw _ (List.mem_of_getElem? (i := 28) rfl))) (mvT hZ (hw _ (List.mem_of_getElem? (i := 29) rfl))) (mvT hZ (hw _ (List.mem_of_getElem? (i := 30) rfl))) (by decide) (backOf (W := 0) (rm3_0 l Z a0 hw [] w T24.heap n0 (Nat.le_trans Z0 XT24.1) (pins_ext XT24 hP) ((((i1.toUInt32 >>> ((1 : Int32) &&& 31).toUInt32).toInt32) % (8 : Int32)) - (1 : Int32)) h18.symm) hZ (hw _ (List.mem_of_getElem? (i := 30) rfl)) (hw _ (List.mem_of_getElem? (i := 29) rfl)) (by decide) (by decide)) (g := (mkF m 25 #[.val (.int i0), .val (.int i1), .val (.int ((((i1.toUInt32 >>> ((1 : Int32) &&& 31).toUInt32).toInt32) % (8 : Int32)) - (1 : Int32))), .val (.ref (w 1)), .unset] [(.int ((((i1.toUInt32 >>> ((1 : Int32) &&& 31).toUInt32).toInt32) % (8 : Int32)) - (1 : Int32)))])) rfl (by rw [hml]; rfl) (argsL := [(.int ((((i1.toUInt32 >>> ((1 : Int32) &&& 31).toUInt32).toInt32) % (8 : Int32)) - (1 : Int32)))]) (rest := []) (lenOf pd_1 rfl) rfl (by show 2 * 0 + _ ≤ _; exact Nat.le_of_eq rfl) (hb hby at_25) (fun _ _ => ⟨rfl, e24, (by decide : 1 + 0 ≤ _), (by decide : 6 + 0 ≤ _)⟩)
      dsimp only [Pt.U, Pt.locs, Pt.cells, Pt.slots] at X38 l38 y38 z38 st38 hQ38
      subst l38 y38 z38
      obtain ⟨rfl, N38q, e38⟩ := hQ38
      have N38 := Fr.app N24 N38q
      refine Go.on (T' := T38) (g' := (mkF m 28 #[.val (.int i0), .val (.int i1), .val (.int ((((i1.toUInt32 >>> ((1 : Int32) &&& 31).toUInt32).toInt32) % (8 : Int32)) - (1 : Int32))), .val (.ref (w 1)), .unset] [(.ref (w 1))])) st38 ?_
      refine Go.on (T' := T38) (g' := (mkF m 30 #[.val (.int i0), .val (.int i1), .val (.int ((((i1.toUInt32 >>> ((1 : Int32) &&& 31).toUInt32).toInt32) % (8 : Int32)) - (1 : Int32))), .val (.ref (w 1)), .val (.ref (w 1))] [])) (fun t k => XS.astore X38.here hx rfl (hb hby at_28) rfl rfl (l' := #[.val (.int i0), .val (.int i1), .val (.int ((((i1.toUInt32 >>> ((1 : Int32) &&& 31).toUInt32).toInt32) % (8 : Int32)) - (1 : Int32))), .val (.ref (w 1)), .val (.ref (w 1))]) rfl k) ?_
      refine Go.on (T' := T38) (g' := (mkF m 31 #[.val (.int i0), .val (.int i1), .val (.int ((((i1.toUInt32 >>> ((1 : Int32) &&& 31).toUInt32).toInt32) % (8 : Int32)) - (1 : Int32))), .val (.ref (w 1)), .val (.ref (w 1))] [(.ref (w 1))])) (fun t k => XS.aloadN X38.here hx rfl (hb hby at_30) rfl rfl k) ?_
      refine Go.on (T' := T38) (g' := (mkF m 33 #[.val (.int i0), .val (.int i1), .val (.int ((((i1.toUInt32 >>> ((1 : Int32) &&& 31).toUInt32).toInt32) % (8 : Int32)) - (1 : Int32))), .val (.ref (w 1)), .val (.ref (w 1))] [(.ref (w 1)), (.ref (w 1))])) (fun t k => XS.aload X38.here hx rfl (hb hby at_31) rfl rfl k) ?_
      refine Go.on (T' := T38) (g' := (mkF m 38 #[.val (.int i0), .val (.int i1), .val (.int ((((i1.toUInt32 >>> ((1 : Int32) &&& 31).toUInt32).toInt32) % (8 : Int32)) - (1 : Int32))), .val (.ref (w 1)), .val (.ref (w 1))] [])) (fun t k => Jvm.RoadKit.acmp (g := (mkF m 33 #[.val (.int i0), .val (.int i1), .val (.int ((((i1.toUInt32 >>> ((1 : Int32) &&& 31).toUInt32).toInt32) % (8 : Int32)) - (1 : Int32))), .val (.ref (w 1)), .val (.ref (w 1))] [(.ref (w 1)), (.ref (w 1))])) X38 hx rfl rfl rfl (pc0 := 33) (pc' := 38) (same := true) rfl (hb hby at_33) rfl (decide_eq_true rfl) (by decide) (by decide) k) ?_
      refine Go.on (T' := T38) (g' := (mkF m 39 #[.val (.int i0), .val (.int i1), .val (.int ((((i1.toUInt32 >>> ((1 : Int32) &&& 31).toUInt32).toInt32) % (8 : Int32)) - (1 : Int32))), .val (.ref (w 1)), .val (.ref (w 1))] [(.ref (w 1))])) (fun t k => XS.aloadN X38.here hx rfl (hb hby at_38) rfl rfl k) ?_
      refine Go.on (T' := T38) (g' := (mkF m 42 #[.val (.int i0), .val (.int i1), .val (.int ((((i1.toUInt32 >>> ((1 : Int32) &&& 31).toUInt32).toInt32) % (8 : Int32)) - (1 : Int32))), .val (.ref (w 1)), .val (.ref (w 1))] [])) (fun t k => XS.ifnullNo X38.here hx rfl (hb hby at_39) rfl k) ?_
      refine Go.on (T' := T38) (g' := (mkF m 43 #[.val (.int i0), .val (.int i1), .val (.int ((((i1.toUInt32 >>> ((1 : Int32) &&& 31).toUInt32).toInt32) % (8 : Int32)) - (1 : Int32))), .val (.ref (w 1)), .val (.ref (w 1))] [(.ref (w 1))])) (fun t k => XS.aloadN X38.here hx rfl (hb hby at_42) rfl rfl k) ?_
      obtain ⟨cq41, kq41, q41a, q41b, q41c⟩ := isOf hZ e38 (pin_8 (pins_ext XT24 hP))
      obtain ⟨_, _, ⟨T41, L41, k41, n41⟩, -, X41, ⟨Lc41, hQ41, l41, y41, z41⟩, st41⟩ := X38.virtualBack hx (y := (⟨"com/example/stubwright/stubwright/PacketType", "code", "()I"⟩ : MethodName)) (z := (⟨"com/example/stubwright/stubwright/PacketType", "code", "()I"⟩ : MethodName)) hown (mvT hZ (hw _ (List.mem_of_getElem? (i := 32) rfl))) (mvT hZ (hw _ (List.mem_of_getElem? (i := 33) rfl))) (notFace_of_selects (args := #[]) (mvT hZ (hw _ (List.mem_of_getElem? (i := 35) rfl)))) (mvT hZ (hw _ (List.mem_of_getElem? (i := 35) rfl))) (mvT hZ (hw _ (List.mem_of_getElem? (i := 34) rfl))) (by decide) (backOf (W := 0) (rm4_0 l Z a0 hw [] w T24.heap n0 (Nat.le_trans Z0 XT24.1) (pins_ext XT24 hP)) hZ (hw _ (List.mem_of_getElem? (i := 36) rfl)) (hw _ (List.mem_of_getElem? (i := 2) rfl)) (by decide) (by decide)) q41a q41c (g := (mkF m 43 #[.val (.int i0), .val (.int i1), .val (.int ((((i1.toUInt32 >>> ((1 : Int32) &&& 31).toUInt32).toInt32) % (8 : Int32)) - (1 : Int32))), .val (.ref (w 1)), .val (.ref (w 1))] [(.ref (w 1))])) rfl (by rw [hml]; rfl) (Steps.refl _) (argsL := []) (rest := []) (lenOf pd_2 rfl) rfl (by show 2 * 0 + _ ≤ _; exact Nat.le_of_eq rfl) (hb hby at_43) (fun _ _ => ⟨rfl, e38, (by decide : 1 + 0 ≤ _), (by decide : 6 + 0 ≤ _)⟩)
      dsimp only [Pt.U, Pt.locs, Pt.cells, Pt.slots] at X41 l41 y41 z41 st41 hQ41
      subst l41 y41 z41
      obtain ⟨rfl, N41q, e41⟩ := hQ41
      have N41 := Fr.app N38 N41q
      refine Go.on (T' := T41) (g' := (mkF m 46 #[.val (.int i0), .val (.int i1), .val (.int ((((i1.toUInt32 >>> ((1 : Int32) &&& 31).toUInt32).toInt32) % (8 : Int32)) - (1 : Int32))), .val (.ref (w 1)), .val (.ref (w 1))] [(.int (0 : Int32))])) (fun t k => st41.trans k) ?_
      refine Go.on (T' := T41) (g' := (mkF m 47 #[.val (.int i0), .val (.int i1), .val (.int ((((i1.toUInt32 >>> ((1 : Int32) &&& 31).toUInt32).toInt32) % (8 : Int32)) - (1 : Int32))), .val (.ref (w 1)), .val (.ref (w 1))] [(.int ((((i1.toUInt32 >>> ((1 : Int32) &&& 31).toUInt32).toInt32) % (8 : Int32)) - (1 : Int32))), (.int (0 : Int32))])) (fun t k => XS.iloadN X41.here hx rfl (hb hby at_46) rfl k) ?_
      refine Go.on (T' := T41) (g' := (mkF m 52 #[.val (.int i0), .val (.int i1), .val (.int ((((i1.toUInt32 >>> ((1 : Int32) &&& 31).toUInt32).toInt32) % (8 : Int32)) - (1 : Int32))), .val (.ref (w 1)), .val (.ref (w 1))] [])) (fun t k => XS.icmpYes X41.here hx rfl (pc0 := 47) (pc' := 52) rfl (hb hby at_47) rfl (teq h18).1 (by decide) (by decide) k) ?_
      refine Go.on (T' := T41) (g' := (mkF m 53 #[.val (.int i0), .val (.int i1), .val (.int ((((i1.toUInt32 >>> ((1 : Int32) &&& 31).toUInt32).toInt32) % (8 : Int32)) - (1 : Int32))), .val (.ref (w 1)), .val (.ref (w 1))] [(.int (1 : Int32))])) (fun t k => XS.iconst X41.here hx rfl (hb hby at_52) k) ?_
      obtain ⟨fs, hr, hrun, hended, hW, hsame⟩ := X41.leave (v := some (.int (1 : Int32))) (fun h => by rw [Bd.returns] at h; cases h)
      exact ⟨_, _, retN X41 hx (t := .boolean) Bd.returns (by simp) (hb hby at_53) hr, hrun, hended, _, _, rfl, ⟨rfl, N41⟩, ⟨_, rfl⟩, hW, hsame.mono (by decide) (by decide)⟩
    · skip
      by_cases h42 : (1 : Int32) = ((((i1.toUInt32 >>> ((1 : Int32) &&& 31).toUInt32).toInt32) % (8 : Int32)) - (1 : Int32))
      · skip
        obtain ⟨_, _, ⟨T46, L46, k46, n46⟩, -, X46, ⟨Lc46, hQ46, l46, y46, z46⟩, st46⟩ := Jvm.LawKit.callS X0 hx (y := (⟨"com/example/stubwright/stubwright/PacketType", "fromCode", "(I)Lcom/example/stubwright/stubwright/PacketType;"⟩ : MethodName)) hown (mvT hZ (hw _ (List.mem_of_getElem? (i := 0) rfl))) (mvT hZ (hw _ (List.mem_of_getElem? (i := 1) rfl))) (mvT hZ (hw _ (List.mem_of_getElem? (i := 2) rfl))) (mvT hZ (hw _ (List.mem_of_getElem? (i := 3) rfl))) (by decide) (backOf (W := 0) (rm1_1 l Z a0 hw [] w h0 n0 (Nat.le_trans Z0 (own_ext0 h0).1) hP ((((i1.toUInt32 >>> ((1 : Int32) &&& 31).toUInt32).toInt32) % (8 : Int32)) - (1 : Int32)) h18 h42) hZ (hw _ (List.mem_of_getElem? (i := 3) rfl)) (hw _ (List.mem_of_getElem? (i := 2) rfl)) (by decide) (by decide)) (g := (mkF m 20 #[.val (.int i0), .val (.int i1), .val (.int ((((i1.toUInt32 >>> ((1 : Int32) &&& 31).toUInt32).toInt32) % (8 : Int32)) - (1 : Int32))), .unset, .unset] [(.int ((((i1.toUInt32 >>> ((1 : Int32) &&& 31).toUInt32).toInt32) % (8 : Int32)) - (1 : Int32)))])) rfl (by rw [hml]; rfl) (argsL := [(.int ((((i1.toUInt32 >>> ((1 : Int32) &&& 31).toUInt32).toInt32) % (8 : Int32)) - (1 : Int32)))]) (rest := []) (lenOf pd_1 rfl) rfl (by show 2 * 0 + _ ≤ _; exact Nat.le_of_eq rfl) (hb hby at_20) (fun _ _ => ⟨rfl, e0, (by decide : 0 + 1 ≤ _), (by decide : 0 + 6 ≤ _)⟩)
        dsimp only [Pt.U, Pt.locs, Pt.cells, Pt.slots] at X46 l46 y46 z46 st46 hQ46
        subst l46 y46 z46
        obtain ⟨rfl, N46q, x46, f46⟩ := hQ46
        have N46 := Fr.app N0 N46q
        have e46 : T46.heap = T46.heap := rfl
        have XT46 := own_ext2 (own_ext0 h0) x46
        refine Go.on (T' := T46) (g' := (mkF m 23 #[.val (.int i0), .val (.int i1), .val (.int ((((i1.toUInt32 >>> ((1 : Int32) &&& 31).toUInt32).toInt32) % (8 : Int32)) - (1 : Int32))), .unset, .unset] [(.ref (w 2))])) st46 ?_
        refine Go.on (T' := T46) (g' := (mkF m 24 #[.val (.int i0), .val (.int i1), .val (.int ((((i1.toUInt32 >>> ((1 : Int32) &&& 31).toUInt32).toInt32) % (8 : Int32)) - (1 : Int32))), .val (.ref (w 2)), .unset] [])) (fun t k => XS.astoreN X46.here hx rfl (hb hby at_23) rfl rfl (l' := #[.val (.int i0), .val (.int i1), .val (.int ((((i1.toUInt32 >>> ((1 : Int32) &&& 31).toUInt32).toInt32) % (8 : Int32)) - (1 : Int32))), .val (.ref (w 2)), .unset]) rfl k) ?_
        refine Go.on (T' := T46) (g' := (mkF m 25 #[.val (.int i0), .val (.int i1), .val (.int ((((i1.toUInt32 >>> ((1 : Int32) &&& 31).toUInt32).toInt32) % (8 : Int32)) - (1 : Int32))), .val (.ref (w 2)), .unset] [(.int ((((i1.toUInt32 >>> ((1 : Int32) &&& 31).toUInt32).toInt32) % (8 : Int32)) - (1 : Int32)))])) (fun t k => XS.iloadN X46.here hx rfl (hb hby at_24) rfl k) ?_
        obtain ⟨_, _, ⟨T48, L48, k48, n48⟩, -, X48, ⟨Lc48, hQ48, l48, y48, z48⟩, st48⟩ := Jvm.LawKit.callS X46 hx (y := (⟨"com/example/stubwright/stubwright/PacketTypeFromCodePinLaw", "expected", "(I)Lcom/example/stubwright/stubwright/PacketType;"⟩ : MethodName)) hown (mvT hZ (hw _ (List.mem_of_getElem? (i := 27) rfl))) (mvT hZ (hw _ (List.mem_of_getElem? (i := 28) rfl))) (mvT hZ (hw _ (List.mem_of_getElem? (i := 29) rfl))) (mvT hZ (hw _ (List.mem_of_getElem? (i := 30) rfl))) (by decide) (backOf (W := 0) (rm3_1 l Z a0 hw [] w T46.heap n0 (Nat.le_trans Z0 XT46.1) (pins_ext XT46 hP) ((((i1.toUInt32 >>> ((1 : Int32) &&& 31).toUInt32).toInt32) % (8 : Int32)) - (1 : Int32)) (fun q => h18 q.symm) h42.symm) hZ (hw _ (List.mem_of_getElem? (i := 30) rfl)) (hw _ (List.mem_of_getElem? (i := 29) rfl)) (by decide) (by decide)) (g := (mkF m 25 #[.val (.int i0), .val (.int i1), .val (.int ((((i1.toUInt32 >>> ((1 : Int32) &&& 31).toUInt32).toInt32) % (8 : Int32)) - (1 : Int32))), .val (.ref (w 2)), .unset] [(.int ((((i1.toUInt32 >>> ((1 : Int32) &&& 31).toUInt32).toInt32) % (8 : Int32)) - (1 : Int32)))])) rfl (by rw [hml]; rfl) (argsL := [(.int ((((i1.toUInt32 >>> ((1 : Int32) &&& 31).toUInt32).toInt32) % (8 : Int32)) - (1 : Int32)))]) (rest := []) (lenOf pd_1 rfl) rfl (by show 2 * 0 + _ ≤ _; exact Nat.le_of_eq rfl) (hb hby at_25) (fun _ _ => ⟨rfl, e46, (by decide : 1 + 0 ≤ _), (by decide : 6 + 0 ≤ _)⟩)
        dsimp only [Pt.U, Pt.locs, Pt.cells, Pt.slots] at X48 l48 y48 z48 st48 hQ48
        subst l48 y48 z48
        obtain ⟨rfl, N48q, e48⟩ := hQ48
        have N48 := Fr.app N46 N48q
        refine Go.on (T' := T48) (g' := (mkF m 28 #[.val (.int i0), .val (.int i1), .val (.int ((((i1.toUInt32 >>> ((1 : Int32) &&& 31).toUInt32).toInt32) % (8 : Int32)) - (1 : Int32))), .val (.ref (w 2)), .unset] [(.ref (w 2))])) st48 ?_
        refine Go.on (T' := T48) (g' := (mkF m 30 #[.val (.int i0), .val (.int i1), .val (.int ((((i1.toUInt32 >>> ((1 : Int32) &&& 31).toUInt32).toInt32) % (8 : Int32)) - (1 : Int32))), .val (.ref (w 2)), .val (.ref (w 2))] [])) (fun t k => XS.astore X48.here hx rfl (hb hby at_28) rfl rfl (l' := #[.val (.int i0), .val (.int i1), .val (.int ((((i1.toUInt32 >>> ((1 : Int32) &&& 31).toUInt32).toInt32) % (8 : Int32)) - (1 : Int32))), .val (.ref (w 2)), .val (.ref (w 2))]) rfl k) ?_
        refine Go.on (T' := T48) (g' := (mkF m 31 #[.val (.int i0), .val (.int i1), .val (.int ((((i1.toUInt32 >>> ((1 : Int32) &&& 31).toUInt32).toInt32) % (8 : Int32)) - (1 : Int32))), .val (.ref (w 2)), .val (.ref (w 2))] [(.ref (w 2))])) (fun t k => XS.aloadN X48.here hx rfl (hb hby at_30) rfl rfl k) ?_
        refine Go.on (T' := T48) (g' := (mkF m 33 #[.val (.int i0), .val (.int i1), .val (.int ((((i1.toUInt32 >>> ((1 : Int32) &&& 31).toUInt32).toInt32) % (8 : Int32)) - (1 : Int32))), .val (.ref (w 2)), .val (.ref (w 2))] [(.ref (w 2)), (.ref (w 2))])) (fun t k => XS.aload X48.here hx rfl (hb hby at_31) rfl rfl k) ?_
        refine Go.on (T' := T48) (g' := (mkF m 38 #[.val (.int i0), .val (.int i1), .val (.int ((((i1.toUInt32 >>> ((1 : Int32) &&& 31).toUInt32).toInt32) % (8 : Int32)) - (1 : Int32))), .val (.ref (w 2)), .val (.ref (w 2))] [])) (fun t k => Jvm.RoadKit.acmp (g := (mkF m 33 #[.val (.int i0), .val (.int i1), .val (.int ((((i1.toUInt32 >>> ((1 : Int32) &&& 31).toUInt32).toInt32) % (8 : Int32)) - (1 : Int32))), .val (.ref (w 2)), .val (.ref (w 2))] [(.ref (w 2)), (.ref (w 2))])) X48 hx rfl rfl rfl (pc0 := 33) (pc' := 38) (same := true) rfl (hb hby at_33) rfl (decide_eq_true rfl) (by decide) (by decide) k) ?_
        refine Go.on (T' := T48) (g' := (mkF m 39 #[.val (.int i0), .val (.int i1), .val (.int ((((i1.toUInt32 >>> ((1 : Int32) &&& 31).toUInt32).toInt32) % (8 : Int32)) - (1 : Int32))), .val (.ref (w 2)), .val (.ref (w 2))] [(.ref (w 2))])) (fun t k => XS.aloadN X48.here hx rfl (hb hby at_38) rfl rfl k) ?_
        refine Go.on (T' := T48) (g' := (mkF m 42 #[.val (.int i0), .val (.int i1), .val (.int ((((i1.toUInt32 >>> ((1 : Int32) &&& 31).toUInt32).toInt32) % (8 : Int32)) - (1 : Int32))), .val (.ref (w 2)), .val (.ref (w 2))] [])) (fun t k => XS.ifnullNo X48.here hx rfl (hb hby at_39) rfl k) ?_
        refine Go.on (T' := T48) (g' := (mkF m 43 #[.val (.int i0), .val (.int i1), .val (.int ((((i1.toUInt32 >>> ((1 : Int32) &&& 31).toUInt32).toInt32) % (8 : Int32)) - (1 : Int32))), .val (.ref (w 2)), .val (.ref (w 2))] [(.ref (w 2))])) (fun t k => XS.aloadN X48.here hx rfl (hb hby at_42) rfl rfl k) ?_
        obtain ⟨cq51, kq51, q51a, q51b, q51c⟩ := isOf hZ e48 (pin_9 (pins_ext XT46 hP))
        obtain ⟨_, _, ⟨T51, L51, k51, n51⟩, -, X51, ⟨Lc51, hQ51, l51, y51, z51⟩, st51⟩ := X48.virtualBack hx (y := (⟨"com/example/stubwright/stubwright/PacketType", "code", "()I"⟩ : MethodName)) (z := (⟨"com/example/stubwright/stubwright/PacketType", "code", "()I"⟩ : MethodName)) hown (mvT hZ (hw _ (List.mem_of_getElem? (i := 32) rfl))) (mvT hZ (hw _ (List.mem_of_getElem? (i := 33) rfl))) (notFace_of_selects (args := #[]) (mvT hZ (hw _ (List.mem_of_getElem? (i := 35) rfl)))) (mvT hZ (hw _ (List.mem_of_getElem? (i := 35) rfl))) (mvT hZ (hw _ (List.mem_of_getElem? (i := 34) rfl))) (by decide) (backOf (W := 0) (rm4_1 l Z a0 hw [] w T46.heap n0 (Nat.le_trans Z0 XT46.1) (pins_ext XT46 hP)) hZ (hw _ (List.mem_of_getElem? (i := 36) rfl)) (hw _ (List.mem_of_getElem? (i := 2) rfl)) (by decide) (by decide)) q51a q51c (g := (mkF m 43 #[.val (.int i0), .val (.int i1), .val (.int ((((i1.toUInt32 >>> ((1 : Int32) &&& 31).toUInt32).toInt32) % (8 : Int32)) - (1 : Int32))), .val (.ref (w 2)), .val (.ref (w 2))] [(.ref (w 2))])) rfl (by rw [hml]; rfl) (Steps.refl _) (argsL := []) (rest := []) (lenOf pd_2 rfl) rfl (by show 2 * 0 + _ ≤ _; exact Nat.le_of_eq rfl) (hb hby at_43) (fun _ _ => ⟨rfl, e48, (by decide : 1 + 0 ≤ _), (by decide : 6 + 0 ≤ _)⟩)
        dsimp only [Pt.U, Pt.locs, Pt.cells, Pt.slots] at X51 l51 y51 z51 st51 hQ51
        subst l51 y51 z51
        obtain ⟨rfl, N51q, e51⟩ := hQ51
        have N51 := Fr.app N48 N51q
        refine Go.on (T' := T51) (g' := (mkF m 46 #[.val (.int i0), .val (.int i1), .val (.int ((((i1.toUInt32 >>> ((1 : Int32) &&& 31).toUInt32).toInt32) % (8 : Int32)) - (1 : Int32))), .val (.ref (w 2)), .val (.ref (w 2))] [(.int (1 : Int32))])) (fun t k => st51.trans k) ?_
        refine Go.on (T' := T51) (g' := (mkF m 47 #[.val (.int i0), .val (.int i1), .val (.int ((((i1.toUInt32 >>> ((1 : Int32) &&& 31).toUInt32).toInt32) % (8 : Int32)) - (1 : Int32))), .val (.ref (w 2)), .val (.ref (w 2))] [(.int ((((i1.toUInt32 >>> ((1 : Int32) &&& 31).toUInt32).toInt32) % (8 : Int32)) - (1 : Int32))), (.int (1 : Int32))])) (fun t k => XS.iloadN X51.here hx rfl (hb hby at_46) rfl k) ?_
        refine Go.on (T' := T51) (g' := (mkF m 52 #[.val (.int i0), .val (.int i1), .val (.int ((((i1.toUInt32 >>> ((1 : Int32) &&& 31).toUInt32).toInt32) % (8 : Int32)) - (1 : Int32))), .val (.ref (w 2)), .val (.ref (w 2))] [])) (fun t k => XS.icmpYes X51.here hx rfl (pc0 := 47) (pc' := 52) rfl (hb hby at_47) rfl (teq h42).1 (by decide) (by decide) k) ?_
        refine Go.on (T' := T51) (g' := (mkF m 53 #[.val (.int i0), .val (.int i1), .val (.int ((((i1.toUInt32 >>> ((1 : Int32) &&& 31).toUInt32).toInt32) % (8 : Int32)) - (1 : Int32))), .val (.ref (w 2)), .val (.ref (w 2))] [(.int (1 : Int32))])) (fun t k => XS.iconst X51.here hx rfl (hb hby at_52) k) ?_
        obtain ⟨fs, hr, hrun, hended, hW, hsame⟩ := X51.leave (v := some (.int (1 : Int32))) (fun h => by rw [Bd.returns] at h; cases h)
        exact ⟨_, _, retN X51 hx (t := .boolean) Bd.returns (by simp) (hb hby at_53) hr, hrun, hended, _, _, rfl, ⟨rfl, N51⟩, ⟨_, rfl⟩, hW, hsame.mono (by decide) (by decide)⟩
      · skip
        by_cases h52 : (2 : Int32) = ((((i1.toUInt32 >>> ((1 : Int32) &&& 31).toUInt32).toInt32) % (8 : Int32)) - (1 : Int32))
        · skip
          obtain ⟨_, _, ⟨T57, L57, k57, n57⟩, -, X57, ⟨Lc57, hQ57, l57, y57, z57⟩, st57⟩ := Jvm.LawKit.callS X0 hx (y := (⟨"com/example/stubwright/stubwright/PacketType", "fromCode", "(I)Lcom/example/stubwright/stubwright/PacketType;"⟩ : MethodName)) hown (mvT hZ (hw _ (List.mem_of_getElem? (i := 0) rfl))) (mvT hZ (hw _ (List.mem_of_getElem? (i := 1) rfl))) (mvT hZ (hw _ (List.mem_of_getElem? (i := 2) rfl))) (mvT hZ (hw _ (List.mem_of_getElem? (i := 3) rfl))) (by decide) (backOf (W := 0) (rm1_2 l Z a0 hw [] w h0 n0 (Nat.le_trans Z0 (own_ext0 h0).1) hP ((((i1.toUInt32 >>> ((1 : Int32) &&& 31).toUInt32).toInt32) % (8 : Int32)) - (1 : Int32)) h18 h42 h52) hZ (hw _ (List.mem_of_getElem? (i := 3) rfl)) (hw _ (List.mem_of_getElem? (i := 2) rfl)) (by decide) (by decide)) (g := (mkF m 20 #[.val (.int i0), .val (.int i1), .val (.int ((((i1.toUInt32 >>> ((1 : Int32) &&& 31).toUInt32).toInt32) % (8 : Int32)) - (1 : Int32))), .unset, .unset] [(.int ((((i1.toUInt32 >>> ((1 : Int32) &&& 31).toUInt32).toInt32) % (8 : Int32)) - (1 : Int32)))])) rfl (by rw [hml]; rfl) (argsL := [(.int ((((i1.toUInt32 >>> ((1 : Int32) &&& 31).toUInt32).toInt32) % (8 : Int32)) - (1 : Int32)))]) (rest := []) (lenOf pd_1 rfl) rfl (by show 2 * 0 + _ ≤ _; exact Nat.le_of_eq rfl) (hb hby at_20) (fun _ _ => ⟨rfl, e0, (by decide : 0 + 1 ≤ _), (by decide : 0 + 6 ≤ _)⟩)
          dsimp only [Pt.U, Pt.locs, Pt.cells, Pt.slots] at X57 l57 y57 z57 st57 hQ57
          subst l57 y57 z57
          obtain ⟨rfl, N57q, x57, f57⟩ := hQ57
          have N57 := Fr.app N0 N57q
          have e57 : T57.heap = T57.heap := rfl
          have XT57 := own_ext2 (own_ext0 h0) x57
          refine Go.on (T' := T57) (g' := (mkF m 23 #[.val (.int i0), .val (.int i1), .val (.int ((((i1.toUInt32 >>> ((1 : Int32) &&& 31).toUInt32).toInt32) % (8 : Int32)) - (1 : Int32))), .unset, .unset] [(.ref (w 3))])) st57 ?_
          refine Go.on (T' := T57) (g' := (mkF m 24 #[.val (.int i0), .val (.int i1), .val (.int ((((i1.toUInt32 >>> ((1 : Int32) &&& 31).toUInt32).toInt32) % (8 : Int32)) - (1 : Int32))), .val (.ref (w 3)), .unset] [])) (fun t k => XS.astoreN X57.here hx rfl (hb hby at_23) rfl rfl (l' := #[.val (.int i0), .val (.int i1), .val (.int ((((i1.toUInt32 >>> ((1 : Int32) &&& 31).toUInt32).toInt32) % (8 : Int32)) - (1 : Int32))), .val (.ref (w 3)), .unset]) rfl k) ?_
          refine Go.on (T' := T57) (g' := (mkF m 25 #[.val (.int i0), .val (.int i1), .val (.int ((((i1.toUInt32 >>> ((1 : Int32) &&& 31).toUInt32).toInt32) % (8 : Int32)) - (1 : Int32))), .val (.ref (w 3)), .unset] [(.int ((((i1.toUInt32 >>> ((1 : Int32) &&& 31).toUInt32).toInt32) % (8 : Int32)) - (1 : Int32)))])) (fun t k => XS.iloadN X57.here hx rfl (hb hby at_24) rfl k) ?_
          obtain ⟨_, _, ⟨T59, L59, k59, n59⟩, -, X59, ⟨Lc59, hQ59, l59, y59, z59⟩, st59⟩ := Jvm.LawKit.callS X57 hx (y := (⟨"com/example/stubwright/stubwright/PacketTypeFromCodePinLaw", "expected", "(I)Lcom/example/stubwright/stubwright/PacketType;"⟩ : MethodName)) hown (mvT hZ (hw _ (List.mem_of_getElem? (i := 27) rfl))) (mvT hZ (hw _ (List.mem_of_getElem? (i := 28) rfl))) (mvT hZ (hw _ (List.mem_of_getElem? (i := 29) rfl))) (mvT hZ (hw _ (List.mem_of_getElem? (i := 30) rfl))) (by decide) (backOf (W := 0) (rm3_2 l Z a0 hw [] w T57.heap n0 (Nat.le_trans Z0 XT57.1) (pins_ext XT57 hP) ((((i1.toUInt32 >>> ((1 : Int32) &&& 31).toUInt32).toInt32) % (8 : Int32)) - (1 : Int32)) (fun q => h18 q.symm) (fun q => h42 q.symm) h52.symm) hZ (hw _ (List.mem_of_getElem? (i := 30) rfl)) (hw _ (List.mem_of_getElem? (i := 29) rfl)) (by decide) (by decide)) (g := (mkF m 25 #[.val (.int i0), .val (.int i1), .val (.int ((((i1.toUInt32 >>> ((1 : Int32) &&& 31).toUInt32).toInt32) % (8 : Int32)) - (1 : Int32))), .val (.ref (w 3)), .unset] [(.int ((((i1.toUInt32 >>> ((1 : Int32) &&& 31).toUInt32).toInt32) % (8 : Int32)) - (1 : Int32)))])) rfl (by rw [hml]; rfl) (argsL := [(.int ((((i1.toUInt32 >>> ((1 : Int32) &&& 31).toUInt32).toInt32) % (8 : Int32)) - (1 : Int32)))]) (rest := []) (lenOf pd_1 rfl) rfl (by show 2 * 0 + _ ≤ _; exact Nat.le_of_eq rfl) (hb hby at_25) (fun _ _ => ⟨rfl, e57, (by decide : 1 + 0 ≤ _), (by decide : 6 + 0 ≤ _)⟩)
          dsimp only [Pt.U, Pt.locs, Pt.cells, Pt.slots] at X59 l59 y59 z59 st59 hQ59
          subst l59 y59 z59
          obtain ⟨rfl, N59q, e59⟩ := hQ59
          have N59 := Fr.app N57 N59q
          refine Go.on (T' := T59) (g' := (mkF m 28 #[.val (.int i0), .val (.int i1), .val (.int ((((i1.toUInt32 >>> ((1 : Int32) &&& 31).toUInt32).toInt32) % (8 : Int32)) - (1 : Int32))), .val (.ref (w 3)), .unset] [(.ref (w 3))])) st59 ?_
          refine Go.on (T' := T59) (g' := (mkF m 30 #[.val (.int i0), .val (.int i1), .val (.int ((((i1.toUInt32 >>> ((1 : Int32) &&& 31).toUInt32).toInt32) % (8 : Int32)) - (1 : Int32))), .val (.ref (w 3)), .val (.ref (w 3))] [])) (fun t k => XS.astore X59.here hx rfl (hb hby at_28) rfl rfl (l' := #[.val (.int i0), .val (.int i1), .val (.int ((((i1.toUInt32 >>> ((1 : Int32) &&& 31).toUInt32).toInt32) % (8 : Int32)) - (1 : Int32))), .val (.ref (w 3)), .val (.ref (w 3))]) rfl k) ?_
          refine Go.on (T' := T59) (g' := (mkF m 31 #[.val (.int i0), .val (.int i1), .val (.int ((((i1.toUInt32 >>> ((1 : Int32) &&& 31).toUInt32).toInt32) % (8 : Int32)) - (1 : Int32))), .val (.ref (w 3)), .val (.ref (w 3))] [(.ref (w 3))])) (fun t k => XS.aloadN X59.here hx rfl (hb hby at_30) rfl rfl k) ?_
          refine Go.on (T' := T59) (g' := (mkF m 33 #[.val (.int i0), .val (.int i1), .val (.int ((((i1.toUInt32 >>> ((1 : Int32) &&& 31).toUInt32).toInt32) % (8 : Int32)) - (1 : Int32))), .val (.ref (w 3)), .val (.ref (w 3))] [(.ref (w 3)), (.ref (w 3))])) (fun t k => XS.aload X59.here hx rfl (hb hby at_31) rfl rfl k) ?_
          refine Go.on (T' := T59) (g' := (mkF m 38 #[.val (.int i0), .val (.int i1), .val (.int ((((i1.toUInt32 >>> ((1 : Int32) &&& 31).toUInt32).toInt32) % (8 : Int32)) - (1 : Int32))), .val (.ref (w 3)), .val (.ref (w 3))] [])) (fun t k => Jvm.RoadKit.acmp (g := (mkF m 33 #[.val (.int i0), .val (.int i1), .val (.int ((((i1.toUInt32 >>> ((1 : Int32) &&& 31).toUInt32).toInt32) % (8 : Int32)) - (1 : Int32))), .val (.ref (w 3)), .val (.ref (w 3))] [(.ref (w 3)), (.ref (w 3))])) X59 hx rfl rfl rfl (pc0 := 33) (pc' := 38) (same := true) rfl (hb hby at_33) rfl (decide_eq_true rfl) (by decide) (by decide) k) ?_
          refine Go.on (T' := T59) (g' := (mkF m 39 #[.val (.int i0), .val (.int i1), .val (.int ((((i1.toUInt32 >>> ((1 : Int32) &&& 31).toUInt32).toInt32) % (8 : Int32)) - (1 : Int32))), .val (.ref (w 3)), .val (.ref (w 3))] [(.ref (w 3))])) (fun t k => XS.aloadN X59.here hx rfl (hb hby at_38) rfl rfl k) ?_
          refine Go.on (T' := T59) (g' := (mkF m 42 #[.val (.int i0), .val (.int i1), .val (.int ((((i1.toUInt32 >>> ((1 : Int32) &&& 31).toUInt32).toInt32) % (8 : Int32)) - (1 : Int32))), .val (.ref (w 3)), .val (.ref (w 3))] [])) (fun t k => XS.ifnullNo X59.here hx rfl (hb hby at_39) rfl k) ?_
          refine Go.on (T' := T59) (g' := (mkF m 43 #[.val (.int i0), .val (.int i1), .val (.int ((((i1.toUInt32 >>> ((1 : Int32) &&& 31).toUInt32).toInt32) % (8 : Int32)) - (1 : Int32))), .val (.ref (w 3)), .val (.ref (w 3))] [(.ref (w 3))])) (fun t k => XS.aloadN X59.here hx rfl (hb hby at_42) rfl rfl k) ?_
          obtain ⟨cq62, kq62, q62a, q62b, q62c⟩ := isOf hZ e59 (pin_10 (pins_ext XT57 hP))
          obtain ⟨_, _, ⟨T62, L62, k62, n62⟩, -, X62, ⟨Lc62, hQ62, l62, y62, z62⟩, st62⟩ := X59.virtualBack hx (y := (⟨"com/example/stubwright/stubwright/PacketType", "code", "()I"⟩ : MethodName)) (z := (⟨"com/example/stubwright/stubwright/PacketType", "code", "()I"⟩ : MethodName)) hown (mvT hZ (hw _ (List.mem_of_getElem? (i := 32) rfl))) (mvT hZ (hw _ (List.mem_of_getElem? (i := 33) rfl))) (notFace_of_selects (args := #[]) (mvT hZ (hw _ (List.mem_of_getElem? (i := 35) rfl)))) (mvT hZ (hw _ (List.mem_of_getElem? (i := 35) rfl))) (mvT hZ (hw _ (List.mem_of_getElem? (i := 34) rfl))) (by decide) (backOf (W := 0) (rm4_2 l Z a0 hw [] w T57.heap n0 (Nat.le_trans Z0 XT57.1) (pins_ext XT57 hP)) hZ (hw _ (List.mem_of_getElem? (i := 36) rfl)) (hw _ (List.mem_of_getElem? (i := 2) rfl)) (by decide) (by decide)) q62a q62c (g := (mkF m 43 #[.val (.int i0), .val (.int i1), .val (.int ((((i1.toUInt32 >>> ((1 : Int32) &&& 31).toUInt32).toInt32) % (8 : Int32)) - (1 : Int32))), .val (.ref (w 3)), .val (.ref (w 3))] [(.ref (w 3))])) rfl (by rw [hml]; rfl) (Steps.refl _) (argsL := []) (rest := []) (lenOf pd_2 rfl) rfl (by show 2 * 0 + _ ≤ _; exact Nat.le_of_eq rfl) (hb hby at_43) (fun _ _ => ⟨rfl, e59, (by decide : 1 + 0 ≤ _), (by decide : 6 + 0 ≤ _)⟩)
          dsimp only [Pt.U, Pt.locs, Pt.cells, Pt.slots] at X62 l62 y62 z62 st62 hQ62
          subst l62 y62 z62
          obtain ⟨rfl, N62q, e62⟩ := hQ62
          have N62 := Fr.app N59 N62q
          refine Go.on (T' := T62) (g' := (mkF m 46 #[.val (.int i0), .val (.int i1), .val (.int ((((i1.toUInt32 >>> ((1 : Int32) &&& 31).toUInt32).toInt32) % (8 : Int32)) - (1 : Int32))), .val (.ref (w 3)), .val (.ref (w 3))] [(.int (2 : Int32))])) (fun t k => st62.trans k) ?_
          refine Go.on (T' := T62) (g' := (mkF m 47 #[.val (.int i0), .val (.int i1), .val (.int ((((i1.toUInt32 >>> ((1 : Int32) &&& 31).toUInt32).toInt32) % (8 : Int32)) - (1 : Int32))), .val (.ref (w 3)), .val (.ref (w 3))] [(.int ((((i1.toUInt32 >>> ((1 : Int32) &&& 31).toUInt32).toInt32) % (8 : Int32)) - (1 : Int32))), (.int (2 : Int32))])) (fun t k => XS.iloadN X62.here hx rfl (hb hby at_46) rfl k) ?_
          refine Go.on (T' := T62) (g' := (mkF m 52 #[.val (.int i0), .val (.int i1), .val (.int ((((i1.toUInt32 >>> ((1 : Int32) &&& 31).toUInt32).toInt32) % (8 : Int32)) - (1 : Int32))), .val (.ref (w 3)), .val (.ref (w 3))] [])) (fun t k => XS.icmpYes X62.here hx rfl (pc0 := 47) (pc' := 52) rfl (hb hby at_47) rfl (teq h52).1 (by decide) (by decide) k) ?_
          refine Go.on (T' := T62) (g' := (mkF m 53 #[.val (.int i0), .val (.int i1), .val (.int ((((i1.toUInt32 >>> ((1 : Int32) &&& 31).toUInt32).toInt32) % (8 : Int32)) - (1 : Int32))), .val (.ref (w 3)), .val (.ref (w 3))] [(.int (1 : Int32))])) (fun t k => XS.iconst X62.here hx rfl (hb hby at_52) k) ?_
          obtain ⟨fs, hr, hrun, hended, hW, hsame⟩ := X62.leave (v := some (.int (1 : Int32))) (fun h => by rw [Bd.returns] at h; cases h)
          exact ⟨_, _, retN X62 hx (t := .boolean) Bd.returns (by simp) (hb hby at_53) hr, hrun, hended, _, _, rfl, ⟨rfl, N62⟩, ⟨_, rfl⟩, hW, hsame.mono (by decide) (by decide)⟩
        · skip
          by_cases h63 : (3 : Int32) = ((((i1.toUInt32 >>> ((1 : Int32) &&& 31).toUInt32).toInt32) % (8 : Int32)) - (1 : Int32))
          · skip
            obtain ⟨_, _, ⟨T69, L69, k69, n69⟩, -, X69, ⟨Lc69, hQ69, l69, y69, z69⟩, st69⟩ := Jvm.LawKit.callS X0 hx (y := (⟨"com/example/stubwright/stubwright/PacketType", "fromCode", "(I)Lcom/example/stubwright/stubwright/PacketType;"⟩ : MethodName)) hown (mvT hZ (hw _ (List.mem_of_getElem? (i := 0) rfl))) (mvT hZ (hw _ (List.mem_of_getElem? (i := 1) rfl))) (mvT hZ (hw _ (List.mem_of_getElem? (i := 2) rfl))) (mvT hZ (hw _ (List.mem_of_getElem? (i := 3) rfl))) (by decide) (backOf (W := 0) (rm1_3 l Z a0 hw [] w h0 n0 (Nat.le_trans Z0 (own_ext0 h0).1) hP ((((i1.toUInt32 >>> ((1 : Int32) &&& 31).toUInt32).toInt32) % (8 : Int32)) - (1 : Int32)) h18 h42 h52 h63) hZ (hw _ (List.mem_of_getElem? (i := 3) rfl)) (hw _ (List.mem_of_getElem? (i := 2) rfl)) (by decide) (by decide)) (g := (mkF m 20 #[.val (.int i0), .val (.int i1), .val (.int ((((i1.toUInt32 >>> ((1 : Int32) &&& 31).toUInt32).toInt32) % (8 : Int32)) - (1 : Int32))), .unset, .unset] [(.int ((((i1.toUInt32 >>> ((1 : Int32) &&& 31).toUInt32).toInt32) % (8 : Int32)) - (1 : Int32)))])) rfl (by rw [hml]; rfl) (argsL := [(.int ((((i1.toUInt32 >>> ((1 : Int32) &&& 31).toUInt32).toInt32) % (8 : Int32)) - (1 : Int32)))]) (rest := []) (lenOf pd_1 rfl) rfl (by show 2 * 0 + _ ≤ _; exact Nat.le_of_eq rfl) (hb hby at_20) (fun _ _ => ⟨rfl, e0, (by decide : 0 + 1 ≤ _), (by decide : 0 + 6 ≤ _)⟩)
            dsimp only [Pt.U, Pt.locs, Pt.cells, Pt.slots] at X69 l69 y69 z69 st69 hQ69
            subst l69 y69 z69
            obtain ⟨rfl, N69q, x69, f69⟩ := hQ69
            have N69 := Fr.app N0 N69q
            have e69 : T69.heap = T69.heap := rfl
            have XT69 := own_ext2 (own_ext0 h0) x69
            refine Go.on (T' := T69) (g' := (mkF m 23 #[.val (.int i0), .val (.int i1), .val (.int ((((i1.toUInt32 >>> ((1 : Int32) &&& 31).toUInt32).toInt32) % (8 : Int32)) - (1 : Int32))), .unset, .unset] [(.ref (w 4))])) st69 ?_
            refine Go.on (T' := T69) (g' := (mkF m 24 #[.val (.int i0), .val (.int i1), .val (.int ((((i1.toUInt32 >>> ((1 : Int32) &&& 31).toUInt32).toInt32) % (8 : Int32)) - (1 : Int32))), .val (.ref (w 4)), .unset] [])) (fun t k => XS.astoreN X69.here hx rfl (hb hby at_23) rfl rfl (l' := #[.val (.int i0), .val (.int i1), .val (.int ((((i1.toUInt32 >>> ((1 : Int32) &&& 31).toUInt32).toInt32) % (8 : Int32)) - (1 : Int32))), .val (.ref (w 4)), .unset]) rfl k) ?_
            refine Go.on (T' := T69) (g' := (mkF m 25 #[.val (.int i0), .val (.int i1), .val (.int ((((i1.toUInt32 >>> ((1 : Int32) &&& 31).toUInt32).toInt32) % (8 : Int32)) - (1 : Int32))), .val (.ref (w 4)), .unset] [(.int ((((i1.toUInt32 >>> ((1 : Int32) &&& 31).toUInt32).toInt32) % (8 : Int32)) - (1 : Int32)))])) (fun t k => XS.iloadN X69.here hx rfl (hb hby at_24) rfl k) ?_
            obtain ⟨_, _, ⟨T71, L71, k71, n71⟩, -, X71, ⟨Lc71, hQ71, l71, y71, z71⟩, st71⟩ := Jvm.LawKit.callS X69 hx (y := (⟨"com/example/stubwright/stubwright/PacketTypeFromCodePinLaw", "expected", "(I)Lcom/example/stubwright/stubwright/PacketType;"⟩ : MethodName)) hown (mvT hZ (hw _ (List.mem_of_getElem? (i := 27) rfl))) (mvT hZ (hw _ (List.mem_of_getElem? (i := 28) rfl))) (mvT hZ (hw _ (List.mem_of_getElem? (i := 29) rfl))) (mvT hZ (hw _ (List.mem_of_getElem? (i := 30) rfl))) (by decide) (backOf (W := 0) (rm3_3 l Z a0 hw [] w T69.heap n0 (Nat.le_trans Z0 XT69.1) (pins_ext XT69 hP) ((((i1.toUInt32 >>> ((1 : Int32) &&& 31).toUInt32).toInt32) % (8 : Int32)) - (1 : Int32)) (fun q => h18 q.symm) (fun q => h42 q.symm) (fun q => h52 q.symm) h63.symm) hZ (hw _ (List.mem_of_getElem? (i := 30) rfl)) (hw _ (List.mem_of_getElem? (i := 29) rfl)) (by decide) (by decide)) (g := (mkF m 25 #[.val (.int i0), .val (.int i1), .val (.int ((((i1.toUInt32 >>> ((1 : Int32) &&& 31).toUInt32).toInt32) % (8 : Int32)) - (1 : Int32))), .val (.ref (w 4)), .unset] [(.int ((((i1.toUInt32 >>> ((1 : Int32) &&& 31).toUInt32).toInt32) % (8 : Int32)) - (1 : Int32)))])) rfl (by rw [hml]; rfl) (argsL := [(.int ((((i1.toUInt32 >>> ((1 : Int32) &&& 31).toUInt32).toInt32) % (8 : Int32)) - (1 : Int32)))]) (rest := []) (lenOf pd_1 rfl) rfl (by show 2 * 0 + _ ≤ _; exact Nat.le_of_eq rfl) (hb hby at_25) (fun _ _ => ⟨rfl, e69, (by decide : 1 + 0 ≤ _), (by decide : 6 + 0 ≤ _)⟩)
            dsimp only [Pt.U, Pt.locs, Pt.cells, Pt.slots] at X71 l71 y71 z71 st71 hQ71
            subst l71 y71 z71
            obtain ⟨rfl, N71q, e71⟩ := hQ71
            have N71 := Fr.app N69 N71q
            refine Go.on (T' := T71) (g' := (mkF m 28 #[.val (.int i0), .val (.int i1), .val (.int ((((i1.toUInt32 >>> ((1 : Int32) &&& 31).toUInt32).toInt32) % (8 : Int32)) - (1 : Int32))), .val (.ref (w 4)), .unset] [(.ref (w 4))])) st71 ?_
            refine Go.on (T' := T71) (g' := (mkF m 30 #[.val (.int i0), .val (.int i1), .val (.int ((((i1.toUInt32 >>> ((1 : Int32) &&& 31).toUInt32).toInt32) % (8 : Int32)) - (1 : Int32))), .val (.ref (w 4)), .val (.ref (w 4))] [])) (fun t k => XS.astore X71.here hx rfl (hb hby at_28) rfl rfl (l' := #[.val (.int i0), .val (.int i1), .val (.int ((((i1.toUInt32 >>> ((1 : Int32) &&& 31).toUInt32).toInt32) % (8 : Int32)) - (1 : Int32))), .val (.ref (w 4)), .val (.ref (w 4))]) rfl k) ?_
            refine Go.on (T' := T71) (g' := (mkF m 31 #[.val (.int i0), .val (.int i1), .val (.int ((((i1.toUInt32 >>> ((1 : Int32) &&& 31).toUInt32).toInt32) % (8 : Int32)) - (1 : Int32))), .val (.ref (w 4)), .val (.ref (w 4))] [(.ref (w 4))])) (fun t k => XS.aloadN X71.here hx rfl (hb hby at_30) rfl rfl k) ?_
            refine Go.on (T' := T71) (g' := (mkF m 33 #[.val (.int i0), .val (.int i1), .val (.int ((((i1.toUInt32 >>> ((1 : Int32) &&& 31).toUInt32).toInt32) % (8 : Int32)) - (1 : Int32))), .val (.ref (w 4)), .val (.ref (w 4))] [(.ref (w 4)), (.ref (w 4))])) (fun t k => XS.aload X71.here hx rfl (hb hby at_31) rfl rfl k) ?_
            refine Go.on (T' := T71) (g' := (mkF m 38 #[.val (.int i0), .val (.int i1), .val (.int ((((i1.toUInt32 >>> ((1 : Int32) &&& 31).toUInt32).toInt32) % (8 : Int32)) - (1 : Int32))), .val (.ref (w 4)), .val (.ref (w 4))] [])) (fun t k => Jvm.RoadKit.acmp (g := (mkF m 33 #[.val (.int i0), .val (.int i1), .val (.int ((((i1.toUInt32 >>> ((1 : Int32) &&& 31).toUInt32).toInt32) % (8 : Int32)) - (1 : Int32))), .val (.ref (w 4)), .val (.ref (w 4))] [(.ref (w 4)), (.ref (w 4))])) X71 hx rfl rfl rfl (pc0 := 33) (pc' := 38) (same := true) rfl (hb hby at_33) rfl (decide_eq_true rfl) (by decide) (by decide) k) ?_
            refine Go.on (T' := T71) (g' := (mkF m 39 #[.val (.int i0), .val (.int i1), .val (.int ((((i1.toUInt32 >>> ((1 : Int32) &&& 31).toUInt32).toInt32) % (8 : Int32)) - (1 : Int32))), .val (.ref (w 4)), .val (.ref (w 4))] [(.ref (w 4))])) (fun t k => XS.aloadN X71.here hx rfl (hb hby at_38) rfl rfl k) ?_
            refine Go.on (T' := T71) (g' := (mkF m 42 #[.val (.int i0), .val (.int i1), .val (.int ((((i1.toUInt32 >>> ((1 : Int32) &&& 31).toUInt32).toInt32) % (8 : Int32)) - (1 : Int32))), .val (.ref (w 4)), .val (.ref (w 4))] [])) (fun t k => XS.ifnullNo X71.here hx rfl (hb hby at_39) rfl k) ?_
            refine Go.on (T' := T71) (g' := (mkF m 43 #[.val (.int i0), .val (.int i1), .val (.int ((((i1.toUInt32 >>> ((1 : Int32) &&& 31).toUInt32).toInt32) % (8 : Int32)) - (1 : Int32))), .val (.ref (w 4)), .val (.ref (w 4))] [(.ref (w 4))])) (fun t k => XS.aloadN X71.here hx rfl (hb hby at_42) rfl rfl k) ?_
            obtain ⟨cq74, kq74, q74a, q74b, q74c⟩ := isOf hZ e71 (pin_11 (pins_ext XT69 hP))
            obtain ⟨_, _, ⟨T74, L74, k74, n74⟩, -, X74, ⟨Lc74, hQ74, l74, y74, z74⟩, st74⟩ := X71.virtualBack hx (y := (⟨"com/example/stubwright/stubwright/PacketType", "code", "()I"⟩ : MethodName)) (z := (⟨"com/example/stubwright/stubwright/PacketType", "code", "()I"⟩ : MethodName)) hown (mvT hZ (hw _ (List.mem_of_getElem? (i := 32) rfl))) (mvT hZ (hw _ (List.mem_of_getElem? (i := 33) rfl))) (notFace_of_selects (args := #[]) (mvT hZ (hw _ (List.mem_of_getElem? (i := 35) rfl)))) (mvT hZ (hw _ (List.mem_of_getElem? (i := 35) rfl))) (mvT hZ (hw _ (List.mem_of_getElem? (i := 34) rfl))) (by decide) (backOf (W := 0) (rm4_3 l Z a0 hw [] w T69.heap n0 (Nat.le_trans Z0 XT69.1) (pins_ext XT69 hP)) hZ (hw _ (List.mem_of_getElem? (i := 36) rfl)) (hw _ (List.mem_of_getElem? (i := 2) rfl)) (by decide) (by decide)) q74a q74c (g := (mkF m 43 #[.val (.int i0), .val (.int i1), .val (.int ((((i1.toUInt32 >>> ((1 : Int32) &&& 31).toUInt32).toInt32) % (8 : Int32)) - (1 : Int32))), .val (.ref (w 4)), .val (.ref (w 4))] [(.ref (w 4))])) rfl (by rw [hml]; rfl) (Steps.refl _) (argsL := []) (rest := []) (lenOf pd_2 rfl) rfl (by show 2 * 0 + _ ≤ _; exact Nat.le_of_eq rfl) (hb hby at_43) (fun _ _ => ⟨rfl, e71, (by decide : 1 + 0 ≤ _), (by decide : 6 + 0 ≤ _)⟩)
            dsimp only [Pt.U, Pt.locs, Pt.cells, Pt.slots] at X74 l74 y74 z74 st74 hQ74
            subst l74 y74 z74
            obtain ⟨rfl, N74q, e74⟩ := hQ74
            have N74 := Fr.app N71 N74q
            refine Go.on (T' := T74) (g' := (mkF m 46 #[.val (.int i0), .val (.int i1), .val (.int ((((i1.toUInt32 >>> ((1 : Int32) &&& 31).toUInt32).toInt32) % (8 : Int32)) - (1 : Int32))), .val (.ref (w 4)), .val (.ref (w 4))] [(.int (3 : Int32))])) (fun t k => st74.trans k) ?_
            refine Go.on (T' := T74) (g' := (mkF m 47 #[.val (.int i0), .val (.int i1), .val (.int ((((i1.toUInt32 >>> ((1 : Int32) &&& 31).toUInt32).toInt32) % (8 : Int32)) - (1 : Int32))), .val (.ref (w 4)), .val (.ref (w 4))] [(.int ((((i1.toUInt32 >>> ((1 : Int32) &&& 31).toUInt32).toInt32) % (8 : Int32)) - (1 : Int32))), (.int (3 : Int32))])) (fun t k => XS.iloadN X74.here hx rfl (hb hby at_46) rfl k) ?_
            refine Go.on (T' := T74) (g' := (mkF m 52 #[.val (.int i0), .val (.int i1), .val (.int ((((i1.toUInt32 >>> ((1 : Int32) &&& 31).toUInt32).toInt32) % (8 : Int32)) - (1 : Int32))), .val (.ref (w 4)), .val (.ref (w 4))] [])) (fun t k => XS.icmpYes X74.here hx rfl (pc0 := 47) (pc' := 52) rfl (hb hby at_47) rfl (teq h63).1 (by decide) (by decide) k) ?_
            refine Go.on (T' := T74) (g' := (mkF m 53 #[.val (.int i0), .val (.int i1), .val (.int ((((i1.toUInt32 >>> ((1 : Int32) &&& 31).toUInt32).toInt32) % (8 : Int32)) - (1 : Int32))), .val (.ref (w 4)), .val (.ref (w 4))] [(.int (1 : Int32))])) (fun t k => XS.iconst X74.here hx rfl (hb hby at_52) k) ?_
            obtain ⟨fs, hr, hrun, hended, hW, hsame⟩ := X74.leave (v := some (.int (1 : Int32))) (fun h => by rw [Bd.returns] at h; cases h)
            exact ⟨_, _, retN X74 hx (t := .boolean) Bd.returns (by simp) (hb hby at_53) hr, hrun, hended, _, _, rfl, ⟨rfl, N74⟩, ⟨_, rfl⟩, hW, hsame.mono (by decide) (by decide)⟩
          · skip
            by_cases h75 : (4 : Int32) = ((((i1.toUInt32 >>> ((1 : Int32) &&& 31).toUInt32).toInt32) % (8 : Int32)) - (1 : Int32))
            · skip
              obtain ⟨_, _, ⟨T82, L82, k82, n82⟩, -, X82, ⟨Lc82, hQ82, l82, y82, z82⟩, st82⟩ := Jvm.LawKit.callS X0 hx (y := (⟨"com/example/stubwright/stubwright/PacketType", "fromCode", "(I)Lcom/example/stubwright/stubwright/PacketType;"⟩ : MethodName)) hown (mvT hZ (hw _ (List.mem_of_getElem? (i := 0) rfl))) (mvT hZ (hw _ (List.mem_of_getElem? (i := 1) rfl))) (mvT hZ (hw _ (List.mem_of_getElem? (i := 2) rfl))) (mvT hZ (hw _ (List.mem_of_getElem? (i := 3) rfl))) (by decide) (backOf (W := 0) (rm1_4 l Z a0 hw [] w h0 n0 (Nat.le_trans Z0 (own_ext0 h0).1) hP ((((i1.toUInt32 >>> ((1 : Int32) &&& 31).toUInt32).toInt32) % (8 : Int32)) - (1 : Int32)) h18 h42 h52 h63 h75) hZ (hw _ (List.mem_of_getElem? (i := 3) rfl)) (hw _ (List.mem_of_getElem? (i := 2) rfl)) (by decide) (by decide)) (g := (mkF m 20 #[.val (.int i0), .val (.int i1), .val (.int ((((i1.toUInt32 >>> ((1 : Int32) &&& 31).toUInt32).toInt32) % (8 : Int32)) - (1 : Int32))), .unset, .unset] [(.int ((((i1.toUInt32 >>> ((1 : Int32) &&& 31).toUInt32).toInt32) % (8 : Int32)) - (1 : Int32)))])) rfl (by rw [hml]; rfl) (argsL := [(.int ((((i1.toUInt32 >>> ((1 : Int32) &&& 31).toUInt32).toInt32) % (8 : Int32)) - (1 : Int32)))]) (rest := []) (lenOf pd_1 rfl) rfl (by show 2 * 0 + _ ≤ _; exact Nat.le_of_eq rfl) (hb hby at_20) (fun _ _ => ⟨rfl, e0, (by decide : 0 + 1 ≤ _), (by decide : 0 + 6 ≤ _)⟩)
              dsimp only [Pt.U, Pt.locs, Pt.cells, Pt.slots] at X82 l82 y82 z82 st82 hQ82
              subst l82 y82 z82
              obtain ⟨rfl, N82q, x82, f82⟩ := hQ82
              have N82 := Fr.app N0 N82q
              have e82 : T82.heap = T82.heap := rfl
              have XT82 := own_ext2 (own_ext0 h0) x82
              refine Go.on (T' := T82) (g' := (mkF m 23 #[.val (.int i0), .val (.int i1), .val (.int ((((i1.toUInt32 >>> ((1 : Int32) &&& 31).toUInt32).toInt32) % (8 : Int32)) - (1 : Int32))), .unset, .unset] [(.ref (w 5))])) st82 ?_
              refine Go.on (T' := T82) (g' := (mkF m 24 #[.val (.int i0), .val (.int i1), .val (.int ((((i1.toUInt32 >>> ((1 : Int32) &&& 31).toUInt32).toInt32) % (8 : Int32)) - (1 : Int32))), .val (.ref (w 5)), .unset] [])) (fun t k => XS.astoreN X82.here hx rfl (hb hby at_23) rfl rfl (l' := #[.val (.int i0), .val (.int i1), .val (.int ((((i1.toUInt32 >>> ((1 : Int32) &&& 31).toUInt32).toInt32) % (8 : Int32)) - (1 : Int32))), .val (.ref (w 5)), .unset]) rfl k) ?_
              refine Go.on (T' := T82) (g' := (mkF m 25 #[.val (.int i0), .val (.int i1), .val (.int ((((i1.toUInt32 >>> ((1 : Int32) &&& 31).toUInt32).toInt32) % (8 : Int32)) - (1 : Int32))), .val (.ref (w 5)), .unset] [(.int ((((i1.toUInt32 >>> ((1 : Int32) &&& 31).toUInt32).toInt32) % (8 : Int32)) - (1 : Int32)))])) (fun t k => XS.iloadN X82.here hx rfl (hb hby at_24) rfl k) ?_
              obtain ⟨_, _, ⟨T84, L84, k84, n84⟩, -, X84, ⟨Lc84, hQ84, l84, y84, z84⟩, st84⟩ := Jvm.LawKit.callS X82 hx (y := (⟨"com/example/stubwright/stubwright/PacketTypeFromCodePinLaw", "expected", "(I)Lcom/example/stubwright/stubwright/PacketType;"⟩ : MethodName)) hown (mvT hZ (hw _ (List.mem_of_getElem? (i := 27) rfl))) (mvT hZ (hw _ (List.mem_of_getElem? (i := 28) rfl))) (mvT hZ (hw _ (List.mem_of_getElem? (i := 29) rfl))) (mvT hZ (hw _ (List.mem_of_getElem? (i := 30) rfl))) (by decide) (backOf (W := 0) (rm3_4 l Z a0 hw [] w T82.heap n0 (Nat.le_trans Z0 XT82.1) (pins_ext XT82 hP) ((((i1.toUInt32 >>> ((1 : Int32) &&& 31).toUInt32).toInt32) % (8 : Int32)) - (1 : Int32)) (fun q => h18 q.symm) (fun q => h42 q.symm) (fun q => h52 q.symm) (fun q => h63 q.symm) h75.symm) hZ (hw _ (List.mem_of_getElem? (i := 30) rfl)) (hw _ (List.mem_of_getElem? (i := 29) rfl)) (by decide) (by decide)) (g := (mkF m 25 #[.val (.int i0), .val (.int i1), .val (.int ((((i1.toUInt32 >>> ((1 : Int32) &&& 31).toUInt32).toInt32) % (8 : Int32)) - (1 : Int32))), .val (.ref (w 5)), .unset] [(.int ((((i1.toUInt32 >>> ((1 : Int32) &&& 31).toUInt32).toInt32) % (8 : Int32)) - (1 : Int32)))])) rfl (by rw [hml]; rfl) (argsL := [(.int ((((i1.toUInt32 >>> ((1 : Int32) &&& 31).toUInt32).toInt32) % (8 : Int32)) - (1 : Int32)))]) (rest := []) (lenOf pd_1 rfl) rfl (by show 2 * 0 + _ ≤ _; exact Nat.le_of_eq rfl) (hb hby at_25) (fun _ _ => ⟨rfl, e82, (by decide : 1 + 0 ≤ _), (by decide : 6 + 0 ≤ _)⟩)
              dsimp only [Pt.U, Pt.locs, Pt.cells, Pt.slots] at X84 l84 y84 z84 st84 hQ84
              subst l84 y84 z84
              obtain ⟨rfl, N84q, e84⟩ := hQ84
              have N84 := Fr.app N82 N84q
              refine Go.on (T' := T84) (g' := (mkF m 28 #[.val (.int i0), .val (.int i1), .val (.int ((((i1.toUInt32 >>> ((1 : Int32) &&& 31).toUInt32).toInt32) % (8 : Int32)) - (1 : Int32))), .val (.ref (w 5)), .unset] [(.ref (w 5))])) st84 ?_
              refine Go.on (T' := T84) (g' := (mkF m 30 #[.val (.int i0), .val (.int i1), .val (.int ((((i1.toUInt32 >>> ((1 : Int32) &&& 31).toUInt32).toInt32) % (8 : Int32)) - (1 : Int32))), .val (.ref (w 5)), .val (.ref (w 5))] [])) (fun t k => XS.astore X84.here hx rfl (hb hby at_28) rfl rfl (l' := #[.val (.int i0), .val (.int i1), .val (.int ((((i1.toUInt32 >>> ((1 : Int32) &&& 31).toUInt32).toInt32) % (8 : Int32)) - (1 : Int32))), .val (.ref (w 5)), .val (.ref (w 5))]) rfl k) ?_
              refine Go.on (T' := T84) (g' := (mkF m 31 #[.val (.int i0), .val (.int i1), .val (.int ((((i1.toUInt32 >>> ((1 : Int32) &&& 31).toUInt32).toInt32) % (8 : Int32)) - (1 : Int32))), .val (.ref (w 5)), .val (.ref (w 5))] [(.ref (w 5))])) (fun t k => XS.aloadN X84.here hx rfl (hb hby at_30) rfl rfl k) ?_
              refine Go.on (T' := T84) (g' := (mkF m 33 #[.val (.int i0), .val (.int i1), .val (.int ((((i1.toUInt32 >>> ((1 : Int32) &&& 31).toUInt32).toInt32) % (8 : Int32)) - (1 : Int32))), .val (.ref (w 5)), .val (.ref (w 5))] [(.ref (w 5)), (.ref (w 5))])) (fun t k => XS.aload X84.here hx rfl (hb hby at_31) rfl rfl k) ?_
              refine Go.on (T' := T84) (g' := (mkF m 38 #[.val (.int i0), .val (.int i1), .val (.int ((((i1.toUInt32 >>> ((1 : Int32) &&& 31).toUInt32).toInt32) % (8 : Int32)) - (1 : Int32))), .val (.ref (w 5)), .val (.ref (w 5))] [])) (fun t k => Jvm.RoadKit.acmp (g := (mkF m 33 #[.val (.int i0), .val (.int i1), .val (.int ((((i1.toUInt32 >>> ((1 : Int32) &&& 31).toUInt32).toInt32) % (8 : Int32)) - (1 : Int32))), .val (.ref (w 5)), .val (.ref (w 5))] [(.ref (w 5)), (.ref (w 5))])) X84 hx rfl rfl rfl (pc0 := 33) (pc' := 38) (same := true) rfl (hb hby at_33) rfl (decide_eq_true rfl) (by decide) (by decide) k) ?_
              refine Go.on (T' := T84) (g' := (mkF m 39 #[.val (.int i0), .val (.int i1), .val (.int ((((i1.toUInt32 >>> ((1 : Int32) &&& 31).toUInt32).toInt32) % (8 : Int32)) - (1 : Int32))), .val (.ref (w 5)), .val (.ref (w 5))] [(.ref (w 5))])) (fun t k => XS.aloadN X84.here hx rfl (hb hby at_38) rfl rfl k) ?_
              refine Go.on (T' := T84) (g' := (mkF m 42 #[.val (.int i0), .val (.int i1), .val (.int ((((i1.toUInt32 >>> ((1 : Int32) &&& 31).toUInt32).toInt32) % (8 : Int32)) - (1 : Int32))), .val (.ref (w 5)), .val (.ref (w 5))] [])) (fun t k => XS.ifnullNo X84.here hx rfl (hb hby at_39) rfl k) ?_
              refine Go.on (T' := T84) (g' := (mkF m 43 #[.val (.int i0), .val (.int i1), .val (.int ((((i1.toUInt32 >>> ((1 : Int32) &&& 31).toUInt32).toInt32) % (8 : Int32)) - (1 : Int32))), .val (.ref (w 5)), .val (.ref (w 5))] [(.ref (w 5))])) (fun t k => XS.aloadN X84.here hx rfl (hb hby at_42) rfl rfl k) ?_
              obtain ⟨cq87, kq87, q87a, q87b, q87c⟩ := isOf hZ e84 (pin_12 (pins_ext XT82 hP))
              obtain ⟨_, _, ⟨T87, L87, k87, n87⟩, -, X87, ⟨Lc87, hQ87, l87, y87, z87⟩, st87⟩ := X84.virtualBack hx (y := (⟨"com/example/stubwright/stubwright/PacketType", "code", "()I"⟩ : MethodName)) (z := (⟨"com/example/stubwright/stubwright/PacketType", "code", "()I"⟩ : MethodName)) hown (mvT hZ (hw _ (List.mem_of_getElem? (i := 32) rfl))) (mvT hZ (hw _ (List.mem_of_getElem? (i := 33) rfl))) (notFace_of_selects (args := #[]) (mvT hZ (hw _ (List.mem_of_getElem? (i := 35) rfl)))) (mvT hZ (hw _ (List.mem_of_getElem? (i := 35) rfl))) (mvT hZ (hw _ (List.mem_of_getElem? (i := 34) rfl))) (by decide) (backOf (W := 0) (rm4_4 l Z a0 hw [] w T82.heap n0 (Nat.le_trans Z0 XT82.1) (pins_ext XT82 hP)) hZ (hw _ (List.mem_of_getElem? (i := 36) rfl)) (hw _ (List.mem_of_getElem? (i := 2) rfl)) (by decide) (by decide)) q87a q87c (g := (mkF m 43 #[.val (.int i0), .val (.int i1), .val (.int ((((i1.toUInt32 >>> ((1 : Int32) &&& 31).toUInt32).toInt32) % (8 : Int32)) - (1 : Int32))), .val (.ref (w 5)), .val (.ref (w 5))] [(.ref (w 5))])) rfl (by rw [hml]; rfl) (Steps.refl _) (argsL := []) (rest := []) (lenOf pd_2 rfl) rfl (by show 2 * 0 + _ ≤ _; exact Nat.le_of_eq rfl) (hb hby at_43) (fun _ _ => ⟨rfl, e84, (by decide : 1 + 0 ≤ _), (by decide : 6 + 0 ≤ _)⟩)
              dsimp only [Pt.U, Pt.locs, Pt.cells, Pt.slots] at X87 l87 y87 z87 st87 hQ87
              subst l87 y87 z87
              obtain ⟨rfl, N87q, e87⟩ := hQ87
              have N87 := Fr.app N84 N87q
              refine Go.on (T' := T87) (g' := (mkF m 46 #[.val (.int i0), .val (.int i1), .val (.int ((((i1.toUInt32 >>> ((1 : Int32) &&& 31).toUInt32).toInt32) % (8 : Int32)) - (1 : Int32))), .val (.ref (w 5)), .val (.ref (w 5))] [(.int (4 : Int32))])) (fun t k => st87.trans k) ?_
              refine Go.on (T' := T87) (g' := (mkF m 47 #[.val (.int i0), .val (.int i1), .val (.int ((((i1.toUInt32 >>> ((1 : Int32) &&& 31).toUInt32).toInt32) % (8 : Int32)) - (1 : Int32))), .val (.ref (w 5)), .val (.ref (w 5))] [(.int ((((i1.toUInt32 >>> ((1 : Int32) &&& 31).toUInt32).toInt32) % (8 : Int32)) - (1 : Int32))), (.int (4 : Int32))])) (fun t k => XS.iloadN X87.here hx rfl (hb hby at_46) rfl k) ?_
              refine Go.on (T' := T87) (g' := (mkF m 52 #[.val (.int i0), .val (.int i1), .val (.int ((((i1.toUInt32 >>> ((1 : Int32) &&& 31).toUInt32).toInt32) % (8 : Int32)) - (1 : Int32))), .val (.ref (w 5)), .val (.ref (w 5))] [])) (fun t k => XS.icmpYes X87.here hx rfl (pc0 := 47) (pc' := 52) rfl (hb hby at_47) rfl (teq h75).1 (by decide) (by decide) k) ?_
              refine Go.on (T' := T87) (g' := (mkF m 53 #[.val (.int i0), .val (.int i1), .val (.int ((((i1.toUInt32 >>> ((1 : Int32) &&& 31).toUInt32).toInt32) % (8 : Int32)) - (1 : Int32))), .val (.ref (w 5)), .val (.ref (w 5))] [(.int (1 : Int32))])) (fun t k => XS.iconst X87.here hx rfl (hb hby at_52) k) ?_
              obtain ⟨fs, hr, hrun, hended, hW, hsame⟩ := X87.leave (v := some (.int (1 : Int32))) (fun h => by rw [Bd.returns] at h; cases h)
              exact ⟨_, _, retN X87 hx (t := .boolean) Bd.returns (by simp) (hb hby at_53) hr, hrun, hended, _, _, rfl, ⟨rfl, N87⟩, ⟨_, rfl⟩, hW, hsame.mono (by decide) (by decide)⟩
            · skip
              by_cases h88 : (5 : Int32) = ((((i1.toUInt32 >>> ((1 : Int32) &&& 31).toUInt32).toInt32) % (8 : Int32)) - (1 : Int32))
              · skip
                obtain ⟨_, _, ⟨T96, L96, k96, n96⟩, -, X96, ⟨Lc96, hQ96, l96, y96, z96⟩, st96⟩ := Jvm.LawKit.callS X0 hx (y := (⟨"com/example/stubwright/stubwright/PacketType", "fromCode", "(I)Lcom/example/stubwright/stubwright/PacketType;"⟩ : MethodName)) hown (mvT hZ (hw _ (List.mem_of_getElem? (i := 0) rfl))) (mvT hZ (hw _ (List.mem_of_getElem? (i := 1) rfl))) (mvT hZ (hw _ (List.mem_of_getElem? (i := 2) rfl))) (mvT hZ (hw _ (List.mem_of_getElem? (i := 3) rfl))) (by decide) (backOf (W := 0) (rm1_5 l Z a0 hw [] w h0 n0 (Nat.le_trans Z0 (own_ext0 h0).1) hP ((((i1.toUInt32 >>> ((1 : Int32) &&& 31).toUInt32).toInt32) % (8 : Int32)) - (1 : Int32)) h18 h42 h52 h63 h75 h88) hZ (hw _ (List.mem_of_getElem? (i := 3) rfl)) (hw _ (List.mem_of_getElem? (i := 2) rfl)) (by decide) (by decide)) (g := (mkF m 20 #[.val (.int i0), .val (.int i1), .val (.int ((((i1.toUInt32 >>> ((1 : Int32) &&& 31).toUInt32).toInt32) % (8 : Int32)) - (1 : Int32))), .unset, .unset] [(.int ((((i1.toUInt32 >>> ((1 : Int32) &&& 31).toUInt32).toInt32) % (8 : Int32)) - (1 : Int32)))])) rfl (by rw [hml]; rfl) (argsL := [(.int ((((i1.toUInt32 >>> ((1 : Int32) &&& 31).toUInt32).toInt32) % (8 : Int32)) - (1 : Int32)))]) (rest := []) (lenOf pd_1 rfl) rfl (by show 2 * 0 + _ ≤ _; exact Nat.le_of_eq rfl) (hb hby at_20) (fun _ _ => ⟨rfl, e0, (by decide : 0 + 1 ≤ _), (by decide : 0 + 6 ≤ _)⟩)
                dsimp only [Pt.U, Pt.locs, Pt.cells, Pt.slots] at X96 l96 y96 z96 st96 hQ96
                subst l96 y96 z96
                obtain ⟨rfl, N96q, x96, f96⟩ := hQ96
                have N96 := Fr.app N0 N96q
                have e96 : T96.heap = T96.heap := rfl
                have XT96 := own_ext2 (own_ext0 h0) x96
                refine Go.on (T' := T96) (g' := (mkF m 23 #[.val (.int i0), .val (.int i1), .val (.int ((((i1.toUInt32 >>> ((1 : Int32) &&& 31).toUInt32).toInt32) % (8 : Int32)) - (1 : Int32))), .unset, .unset] [(.ref (w 6))])) st96 ?_
                refine Go.on (T' := T96) (g' := (mkF m 24 #[.val (.int i0), .val (.int i1), .val (.int ((((i1.toUInt32 >>> ((1 : Int32) &&& 31).toUInt32).toInt32) % (8 : Int32)) - (1 : Int32))), .val (.ref (w 6)), .unset] [])) (fun t k => XS.astoreN X96.here hx rfl (hb hby at_23) rfl rfl (l' := #[.val (.int i0), .val (.int i1), .val (.int ((((i1.toUInt32 >>> ((1 : Int32) &&& 31).toUInt32).toInt32) % (8 : Int32)) - (1 : Int32))), .val (.ref (w 6)), .unset]) rfl k) ?_
                refine Go.on (T' := T96) (g' := (mkF m 25 #[.val (.int i0), .val (.int i1), .val (.int ((((i1.toUInt32 >>> ((1 : Int32) &&& 31).toUInt32).toInt32) % (8 : Int32)) - (1 : Int32))), .val (.ref (w 6)), .unset] [(.int ((((i1.toUInt32 >>> ((1 : Int32) &&& 31).toUInt32).toInt32) % (8 : Int32)) - (1 : Int32)))])) (fun t k => XS.iloadN X96.here hx rfl (hb hby at_24) rfl k) ?_
                obtain ⟨_, _, ⟨T98, L98, k98, n98⟩, -, X98, ⟨Lc98, hQ98, l98, y98, z98⟩, st98⟩ := Jvm.LawKit.callS X96 hx (y := (⟨"com/example/stubwright/stubwright/PacketTypeFromCodePinLaw", "expected", "(I)Lcom/example/stubwright/stubwright/PacketType;"⟩ : MethodName)) hown (mvT hZ (hw _ (List.mem_of_getElem? (i := 27) rfl))) (mvT hZ (hw _ (List.mem_of_getElem? (i := 28) rfl))) (mvT hZ (hw _ (List.mem_of_getElem? (i := 29) rfl))) (mvT hZ (hw _ (List.mem_of_getElem? (i := 30) rfl))) (by decide) (backOf (W := 0) (rm3_5 l Z a0 hw [] w T96.heap n0 (Nat.le_trans Z0 XT96.1) (pins_ext XT96 hP) ((((i1.toUInt32 >>> ((1 : Int32) &&& 31).toUInt32).toInt32) % (8 : Int32)) - (1 : Int32)) (fun q => h18 q.symm) (fun q => h42 q.symm) (fun q => h52 q.symm) (fun q => h63 q.symm) (fun q => h75 q.symm) h88.symm) hZ (hw _ (List.mem_of_getElem? (i := 30) rfl)) (hw _ (List.mem_of_getElem? (i := 29) rfl)) (by decide) (by decide)) (g := (mkF m 25 #[.val (.int i0), .val (.int i1), .val (.int ((((i1.toUInt32 >>> ((1 : Int32) &&& 31).toUInt32).toInt32) % (8 : Int32)) - (1 : Int32))), .val (.ref (w 6)), .unset] [(.int ((((i1.toUInt32 >>> ((1 : Int32) &&& 31).toUInt32).toInt32) % (8 : Int32)) - (1 : Int32)))])) rfl (by rw [hml]; rfl) (argsL := [(.int ((((i1.toUInt32 >>> ((1 : Int32) &&& 31).toUInt32).toInt32) % (8 : Int32)) - (1 : Int32)))]) (rest := []) (lenOf pd_1 rfl) rfl (by show 2 * 0 + _ ≤ _; exact Nat.le_of_eq rfl) (hb hby at_25) (fun _ _ => ⟨rfl, e96, (by decide : 1 + 0 ≤ _), (by decide : 6 + 0 ≤ _)⟩)
                dsimp only [Pt.U, Pt.locs, Pt.cells, Pt.slots] at X98 l98 y98 z98 st98 hQ98
                subst l98 y98 z98
                obtain ⟨rfl, N98q, e98⟩ := hQ98
                have N98 := Fr.app N96 N98q
                refine Go.on (T' := T98) (g' := (mkF m 28 #[.val (.int i0), .val (.int i1), .val (.int ((((i1.toUInt32 >>> ((1 : Int32) &&& 31).toUInt32).toInt32) % (8 : Int32)) - (1 : Int32))), .val (.ref (w 6)), .unset] [(.ref (w 6))])) st98 ?_
                refine Go.on (T' := T98) (g' := (mkF m 30 #[.val (.int i0), .val (.int i1), .val (.int ((((i1.toUInt32 >>> ((1 : Int32) &&& 31).toUInt32).toInt32) % (8 : Int32)) - (1 : Int32))), .val (.ref (w 6)), .val (.ref (w 6))] [])) (fun t k => XS.astore X98.here hx rfl (hb hby at_28) rfl rfl (l' := #[.val (.int i0), .val (.int i1), .val (.int ((((i1.toUInt32 >>> ((1 : Int32) &&& 31).toUInt32).toInt32) % (8 : Int32)) - (1 : Int32))), .val (.ref (w 6)), .val (.ref (w 6))]) rfl k) ?_
                refine Go.on (T' := T98) (g' := (mkF m 31 #[.val (.int i0), .val (.int i1), .val (.int ((((i1.toUInt32 >>> ((1 : Int32) &&& 31).toUInt32).toInt32) % (8 : Int32)) - (1 : Int32))), .val (.ref (w 6)), .val (.ref (w 6))] [(.ref (w 6))])) (fun t k => XS.aloadN X98.here hx rfl (hb hby at_30) rfl rfl k) ?_
                refine Go.on (T' := T98) (g' := (mkF m 33 #[.val (.int i0), .val (.int i1), .val (.int ((((i1.toUInt32 >>> ((1 : Int32) &&& 31).toUInt32).toInt32) % (8 : Int32)) - (1 : Int32))), .val (.ref (w 6)), .val (.ref (w 6))] [(.ref (w 6)), (.ref (w 6))])) (fun t k => XS.aload X98.here hx rfl (hb hby at_31) rfl rfl k) ?_
                refine Go.on (T' := T98) (g' := (mkF m 38 #[.val (.int i0), .val (.int i1), .val (.int ((((i1.toUInt32 >>> ((1 : Int32) &&& 31).toUInt32).toInt32) % (8 : Int32)) - (1 : Int32))), .val (.ref (w 6)), .val (.ref (w 6))] [])) (fun t k => Jvm.RoadKit.acmp (g := (mkF m 33 #[.val (.int i0), .val (.int i1), .val (.int ((((i1.toUInt32 >>> ((1 : Int32) &&& 31).toUInt32).toInt32) % (8 : Int32)) - (1 : Int32))), .val (.ref (w 6)), .val (.ref (w 6))] [(.ref (w 6)), (.ref (w 6))])) X98 hx rfl rfl rfl (pc0 := 33) (pc' := 38) (same := true) rfl (hb hby at_33) rfl (decide_eq_true rfl) (by decide) (by decide) k) ?_
                refine Go.on (T' := T98) (g' := (mkF m 39 #[.val (.int i0), .val (.int i1), .val (.int ((((i1.toUInt32 >>> ((1 : Int32) &&& 31).toUInt32).toInt32) % (8 : Int32)) - (1 : Int32))), .val (.ref (w 6)), .val (.ref (w 6))] [(.ref (w 6))])) (fun t k => XS.aloadN X98.here hx rfl (hb hby at_38) rfl rfl k) ?_
                refine Go.on (T' := T98) (g' := (mkF m 42 #[.val (.int i0), .val (.int i1), .val (.int ((((i1.toUInt32 >>> ((1 : Int32) &&& 31).toUInt32).toInt32) % (8 : Int32)) - (1 : Int32))), .val (.ref (w 6)), .val (.ref (w 6))] [])) (fun t k => XS.ifnullNo X98.here hx rfl (hb hby at_39) rfl k) ?_
                refine Go.on (T' := T98) (g' := (mkF m 43 #[.val (.int i0), .val (.int i1), .val (.int ((((i1.toUInt32 >>> ((1 : Int32) &&& 31).toUInt32).toInt32) % (8 : Int32)) - (1 : Int32))), .val (.ref (w 6)), .val (.ref (w 6))] [(.ref (w 6))])) (fun t k => XS.aloadN X98.here hx rfl (hb hby at_42) rfl rfl k) ?_
                obtain ⟨cq101, kq101, q101a, q101b, q101c⟩ := isOf hZ e98 (pin_13 (pins_ext XT96 hP))
                obtain ⟨_, _, ⟨T101, L101, k101, n101⟩, -, X101, ⟨Lc101, hQ101, l101, y101, z101⟩, st101⟩ := X98.virtualBack hx (y := (⟨"com/example/stubwright/stubwright/PacketType", "code", "()I"⟩ : MethodName)) (z := (⟨"com/example/stubwright/stubwright/PacketType", "code", "()I"⟩ : MethodName)) hown (mvT hZ (hw _ (List.mem_of_getElem? (i := 32) rfl))) (mvT hZ (hw _ (List.mem_of_getElem? (i := 33) rfl))) (notFace_of_selects (args := #[]) (mvT hZ (hw _ (List.mem_of_getElem? (i := 35) rfl)))) (mvT hZ (hw _ (List.mem_of_getElem? (i := 35) rfl))) (mvT hZ (hw _ (List.mem_of_getElem? (i := 34) rfl))) (by decide) (backOf (W := 0) (rm4_5 l Z a0 hw [] w T96.heap n0 (Nat.le_trans Z0 XT96.1) (pins_ext XT96 hP)) hZ (hw _ (List.mem_of_getElem? (i := 36) rfl)) (hw _ (List.mem_of_getElem? (i := 2) rfl)) (by decide) (by decide)) q101a q101c (g := (mkF m 43 #[.val (.int i0), .val (.int i1), .val (.int ((((i1.toUInt32 >>> ((1 : Int32) &&& 31).toUInt32).toInt32) % (8 : Int32)) - (1 : Int32))), .val (.ref (w 6)), .val (.ref (w 6))] [(.ref (w 6))])) rfl (by rw [hml]; rfl) (Steps.refl _) (argsL := []) (rest := []) (lenOf pd_2 rfl) rfl (by show 2 * 0 + _ ≤ _; exact Nat.le_of_eq rfl) (hb hby at_43) (fun _ _ => ⟨rfl, e98, (by decide : 1 + 0 ≤ _), (by decide : 6 + 0 ≤ _)⟩)
                dsimp only [Pt.U, Pt.locs, Pt.cells, Pt.slots] at X101 l101 y101 z101 st101 hQ101
                subst l101 y101 z101
                obtain ⟨rfl, N101q, e101⟩ := hQ101
                have N101 := Fr.app N98 N101q
                refine Go.on (T' := T101) (g' := (mkF m 46 #[.val (.int i0), .val (.int i1), .val (.int ((((i1.toUInt32 >>> ((1 : Int32) &&& 31).toUInt32).toInt32) % (8 : Int32)) - (1 : Int32))), .val (.ref (w 6)), .val (.ref (w 6))] [(.int (5 : Int32))])) (fun t k => st101.trans k) ?_
                refine Go.on (T' := T101) (g' := (mkF m 47 #[.val (.int i0), .val (.int i1), .val (.int ((((i1.toUInt32 >>> ((1 : Int32) &&& 31).toUInt32).toInt32) % (8 : Int32)) - (1 : Int32))), .val (.ref (w 6)), .val (.ref (w 6))] [(.int ((((i1.toUInt32 >>> ((1 : Int32) &&& 31).toUInt32).toInt32) % (8 : Int32)) - (1 : Int32))), (.int (5 : Int32))])) (fun t k => XS.iloadN X101.here hx rfl (hb hby at_46) rfl k) ?_
                refine Go.on (T' := T101) (g' := (mkF m 52 #[.val (.int i0), .val (.int i1), .val (.int ((((i1.toUInt32 >>> ((1 : Int32) &&& 31).toUInt32).toInt32) % (8 : Int32)) - (1 : Int32))), .val (.ref (w 6)), .val (.ref (w 6))] [])) (fun t k => XS.icmpYes X101.here hx rfl (pc0 := 47) (pc' := 52) rfl (hb hby at_47) rfl (teq h88).1 (by decide) (by decide) k) ?_
                refine Go.on (T' := T101) (g' := (mkF m 53 #[.val (.int i0), .val (.int i1), .val (.int ((((i1.toUInt32 >>> ((1 : Int32) &&& 31).toUInt32).toInt32) % (8 : Int32)) - (1 : Int32))), .val (.ref (w 6)), .val (.ref (w 6))] [(.int (1 : Int32))])) (fun t k => XS.iconst X101.here hx rfl (hb hby at_52) k) ?_
                obtain ⟨fs, hr, hrun, hended, hW, hsame⟩ := X101.leave (v := some (.int (1 : Int32))) (fun h => by rw [Bd.returns] at h; cases h)
                exact ⟨_, _, retN X101 hx (t := .boolean) Bd.returns (by simp) (hb hby at_53) hr, hrun, hended, _, _, rfl, ⟨rfl, N101⟩, ⟨_, rfl⟩, hW, hsame.mono (by decide) (by decide)⟩
              · skip
                obtain ⟨_, _, ⟨T109, L109, k109, n109⟩, -, X109, ⟨Lc109, hQ109, l109, y109, z109⟩, st109⟩ := Jvm.LawKit.callS X0 hx (y := (⟨"com/example/stubwright/stubwright/PacketType", "fromCode", "(I)Lcom/example/stubwright/stubwright/PacketType;"⟩ : MethodName)) hown (mvT hZ (hw _ (List.mem_of_getElem? (i := 0) rfl))) (mvT hZ (hw _ (List.mem_of_getElem? (i := 1) rfl))) (mvT hZ (hw _ (List.mem_of_getElem? (i := 2) rfl))) (mvT hZ (hw _ (List.mem_of_getElem? (i := 3) rfl))) (by decide) (backOf (W := 0) (rm1_6 l Z a0 hw [] w h0 n0 (Nat.le_trans Z0 (own_ext0 h0).1) hP ((((i1.toUInt32 >>> ((1 : Int32) &&& 31).toUInt32).toInt32) % (8 : Int32)) - (1 : Int32)) h18 h42 h52 h63 h75 h88) hZ (hw _ (List.mem_of_getElem? (i := 3) rfl)) (hw _ (List.mem_of_getElem? (i := 2) rfl)) (by decide) (by decide)) (g := (mkF m 20 #[.val (.int i0), .val (.int i1), .val (.int ((((i1.toUInt32 >>> ((1 : Int32) &&& 31).toUInt32).toInt32) % (8 : Int32)) - (1 : Int32))), .unset, .unset] [(.int ((((i1.toUInt32 >>> ((1 : Int32) &&& 31).toUInt32).toInt32) % (8 : Int32)) - (1 : Int32)))])) rfl (by rw [hml]; rfl) (argsL := [(.int ((((i1.toUInt32 >>> ((1 : Int32) &&& 31).toUInt32).toInt32) % (8 : Int32)) - (1 : Int32)))]) (rest := []) (lenOf pd_1 rfl) rfl (by show 2 * 0 + _ ≤ _; exact Nat.le_of_eq rfl) (hb hby at_20) (fun _ _ => ⟨rfl, e0, (by decide : 0 + 1 ≤ _), (by decide : 0 + 6 ≤ _)⟩)
                dsimp only [Pt.U, Pt.locs, Pt.cells, Pt.slots] at X109 l109 y109 z109 st109 hQ109
                subst l109 y109 z109
                obtain ⟨rfl, N109q, x109, f109⟩ := hQ109
                have N109 := Fr.app N0 N109q
                have e109 : T109.heap = T109.heap := rfl
                have XT109 := own_ext2 (own_ext0 h0) x109
                refine Go.on (T' := T109) (g' := (mkF m 23 #[.val (.int i0), .val (.int i1), .val (.int ((((i1.toUInt32 >>> ((1 : Int32) &&& 31).toUInt32).toInt32) % (8 : Int32)) - (1 : Int32))), .unset, .unset] [.null])) st109 ?_
                refine Go.on (T' := T109) (g' := (mkF m 24 #[.val (.int i0), .val (.int i1), .val (.int ((((i1.toUInt32 >>> ((1 : Int32) &&& 31).toUInt32).toInt32) % (8 : Int32)) - (1 : Int32))), .val .null, .unset] [])) (fun t k => XS.astoreN X109.here hx rfl (hb hby at_23) rfl rfl (l' := #[.val (.int i0), .val (.int i1), .val (.int ((((i1.toUInt32 >>> ((1 : Int32) &&& 31).toUInt32).toInt32) % (8 : Int32)) - (1 : Int32))), .val .null, .unset]) rfl k) ?_
                refine Go.on (T' := T109) (g' := (mkF m 25 #[.val (.int i0), .val (.int i1), .val (.int ((((i1.toUInt32 >>> ((1 : Int32) &&& 31).toUInt32).toInt32) % (8 : Int32)) - (1 : Int32))), .val .null, .unset] [(.int ((((i1.toUInt32 >>> ((1 : Int32) &&& 31).toUInt32).toInt32) % (8 : Int32)) - (1 : Int32)))])) (fun t k => XS.iloadN X109.here hx rfl (hb hby at_24) rfl k) ?_
                obtain ⟨_, _, ⟨T110, L110, k110, n110⟩, -, X110, ⟨Lc110, hQ110, l110, y110, z110⟩, st110⟩ := Jvm.LawKit.callS X109 hx (y := (⟨"com/example/stubwright/stubwright/PacketTypeFromCodePinLaw", "expected", "(I)Lcom/example/stubwright/stubwright/PacketType;"⟩ : MethodName)) hown (mvT hZ (hw _ (List.mem_of_getElem? (i := 27) rfl))) (mvT hZ (hw _ (List.mem_of_getElem? (i := 28) rfl))) (mvT hZ (hw _ (List.mem_of_getElem? (i := 29) rfl))) (mvT hZ (hw _ (List.mem_of_getElem? (i := 30) rfl))) (by decide) (backOf (W := 0) (rm3_6 l Z a0 hw [] w T109.heap n0 (Nat.le_trans Z0 XT109.1) (pins_ext XT109 hP) ((((i1.toUInt32 >>> ((1 : Int32) &&& 31).toUInt32).toInt32) % (8 : Int32)) - (1 : Int32)) (fun q => h18 q.symm) (fun q => h42 q.symm) (fun q => h52 q.symm) (fun q => h63 q.symm) (fun q => h75 q.symm) (fun q => h88 q.symm)) hZ (hw _ (List.mem_of_getElem? (i := 30) rfl)) (hw _ (List.mem_of_getElem? (i := 29) rfl)) (by decide) (by decide)) (g := (mkF m 25 #[.val (.int i0), .val (.int i1), .val (.int ((((i1.toUInt32 >>> ((1 : Int32) &&& 31).toUInt32).toInt32) % (8 : Int32)) - (1 : Int32))), .val .null, .unset] [(.int ((((i1.toUInt32 >>> ((1 : Int32) &&& 31).toUInt32).toInt32) % (8 : Int32)) - (1 : Int32)))])) rfl (by rw [hml]; rfl) (argsL := [(.int ((((i1.toUInt32 >>> ((1 : Int32) &&& 31).toUInt32).toInt32) % (8 : Int32)) - (1 : Int32)))]) (rest := []) (lenOf pd_1 rfl) rfl (by show 2 * 0 + _ ≤ _; exact Nat.le_of_eq rfl) (hb hby at_25) (fun _ _ => ⟨rfl, e109, (by decide : 1 + 0 ≤ _), (by decide : 6 + 0 ≤ _)⟩)
                dsimp only [Pt.U, Pt.locs, Pt.cells, Pt.slots] at X110 l110 y110 z110 st110 hQ110
                subst l110 y110 z110
                obtain ⟨rfl, N110q, e110⟩ := hQ110
                have N110 := Fr.app N109 N110q
                refine Go.on (T' := T110) (g' := (mkF m 28 #[.val (.int i0), .val (.int i1), .val (.int ((((i1.toUInt32 >>> ((1 : Int32) &&& 31).toUInt32).toInt32) % (8 : Int32)) - (1 : Int32))), .val .null, .unset] [.null])) st110 ?_
                refine Go.on (T' := T110) (g' := (mkF m 30 #[.val (.int i0), .val (.int i1), .val (.int ((((i1.toUInt32 >>> ((1 : Int32) &&& 31).toUInt32).toInt32) % (8 : Int32)) - (1 : Int32))), .val .null, .val .null] [])) (fun t k => XS.astore X110.here hx rfl (hb hby at_28) rfl rfl (l' := #[.val (.int i0), .val (.int i1), .val (.int ((((i1.toUInt32 >>> ((1 : Int32) &&& 31).toUInt32).toInt32) % (8 : Int32)) - (1 : Int32))), .val .null, .val .null]) rfl k) ?_
                refine Go.on (T' := T110) (g' := (mkF m 31 #[.val (.int i0), .val (.int i1), .val (.int ((((i1.toUInt32 >>> ((1 : Int32) &&& 31).toUInt32).toInt32) % (8 : Int32)) - (1 : Int32))), .val .null, .val .null] [.null])) (fun t k => XS.aloadN X110.here hx rfl (hb hby at_30) rfl rfl k) ?_
                refine Go.on (T' := T110) (g' := (mkF m 33 #[.val (.int i0), .val (.int i1), .val (.int ((((i1.toUInt32 >>> ((1 : Int32) &&& 31).toUInt32).toInt32) % (8 : Int32)) - (1 : Int32))), .val .null, .val .null] [.null, .null])) (fun t k => XS.aload X110.here hx rfl (hb hby at_31) rfl rfl k) ?_
                refine Go.on (T' := T110) (g' := (mkF m 38 #[.val (.int i0), .val (.int i1), .val (.int ((((i1.toUInt32 >>> ((1 : Int32) &&& 31).toUInt32).toInt32) % (8 : Int32)) - (1 : Int32))), .val .null, .val .null] [])) (fun t k => Jvm.RoadKit.acmp (g := (mkF m 33 #[.val (.int i0), .val (.int i1), .val (.int ((((i1.toUInt32 >>> ((1 : Int32) &&& 31).toUInt32).toInt32) % (8 : Int32)) - (1 : Int32))), .val .null, .val .null] [.null, .null])) X110 hx rfl rfl rfl (pc0 := 33) (pc' := 38) (same := true) rfl (hb hby at_33) rfl (decide_eq_true rfl) (by decide) (by decide) k) ?_
                refine Go.on (T' := T110) (g' := (mkF m 39 #[.val (.int i0), .val (.int i1), .val (.int ((((i1.toUInt32 >>> ((1 : Int32) &&& 31).toUInt32).toInt32) % (8 : Int32)) - (1 : Int32))), .val .null, .val .null] [.null])) (fun t k => XS.aloadN X110.here hx rfl (hb hby at_38) rfl rfl k) ?_
                refine Go.on (T' := T110) (g' := (mkF m 52 #[.val (.int i0), .val (.int i1), .val (.int ((((i1.toUInt32 >>> ((1 : Int32) &&& 31).toUInt32).toInt32) % (8 : Int32)) - (1 : Int32))), .val .null, .val .null] [])) (fun t k => XS.ifnullYes X110.here hx rfl (pc0 := 39) (pc' := 52) rfl (hb hby at_39) rfl (by decide) (by decide) k) ?_
                refine Go.on (T' := T110) (g' := (mkF m 53 #[.val (.int i0), .val (.int i1), .val (.int ((((i1.toUInt32 >>> ((1 : Int32) &&& 31).toUInt32).toInt32) % (8 : Int32)) - (1 : Int32))), .val .null, .val .null] [(.int (1 : Int32))])) (fun t k => XS.iconst X110.here hx rfl (hb hby at_52) k) ?_
                obtain ⟨fs, hr, hrun, hended, hW, hsame⟩ := X110.leave (v := some (.int (1 : Int32))) (fun h => by rw [Bd.returns] at h; cases h)
                exact ⟨_, _, retN X110 hx (t := .boolean) Bd.returns (by simp) (hb hby at_53) hr, hrun, hended, _, _, rfl, ⟨rfl, N110⟩, ⟨_, rfl⟩, hW, hsame.mono (by decide) (by decide)⟩
  · skip
    refine Go.on (T' := s₁) (g' := (mkF m 6 #[.val (.int i0), .val (.int i1), .unset, .unset, .unset] [])) (fun t k => XS.ifNo X0.here hx rfl (hb hby at_3) rfl ((if0 _ _).trans (feq h1).1) k) ?_
    refine Go.on (T' := s₁) (g' := (mkF m 7 #[.val (.int i0), .val (.int i1), .unset, .unset, .unset] [(.int i0)])) (fun t k => XS.iloadN X0.here hx rfl (hb hby at_6) rfl k) ?_
    refine Go.on (T' := s₁) (g' := (mkF m 18 #[.val (.int i0), .val (.int i1), .unset, .unset, .unset] [(.int i0)])) (fun t k => XS.goto X0.here hx rfl (pc0 := 7) (pc' := 18) rfl (hb hby at_7) (by decide) (by decide) k) ?_
    refine Go.on (T' := s₁) (g' := (mkF m 19 #[.val (.int i0), .val (.int i1), .val (.int i0), .unset, .unset] [])) (fun t k => XS.istoreN X0.here hx rfl (hb hby at_18) rfl (l' := #[.val (.int i0), .val (.int i1), .val (.int i0), .unset, .unset]) rfl k) ?_
    refine Go.on (T' := s₁) (g' := (mkF m 20 #[.val (.int i0), .val (.int i1), .val (.int i0), .unset, .unset] [(.int i0)])) (fun t k => XS.iloadN X0.here hx rfl (hb hby at_19) rfl k) ?_
    by_cases h111 : (0 : Int32) = i0
    · skip
      obtain ⟨_, _, ⟨T112, L112, k112, n112⟩, -, X112, ⟨Lc112, hQ112, l112, y112, z112⟩, st112⟩ := Jvm.LawKit.callS X0 hx (y := (⟨"com/example/stubwright/stubwright/PacketType", "fromCode", "(I)Lcom/example/stubwright/stubwright/PacketType;"⟩ : MethodName)) hown (mvT hZ (hw _ (List.mem_of_getElem? (i := 0) rfl))) (mvT hZ (hw _ (List.mem_of_getElem? (i := 1) rfl))) (mvT hZ (hw _ (List.mem_of_getElem? (i := 2) rfl))) (mvT hZ (hw _ (List.mem_of_getElem? (i := 3) rfl))) (by decide) (backOf (W := 0) (rm1_0 l Z a0 hw [] w h0 n0 (Nat.le_trans Z0 (own_ext0 h0).1) hP i0 h111) hZ (hw _ (List.mem_of_getElem? (i := 3) rfl)) (hw _ (List.mem_of_getElem? (i := 2) rfl)) (by decide) (by decide)) (g := (mkF m 20 #[.val (.int i0), .val (.int i1), .val (.int i0), .unset, .unset] [(.int i0)])) rfl (by rw [hml]; rfl) (argsL := [(.int i0)]) (rest := []) (lenOf pd_1 rfl) rfl (by show 2 * 0 + _ ≤ _; exact Nat.le_of_eq rfl) (hb hby at_20) (fun _ _ => ⟨rfl, e0, (by decide : 0 + 1 ≤ _), (by decide : 0 + 6 ≤ _)⟩)
      dsimp only [Pt.U, Pt.locs, Pt.cells, Pt.slots] at X112 l112 y112 z112 st112 hQ112
      subst l112 y112 z112
      obtain ⟨rfl, N112q, x112, f112⟩ := hQ112
      have N112 := Fr.app N0 N112q
      have e112 : T112.heap = T112.heap := rfl
      have XT112 := own_ext2 (own_ext0 h0) x112
      refine Go.on (T' := T112) (g' := (mkF m 23 #[.val (.int i0), .val (.int i1), .val (.int i0), .unset, .unset] [(.ref (w 1))])) st112 ?_
      refine Go.on (T' := T112) (g' := (mkF m 24 #[.val (.int i0), .val (.int i1), .val (.int i0), .val (.ref (w 1)), .unset] [])) (fun t k => XS.astoreN X112.here hx rfl (hb hby at_23) rfl rfl (l' := #[.val (.int i0), .val (.int i1), .val (.int i0), .val (.ref (w 1)), .unset]) rfl k) ?_
      refine Go.on (T' := T112) (g' := (mkF m 25 #[.val (.int i0), .val (.int i1), .val (.int i0), .val (.ref (w 1)), .unset] [(.int i0)])) (fun t k => XS.iloadN X112.here hx rfl (hb hby at_24) rfl k) ?_
      obtain ⟨_, _, ⟨T113, L113, k113, n113⟩, -, X113, ⟨Lc113, hQ113, l113, y113, z113⟩, st113⟩ := Jvm.LawKit.callS X112 hx (y := (⟨"com/example/stubwright/stubwright/PacketTypeFromCodePinLaw", "expected", "(I)Lcom/example/stubwright/stubwright/PacketType;"⟩ : MethodName)) hown (mvT hZ (hw _ (List.mem_of_getElem? (i := 27) rfl))) (mvT hZ (hw _ (List.mem_of_getElem? (i := 28) rfl))) (mvT hZ (hw _ (List.mem_of_getElem? (i := 29) rfl))) (mvT hZ (hw _ (List.mem_of_getElem? (i := 30) rfl))) (by decide) (backOf (W := 0) (rm3_0 l Z a0 hw [] w T112.heap n0 (Nat.le_trans Z0 XT112.1) (pins_ext XT112 hP) i0 h111.symm) hZ (hw _ (List.mem_of_getElem? (i := 30) rfl)) (hw _ (List.mem_of_getElem? (i := 29) rfl)) (by decide) (by decide)) (g := (mkF m 25 #[.val (.int i0), .val (.int i1), .val (.int i0), .val (.ref (w 1)), .unset] [(.int i0)])) rfl (by rw [hml]; rfl) (argsL := [(.int i0)]) (rest := []) (lenOf pd_1 rfl) rfl (by show 2 * 0 + _ ≤ _; exact Nat.le_of_eq rfl) (hb hby at_25) (fun _ _ => ⟨rfl, e112, (by decide : 1 + 0 ≤ _), (by decide : 6 + 0 ≤ _)⟩)
      dsimp only [Pt.U, Pt.locs, Pt.cells, Pt.slots] at X113 l113 y113 z113 st113 hQ113
      subst l113 y113 z113
      obtain ⟨rfl, N113q, e113⟩ := hQ113
      have N113 := Fr.app N112 N113q
      refine Go.on (T' := T113) (g' := (mkF m 28 #[.val (.int i0), .val (.int i1), .val (.int i0), .val (.ref (w 1)), .unset] [(.ref (w 1))])) st113 ?_
      refine Go.on (T' := T113) (g' := (mkF m 30 #[.val (.int i0), .val (.int i1), .val (.int i0), .val (.ref (w 1)), .val (.ref (w 1))] [])) (fun t k => XS.astore X113.here hx rfl (hb hby at_28) rfl rfl (l' := #[.val (.int i0), .val (.int i1), .val (.int i0), .val (.ref (w 1)), .val (.ref (w 1))]) rfl k) ?_
      refine Go.on (T' := T113) (g' := (mkF m 31 #[.val (.int i0), .val (.int i1), .val (.int i0), .val (.ref (w 1)), .val (.ref (w 1))] [(.ref (w 1))])) (fun t k => XS.aloadN X113.here hx rfl (hb hby at_30) rfl rfl k) ?_
      refine Go.on (T' := T113) (g' := (mkF m 33 #[.val (.int i0), .val (.int i1), .val (.int i0), .val (.ref (w 1)), .val (.ref (w 1))] [(.ref (w 1)), (.ref (w 1))])) (fun t k => XS.aload X113.here hx rfl (hb hby at_31) rfl rfl k) ?_
      refine Go.on (T' := T113) (g' := (mkF m 38 #[.val (.int i0), .val (.int i1), .val (.int i0), .val (.ref (w 1)), .val (.ref (w 1))] [])) (fun t k => Jvm.RoadKit.acmp (g := (mkF m 33 #[.val (.int i0), .val (.int i1), .val (.int i0), .val (.ref (w 1)), .val (.ref (w 1))] [(.ref (w 1)), (.ref (w 1))])) X113 hx rfl rfl rfl (pc0 := 33) (pc' := 38) (same := true) rfl (hb hby at_33) rfl (decide_eq_true rfl) (by decide) (by decide) k) ?_
      refine Go.on (T' := T113) (g' := (mkF m 39 #[.val (.int i0), .val (.int i1), .val (.int i0), .val (.ref (w 1)), .val (.ref (w 1))] [(.ref (w 1))])) (fun t k => XS.aloadN X113.here hx rfl (hb hby at_38) rfl rfl k) ?_
      refine Go.on (T' := T113) (g' := (mkF m 42 #[.val (.int i0), .val (.int i1), .val (.int i0), .val (.ref (w 1)), .val (.ref (w 1))] [])) (fun t k => XS.ifnullNo X113.here hx rfl (hb hby at_39) rfl k) ?_
      refine Go.on (T' := T113) (g' := (mkF m 43 #[.val (.int i0), .val (.int i1), .val (.int i0), .val (.ref (w 1)), .val (.ref (w 1))] [(.ref (w 1))])) (fun t k => XS.aloadN X113.here hx rfl (hb hby at_42) rfl rfl k) ?_
      obtain ⟨cq114, kq114, q114a, q114b, q114c⟩ := isOf hZ e113 (pin_8 (pins_ext XT112 hP))
      obtain ⟨_, _, ⟨T114, L114, k114, n114⟩, -, X114, ⟨Lc114, hQ114, l114, y114, z114⟩, st114⟩ := X113.virtualBack hx (y := (⟨"com/example/stubwright/stubwright/PacketType", "code", "()I"⟩ : MethodName)) (z := (⟨"com/example/stubwright/stubwright/PacketType", "code", "()I"⟩ : MethodName)) hown (mvT hZ (hw _ (List.mem_of_getElem? (i := 32) rfl))) (mvT hZ (hw _ (List.mem_of_getElem? (i := 33) rfl))) (notFace_of_selects (args := #[]) (mvT hZ (hw _ (List.mem_of_getElem? (i := 35) rfl)))) (mvT hZ (hw _ (List.mem_of_getElem? (i := 35) rfl))) (mvT hZ (hw _ (List.mem_of_getElem? (i := 34) rfl))) (by decide) (backOf (W := 0) (rm4_0 l Z a0 hw [] w T112.heap n0 (Nat.le_trans Z0 XT112.1) (pins_ext XT112 hP)) hZ (hw _ (List.mem_of_getElem? (i := 36) rfl)) (hw _ (List.mem_of_getElem? (i := 2) rfl)) (by decide) (by decide)) q114a q114c (g := (mkF m 43 #[.val (.int i0), .val (.int i1), .val (.int i0), .val (.ref (w 1)), .val (.ref (w 1))] [(.ref (w 1))])) rfl (by rw [hml]; rfl) (Steps.refl _) (argsL := []) (rest := []) (lenOf pd_2 rfl) rfl (by show 2 * 0 + _ ≤ _; exact Nat.le_of_eq rfl) (hb hby at_43) (fun _ _ => ⟨rfl, e113, (by decide : 1 + 0 ≤ _), (by decide : 6 + 0 ≤ _)⟩)
      dsimp only [Pt.U, Pt.locs, Pt.cells, Pt.slots] at X114 l114 y114 z114 st114 hQ114
      subst l114 y114 z114
      obtain ⟨rfl, N114q, e114⟩ := hQ114
      have N114 := Fr.app N113 N114q
      refine Go.on (T' := T114) (g' := (mkF m 46 #[.val (.int i0), .val (.int i1), .val (.int i0), .val (.ref (w 1)), .val (.ref (w 1))] [(.int (0 : Int32))])) (fun t k => st114.trans k) ?_
      refine Go.on (T' := T114) (g' := (mkF m 47 #[.val (.int i0), .val (.int i1), .val (.int i0), .val (.ref (w 1)), .val (.ref (w 1))] [(.int i0), (.int (0 : Int32))])) (fun t k => XS.iloadN X114.here hx rfl (hb hby at_46) rfl k) ?_
      refine Go.on (T' := T114) (g' := (mkF m 52 #[.val (.int i0), .val (.int i1), .val (.int i0), .val (.ref (w 1)), .val (.ref (w 1))] [])) (fun t k => XS.icmpYes X114.here hx rfl (pc0 := 47) (pc' := 52) rfl (hb hby at_47) rfl (teq h111).1 (by decide) (by decide) k) ?_
      refine Go.on (T' := T114) (g' := (mkF m 53 #[.val (.int i0), .val (.int i1), .val (.int i0), .val (.ref (w 1)), .val (.ref (w 1))] [(.int (1 : Int32))])) (fun t k => XS.iconst X114.here hx rfl (hb hby at_52) k) ?_
      obtain ⟨fs, hr, hrun, hended, hW, hsame⟩ := X114.leave (v := some (.int (1 : Int32))) (fun h => by rw [Bd.returns] at h; cases h)
      exact ⟨_, _, retN X114 hx (t := .boolean) Bd.returns (by simp) (hb hby at_53) hr, hrun, hended, _, _, rfl, ⟨rfl, N114⟩, ⟨_, rfl⟩, hW, hsame.mono (by decide) (by decide)⟩
    · skip
      by_cases h115 : (1 : Int32) = i0
      · skip
        obtain ⟨_, _, ⟨T116, L116, k116, n116⟩, -, X116, ⟨Lc116, hQ116, l116, y116, z116⟩, st116⟩ := Jvm.LawKit.callS X0 hx (y := (⟨"com/example/stubwright/stubwright/PacketType", "fromCode", "(I)Lcom/example/stubwright/stubwright/PacketType;"⟩ : MethodName)) hown (mvT hZ (hw _ (List.mem_of_getElem? (i := 0) rfl))) (mvT hZ (hw _ (List.mem_of_getElem? (i := 1) rfl))) (mvT hZ (hw _ (List.mem_of_getElem? (i := 2) rfl))) (mvT hZ (hw _ (List.mem_of_getElem? (i := 3) rfl))) (by decide) (backOf (W := 0) (rm1_1 l Z a0 hw [] w h0 n0 (Nat.le_trans Z0 (own_ext0 h0).1) hP i0 h111 h115) hZ (hw _ (List.mem_of_getElem? (i := 3) rfl)) (hw _ (List.mem_of_getElem? (i := 2) rfl)) (by decide) (by decide)) (g := (mkF m 20 #[.val (.int i0), .val (.int i1), .val (.int i0), .unset, .unset] [(.int i0)])) rfl (by rw [hml]; rfl) (argsL := [(.int i0)]) (rest := []) (lenOf pd_1 rfl) rfl (by show 2 * 0 + _ ≤ _; exact Nat.le_of_eq rfl) (hb hby at_20) (fun _ _ => ⟨rfl, e0, (by decide : 0 + 1 ≤ _), (by decide : 0 + 6 ≤ _)⟩)
        dsimp only [Pt.U, Pt.locs, Pt.cells, Pt.slots] at X116 l116 y116 z116 st116 hQ116
        subst l116 y116 z116
        obtain ⟨rfl, N116q, x116, f116⟩ := hQ116
        have N116 := Fr.app N0 N116q
        have e116 : T116.heap = T116.heap := rfl
        have XT116 := own_ext2 (own_ext0 h0) x116
        refine Go.on (T' := T116) (g' := (mkF m 23 #[.val (.int i0), .val (.int i1), .val (.int i0), .unset, .unset] [(.ref (w 2))])) st116 ?_
        refine Go.on (T' := T116) (g' := (mkF m 24 #[.val (.int i0), .val (.int i1), .val (.int i0), .val (.ref (w 2)), .unset] [])) (fun t k => XS.astoreN X116.here hx rfl (hb hby at_23) rfl rfl (l' := #[.val (.int i0), .val (.int i1), .val (.int i0), .val (.ref (w 2)), .unset]) rfl k) ?_
        refine Go.on (T' := T116) (g' := (mkF m 25 #[.val (.int i0), .val (.int i1), .val (.int i0), .val (.ref (w 2)), .unset] [(.int i0)])) (fun t k => XS.iloadN X116.here hx rfl (hb hby at_24) rfl k) ?_
        obtain ⟨_, _, ⟨T117, L117, k117, n117⟩, -, X117, ⟨Lc117, hQ117, l117, y117, z117⟩, st117⟩ := Jvm.LawKit.callS X116 hx (y := (⟨"com/example/stubwright/stubwright/PacketTypeFromCodePinLaw", "expected", "(I)Lcom/example/stubwright/stubwright/PacketType;"⟩ : MethodName)) hown (mvT hZ (hw _ (List.mem_of_getElem? (i := 27) rfl))) (mvT hZ (hw _ (List.mem_of_getElem? (i := 28) rfl))) (mvT hZ (hw _ (List.mem_of_getElem? (i := 29) rfl))) (mvT hZ (hw _ (List.mem_of_getElem? (i := 30) rfl))) (by decide) (backOf (W := 0) (rm3_1 l Z a0 hw [] w T116.heap n0 (Nat.le_trans Z0 XT116.1) (pins_ext XT116 hP) i0 (fun q => h111 q.symm) h115.symm) hZ (hw _ (List.mem_of_getElem? (i := 30) rfl)) (hw _ (List.mem_of_getElem? (i := 29) rfl)) (by decide) (by decide)) (g := (mkF m 25 #[.val (.int i0), .val (.int i1), .val (.int i0), .val (.ref (w 2)), .unset] [(.int i0)])) rfl (by rw [hml]; rfl) (argsL := [(.int i0)]) (rest := []) (lenOf pd_1 rfl) rfl (by show 2 * 0 + _ ≤ _; exact Nat.le_of_eq rfl) (hb hby at_25) (fun _ _ => ⟨rfl, e116, (by decide : 1 + 0 ≤ _), (by decide : 6 + 0 ≤ _)⟩)
        dsimp only [Pt.U, Pt.locs, Pt.cells, Pt.slots] at X117 l117 y117 z117 st117 hQ117
        subst l117 y117 z117
        obtain ⟨rfl, N117q, e117⟩ := hQ117
        have N117 := Fr.app N116 N117q
        refine Go.on (T' := T117) (g' := (mkF m 28 #[.val (.int i0), .val (.int i1), .val (.int i0), .val (.ref (w 2)), .unset] [(.ref (w 2))])) st117 ?_
        refine Go.on (T' := T117) (g' := (mkF m 30 #[.val (.int i0), .val (.int i1), .val (.int i0), .val (.ref (w 2)), .val (.ref (w 2))] [])) (fun t k => XS.astore X117.here hx rfl (hb hby at_28) rfl rfl (l' := #[.val (.int i0), .val (.int i1), .val (.int i0), .val (.ref (w 2)), .val (.ref (w 2))]) rfl k) ?_
        refine Go.on (T' := T117) (g' := (mkF m 31 #[.val (.int i0), .val (.int i1), .val (.int i0), .val (.ref (w 2)), .val (.ref (w 2))] [(.ref (w 2))])) (fun t k => XS.aloadN X117.here hx rfl (hb hby at_30) rfl rfl k) ?_
        refine Go.on (T' := T117) (g' := (mkF m 33 #[.val (.int i0), .val (.int i1), .val (.int i0), .val (.ref (w 2)), .val (.ref (w 2))] [(.ref (w 2)), (.ref (w 2))])) (fun t k => XS.aload X117.here hx rfl (hb hby at_31) rfl rfl k) ?_
        refine Go.on (T' := T117) (g' := (mkF m 38 #[.val (.int i0), .val (.int i1), .val (.int i0), .val (.ref (w 2)), .val (.ref (w 2))] [])) (fun t k => Jvm.RoadKit.acmp (g := (mkF m 33 #[.val (.int i0), .val (.int i1), .val (.int i0), .val (.ref (w 2)), .val (.ref (w 2))] [(.ref (w 2)), (.ref (w 2))])) X117 hx rfl rfl rfl (pc0 := 33) (pc' := 38) (same := true) rfl (hb hby at_33) rfl (decide_eq_true rfl) (by decide) (by decide) k) ?_
        refine Go.on (T' := T117) (g' := (mkF m 39 #[.val (.int i0), .val (.int i1), .val (.int i0), .val (.ref (w 2)), .val (.ref (w 2))] [(.ref (w 2))])) (fun t k => XS.aloadN X117.here hx rfl (hb hby at_38) rfl rfl k) ?_
        refine Go.on (T' := T117) (g' := (mkF m 42 #[.val (.int i0), .val (.int i1), .val (.int i0), .val (.ref (w 2)), .val (.ref (w 2))] [])) (fun t k => XS.ifnullNo X117.here hx rfl (hb hby at_39) rfl k) ?_
        refine Go.on (T' := T117) (g' := (mkF m 43 #[.val (.int i0), .val (.int i1), .val (.int i0), .val (.ref (w 2)), .val (.ref (w 2))] [(.ref (w 2))])) (fun t k => XS.aloadN X117.here hx rfl (hb hby at_42) rfl rfl k) ?_
        obtain ⟨cq118, kq118, q118a, q118b, q118c⟩ := isOf hZ e117 (pin_9 (pins_ext XT116 hP))
        obtain ⟨_, _, ⟨T118, L118, k118, n118⟩, -, X118, ⟨Lc118, hQ118, l118, y118, z118⟩, st118⟩ := X117.virtualBack hx (y := (⟨"com/example/stubwright/stubwright/PacketType", "code", "()I"⟩ : MethodName)) (z := (⟨"com/example/stubwright/stubwright/PacketType", "code", "()I"⟩ : MethodName)) hown (mvT hZ (hw _ (List.mem_of_getElem? (i := 32) rfl))) (mvT hZ (hw _ (List.mem_of_getElem? (i := 33) rfl))) (notFace_of_selects (args := #[]) (mvT hZ (hw _ (List.mem_of_getElem? (i := 35) rfl)))) (mvT hZ (hw _ (List.mem_of_getElem? (i := 35) rfl))) (mvT hZ (hw _ (List.mem_of_getElem? (i := 34) rfl))) (by decide) (backOf (W := 0) (rm4_1 l Z a0 hw [] w T116.heap n0 (Nat.le_trans Z0 XT116.1) (pins_ext XT116 hP)) hZ (hw _ (List.mem_of_getElem? (i := 36) rfl)) (hw _ (List.mem_of_getElem? (i := 2) rfl)) (by decide) (by decide)) q118a q118c (g := (mkF m 43 #[.val (.int i0), .val (.int i1), .val (.int i0), .val (.ref (w 2)), .val (.ref (w 2))] [(.ref (w 2))])) rfl (by rw [hml]; rfl) (Steps.refl _) (argsL := []) (rest := []) (lenOf pd_2 rfl) rfl (by show 2 * 0 + _ ≤ _; exact Nat.le_of_eq rfl) (hb hby at_43) (fun _ _ => ⟨rfl, e117, (by decide : 1 + 0 ≤ _), (by decide : 6 + 0 ≤ _)⟩)
        dsimp only [Pt.U, Pt.locs, Pt.cells, Pt.slots] at X118 l118 y118 z118 st118 hQ118
        subst l118 y118 z118
        obtain ⟨rfl, N118q, e118⟩ := hQ118
        have N118 := Fr.app N117 N118q
        refine Go.on (T' := T118) (g' := (mkF m 46 #[.val (.int i0), .val (.int i1), .val (.int i0), .val (.ref (w 2)), .val (.ref (w 2))] [(.int (1 : Int32))])) (fun t k => st118.trans k) ?_
        refine Go.on (T' := T118) (g' := (mkF m 47 #[.val (.int i0), .val (.int i1), .val (.int i0), .val (.ref (w 2)), .val (.ref (w 2))] [(.int i0), (.int (1 : Int32))])) (fun t k => XS.iloadN X118.here hx rfl (hb hby at_46) rfl k) ?_
        refine Go.on (T' := T118) (g' := (mkF m 52 #[.val (.int i0), .val (.int i1), .val (.int i0), .val (.ref (w 2)), .val (.ref (w 2))] [])) (fun t k => XS.icmpYes X118.here hx rfl (pc0 := 47) (pc' := 52) rfl (hb hby at_47) rfl (teq h115).1 (by decide) (by decide) k) ?_
        refine Go.on (T' := T118) (g' := (mkF m 53 #[.val (.int i0), .val (.int i1), .val (.int i0), .val (.ref (w 2)), .val (.ref (w 2))] [(.int (1 : Int32))])) (fun t k => XS.iconst X118.here hx rfl (hb hby at_52) k) ?_
        obtain ⟨fs, hr, hrun, hended, hW, hsame⟩ := X118.leave (v := some (.int (1 : Int32))) (fun h => by rw [Bd.returns] at h; cases h)
        exact ⟨_, _, retN X118 hx (t := .boolean) Bd.returns (by simp) (hb hby at_53) hr, hrun, hended, _, _, rfl, ⟨rfl, N118⟩, ⟨_, rfl⟩, hW, hsame.mono (by decide) (by decide)⟩
      · skip
        by_cases h119 : (2 : Int32) = i0
        · skip
          obtain ⟨_, _, ⟨T120, L120, k120, n120⟩, -, X120, ⟨Lc120, hQ120, l120, y120, z120⟩, st120⟩ := Jvm.LawKit.callS X0 hx (y := (⟨"com/example/stubwright/stubwright/PacketType", "fromCode", "(I)Lcom/example/stubwright/stubwright/PacketType;"⟩ : MethodName)) hown (mvT hZ (hw _ (List.mem_of_getElem? (i := 0) rfl))) (mvT hZ (hw _ (List.mem_of_getElem? (i := 1) rfl))) (mvT hZ (hw _ (List.mem_of_getElem? (i := 2) rfl))) (mvT hZ (hw _ (List.mem_of_getElem? (i := 3) rfl))) (by decide) (backOf (W := 0) (rm1_2 l Z a0 hw [] w h0 n0 (Nat.le_trans Z0 (own_ext0 h0).1) hP i0 h111 h115 h119) hZ (hw _ (List.mem_of_getElem? (i := 3) rfl)) (hw _ (List.mem_of_getElem? (i := 2) rfl)) (by decide) (by decide)) (g := (mkF m 20 #[.val (.int i0), .val (.int i1), .val (.int i0), .unset, .unset] [(.int i0)])) rfl (by rw [hml]; rfl) (argsL := [(.int i0)]) (rest := []) (lenOf pd_1 rfl) rfl (by show 2 * 0 + _ ≤ _; exact Nat.le_of_eq rfl) (hb hby at_20) (fun _ _ => ⟨rfl, e0, (by decide : 0 + 1 ≤ _), (by decide : 0 + 6 ≤ _)⟩)
          dsimp only [Pt.U, Pt.locs, Pt.cells, Pt.slots] at X120 l120 y120 z120 st120 hQ120
          subst l120 y120 z120
          obtain ⟨rfl, N120q, x120, f120⟩ := hQ120
          have N120 := Fr.app N0 N120q
          have e120 : T120.heap = T120.heap := rfl
          have XT120 := own_ext2 (own_ext0 h0) x120
          refine Go.on (T' := T120) (g' := (mkF m 23 #[.val (.int i0), .val (.int i1), .val (.int i0), .unset, .unset] [(.ref (w 3))])) st120 ?_
          refine Go.on (T' := T120) (g' := (mkF m 24 #[.val (.int i0), .val (.int i1), .val (.int i0), .val (.ref (w 3)), .unset] [])) (fun t k => XS.astoreN X120.here hx rfl (hb hby at_23) rfl rfl (l' := #[.val (.int i0), .val (.int i1), .val (.int i0), .val (.ref (w 3)), .unset]) rfl k) ?_
          refine Go.on (T' := T120) (g' := (mkF m 25 #[.val (.int i0), .val (.int i1), .val (.int i0), .val (.ref (w 3)), .unset] [(.int i0)])) (fun t k => XS.iloadN X120.here hx rfl (hb hby at_24) rfl k) ?_
          obtain ⟨_, _, ⟨T121, L121, k121, n121⟩, -, X121, ⟨Lc121, hQ121, l121, y121, z121⟩, st121⟩ := Jvm.LawKit.callS X120 hx (y := (⟨"com/example/stubwright/stubwright/PacketTypeFromCodePinLaw", "expected", "(I)Lcom/example/stubwright/stubwright/PacketType;"⟩ : MethodName)) hown (mvT hZ (hw _ (List.mem_of_getElem? (i := 27) rfl))) (mvT hZ (hw _ (List.mem_of_getElem? (i := 28) rfl))) (mvT hZ (hw _ (List.mem_of_getElem? (i := 29) rfl))) (mvT hZ (hw _ (List.mem_of_getElem? (i := 30) rfl))) (by decide) (backOf (W := 0) (rm3_2 l Z a0 hw [] w T120.heap n0 (Nat.le_trans Z0 XT120.1) (pins_ext XT120 hP) i0 (fun q => h111 q.symm) (fun q => h115 q.symm) h119.symm) hZ (hw _ (List.mem_of_getElem? (i := 30) rfl)) (hw _ (List.mem_of_getElem? (i := 29) rfl)) (by decide) (by decide)) (g := (mkF m 25 #[.val (.int i0), .val (.int i1), .val (.int i0), .val (.ref (w 3)), .unset] [(.int i0)])) rfl (by rw [hml]; rfl) (argsL := [(.int i0)]) (rest := []) (lenOf pd_1 rfl) rfl (by show 2 * 0 + _ ≤ _; exact Nat.le_of_eq rfl) (hb hby at_25) (fun _ _ => ⟨rfl, e120, (by decide : 1 + 0 ≤ _), (by decide : 6 + 0 ≤ _)⟩)
          dsimp only [Pt.U, Pt.locs, Pt.cells, Pt.slots] at X121 l121 y121 z121 st121 hQ121
          subst l121 y121 z121
          obtain ⟨rfl, N121q, e121⟩ := hQ121
          have N121 := Fr.app N120 N121q
          refine Go.on (T' := T121) (g' := (mkF m 28 #[.val (.int i0), .val (.int i1), .val (.int i0), .val (.ref (w 3)), .unset] [(.ref (w 3))])) st121 ?_
          refine Go.on (T' := T121) (g' := (mkF m 30 #[.val (.int i0), .val (.int i1), .val (.int i0), .val (.ref (w 3)), .val (.ref (w 3))] [])) (fun t k => XS.astore X121.here hx rfl (hb hby at_28) rfl rfl (l' := #[.val (.int i0), .val (.int i1), .val (.int i0), .val (.ref (w 3)), .val (.ref (w 3))]) rfl k) ?_
          refine Go.on (T' := T121) (g' := (mkF m 31 #[.val (.int i0), .val (.int i1), .val (.int i0), .val (.ref (w 3)), .val (.ref (w 3))] [(.ref (w 3))])) (fun t k => XS.aloadN X121.here hx rfl (hb hby at_30) rfl rfl k) ?_
          refine Go.on (T' := T121) (g' := (mkF m 33 #[.val (.int i0), .val (.int i1), .val (.int i0), .val (.ref (w 3)), .val (.ref (w 3))] [(.ref (w 3)), (.ref (w 3))])) (fun t k => XS.aload X121.here hx rfl (hb hby at_31) rfl rfl k) ?_
          refine Go.on (T' := T121) (g' := (mkF m 38 #[.val (.int i0), .val (.int i1), .val (.int i0), .val (.ref (w 3)), .val (.ref (w 3))] [])) (fun t k => Jvm.RoadKit.acmp (g := (mkF m 33 #[.val (.int i0), .val (.int i1), .val (.int i0), .val (.ref (w 3)), .val (.ref (w 3))] [(.ref (w 3)), (.ref (w 3))])) X121 hx rfl rfl rfl (pc0 := 33) (pc' := 38) (same := true) rfl (hb hby at_33) rfl (decide_eq_true rfl) (by decide) (by decide) k) ?_
          refine Go.on (T' := T121) (g' := (mkF m 39 #[.val (.int i0), .val (.int i1), .val (.int i0), .val (.ref (w 3)), .val (.ref (w 3))] [(.ref (w 3))])) (fun t k => XS.aloadN X121.here hx rfl (hb hby at_38) rfl rfl k) ?_
          refine Go.on (T' := T121) (g' := (mkF m 42 #[.val (.int i0), .val (.int i1), .val (.int i0), .val (.ref (w 3)), .val (.ref (w 3))] [])) (fun t k => XS.ifnullNo X121.here hx rfl (hb hby at_39) rfl k) ?_
          refine Go.on (T' := T121) (g' := (mkF m 43 #[.val (.int i0), .val (.int i1), .val (.int i0), .val (.ref (w 3)), .val (.ref (w 3))] [(.ref (w 3))])) (fun t k => XS.aloadN X121.here hx rfl (hb hby at_42) rfl rfl k) ?_
          obtain ⟨cq122, kq122, q122a, q122b, q122c⟩ := isOf hZ e121 (pin_10 (pins_ext XT120 hP))
          obtain ⟨_, _, ⟨T122, L122, k122, n122⟩, -, X122, ⟨Lc122, hQ122, l122, y122, z122⟩, st122⟩ := X121.virtualBack hx (y := (⟨"com/example/stubwright/stubwright/PacketType", "code", "()I"⟩ : MethodName)) (z := (⟨"com/example/stubwright/stubwright/PacketType", "code", "()I"⟩ : MethodName)) hown (mvT hZ (hw _ (List.mem_of_getElem? (i := 32) rfl))) (mvT hZ (hw _ (List.mem_of_getElem? (i := 33) rfl))) (notFace_of_selects (args := #[]) (mvT hZ (hw _ (List.mem_of_getElem? (i := 35) rfl)))) (mvT hZ (hw _ (List.mem_of_getElem? (i := 35) rfl))) (mvT hZ (hw _ (List.mem_of_getElem? (i := 34) rfl))) (by decide) (backOf (W := 0) (rm4_2 l Z a0 hw [] w T120.heap n0 (Nat.le_trans Z0 XT120.1) (pins_ext XT120 hP)) hZ (hw _ (List.mem_of_getElem? (i := 36) rfl)) (hw _ (List.mem_of_getElem? (i := 2) rfl)) (by decide) (by decide)) q122a q122c (g := (mkF m 43 #[.val (.int i0), .val (.int i1), .val (.int i0), .val (.ref (w 3)), .val (.ref (w 3))] [(.ref (w 3))])) rfl (by rw [hml]; rfl) (Steps.refl _) (argsL := []) (rest := []) (lenOf pd_2 rfl) rfl (by show 2 * 0 + _ ≤ _; exact Nat.le_of_eq rfl) (hb hby at_43) (fun _ _ => ⟨rfl, e121, (by decide : 1 + 0 ≤ _), (by decide : 6 + 0 ≤ _)⟩)
          dsimp only [Pt.U, Pt.locs, Pt.cells, Pt.slots] at X122 l122 y122 z122 st122 hQ122
          subst l122 y122 z122
          obtain ⟨rfl, N122q, e122⟩ := hQ122
          have N122 := Fr.app N121 N122q
          refine Go.on (T' := T122) (g' := (mkF m 46 #[.val (.int i0), .val (.int i1), .val (.int i0), .val (.ref (w 3)), .val (.ref (w 3))] [(.int (2 : Int32))])) (fun t k => st122.trans k) ?_
          refine Go.on (T' := T122) (g' := (mkF m 47 #[.val (.int i0), .val (.int i1), .val (.int i0), .val (.ref (w 3)), .val (.ref (w 3))] [(.int i0), (.int (2 : Int32))])) (fun t k => XS.iloadN X122.here hx rfl (hb hby at_46) rfl k) ?_
          refine Go.on (T' := T122) (g' := (mkF m 52 #[.val (.int i0), .val (.int i1), .val (.int i0), .val (.ref (w 3)), .val (.ref (w 3))] [])) (fun t k => XS.icmpYes X122.here hx rfl (pc0 := 47) (pc' := 52) rfl (hb hby at_47) rfl (teq h119).1 (by decide) (by decide) k) ?_
          refine Go.on (T' := T122) (g' := (mkF m 53 #[.val (.int i0), .val (.int i1), .val (.int i0), .val (.ref (w 3)), .val (.ref (w 3))] [(.int (1 : Int32))])) (fun t k => XS.iconst X122.here hx rfl (hb hby at_52) k) ?_
          obtain ⟨fs, hr, hrun, hended, hW, hsame⟩ := X122.leave (v := some (.int (1 : Int32))) (fun h => by rw [Bd.returns] at h; cases h)
          exact ⟨_, _, retN X122 hx (t := .boolean) Bd.returns (by simp) (hb hby at_53) hr, hrun, hended, _, _, rfl, ⟨rfl, N122⟩, ⟨_, rfl⟩, hW, hsame.mono (by decide) (by decide)⟩
        · skip
          by_cases h123 : (3 : Int32) = i0
          · skip
            obtain ⟨_, _, ⟨T124, L124, k124, n124⟩, -, X124, ⟨Lc124, hQ124, l124, y124, z124⟩, st124⟩ := Jvm.LawKit.callS X0 hx (y := (⟨"com/example/stubwright/stubwright/PacketType", "fromCode", "(I)Lcom/example/stubwright/stubwright/PacketType;"⟩ : MethodName)) hown (mvT hZ (hw _ (List.mem_of_getElem? (i := 0) rfl))) (mvT hZ (hw _ (List.mem_of_getElem? (i := 1) rfl))) (mvT hZ (hw _ (List.mem_of_getElem? (i := 2) rfl))) (mvT hZ (hw _ (List.mem_of_getElem? (i := 3) rfl))) (by decide) (backOf (W := 0) (rm1_3 l Z a0 hw [] w h0 n0 (Nat.le_trans Z0 (own_ext0 h0).1) hP i0 h111 h115 h119 h123) hZ (hw _ (List.mem_of_getElem? (i := 3) rfl)) (hw _ (List.mem_of_getElem? (i := 2) rfl)) (by decide) (by decide)) (g := (mkF m 20 #[.val (.int i0), .val (.int i1), .val (.int i0), .unset, .unset] [(.int i0)])) rfl (by rw [hml]; rfl) (argsL := [(.int i0)]) (rest := []) (lenOf pd_1 rfl) rfl (by show 2 * 0 + _ ≤ _; exact Nat.le_of_eq rfl) (hb hby at_20) (fun _ _ => ⟨rfl, e0, (by decide : 0 + 1 ≤ _), (by decide : 0 + 6 ≤ _)⟩)
            dsimp only [Pt.U, Pt.locs, Pt.cells, Pt.slots] at X124 l124 y124 z124 st124 hQ124
            subst l124 y124 z124
            obtain ⟨rfl, N124q, x124, f124⟩ := hQ124
            have N124 := Fr.app N0 N124q
            have e124 : T124.heap = T124.heap := rfl
            have XT124 := own_ext2 (own_ext0 h0) x124
            refine Go.on (T' := T124) (g' := (mkF m 23 #[.val (.int i0), .val (.int i1), .val (.int i0), .unset, .unset] [(.ref (w 4))])) st124 ?_
            refine Go.on (T' := T124) (g' := (mkF m 24 #[.val (.int i0), .val (.int i1), .val (.int i0), .val (.ref (w 4)), .unset] [])) (fun t k => XS.astoreN X124.here hx rfl (hb hby at_23) rfl rfl (l' := #[.val (.int i0), .val (.int i1), .val (.int i0), .val (.ref (w 4)), .unset]) rfl k) ?_
            refine Go.on (T' := T124) (g' := (mkF m 25 #[.val (.int i0), .val (.int i1), .val (.int i0), .val (.ref (w 4)), .unset] [(.int i0)])) (fun t k => XS.iloadN X124.here hx rfl (hb hby at_24) rfl k) ?_
            obtain ⟨_, _, ⟨T125, L125, k125, n125⟩, -, X125, ⟨Lc125, hQ125, l125, y125, z125⟩, st125⟩ := Jvm.LawKit.callS X124 hx (y := (⟨"com/example/stubwright/stubwright/PacketTypeFromCodePinLaw", "expected", "(I)Lcom/example/stubwright/stubwright/PacketType;"⟩ : MethodName)) hown (mvT hZ (hw _ (List.mem_of_getElem? (i := 27) rfl))) (mvT hZ (hw _ (List.mem_of_getElem? (i := 28) rfl))) (mvT hZ (hw _ (List.mem_of_getElem? (i := 29) rfl))) (mvT hZ (hw _ (List.mem_of_getElem? (i := 30) rfl))) (by decide) (backOf (W := 0) (rm3_3 l Z a0 hw [] w T124.heap n0 (Nat.le_trans Z0 XT124.1) (pins_ext XT124 hP) i0 (fun q => h111 q.symm) (fun q => h115 q.symm) (fun q => h119 q.symm) h123.symm) hZ (hw _ (List.mem_of_getElem? (i := 30) rfl)) (hw _ (List.mem_of_getElem? (i := 29) rfl)) (by decide) (by decide)) (g := (mkF m 25 #[.val (.int i0), .val (.int i1), .val (.int i0), .val (.ref (w 4)), .unset] [(.int i0)])) rfl (by rw [hml]; rfl) (argsL := [(.int i0)]) (rest := []) (lenOf pd_1 rfl) rfl (by show 2 * 0 + _ ≤ _; exact Nat.le_of_eq rfl) (hb hby at_25) (fun _ _ => ⟨rfl, e124, (by decide : 1 + 0 ≤ _), (by decide : 6 + 0 ≤ _)⟩)
            dsimp only [Pt.U, Pt.locs, Pt.cells, Pt.slots] at X125 l125 y125 z125 st125 hQ125
            subst l125 y125 z125
            obtain ⟨rfl, N125q, e125⟩ := hQ125
            have N125 := Fr.app N124 N125q
            refine Go.on (T' := T125) (g' := (mkF m 28 #[.val (.int i0), .val (.int i1), .val (.int i0), .val (.ref (w 4)), .unset] [(.ref (w 4))])) st125 ?_
            refine Go.on (T' := T125) (g' := (mkF m 30 #[.val (.int i0), .val (.int i1), .val (.int i0), .val (.ref (w 4)), .val (.ref (w 4))] [])) (fun t k => XS.astore X125.here hx rfl (hb hby at_28) rfl rfl (l' := #[.val (.int i0), .val (.int i1), .val (.int i0), .val (.ref (w 4)), .val (.ref (w 4))]) rfl k) ?_
            refine Go.on (T' := T125) (g' := (mkF m 31 #[.val (.int i0), .val (.int i1), .val (.int i0), .val (.ref (w 4)), .val (.ref (w 4))] [(.ref (w 4))])) (fun t k => XS.aloadN X125.here hx rfl (hb hby at_30) rfl rfl k) ?_
            refine Go.on (T' := T125) (g' := (mkF m 33 #[.val (.int i0), .val (.int i1), .val (.int i0), .val (.ref (w 4)), .val (.ref (w 4))] [(.ref (w 4)), (.ref (w 4))])) (fun t k => XS.aload X125.here hx rfl (hb hby at_31) rfl rfl k) ?_
            refine Go.on (T' := T125) (g' := (mkF m 38 #[.val (.int i0), .val (.int i1), .val (.int i0), .val (.ref (w 4)), .val (.ref (w 4))] [])) (fun t k => Jvm.RoadKit.acmp (g := (mkF m 33 #[.val (.int i0), .val (.int i1), .val (.int i0), .val (.ref (w 4)), .val (.ref (w 4))] [(.ref (w 4)), (.ref (w 4))])) X125 hx rfl rfl rfl (pc0 := 33) (pc' := 38) (same := true) rfl (hb hby at_33) rfl (decide_eq_true rfl) (by decide) (by decide) k) ?_
            refine Go.on (T' := T125) (g' := (mkF m 39 #[.val (.int i0), .val (.int i1), .val (.int i0), .val (.ref (w 4)), .val (.ref (w 4))] [(.ref (w 4))])) (fun t k => XS.aloadN X125.here hx rfl (hb hby at_38) rfl rfl k) ?_
            refine Go.on (T' := T125) (g' := (mkF m 42 #[.val (.int i0), .val (.int i1), .val (.int i0), .val (.ref (w 4)), .val (.ref (w 4))] [])) (fun t k => XS.ifnullNo X125.here hx rfl (hb hby at_39) rfl k) ?_
            refine Go.on (T' := T125) (g' := (mkF m 43 #[.val (.int i0), .val (.int i1), .val (.int i0), .val (.ref (w 4)), .val (.ref (w 4))] [(.ref (w 4))])) (fun t k => XS.aloadN X125.here hx rfl (hb hby at_42) rfl rfl k) ?_
            obtain ⟨cq126, kq126, q126a, q126b, q126c⟩ := isOf hZ e125 (pin_11 (pins_ext XT124 hP))
            obtain ⟨_, _, ⟨T126, L126, k126, n126⟩, -, X126, ⟨Lc126, hQ126, l126, y126, z126⟩, st126⟩ := X125.virtualBack hx (y := (⟨"com/example/stubwright/stubwright/PacketType", "code", "()I"⟩ : MethodName)) (z := (⟨"com/example/stubwright/stubwright/PacketType", "code", "()I"⟩ : MethodName)) hown (mvT hZ (hw _ (List.mem_of_getElem? (i := 32) rfl))) (mvT hZ (hw _ (List.mem_of_getElem? (i := 33) rfl))) (notFace_of_selects (args := #[]) (mvT hZ (hw _ (List.mem_of_getElem? (i := 35) rfl)))) (mvT hZ (hw _ (List.mem_of_getElem? (i := 35) rfl))) (mvT hZ (hw _ (List.mem_of_getElem? (i := 34) rfl))) (by decide) (backOf (W := 0) (rm4_3 l Z a0 hw [] w T124.heap n0 (Nat.le_trans Z0 XT124.1) (pins_ext XT124 hP)) hZ (hw _ (List.mem_of_getElem? (i := 36) rfl)) (hw _ (List.mem_of_getElem? (i := 2) rfl)) (by decide) (by decide)) q126a q126c (g := (mkF m 43 #[.val (.int i0), .val (.int i1), .val (.int i0), .val (.ref (w 4)), .val (.ref (w 4))] [(.ref (w 4))])) rfl (by rw [hml]; rfl) (Steps.refl _) (argsL := []) (rest := []) (lenOf pd_2 rfl) rfl (by show 2 * 0 + _ ≤ _; exact Nat.le_of_eq rfl) (hb hby at_43) (fun _ _ => ⟨rfl, e125, (by decide : 1 + 0 ≤ _), (by decide : 6 + 0 ≤ _)⟩)
            dsimp only [Pt.U, Pt.locs, Pt.cells, Pt.slots] at X126 l126 y126 z126 st126 hQ126
            subst l126 y126 z126
            obtain ⟨rfl, N126q, e126⟩ := hQ126
            have N126 := Fr.app N125 N126q
            refine Go.on (T' := T126) (g' := (mkF m 46 #[.val (.int i0), .val (.int i1), .val (.int i0), .val (.ref (w 4)), .val (.ref (w 4))] [(.int (3 : Int32))])) (fun t k => st126.trans k) ?_
            refine Go.on (T' := T126) (g' := (mkF m 47 #[.val (.int i0), .val (.int i1), .val (.int i0), .val (.ref (w 4)), .val (.ref (w 4))] [(.int i0), (.int (3 : Int32))])) (fun t k => XS.iloadN X126.here hx rfl (hb hby at_46) rfl k) ?_
            refine Go.on (T' := T126) (g' := (mkF m 52 #[.val (.int i0), .val (.int i1), .val (.int i0), .val (.ref (w 4)), .val (.ref (w 4))] [])) (fun t k => XS.icmpYes X126.here hx rfl (pc0 := 47) (pc' := 52) rfl (hb hby at_47) rfl (teq h123).1 (by decide) (by decide) k) ?_
            refine Go.on (T' := T126) (g' := (mkF m 53 #[.val (.int i0), .val (.int i1), .val (.int i0), .val (.ref (w 4)), .val (.ref (w 4))] [(.int (1 : Int32))])) (fun t k => XS.iconst X126.here hx rfl (hb hby at_52) k) ?_
            obtain ⟨fs, hr, hrun, hended, hW, hsame⟩ := X126.leave (v := some (.int (1 : Int32))) (fun h => by rw [Bd.returns] at h; cases h)
            exact ⟨_, _, retN X126 hx (t := .boolean) Bd.returns (by simp) (hb hby at_53) hr, hrun, hended, _, _, rfl, ⟨rfl, N126⟩, ⟨_, rfl⟩, hW, hsame.mono (by decide) (by decide)⟩
          · skip
            by_cases h127 : (4 : Int32) = i0
            · skip
              obtain ⟨_, _, ⟨T128, L128, k128, n128⟩, -, X128, ⟨Lc128, hQ128, l128, y128, z128⟩, st128⟩ := Jvm.LawKit.callS X0 hx (y := (⟨"com/example/stubwright/stubwright/PacketType", "fromCode", "(I)Lcom/example/stubwright/stubwright/PacketType;"⟩ : MethodName)) hown (mvT hZ (hw _ (List.mem_of_getElem? (i := 0) rfl))) (mvT hZ (hw _ (List.mem_of_getElem? (i := 1) rfl))) (mvT hZ (hw _ (List.mem_of_getElem? (i := 2) rfl))) (mvT hZ (hw _ (List.mem_of_getElem? (i := 3) rfl))) (by decide) (backOf (W := 0) (rm1_4 l Z a0 hw [] w h0 n0 (Nat.le_trans Z0 (own_ext0 h0).1) hP i0 h111 h115 h119 h123 h127) hZ (hw _ (List.mem_of_getElem? (i := 3) rfl)) (hw _ (List.mem_of_getElem? (i := 2) rfl)) (by decide) (by decide)) (g := (mkF m 20 #[.val (.int i0), .val (.int i1), .val (.int i0), .unset, .unset] [(.int i0)])) rfl (by rw [hml]; rfl) (argsL := [(.int i0)]) (rest := []) (lenOf pd_1 rfl) rfl (by show 2 * 0 + _ ≤ _; exact Nat.le_of_eq rfl) (hb hby at_20) (fun _ _ => ⟨rfl, e0, (by decide : 0 + 1 ≤ _), (by decide : 0 + 6 ≤ _)⟩)
              dsimp only [Pt.U, Pt.locs, Pt.cells, Pt.slots] at X128 l128 y128 z128 st128 hQ128
              subst l128 y128 z128
              obtain ⟨rfl, N128q, x128, f128⟩ := hQ128
              have N128 := Fr.app N0 N128q
              have e128 : T128.heap = T128.heap := rfl
              have XT128 := own_ext2 (own_ext0 h0) x128
              refine Go.on (T' := T128) (g' := (mkF m 23 #[.val (.int i0), .val (.int i1), .val (.int i0), .unset, .unset] [(.ref (w 5))])) st128 ?_
              refine Go.on (T' := T128) (g' := (mkF m 24 #[.val (.int i0), .val (.int i1), .val (.int i0), .val (.ref (w 5)), .unset] [])) (fun t k => XS.astoreN X128.here hx rfl (hb hby at_23) rfl rfl (l' := #[.val (.int i0), .val (.int i1), .val (.int i0), .val (.ref (w 5)), .unset]) rfl k) ?_
              refine Go.on (T' := T128) (g' := (mkF m 25 #[.val (.int i0), .val (.int i1), .val (.int i0), .val (.ref (w 5)), .unset] [(.int i0)])) (fun t k => XS.iloadN X128.here hx rfl (hb hby at_24) rfl k) ?_
              obtain ⟨_, _, ⟨T129, L129, k129, n129⟩, -, X129, ⟨Lc129, hQ129, l129, y129, z129⟩, st129⟩ := Jvm.LawKit.callS X128 hx (y := (⟨"com/example/stubwright/stubwright/PacketTypeFromCodePinLaw", "expected", "(I)Lcom/example/stubwright/stubwright/PacketType;"⟩ : MethodName)) hown (mvT hZ (hw _ (List.mem_of_getElem? (i := 27) rfl))) (mvT hZ (hw _ (List.mem_of_getElem? (i := 28) rfl))) (mvT hZ (hw _ (List.mem_of_getElem? (i := 29) rfl))) (mvT hZ (hw _ (List.mem_of_getElem? (i := 30) rfl))) (by decide) (backOf (W := 0) (rm3_4 l Z a0 hw [] w T128.heap n0 (Nat.le_trans Z0 XT128.1) (pins_ext XT128 hP) i0 (fun q => h111 q.symm) (fun q => h115 q.symm) (fun q => h119 q.symm) (fun q => h123 q.symm) h127.symm) hZ (hw _ (List.mem_of_getElem? (i := 30) rfl)) (hw _ (List.mem_of_getElem? (i := 29) rfl)) (by decide) (by decide)) (g := (mkF m 25 #[.val (.int i0), .val (.int i1), .val (.int i0), .val (.ref (w 5)), .unset] [(.int i0)])) rfl (by rw [hml]; rfl) (argsL := [(.int i0)]) (rest := []) (lenOf pd_1 rfl) rfl (by show 2 * 0 + _ ≤ _; exact Nat.le_of_eq rfl) (hb hby at_25) (fun _ _ => ⟨rfl, e128, (by decide : 1 + 0 ≤ _), (by decide : 6 + 0 ≤ _)⟩)
              dsimp only [Pt.U, Pt.locs, Pt.cells, Pt.slots] at X129 l129 y129 z129 st129 hQ129
              subst l129 y129 z129
              obtain ⟨rfl, N129q, e129⟩ := hQ129
              have N129 := Fr.app N128 N129q
              refine Go.on (T' := T129) (g' := (mkF m 28 #[.val (.int i0), .val (.int i1), .val (.int i0), .val (.ref (w 5)), .unset] [(.ref (w 5))])) st129 ?_
              refine Go.on (T' := T129) (g' := (mkF m 30 #[.val (.int i0), .val (.int i1), .val (.int i0), .val (.ref (w 5)), .val (.ref (w 5))] [])) (fun t k => XS.astore X129.here hx rfl (hb hby at_28) rfl rfl (l' := #[.val (.int i0), .val (.int i1), .val (.int i0), .val (.ref (w 5)), .val (.ref (w 5))]) rfl k) ?_
              refine Go.on (T' := T129) (g' := (mkF m 31 #[.val (.int i0), .val (.int i1), .val (.int i0), .val (.ref (w 5)), .val (.ref (w 5))] [(.ref (w 5))])) (fun t k => XS.aloadN X129.here hx rfl (hb hby at_30) rfl rfl k) ?_
              refine Go.on (T' := T129) (g' := (mkF m 33 #[.val (.int i0), .val (.int i1), .val (.int i0), .val (.ref (w 5)), .val (.ref (w 5))] [(.ref (w 5)), (.ref (w 5))])) (fun t k => XS.aload X129.here hx rfl (hb hby at_31) rfl rfl k) ?_
              refine Go.on (T' := T129) (g' := (mkF m 38 #[.val (.int i0), .val (.int i1), .val (.int i0), .val (.ref (w 5)), .val (.ref (w 5))] [])) (fun t k => Jvm.RoadKit.acmp (g := (mkF m 33 #[.val (.int i0), .val (.int i1), .val (.int i0), .val (.ref (w 5)), .val (.ref (w 5))] [(.ref (w 5)), (.ref (w 5))])) X129 hx rfl rfl rfl (pc0 := 33) (pc' := 38) (same := true) rfl (hb hby at_33) rfl (decide_eq_true rfl) (by decide) (by decide) k) ?_
              refine Go.on (T' := T129) (g' := (mkF m 39 #[.val (.int i0), .val (.int i1), .val (.int i0), .val (.ref (w 5)), .val (.ref (w 5))] [(.ref (w 5))])) (fun t k => XS.aloadN X129.here hx rfl (hb hby at_38) rfl rfl k) ?_
              refine Go.on (T' := T129) (g' := (mkF m 42 #[.val (.int i0), .val (.int i1), .val (.int i0), .val (.ref (w 5)), .val (.ref (w 5))] [])) (fun t k => XS.ifnullNo X129.here hx rfl (hb hby at_39) rfl k) ?_
              refine Go.on (T' := T129) (g' := (mkF m 43 #[.val (.int i0), .val (.int i1), .val (.int i0), .val (.ref (w 5)), .val (.ref (w 5))] [(.ref (w 5))])) (fun t k => XS.aloadN X129.here hx rfl (hb hby at_42) rfl rfl k) ?_
              obtain ⟨cq130, kq130, q130a, q130b, q130c⟩ := isOf hZ e129 (pin_12 (pins_ext XT128 hP))
              obtain ⟨_, _, ⟨T130, L130, k130, n130⟩, -, X130, ⟨Lc130, hQ130, l130, y130, z130⟩, st130⟩ := X129.virtualBack hx (y := (⟨"com/example/stubwright/stubwright/PacketType", "code", "()I"⟩ : MethodName)) (z := (⟨"com/example/stubwright/stubwright/PacketType", "code", "()I"⟩ : MethodName)) hown (mvT hZ (hw _ (List.mem_of_getElem? (i := 32) rfl))) (mvT hZ (hw _ (List.mem_of_getElem? (i := 33) rfl))) (notFace_of_selects (args := #[]) (mvT hZ (hw _ (List.mem_of_getElem? (i := 35) rfl)))) (mvT hZ (hw _ (List.mem_of_getElem? (i := 35) rfl))) (mvT hZ (hw _ (List.mem_of_getElem? (i := 34) rfl))) (by decide) (backOf (W := 0) (rm4_4 l Z a0 hw [] w T128.heap n0 (Nat.le_trans Z0 XT128.1) (pins_ext XT128 hP)) hZ (hw _ (List.mem_of_getElem? (i := 36) rfl)) (hw _ (List.mem_of_getElem? (i := 2) rfl)) (by decide) (by decide)) q130a q130c (g := (mkF m 43 #[.val (.int i0), .val (.int i1), .val (.int i0), .val (.ref (w 5)), .val (.ref (w 5))] [(.ref (w 5))])) rfl (by rw [hml]; rfl) (Steps.refl _) (argsL := []) (rest := []) (lenOf pd_2 rfl) rfl (by show 2 * 0 + _ ≤ _; exact Nat.le_of_eq rfl) (hb hby at_43) (fun _ _ => ⟨rfl, e129, (by decide : 1 + 0 ≤ _), (by decide : 6 + 0 ≤ _)⟩)
              dsimp only [Pt.U, Pt.locs, Pt.cells, Pt.slots] at X130 l130 y130 z130 st130 hQ130
              subst l130 y130 z130
              obtain ⟨rfl, N130q, e130⟩ := hQ130
              have N130 := Fr.app N129 N130q
              refine Go.on (T' := T130) (g' := (mkF m 46 #[.val (.int i0), .val (.int i1), .val (.int i0), .val (.ref (w 5)), .val (.ref (w 5))] [(.int (4 : Int32))])) (fun t k => st130.trans k) ?_
              refine Go.on (T' := T130) (g' := (mkF m 47 #[.val (.int i0), .val (.int i1), .val (.int i0), .val (.ref (w 5)), .val (.ref (w 5))] [(.int i0), (.int (4 : Int32))])) (fun t k => XS.iloadN X130.here hx rfl (hb hby at_46) rfl k) ?_
              refine Go.on (T' := T130) (g' := (mkF m 52 #[.val (.int i0), .val (.int i1), .val (.int i0), .val (.ref (w 5)), .val (.ref (w 5))] [])) (fun t k => XS.icmpYes X130.here hx rfl (pc0 := 47) (pc' := 52) rfl (hb hby at_47) rfl (teq h127).1 (by decide) (by decide) k) ?_
              refine Go.on (T' := T130) (g' := (mkF m 53 #[.val (.int i0), .val (.int i1), .val (.int i0), .val (.ref (w 5)), .val (.ref (w 5))] [(.int (1 : Int32))])) (fun t k => XS.iconst X130.here hx rfl (hb hby at_52) k) ?_
              obtain ⟨fs, hr, hrun, hended, hW, hsame⟩ := X130.leave (v := some (.int (1 : Int32))) (fun h => by rw [Bd.returns] at h; cases h)
              exact ⟨_, _, retN X130 hx (t := .boolean) Bd.returns (by simp) (hb hby at_53) hr, hrun, hended, _, _, rfl, ⟨rfl, N130⟩, ⟨_, rfl⟩, hW, hsame.mono (by decide) (by decide)⟩
            · skip
              by_cases h131 : (5 : Int32) = i0
              · skip
                obtain ⟨_, _, ⟨T132, L132, k132, n132⟩, -, X132, ⟨Lc132, hQ132, l132, y132, z132⟩, st132⟩ := Jvm.LawKit.callS X0 hx (y := (⟨"com/example/stubwright/stubwright/PacketType", "fromCode", "(I)Lcom/example/stubwright/stubwright/PacketType;"⟩ : MethodName)) hown (mvT hZ (hw _ (List.mem_of_getElem? (i := 0) rfl))) (mvT hZ (hw _ (List.mem_of_getElem? (i := 1) rfl))) (mvT hZ (hw _ (List.mem_of_getElem? (i := 2) rfl))) (mvT hZ (hw _ (List.mem_of_getElem? (i := 3) rfl))) (by decide) (backOf (W := 0) (rm1_5 l Z a0 hw [] w h0 n0 (Nat.le_trans Z0 (own_ext0 h0).1) hP i0 h111 h115 h119 h123 h127 h131) hZ (hw _ (List.mem_of_getElem? (i := 3) rfl)) (hw _ (List.mem_of_getElem? (i := 2) rfl)) (by decide) (by decide)) (g := (mkF m 20 #[.val (.int i0), .val (.int i1), .val (.int i0), .unset, .unset] [(.int i0)])) rfl (by rw [hml]; rfl) (argsL := [(.int i0)]) (rest := []) (lenOf pd_1 rfl) rfl (by show 2 * 0 + _ ≤ _; exact Nat.le_of_eq rfl) (hb hby at_20) (fun _ _ => ⟨rfl, e0, (by decide : 0 + 1 ≤ _), (by decide : 0 + 6 ≤ _)⟩)
                dsimp only [Pt.U, Pt.locs, Pt.cells, Pt.slots] at X132 l132 y132 z132 st132 hQ132
                subst l132 y132 z132
                obtain ⟨rfl, N132q, x132, f132⟩ := hQ132
                have N132 := Fr.app N0 N132q
                have e132 : T132.heap = T132.heap := rfl
                have XT132 := own_ext2 (own_ext0 h0) x132
                refine Go.on (T' := T132) (g' := (mkF m 23 #[.val (.int i0), .val (.int i1), .val (.int i0), .unset, .unset] [(.ref (w 6))])) st132 ?_
                refine Go.on (T' := T132) (g' := (mkF m 24 #[.val (.int i0), .val (.int i1), .val (.int i0), .val (.ref (w 6)), .unset] [])) (fun t k => XS.astoreN X132.here hx rfl (hb hby at_23) rfl rfl (l' := #[.val (.int i0), .val (.int i1), .val (.int i0), .val (.ref (w 6)), .unset]) rfl k) ?_
                refine Go.on (T' := T132) (g' := (mkF m 25 #[.val (.int i0), .val (.int i1), .val (.int i0), .val (.ref (w 6)), .unset] [(.int i0)])) (fun t k => XS.iloadN X132.here hx rfl (hb hby at_24) rfl k) ?_
                obtain ⟨_, _, ⟨T133, L133, k133, n133⟩, -, X133, ⟨Lc133, hQ133, l133, y133, z133⟩, st133⟩ := Jvm.LawKit.callS X132 hx (y := (⟨"com/example/stubwright/stubwright/PacketTypeFromCodePinLaw", "expected", "(I)Lcom/example/stubwright/stubwright/PacketType;"⟩ : MethodName)) hown (mvT hZ (hw _ (List.mem_of_getElem? (i := 27) rfl))) (mvT hZ (hw _ (List.mem_of_getElem? (i := 28) rfl))) (mvT hZ (hw _ (List.mem_of_getElem? (i := 29) rfl))) (mvT hZ (hw _ (List.mem_of_getElem? (i := 30) rfl))) (by decide) (backOf (W := 0) (rm3_5 l Z a0 hw [] w T132.heap n0 (Nat.le_trans Z0 XT132.1) (pins_ext XT132 hP) i0 (fun q => h111 q.symm) (fun q => h115 q.symm) (fun q => h119 q.symm) (fun q => h123 q.symm) (fun q => h127 q.symm) h131.symm) hZ (hw _ (List.mem_of_getElem? (i := 30) rfl)) (hw _ (List.mem_of_getElem? (i := 29) rfl)) (by decide) (by decide)) (g := (mkF m 25 #[.val (.int i0), .val (.int i1), .val (.int i0), .val (.ref (w 6)), .unset] [(.int i0)])) rfl (by rw [hml]; rfl) (argsL := [(.int i0)]) (rest := []) (lenOf pd_1 rfl) rfl (by show 2 * 0 + _ ≤ _; exact Nat.le_of_eq rfl) (hb hby at_25) (fun _ _ => ⟨rfl, e132, (by decide : 1 + 0 ≤ _), (by decide : 6 + 0 ≤ _)⟩)
                dsimp only [Pt.U, Pt.locs, Pt.cells, Pt.slots] at X133 l133 y133 z133 st133 hQ133
                subst l133 y133 z133
                obtain ⟨rfl, N133q, e133⟩ := hQ133
                have N133 := Fr.app N132 N133q
                refine Go.on (T' := T133) (g' := (mkF m 28 #[.val (.int i0), .val (.int i1), .val (.int i0), .val (.ref (w 6)), .unset] [(.ref (w 6))])) st133 ?_
                refine Go.on (T' := T133) (g' := (mkF m 30 #[.val (.int i0), .val (.int i1), .val (.int i0), .val (.ref (w 6)), .val (.ref (w 6))] [])) (fun t k => XS.astore X133.here hx rfl (hb hby at_28) rfl rfl (l' := #[.val (.int i0), .val (.int i1), .val (.int i0), .val (.ref (w 6)), .val (.ref (w 6))]) rfl k) ?_
                refine Go.on (T' := T133) (g' := (mkF m 31 #[.val (.int i0), .val (.int i1), .val (.int i0), .val (.ref (w 6)), .val (.ref (w 6))] [(.ref (w 6))])) (fun t k => XS.aloadN X133.here hx rfl (hb hby at_30) rfl rfl k) ?_
                refine Go.on (T' := T133) (g' := (mkF m 33 #[.val (.int i0), .val (.int i1), .val (.int i0), .val (.ref (w 6)), .val (.ref (w 6))] [(.ref (w 6)), (.ref (w 6))])) (fun t k => XS.aload X133.here hx rfl (hb hby at_31) rfl rfl k) ?_
                refine Go.on (T' := T133) (g' := (mkF m 38 #[.val (.int i0), .val (.int i1), .val (.int i0), .val (.ref (w 6)), .val (.ref (w 6))] [])) (fun t k => Jvm.RoadKit.acmp (g := (mkF m 33 #[.val (.int i0), .val (.int i1), .val (.int i0), .val (.ref (w 6)), .val (.ref (w 6))] [(.ref (w 6)), (.ref (w 6))])) X133 hx rfl rfl rfl (pc0 := 33) (pc' := 38) (same := true) rfl (hb hby at_33) rfl (decide_eq_true rfl) (by decide) (by decide) k) ?_
                refine Go.on (T' := T133) (g' := (mkF m 39 #[.val (.int i0), .val (.int i1), .val (.int i0), .val (.ref (w 6)), .val (.ref (w 6))] [(.ref (w 6))])) (fun t k => XS.aloadN X133.here hx rfl (hb hby at_38) rfl rfl k) ?_
                refine Go.on (T' := T133) (g' := (mkF m 42 #[.val (.int i0), .val (.int i1), .val (.int i0), .val (.ref (w 6)), .val (.ref (w 6))] [])) (fun t k => XS.ifnullNo X133.here hx rfl (hb hby at_39) rfl k) ?_
                refine Go.on (T' := T133) (g' := (mkF m 43 #[.val (.int i0), .val (.int i1), .val (.int i0), .val (.ref (w 6)), .val (.ref (w 6))] [(.ref (w 6))])) (fun t k => XS.aloadN X133.here hx rfl (hb hby at_42) rfl rfl k) ?_
                obtain ⟨cq134, kq134, q134a, q134b, q134c⟩ := isOf hZ e133 (pin_13 (pins_ext XT132 hP))
                obtain ⟨_, _, ⟨T134, L134, k134, n134⟩, -, X134, ⟨Lc134, hQ134, l134, y134, z134⟩, st134⟩ := X133.virtualBack hx (y := (⟨"com/example/stubwright/stubwright/PacketType", "code", "()I"⟩ : MethodName)) (z := (⟨"com/example/stubwright/stubwright/PacketType", "code", "()I"⟩ : MethodName)) hown (mvT hZ (hw _ (List.mem_of_getElem? (i := 32) rfl))) (mvT hZ (hw _ (List.mem_of_getElem? (i := 33) rfl))) (notFace_of_selects (args := #[]) (mvT hZ (hw _ (List.mem_of_getElem? (i := 35) rfl)))) (mvT hZ (hw _ (List.mem_of_getElem? (i := 35) rfl))) (mvT hZ (hw _ (List.mem_of_getElem? (i := 34) rfl))) (by decide) (backOf (W := 0) (rm4_5 l Z a0 hw [] w T132.heap n0 (Nat.le_trans Z0 XT132.1) (pins_ext XT132 hP)) hZ (hw _ (List.mem_of_getElem? (i := 36) rfl)) (hw _ (List.mem_of_getElem? (i := 2) rfl)) (by decide) (by decide)) q134a q134c (g := (mkF m 43 #[.val (.int i0), .val (.int i1), .val (.int i0), .val (.ref (w 6)), .val (.ref (w 6))] [(.ref (w 6))])) rfl (by rw [hml]; rfl) (Steps.refl _) (argsL := []) (rest := []) (lenOf pd_2 rfl) rfl (by show 2 * 0 + _ ≤ _; exact Nat.le_of_eq rfl) (hb hby at_43) (fun _ _ => ⟨rfl, e133, (by decide : 1 + 0 ≤ _), (by decide : 6 + 0 ≤ _)⟩)
                dsimp only [Pt.U, Pt.locs, Pt.cells, Pt.slots] at X134 l134 y134 z134 st134 hQ134
                subst l134 y134 z134
                obtain ⟨rfl, N134q, e134⟩ := hQ134
                have N134 := Fr.app N133 N134q
                refine Go.on (T' := T134) (g' := (mkF m 46 #[.val (.int i0), .val (.int i1), .val (.int i0), .val (.ref (w 6)), .val (.ref (w 6))] [(.int (5 : Int32))])) (fun t k => st134.trans k) ?_
                refine Go.on (T' := T134) (g' := (mkF m 47 #[.val (.int i0), .val (.int i1), .val (.int i0), .val (.ref (w 6)), .val (.ref (w 6))] [(.int i0), (.int (5 : Int32))])) (fun t k => XS.iloadN X134.here hx rfl (hb hby at_46) rfl k) ?_
                refine Go.on (T' := T134) (g' := (mkF m 52 #[.val (.int i0), .val (.int i1), .val (.int i0), .val (.ref (w 6)), .val (.ref (w 6))] [])) (fun t k => XS.icmpYes X134.here hx rfl (pc0 := 47) (pc' := 52) rfl (hb hby at_47) rfl (teq h131).1 (by decide) (by decide) k) ?_
                refine Go.on (T' := T134) (g' := (mkF m 53 #[.val (.int i0), .val (.int i1), .val (.int i0), .val (.ref (w 6)), .val (.ref (w 6))] [(.int (1 : Int32))])) (fun t k => XS.iconst X134.here hx rfl (hb hby at_52) k) ?_
                obtain ⟨fs, hr, hrun, hended, hW, hsame⟩ := X134.leave (v := some (.int (1 : Int32))) (fun h => by rw [Bd.returns] at h; cases h)
                exact ⟨_, _, retN X134 hx (t := .boolean) Bd.returns (by simp) (hb hby at_53) hr, hrun, hended, _, _, rfl, ⟨rfl, N134⟩, ⟨_, rfl⟩, hW, hsame.mono (by decide) (by decide)⟩
              · skip
                obtain ⟨_, _, ⟨T135, L135, k135, n135⟩, -, X135, ⟨Lc135, hQ135, l135, y135, z135⟩, st135⟩ := Jvm.LawKit.callS X0 hx (y := (⟨"com/example/stubwright/stubwright/PacketType", "fromCode", "(I)Lcom/example/stubwright/stubwright/PacketType;"⟩ : MethodName)) hown (mvT hZ (hw _ (List.mem_of_getElem? (i := 0) rfl))) (mvT hZ (hw _ (List.mem_of_getElem? (i := 1) rfl))) (mvT hZ (hw _ (List.mem_of_getElem? (i := 2) rfl))) (mvT hZ (hw _ (List.mem_of_getElem? (i := 3) rfl))) (by decide) (backOf (W := 0) (rm1_6 l Z a0 hw [] w h0 n0 (Nat.le_trans Z0 (own_ext0 h0).1) hP i0 h111 h115 h119 h123 h127 h131) hZ (hw _ (List.mem_of_getElem? (i := 3) rfl)) (hw _ (List.mem_of_getElem? (i := 2) rfl)) (by decide) (by decide)) (g := (mkF m 20 #[.val (.int i0), .val (.int i1), .val (.int i0), .unset, .unset] [(.int i0)])) rfl (by rw [hml]; rfl) (argsL := [(.int i0)]) (rest := []) (lenOf pd_1 rfl) rfl (by show 2 * 0 + _ ≤ _; exact Nat.le_of_eq rfl) (hb hby at_20) (fun _ _ => ⟨rfl, e0, (by decide : 0 + 1 ≤ _), (by decide : 0 + 6 ≤ _)⟩)
                dsimp only [Pt.U, Pt.locs, Pt.cells, Pt.slots] at X135 l135 y135 z135 st135 hQ135
                subst l135 y135 z135
                obtain ⟨rfl, N135q, x135, f135⟩ := hQ135
                have N135 := Fr.app N0 N135q
                have e135 : T135.heap = T135.heap := rfl
                have XT135 := own_ext2 (own_ext0 h0) x135
                refine Go.on (T' := T135) (g' := (mkF m 23 #[.val (.int i0), .val (.int i1), .val (.int i0), .unset, .unset] [.null])) st135 ?_
                refine Go.on (T' := T135) (g' := (mkF m 24 #[.val (.int i0), .val (.int i1), .val (.int i0), .val .null, .unset] [])) (fun t k => XS.astoreN X135.here hx rfl (hb hby at_23) rfl rfl (l' := #[.val (.int i0), .val (.int i1), .val (.int i0), .val .null, .unset]) rfl k) ?_
                refine Go.on (T' := T135) (g' := (mkF m 25 #[.val (.int i0), .val (.int i1), .val (.int i0), .val .null, .unset] [(.int i0)])) (fun t k => XS.iloadN X135.here hx rfl (hb hby at_24) rfl k) ?_
                obtain ⟨_, _, ⟨T136, L136, k136, n136⟩, -, X136, ⟨Lc136, hQ136, l136, y136, z136⟩, st136⟩ := Jvm.LawKit.callS X135 hx (y := (⟨"com/example/stubwright/stubwright/PacketTypeFromCodePinLaw", "expected", "(I)Lcom/example/stubwright/stubwright/PacketType;"⟩ : MethodName)) hown (mvT hZ (hw _ (List.mem_of_getElem? (i := 27) rfl))) (mvT hZ (hw _ (List.mem_of_getElem? (i := 28) rfl))) (mvT hZ (hw _ (List.mem_of_getElem? (i := 29) rfl))) (mvT hZ (hw _ (List.mem_of_getElem? (i := 30) rfl))) (by decide) (backOf (W := 0) (rm3_6 l Z a0 hw [] w T135.heap n0 (Nat.le_trans Z0 XT135.1) (pins_ext XT135 hP) i0 (fun q => h111 q.symm) (fun q => h115 q.symm) (fun q => h119 q.symm) (fun q => h123 q.symm) (fun q => h127 q.symm) (fun q => h131 q.symm)) hZ (hw _ (List.mem_of_getElem? (i := 30) rfl)) (hw _ (List.mem_of_getElem? (i := 29) rfl)) (by decide) (by decide)) (g := (mkF m 25 #[.val (.int i0), .val (.int i1), .val (.int i0), .val .null, .unset] [(.int i0)])) rfl (by rw [hml]; rfl) (argsL := [(.int i0)]) (rest := []) (lenOf pd_1 rfl) rfl (by show 2 * 0 + _ ≤ _; exact Nat.le_of_eq rfl) (hb hby at_25) (fun _ _ => ⟨rfl, e135, (by decide : 1 + 0 ≤ _), (by decide : 6 + 0 ≤ _)⟩)
                dsimp only [Pt.U, Pt.locs, Pt.cells, Pt.slots] at X136 l136 y136 z136 st136 hQ136
                subst l136 y136 z136
                obtain ⟨rfl, N136q, e136⟩ := hQ136
                have N136 := Fr.app N135 N136q
                refine Go.on (T' := T136) (g' := (mkF m 28 #[.val (.int i0), .val (.int i1), .val (.int i0), .val .null, .unset] [.null])) st136 ?_
                refine Go.on (T' := T136) (g' := (mkF m 30 #[.val (.int i0), .val (.int i1), .val (.int i0), .val .null, .val .null] [])) (fun t k => XS.astore X136.here hx rfl (hb hby at_28) rfl rfl (l' := #[.val (.int i0), .val (.int i1), .val (.int i0), .val .null, .val .null]) rfl k) ?_
                refine Go.on (T' := T136) (g' := (mkF m 31 #[.val (.int i0), .val (.int i1), .val (.int i0), .val .null, .val .null] [.null])) (fun t k => XS.aloadN X136.here hx rfl (hb hby at_30) rfl rfl k) ?_
                refine Go.on (T' := T136) (g' := (mkF m 33 #[.val (.int i0), .val (.int i1), .val (.int i0), .val .null, .val .null] [.null, .null])) (fun t k => XS.aload X136.here hx rfl (hb hby at_31) rfl rfl k) ?_
                refine Go.on (T' := T136) (g' := (mkF m 38 #[.val (.int i0), .val (.int i1), .val (.int i0), .val .null, .val .null] [])) (fun t k => Jvm.RoadKit.acmp (g := (mkF m 33 #[.val (.int i0), .val (.int i1), .val (.int i0), .val .null, .val .null] [.null, .null])) X136 hx rfl rfl rfl (pc0 := 33) (pc' := 38) (same := true) rfl (hb hby at_33) rfl (decide_eq_true rfl) (by decide) (by decide) k) ?_
                refine Go.on (T' := T136) (g' := (mkF m 39 #[.val (.int i0), .val (.int i1), .val (.int i0), .val .null, .val .null] [.null])) (fun t k => XS.aloadN X136.here hx rfl (hb hby at_38) rfl rfl k) ?_
                refine Go.on (T' := T136) (g' := (mkF m 52 #[.val (.int i0), .val (.int i1), .val (.int i0), .val .null, .val .null] [])) (fun t k => XS.ifnullYes X136.here hx rfl (pc0 := 39) (pc' := 52) rfl (hb hby at_39) rfl (by decide) (by decide) k) ?_
                refine Go.on (T' := T136) (g' := (mkF m 53 #[.val (.int i0), .val (.int i1), .val (.int i0), .val .null, .val .null] [(.int (1 : Int32))])) (fun t k => XS.iconst X136.here hx rfl (hb hby at_52) k) ?_
                obtain ⟨fs, hr, hrun, hended, hW, hsame⟩ := X136.leave (v := some (.int (1 : Int32))) (fun h => by rw [Bd.returns] at h; cases h)
                exact ⟨_, _, retN X136 hx (t := .boolean) Bd.returns (by simp) (hb hby at_53) hr, hrun, hended, _, _, rfl, ⟨rfl, N136⟩, ⟨_, rfl⟩, hW, hsame.mono (by decide) (by decide)⟩
set_option maxRecDepth 65536 in
set_option maxHeartbeats 40000000 in
theorem comes_1 {Post : Tables → Env → Array Value → State → Outcome → State → Prop} (hpost : ∀ tb e args s v u, (limb_1_1.after args s (.returned v) u = true ∧ limb_1_2.after args s (.returned v) u = true ∧ True) → FrameEnd s (.returned v) u (Jvm.fieldLocs frame_1_writes args s ++ Jvm.arrayLocs frame_1_arrays args s ++ Jvm.staticLocs frame_1_statics s) 16 128 → Post tb e args s (.returned v) u) :
    ArmFor flags0 classFile x code maxLocals ret World_1 tables_1 room_1 Calls_1 rest_1 Pre_1 Post := by
  intro l hfl _ _ p e ha hc hk s m args below hf hA hF happ hP
  obtain ⟨hcalls, hrest, hpre⟩ := hP
  obtain ⟨-, -, -, hnamed, -, -, -, hat⟩ := (Spec.applies_iff hf).mp happ
  obtain ⟨hg, hn⟩ := and_e (Cond.before_iff.mp (show (Jvm.Cond.and given_1 narrow_1).before args s = true from hpre))
  obtain ⟨u1, v1⟩ := and_e hg
  obtain ⟨u2, v2⟩ := and_e v1
  obtain ⟨w0, w1, rfl⟩ : ∃ w0 w1 : Value, args = #[w0, w1] := by
    have hs : args.size = 2 := by simpa [Cond.value, given_1] using u1
    obtain ⟨L⟩ := args
    match L, hs with
    | [w0, w1], _ => exact ⟨w0, w1, rfl⟩
  have hw := fun d (hd : d ∈ tables_1) => atoms_spec (ws := Jvm.Cond.code x code maxLocals ret :: tables_1) hat d (List.mem_cons_of_mem _ hd)
  have hfit : Fit s := fun {y c} hc i hi => by
    obtain ⟨ha, rfl⟩ := Array.getElem?_eq_some_iff.mp hc
    have q := List.all_eq_true.mp ((Array.all_eq_true_iff_forall_mem.mp hF) _ (Array.getElem_mem ha)) i (List.mem_range.mpr hi)
    simpa [Array.getElem?_eq_getElem hi] using q
  obtain ⟨i0, ei0⟩ := is_v u2
  obtain rfl : w0 = (.int i0) := Option.some.inj ei0
  obtain ⟨i1, ei1⟩ := is_v v2
  obtain rfl : w1 = (.int i1) := Option.some.inj ei1
  obtain ⟨u3, v3⟩ := and_e hn
  obtain ⟨u4, v4⟩ := and_e v3
  obtain ⟨u5, v5⟩ := and_e v4
  obtain ⟨u6, v6⟩ := and_e v5
  obtain ⟨u7, v7⟩ := and_e v6
  obtain ⟨u8, v8⟩ := and_e v7
  obtain ⟨u9, v9⟩ := and_e v8
  obtain ⟨u10, v10⟩ := and_e v9
  obtain ⟨u11, v11⟩ := and_e v10
  obtain ⟨u12, v12⟩ := and_e v11
  obtain ⟨u13, v13⟩ := and_e v12
  obtain ⟨u14, v14⟩ := and_e v13
  obtain ⟨u15, v15⟩ := and_e v14
  obtain ⟨u16, v16⟩ := and_e v15
  obtain ⟨u17, v17⟩ := and_e v16
  obtain ⟨u18, v18⟩ := and_e v17
  obtain ⟨u19, v19⟩ := and_e v18
  obtain ⟨u20, v20⟩ := and_e v19
  obtain ⟨u21, v21⟩ := and_e v20
  obtain ⟨u22, v22⟩ := and_e v21
  obtain ⟨x0, ev0⟩ := arr_v u3
  obtain ⟨cl0, Ar0⟩ := Arr.start ev0 u3
  obtain ⟨x1, ev1⟩ := exa_v u6
  obtain ⟨x2, ev2⟩ := exa_v u8
  obtain ⟨x3, ev3⟩ := exa_v u10
  obtain ⟨x4, ev4⟩ := exa_v u12
  obtain ⟨x5, ev5⟩ := exa_v u14
  obtain ⟨x6, ev6⟩ := exa_v u16
  have g0_0 := (elem_in (own_eqR u7 ev1) ev0 rfl Ar0.1).2
  have g0_1 := (elem_in (own_eqR u9 ev2) ev0 rfl Ar0.1).2
  have g0_2 := (elem_in (own_eqR u11 ev3) ev0 rfl Ar0.1).2
  have g0_3 := (elem_in (own_eqR u13 ev4) ev0 rfl Ar0.1).2
  have g0_4 := (elem_in (own_eqR u15 ev5) ev0 rfl Ar0.1).2
  have g0_5 := (elem_in (own_eqR u17 ev6) ev0 rfl Ar0.1).2
  have sl0 : cl0.slots = #[.ref x1, .ref x2, .ref x3, .ref x4, .ref x5, .ref x6] := own_slots (vs := [.ref x1, .ref x2, .ref x3, .ref x4, .ref x5, .ref x6]) (own_len (k := 6) (own_eqI u5) ev0 Ar0 (by decide)) (fun i v h => by
    match i, h with
    | 0, h => cases h; exact g0_0
    | 1, h => cases h; exact g0_1
    | 2, h => cases h; exact g0_2
    | 3, h => cases h; exact g0_3
    | 4, h => cases h; exact g0_4
    | 5, h => cases h; exact g0_5
    | n + 6, h => cases h)
  obtain ⟨w, hw_⟩ : ∃ w : Nat → Addr, w 0 = x0 ∧ w 1 = x1 ∧ w 2 = x2 ∧ w 3 = x3 ∧ w 4 = x4 ∧ w 5 = x5 ∧ w 6 = x6 ∧ True := ⟨fun k => [x0, x1, x2, x3, x4, x5, x6].getD k 0, rfl, rfl, rfl, rfl, rfl, rfl, rfl, trivial⟩
  obtain ⟨rfl, rfl, rfl, rfl, rfl, rfl, rfl, -⟩ := hw_
  have hPin : Pins s s.heap w := ⟨Sta.start ev0 (Or.inr ⟨(hw _ (List.mem_of_getElem? (i := 2) rfl)), (hw _ (List.mem_of_getElem? (i := 8) rfl))⟩),
    Sta.start ev1 (Or.inr ⟨(hw _ (List.mem_of_getElem? (i := 2) rfl)), (hw _ (List.mem_of_getElem? (i := 16) rfl))⟩),
    Sta.start ev2 (Or.inr ⟨(hw _ (List.mem_of_getElem? (i := 2) rfl)), (hw _ (List.mem_of_getElem? (i := 17) rfl))⟩),
    Sta.start ev3 (Or.inr ⟨(hw _ (List.mem_of_getElem? (i := 2) rfl)), (hw _ (List.mem_of_getElem? (i := 18) rfl))⟩),
    Sta.start ev4 (Or.inr ⟨(hw _ (List.mem_of_getElem? (i := 2) rfl)), (hw _ (List.mem_of_getElem? (i := 19) rfl))⟩),
    Sta.start ev5 (Or.inr ⟨(hw _ (List.mem_of_getElem? (i := 2) rfl)), (hw _ (List.mem_of_getElem? (i := 20) rfl))⟩),
    Sta.start ev6 (Or.inr ⟨(hw _ (List.mem_of_getElem? (i := 2) rfl)), (hw _ (List.mem_of_getElem? (i := 21) rfl))⟩),
    Exa.start ev0 u4,
    Exa.start ev1 u6,
    Exa.start ev2 u8,
    Exa.start ev3 u10,
    Exa.start ev4 u12,
    Exa.start ev5 u14,
    Exa.start ev6 u16,
    Fld.start ((fld_at ev1).symm.trans (own_eqI u18)),
    Fld.start ((fld_at ev2).symm.trans (own_eqI u19)),
    Fld.start ((fld_at ev3).symm.trans (own_eqI u20)),
    Fld.start ((fld_at ev4).symm.trans (own_eqI u21)),
    Fld.start ((fld_at ev5).symm.trans (own_eqI u22)),
    Fld.start ((fld_at ev6).symm.trans (own_eqI v22)),
    ⟨cl0, Ar0, sl0, FitC.start hfit Ar0⟩,
    trivial⟩
  obtain ⟨n, o, h1, h2, h3, _, L, rfl, ⟨rfl, N⟩, hq⟩ := rm0 l s _ hw tables_1 w s.heap s.heap.size (Nat.le_refl _) hPin i0 i1 p e ha hc hk s m _ below hf ((Spec.applies_iff_loose hf).mp happ).1 ⟨rfl, State.Warmed39.refl s, rfl⟩ trivial
  refine ⟨n, _, h1, h2, h3, hpost _ _ _ _ _ _ ⟨Cond.after_iff.mpr rfl, Cond.after_iff.mpr (eq_i res_at (Term.int_eval (1)) rfl), trivial⟩ ⟨hq.1, hq.2.1, (hq.2.2.sift fun y hy => Or.inr (N y hy)).mono (by decide) (by decide)⟩⟩
theorem main_1_1 : Claimed_1_1 := comes_1 fun _ _ _ _ _ _ h hF => ⟨h.1, hF⟩
theorem main_1_2 : Claimed_1_2 := comes_1 fun _ _ _ _ _ _ h hF => ⟨h.2.1, hF⟩
end Jvm.Pilot.@@N@@
namespace Jvm.Pilot.@@N@@
open Jvm Jvm.ClassFile Sem Op Lib Jvm.Free Jvm.Stand Jvm.Pilot.@@N@@.Jvm.D
/-! MADE BY PROGRAM (witnessworld.py) out of the Statement's table words and the real class files: 13 classes; the members and pool entries that the words name. The judged class is class 1, her method 1. -/
namespace start1
open Jvm.ClassFile
def u (s : String) : CpInfo := .utf8 (stringToUtf16 s)
/-- a pool by its gaps: so many unusable entries, then the entry; so many at the end -/
def gap : Nat → List CpInfo → List CpInfo
  | 0, r => r
  | n + 1, r => .unusable :: gap n r
def poolList (es : List (Nat × CpInfo)) (last : Nat) : List CpInfo := es.foldr (fun e r => gap e.1 (e.2 :: r)) (gap last [])
def pool (es : List (Nat × CpInfo)) (last : Nat) : Array CpInfo := ⟨poolList es last⟩
def fileOf (pool : Array CpInfo) (this : Nat) (attrs : Array Attribute := #[]) (ms : Array MethodInfo := #[]) (fl : Nat := 33) (sup : Nat := 0) (ifs : Array Nat := #[]) (fds : Array FieldInfo := #[]) : ClassFile where
  minorVersion := 0
  majorVersion := 65
  constantPool := pool
  accessFlags := fl
  thisClass := this
  superClass := sup
  interfaces := ifs
  fields := fds
  methods := ms
  attributes := attrs
def plain (name : String) (sup : Option ClassId) : Class where
  name := name
  kind := .ordinary
  loader := none
  accessFlags := 33
  super := sup
  interfaces := #[]
  cf := none
  fields := #[]
  methods := #[]
  instanceTypes := #[]
  staticTypes := #[]
  resolved := #[]
  callSites := []
  init := .initialized
  statics := none
  mirror := none

def pool0 : Array CpInfo := pool [(5, u "<init>"), (0, u "()V"), (1, .class_ 10), (1, u "java/lang/Object"), (85, u "clone"), (0, u "()Ljava/lang/Object;")] 26

def k0m0 : Method := { name := "<init>", desc := "()V", sig := { parameters := [], returnType := none }, accessFlags := 1, code := none }
def k0m1 : Method := { name := "clone", desc := "()Ljava/lang/Object;", sig := { parameters := [], returnType := some (.object "java/lang/Object") }, accessFlags := 260, code := none }
/-- java/lang/Object -/
def k0 : Class := { plain "java/lang/Object" none with
  accessFlags := 33
  interfaces := #[]
  cf := some (fileOf pool0 8 #[] #[{ accessFlags := 1, nameIndex := 5, descriptorIndex := 6, attributes := #[] }, { accessFlags := 260, nameIndex := 96, descriptorIndex := 97, attributes := #[] }] 33 0 #[] #[])
  fields := #[]
  methods := #[k0m0, k0m1]
  instanceTypes := #[]
  staticTypes := #[]
  resolved := Array.replicate 124 none
  statics := none }

def pool1 : Array CpInfo := pool [(2, .class_ 4), (1, u "java/lang/Object"), (0, u "<init>"), (0, u "()V"), (0, .methodref 8 9), (0, .class_ 10), (0, .nameAndType 11 12), (0, u "com/example/stubwright/stubwright/PacketType"), (0, u "fromCode"), (0, u "(I)Lcom/example/stubwright/stubwright/PacketType;"), (0, .methodref 14 15), (0, .class_ 16), (0, .nameAndType 17 12), (0, u "com/example/stubwright/stubwright/PacketTypeFromCodePinLaw"), (0, u "expected"), (0, .methodref 8 19), (0, .nameAndType 20 21), (0, u "code"), (0, u "()I"), (0, .fieldref 8 23), (0, .nameAndType 24 25), (0, u "REQUEST"), (0, u "Lcom/example/stubwright/stubwright/PacketType;"), (0, .fieldref 8 27), (0, .nameAndType 28 25), (0, u "RESPONSE"), (0, .fieldref 8 30), (0, .nameAndType 31 25), (0, u "REJECT"), (0, .fieldref 8 33), (0, .nameAndType 34 25), (0, u "UNKOBJECT"), (0, .fieldref 8 36), (0, .nameAndType 37 25), (0, u "OVERFLOW"), (0, .fieldref 8 39), (0, .nameAndType 40 25), (0, u "REJECTBYAGENT"), (2, u "law"), (0, u "(II)Z")] 3

def k1m0 : Method := { name := "<init>", desc := "()V", sig := { parameters := [], returnType := none }, accessFlags := 1, code := none }
def k1c1 : Code := { maxStack := 2, maxLocals := 5, code := code, exceptionTable := #[], attributes := #[] }
def k1m1 : Method := { name := "law", desc := "(II)Z", sig := { parameters := [.int, .int], returnType := some .boolean }, accessFlags := 9, code := some k1c1 }
def k1c2 : Code := { maxStack := 2, maxLocals := 1, code := method_3_code, exceptionTable := #[], attributes := #[] }
def k1m2 : Method := { name := "expected", desc := "(I)Lcom/example/stubwright/stubwright/PacketType;", sig := { parameters := [.int], returnType := some (.object "com/example/stubwright/stubwright/PacketType") }, accessFlags := 10, code := some k1c2 }
/-- com/example/stubwright/stubwright/PacketTypeFromCodePinLaw -/
def k1 : Class := { plain "com/example/stubwright/stubwright/PacketTypeFromCodePinLaw" (some 0) with
  accessFlags := 49
  interfaces := #[]
  cf := some (fileOf pool1 14 #[] #[{ accessFlags := 1, nameIndex := 5, descriptorIndex := 6, attributes := #[] }, { accessFlags := 9, nameIndex := 43, descriptorIndex := 44, attributes := #[] }, { accessFlags := 10, nameIndex := 17, descriptorIndex := 12, attributes := #[] }] 49 2 #[] #[])
  fields := #[]
  methods := #[k1m0, k1m1, k1m2]
  instanceTypes := #[]
  staticTypes := #[]
  resolved := Array.replicate 48 none
  statics := none }

def pool2 : Array CpInfo := pool [(1, .class_ 2), (0, u "java/lang/constant/Constable"), (0, .class_ 4), (0, u "java/lang/Object")] 6

/-- java/lang/constant/Constable -/
def k2 : Class := { plain "java/lang/constant/Constable" (some 0) with
  accessFlags := 1537
  interfaces := #[]
  cf := some (fileOf pool2 1 #[] #[] 1537 3 #[] #[])
  fields := #[]
  methods := #[]
  instanceTypes := #[]
  staticTypes := #[]
  resolved := Array.replicate 11 none
  statics := none }

def pool3 : Array CpInfo := pool [(1, .class_ 2), (0, u "java/lang/Comparable"), (0, .class_ 4), (0, u "java/lang/Object")] 7

/-- java/lang/Comparable -/
def k3 : Class := { plain "java/lang/Comparable" (some 0) with
  accessFlags := 1537
  interfaces := #[]
  cf := some (fileOf pool3 1 #[] #[] 1537 3 #[] #[])
  fields := #[]
  methods := #[]
  instanceTypes := #[]
  staticTypes := #[]
  resolved := Array.replicate 12 none
  statics := none }

def pool4 : Array CpInfo := pool [(1, .class_ 2), (0, u "java/io/Serializable"), (0, .class_ 4), (0, u "java/lang/Object")] 2

/-- java/io/Serializable -/
def k4 : Class := { plain "java/io/Serializable" (some 0) with
  accessFlags := 1537
  interfaces := #[]
  cf := some (fileOf pool4 1 #[] #[] 1537 3 #[] #[])
  fields := #[]
  methods := #[]
  instanceTypes := #[]
  staticTypes := #[]
  resolved := Array.replicate 7 none
  statics := none }

def pool5 : Array CpInfo := pool [(2, .class_ 4), (1, u "java/lang/Enum"), (0, u "name"), (0, u "Ljava/lang/String;"), (2, u "ordinal"), (0, u "I"), (1, .class_ 14), (1, u "java/lang/Object"), (4, u "hash"), (86, .class_ 108), (1, u "java/lang/Enum$EnumDesc"), (2, .class_ 112), (0, u "java/lang/constant/Constable"), (0, .class_ 114), (0, u "java/lang/Comparable"), (0, .class_ 116), (0, u "java/io/Serializable")] 87

/-- java/lang/Enum -/
def k5 : Class := { plain "java/lang/Enum" (some 0) with
  accessFlags := 1057
  interfaces := #[2, 3, 4]
  cf := some (fileOf pool5 2 #[.nestMembers #[106]] #[] 1057 12 #[111, 113, 115] #[{ accessFlags := 18, nameIndex := 5, descriptorIndex := 6, attributes := #[] }, { accessFlags := 18, nameIndex := 9, descriptorIndex := 10, attributes := #[] }, { accessFlags := 2, nameIndex := 19, descriptorIndex := 10, attributes := #[] }])
  fields := #[{ name := "name", type := (.object "java/lang/String"), accessFlags := 18, slot := 0, constantValue := 0 }, { name := "ordinal", type := .int, accessFlags := 18, slot := 1, constantValue := 0 }, { name := "hash", type := .int, accessFlags := 2, slot := 2, constantValue := 0 }]
  methods := #[]
  instanceTypes := #[(.object "java/lang/String"), .int, .int]
  staticTypes := #[]
  resolved := Array.replicate 204 none
  statics := none }

def pool6 : Array CpInfo := pool [(1, .class_ 2), (0, u "com/example/stubwright/stubwright/PacketType"), (2, u "REQUEST"), (0, u "Lcom/example/stubwright/stubwright/PacketType;"), (2, u "RESPONSE"), (2, u "REJECT"), (2, u "UNKOBJECT"), (2, u "OVERFLOW"), (2, u "REJECTBYAGENT"), (0, .fieldref 1 23), (0, .nameAndType 24 25), (0, u "$VALUES"), (0, u "[Lcom/example/stubwright/stubwright/PacketType;"), (0, .methodref 27 28), (0, .class_ 25), (0, .nameAndType 29 30), (0, u "clone"), (0, u "()Ljava/lang/Object;"), (1, .class_ 34), (1, u "java/lang/Enum"), (6, .fieldref 1 42), (0, .nameAndType 43 44), (0, u "code"), (0, u "I"), (0, .methodref 1 46), (0, .nameAndType 47 48), (0, u "values"), (0, u "()[Lcom/example/stubwright/stubwright/PacketType;"), (18, u "()I"), (0, u "fromCode"), (0, u "(I)Lcom/example/stubwright/stubwright/PacketType;")] 6

def k6c0 : Code := { maxStack := 1, maxLocals := 0, code := prog_34_method_1_code, exceptionTable := #[], attributes := #[] }
def k6m0 : Method := { name := "values", desc := "()[Lcom/example/stubwright/stubwright/PacketType;", sig := { parameters := [], returnType := some (.array (.object "com/example/stubwright/stubwright/PacketType")) }, accessFlags := 9, code := some k6c0 }
def k6c1 : Code := { maxStack := 1, maxLocals := 1, code := prog_34_method_4_code, exceptionTable := #[], attributes := #[] }
def k6m1 : Method := { name := "code", desc := "()I", sig := { parameters := [], returnType := some .int }, accessFlags := 0, code := some k6c1 }
def k6c2 : Code := { maxStack := 2, maxLocals := 5, code := prog_34_method_5_code, exceptionTable := #[], attributes := #[] }
def k6m2 : Method := { name := "fromCode", desc := "(I)Lcom/example/stubwright/stubwright/PacketType;", sig := { parameters := [.int], returnType := some (.object "com/example/stubwright/stubwright/PacketType") }, accessFlags := 8, code := some k6c2 }
/-- com/example/stubwright/stubwright/PacketType -/
def k6 : Class := { plain "com/example/stubwright/stubwright/PacketType" (some 5) with
  accessFlags := 16432
  interfaces := #[]
  cf := some (fileOf pool6 1 #[] #[{ accessFlags := 9, nameIndex := 47, descriptorIndex := 48, attributes := #[] }, { accessFlags := 0, nameIndex := 43, descriptorIndex := 67, attributes := #[] }, { accessFlags := 8, nameIndex := 68, descriptorIndex := 69, attributes := #[] }] 16432 32 #[] #[{ accessFlags := 16409, nameIndex := 5, descriptorIndex := 6, attributes := #[] }, { accessFlags := 16409, nameIndex := 9, descriptorIndex := 6, attributes := #[] }, { accessFlags := 16409, nameIndex := 12, descriptorIndex := 6, attributes := #[] }, { accessFlags := 16409, nameIndex := 15, descriptorIndex := 6, attributes := #[] }, { accessFlags := 16409, nameIndex := 18, descriptorIndex := 6, attributes := #[] }, { accessFlags := 16409, nameIndex := 21, descriptorIndex := 6, attributes := #[] }, { accessFlags := 18, nameIndex := 43, descriptorIndex := 44, attributes := #[] }, { accessFlags := 4122, nameIndex := 24, descriptorIndex := 25, attributes := #[] }])
  fields := #[{ name := "REQUEST", type := (.object "com/example/stubwright/stubwright/PacketType"), accessFlags := 16409, slot := 0, constantValue := 0 }, { name := "RESPONSE", type := (.object "com/example/stubwright/stubwright/PacketType"), accessFlags := 16409, slot := 1, constantValue := 0 }, { name := "REJECT", type := (.object "com/example/stubwright/stubwright/PacketType"), accessFlags := 16409, slot := 2, constantValue := 0 }, { name := "UNKOBJECT", type := (.object "com/example/stubwright/stubwright/PacketType"), accessFlags := 16409, slot := 3, constantValue := 0 }, { name := "OVERFLOW", type := (.object "com/example/stubwright/stubwright/PacketType"), accessFlags := 16409, slot := 4, constantValue := 0 }, { name := "REJECTBYAGENT", type := (.object "com/example/stubwright/stubwright/PacketType"), accessFlags := 16409, slot := 5, constantValue := 0 }, { name := "code", type := .int, accessFlags := 18, slot := 3, constantValue := 0 }, { name := "$VALUES", type := (.array (.object "com/example/stubwright/stubwright/PacketType")), accessFlags := 4122, slot := 6, constantValue := 0 }]
  methods := #[k6m0, k6m1, k6m2]
  instanceTypes := #[(.object "java/lang/String"), .int, .int, .int]
  staticTypes := #[(.object "com/example/stubwright/stubwright/PacketType"), (.object "com/example/stubwright/stubwright/PacketType"), (.object "com/example/stubwright/stubwright/PacketType"), (.object "com/example/stubwright/stubwright/PacketType"), (.object "com/example/stubwright/stubwright/PacketType"), (.object "com/example/stubwright/stubwright/PacketType"), (.array (.object "com/example/stubwright/stubwright/PacketType"))]
  resolved := Array.replicate 76 none
  statics := some 0 }

def pool7 : Array CpInfo := pool [(1, .class_ 2), (0, u "java/lang/Cloneable"), (0, .class_ 4), (0, u "java/lang/Object")] 2

/-- java/lang/Cloneable -/
def k7 : Class := { plain "java/lang/Cloneable" (some 0) with
  accessFlags := 1537
  interfaces := #[]
  cf := some (fileOf pool7 1 #[] #[] 1537 3 #[] #[])
  fields := #[]
  methods := #[]
  instanceTypes := #[]
  staticTypes := #[]
  resolved := Array.replicate 7 none
  statics := none }

/-- the primitive byte -/
def k8 : Class := { plain "byte" none with kind := .primitive 'B', accessFlags := 0x411 }
/-- [B -/
def k9 : Class := { plain "[B" (some 0) with kind := .array 8 .byte, interfaces := #[7, 4], accessFlags := 1041 }

/-- the primitive int -/
def k10 : Class := { plain "int" none with kind := .primitive 'I', accessFlags := 0x411 }
/-- [I -/
def k11 : Class := { plain "[I" (some 0) with kind := .array 10 .int, interfaces := #[7, 4], accessFlags := 1041 }

/-- [Lcom/example/stubwright/stubwright/PacketType; -/
def k12 : Class := { plain "[Lcom/example/stubwright/stubwright/PacketType;" (some 0) with kind := .array 6 (.object "com/example/stubwright/stubwright/PacketType"), interfaces := #[7, 4], accessFlags := 1041 }

def heap : Heap := #[{ cls := 6, slots := #[.ref 2, .ref 3, .ref 4, .ref 5, .ref 6, .ref 7, .ref 1], vm := .statics 6 },
  { cls := 12, slots := #[.ref 2, .ref 3, .ref 4, .ref 5, .ref 6, .ref 7], vm := .none },
  { cls := 6, slots := #[.null, .int 0, .int 0, .int 0], vm := .none },
  { cls := 6, slots := #[.null, .int 0, .int 0, .int 1], vm := .none },
  { cls := 6, slots := #[.null, .int 0, .int 0, .int 2], vm := .none },
  { cls := 6, slots := #[.null, .int 0, .int 0, .int 3], vm := .none },
  { cls := 6, slots := #[.null, .int 0, .int 0, .int 4], vm := .none },
  { cls := 6, slots := #[.null, .int 0, .int 0, .int 5], vm := .none }]
def classes : Array Class := #[k0, k1, k2, k3, k4, k5, k6, k7, k8, k9, k10, k11, k12]
def interned : List (Array UInt16 × Addr) := []
def slotsUsed : Nat := 37
def theMethod : MethodId := ⟨1, 1⟩
def args0 : Array Value := #[.int 5, .int 8]
def aboutOver (below : List Frame) : State where
  vm := { classes := classes, interned := interned.toArray }
  heap := heap
  slotsUsed := slotsUsed
  threads := #[{ frames := .invoking theMethod args0 :: below }]
def below0 : List Frame := [.native { method := ⟨0, 0⟩, args := #[] }]
def about1 : State := aboutOver below0
def p0 : Program := .bare "" "" ""
def e0 : Env := launch0.env 0 0 0
theorem w_frames : about1.frames = Frame.invoking theMethod args0 :: below0 := rfl
set_option maxRecDepth 65536 in
theorem w_args : argsFit about1.vm theMethod args0 = true := by decide +kernel
set_option maxRecDepth 65536 in
theorem w_heap : heapFits about1 = true := by decide +kernel
set_option maxRecDepth 65536 in
theorem w_runnable : about1.curStatus? = some .runnable := by decide +kernel
set_option maxRecDepth 65536 in
theorem w_alone : about1.alone = true := by decide +kernel
set_option maxRecDepth 65536 in
theorem w_named : about1.methodNamed? x = some theMethod := by decide +kernel
set_option maxRecDepth 65536 in
theorem w_hears : about1.hears theMethod below0 = true := by decide +kernel
set_option maxRecDepth 65536 in
theorem w_ripe : about1.ripe theMethod args0 below0 = true := by decide +kernel
theorem w_running : about1.status = .running := rfl
set_option maxRecDepth 65536 in
theorem w_room : about1.hasRoom e0.platform room_1 = true :=
  launch0.hasRoom_least _ room_1 (by decide +kernel) (by decide +kernel) (by decide +kernel) (by decide +kernel) (by decide +kernel) (by decide +kernel)
theorem allAtoms_all (ts : List Jvm.Cond) (a : Array Jvm.Value) (st : Jvm.State) : (allAtoms ts).before a st = ts.all (fun c => c.before a st) := by
  induction ts with
  | nil => rfl
  | cons c t ih =>
    show (Jvm.Cond.and c (allAtoms t)).before a st = _
    rw [Jvm.Cond.before_and, ih, List.all_cons]
def words1 : List Jvm.Cond := Jvm.Cond.code x code maxLocals ret :: tables_1
/-- a 'code' word, met by the world's own term for the bytes: nothing is compared byte by byte -/
theorem code_word {y : MethodName} {bytes : ByteArray} {mx : Nat} {rt : Option FieldType} {a : Array Value} {s : State} {m : MethodId} {meth : Method} {c : Code} (h1 : s.methodNamed? y = some m) (h2 : s.vm.method? m = some meth) (h3 : meth.code = some c) (h4 : c.code = bytes)
    (h5 : (c.maxLocals == mx && c.exceptionTable.isEmpty && decide (c.maxStack ≤ mostOperands) && decide (meth.sig.returnType = rt) && !meth.locks && decide (parseMethodDescriptor y.desc = some meth.sig)) = true) : (Jvm.Cond.code y bytes mx rt).before a s = true := by
  simp only [Bool.and_eq_true, beq_iff_eq, Bool.not_eq_true', decide_eq_true_eq] at h5
  obtain ⟨⟨⟨⟨⟨g1, g2⟩, g3⟩, g4⟩, g5⟩, g6⟩ := h5
  simp [Cond.before, Cond.holds, Cond.value, h1, h2, h3, h4, g1, g2, g3, g4, g5, g6]
def isCode : Jvm.Cond → Bool
  | .code _ _ _ _ => true
  | _ => false
theorem all_split {L : List Jvm.Cond} {P : Jvm.Cond → Bool} (h1 : L.all (fun c => isCode c || P c) = true) (h2 : ∀ c ∈ L.filter isCode, P c = true) : L.all P = true := by
  refine List.all_eq_true.mpr fun c hc => ?_
  have h := List.all_eq_true.mp h1 c hc
  rcases Bool.eq_false_or_eq_true (isCode c) with hi | hi
  · exact h2 c (List.mem_filter.mpr ⟨hc, hi⟩)
  · simpa [hi] using h
set_option maxRecDepth 65536 in
theorem w_c0 : (Jvm.Cond.code x code maxLocals ret).before args0 about1 = true := code_word (m := ⟨1, 1⟩) (meth := k1m1) (c := k1c1) (by decide +kernel) rfl rfl rfl (by decide +kernel)
set_option maxRecDepth 65536 in
theorem w_c1 : (Jvm.Cond.code ({ cls := "com/example/stubwright/stubwright/PacketType", name := "fromCode", desc := "(I)Lcom/example/stubwright/stubwright/PacketType;" } : Jvm.MethodName) prog_34_method_5_code (5 : Nat) (Option.some (Jvm.ClassFile.FieldType.object "com/example/stubwright/stubwright/PacketType"))).before args0 about1 = true := code_word (m := ⟨6, 2⟩) (meth := k6m2) (c := k6c2) (by decide +kernel) rfl rfl rfl (by decide +kernel)
set_option maxRecDepth 65536 in
theorem w_c2 : (Jvm.Cond.code ({ cls := "com/example/stubwright/stubwright/PacketType", name := "values", desc := "()[Lcom/example/stubwright/stubwright/PacketType;" } : Jvm.MethodName) prog_34_method_1_code (0 : Nat) (Option.some (Jvm.ClassFile.FieldType.array (Jvm.ClassFile.FieldType.object "com/example/stubwright/stubwright/PacketType")))).before args0 about1 = true := code_word (m := ⟨6, 0⟩) (meth := k6m0) (c := k6c0) (by decide +kernel) rfl rfl rfl (by decide +kernel)
set_option maxRecDepth 65536 in
theorem w_c3 : (Jvm.Cond.code ({ cls := "com/example/stubwright/stubwright/PacketTypeFromCodePinLaw", name := "expected", desc := "(I)Lcom/example/stubwright/stubwright/PacketType;" } : Jvm.MethodName) method_3_code (1 : Nat) (Option.some (Jvm.ClassFile.FieldType.object "com/example/stubwright/stubwright/PacketType"))).before args0 about1 = true := code_word (m := ⟨1, 2⟩) (meth := k1m2) (c := k1c2) (by decide +kernel) rfl rfl rfl (by decide +kernel)
set_option maxRecDepth 65536 in
theorem w_c4 : (Jvm.Cond.code ({ cls := "com/example/stubwright/stubwright/PacketType", name := "code", desc := "()I" } : Jvm.MethodName) prog_34_method_4_code (1 : Nat) (Option.some Jvm.ClassFile.FieldType.int)).before args0 about1 = true := code_word (m := ⟨6, 1⟩) (meth := k6m1) (c := k6c1) (by decide +kernel) rfl rfl rfl (by decide +kernel)
def codes1 : List Jvm.Cond := [Jvm.Cond.code x code maxLocals ret, Jvm.Cond.code ({ cls := "com/example/stubwright/stubwright/PacketType", name := "fromCode", desc := "(I)Lcom/example/stubwright/stubwright/PacketType;" } : Jvm.MethodName) prog_34_method_5_code (5 : Nat) (Option.some (Jvm.ClassFile.FieldType.object "com/example/stubwright/stubwright/PacketType")), Jvm.Cond.code ({ cls := "com/example/stubwright/stubwright/PacketType", name := "values", desc := "()[Lcom/example/stubwright/stubwright/PacketType;" } : Jvm.MethodName) prog_34_method_1_code (0 : Nat) (Option.some (Jvm.ClassFile.FieldType.array (Jvm.ClassFile.FieldType.object "com/example/stubwright/stubwright/PacketType"))), Jvm.Cond.code ({ cls := "com/example/stubwright/stubwright/PacketTypeFromCodePinLaw", name := "expected", desc := "(I)Lcom/example/stubwright/stubwright/PacketType;" } : Jvm.MethodName) method_3_code (1 : Nat) (Option.some (Jvm.ClassFile.FieldType.object "com/example/stubwright/stubwright/PacketType")), Jvm.Cond.code ({ cls := "com/example/stubwright/stubwright/PacketType", name := "code", desc := "()I" } : Jvm.MethodName) prog_34_method_4_code (1 : Nat) (Option.some Jvm.ClassFile.FieldType.int)]
set_option maxRecDepth 65536 in
theorem codes_eq : words1.filter isCode = codes1 := rfl
theorem w_codes : ∀ c ∈ words1.filter isCode, c.before args0 about1 = true := by
  rw [codes_eq]
  intro c hc
  simp only [codes1, List.mem_cons, List.not_mem_nil, or_false] at hc
  rcases hc with rfl | rfl | rfl | rfl | rfl
  · exact w_c0
  · exact w_c1
  · exact w_c2
  · exact w_c3
  · exact w_c4
set_option maxRecDepth 65536 in
theorem w_t1 : (words1.take 24).all (fun c => isCode c || c.before args0 about1) = true := by decide +kernel
set_option maxRecDepth 65536 in
theorem w_t2 : (words1.drop 24).all (fun c => isCode c || c.before args0 about1) = true := by decide +kernel
theorem w_tables : (allAtoms (Jvm.Cond.code x code maxLocals ret :: tables_1)).before args0 about1 = true := by
  rw [allAtoms_all]
  show words1.all (fun c => c.before args0 about1) = true
  refine all_split ?_ w_codes
  rw [← List.take_append_drop 24 words1, List.all_append, w_t1, w_t2]
  rfl
set_option maxRecDepth 65536 in
theorem w_case : (Jvm.Cond.and given_1 narrow_1).before args0 about1 = true := by decide +kernel
theorem w_applies : (headSpec (Jvm.Cond.code x code maxLocals ret :: tables_1) room_1).applies x e0.platform about1 = true :=
  (Spec.applies_iff w_frames).mpr ⟨w_running, w_runnable, w_alone, w_named, w_hears, w_ripe, w_room, w_tables⟩
theorem atStart : AtStart classFile x code maxLocals ret World_1 tables_1 room_1 Calls_1 rest_1 Pre_1 launch0 p0 e0 about1 theMethod args0 below0 :=
  ⟨lists_1, trivial, launch0.admits_env _ _ _, launch0.least_env, fairChoices_fair.cas, fairChoices_fair.clock, w_frames, w_args, w_heap, w_applies, trivial, trivial, w_case⟩
end start1
theorem witness_1 : WitnessClaimed_1 := ⟨start1.p0, start1.e0, start1.about1, start1.theMethod, start1.args0, start1.below0, start1.atStart⟩
end Jvm.Pilot.@@N@@
