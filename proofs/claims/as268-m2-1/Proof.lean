import JvmDerived
import JvmDerived.Pilot.@@N@@Statement
import JvmDerived.Pilot.@@N@@Code
set_option linter.unusedVariables false
set_option linter.unusedSimpArgs false
namespace Jvm.RoadKit
open Sem ClassFile Op Lib Jvm.Stand Jvm.Free Jvm.LawKit
section New
variable {p : Program} {l : Launch} {e : Env} {R : Room} {s : State} {m : MethodId} {args : Array Value} {below : List Frame} {meth : Method} {c : Code} {T : State} {locs : List Loc} {cells slots : Nat}
theorem retI (X : Stand p l e R s m args below meth c T locs cells slots) (hx : p.tables.exec = Jvm.exec) {pc : Nat} {Ls : Array Slot} {z : Int32} {rest : List Value} (hret : meth.sig.returnType = some .int) (hd : decode c.code pc = .ok (.ireturn, 1)) {fs : List Frame}
    (hl : ∀ (f : JFrame) (acts : List Action), f.method = m → f.locked = none → f.entered = [] → (doReturn e (T.setTop f) acts (some (.int z))).1 = T.setFrames fs) : Steps p.tables e below (T.setTop (mkF m pc Ls (.int z :: rest))) (T.setFrames fs) :=
  retOut X hx hret rfl (Or.inl ⟨rfl, Or.inl rfl, z, rfl⟩) hd hl
end New
end Jvm.RoadKit
namespace Jvm.Pilot.@@N@@
open Jvm Jvm.ClassFile Sem Op Lib Jvm.Free Jvm.Stand Jvm.LawKit Jvm.RoadKit Bundle Jvm.Pilot.@@N@@.Jvm.D
theorem own_pin {Z : State} {args : Array Value} {C n d K : String} (h : (Jvm.Cond.exactly (.static C n d) K).value args Z none Z [] = some true) (hi : (Jvm.Cond.initialized C).before args Z = true) (hl : (Jvm.Cond.laysStatic C n d).before args Z = true) :
    ∃ a, (Term.static C n d).eval args Z none [] Z = some (.ref a) ∧ Sta Z Z.heap C n d (.ref a) ∧ Exa Z Z.heap a K := by
  obtain ⟨a, ev⟩ := exa_v h
  exact ⟨a, ev, Sta.start ev (Or.inr ⟨hi, hl⟩), Exa.start ev h⟩
theorem own_fld {Z : State} {args : Array Value} {t : Term} {a : Addr} {C n d : String} {k : Int32} (ev : t.eval args Z none [] Z = some (.ref a)) (h : (Jvm.Cond.eq (.field t C n d) (.int k)).value args Z none Z [] = some true) : Fld Z Z.heap a C n d (.int k) := by
  obtain ⟨x, y, e1, e2, -, K⟩ := cmp_v (Or.inl h)
  have e2' : (Term.int k).eval args Z none [] Z = some (.int k) := Term.int_eval k
  cases e2.symm.trans e2'
  obtain ⟨z, rfl⟩ := K
  have q : z = k := gotT (Cond.eq_ints e1 e2) h
  subst q
  exact Fld.start ((fld_at ev).symm.trans e1)
theorem own_elem {Z : State} {args : Array Value} {t u : Term} {a b : Addr} {cl : Cell} {j : Int32} (ev : t.eval args Z none [] Z = some (.ref a)) (hc : Z.heap[a]? = some cl) (eb : u.eval args Z none [] Z = some (.ref b)) (h : (Jvm.Cond.eq (.elem t (.int j)) u).value args Z none Z [] = some true) : cl.slots[j.toNatClampNeg]? = some (.ref b) := by
  obtain ⟨x, y, e1, e2, -, K⟩ := cmp_v (Or.inl h)
  cases e2.symm.trans eb
  have q : x = .ref b := gotT (eq_R e1 e2 K.2 rfl) h
  subst q
  exact (elem_in e1 ev (Term.int_eval j) hc).2
theorem own_len {Z : State} {args : Array Value} {t : Term} {a : Addr} {cl : Cell} {ty : FieldType} {k : Int32} (ev : t.eval args Z none [] Z = some (.ref a)) (A : Arr Z Z.heap a cl ty) (h : (Jvm.Cond.eq (.length t) (.int k)).value args Z none Z [] = some true) : cl.slots.size < 2 ^ 31 ∧ cl.slots.size.toInt32 = k := by
  obtain ⟨x, y, e1, e2, -, -⟩ := cmp_v (Or.inl h)
  have ha : Z.arrayAt? a = some cl := A.fin (Vm.Alike.refl _)
  have hlt : cl.slots.size < 2 ^ 31 := by
    refine Classical.byContradiction fun q => ?_
    simp [Term.eval, ev, ha, q] at e1
  exact ⟨hlt, gotT (Cond.eq_ints (len_f ev ha hlt) (Term.int_eval k)) h⟩
theorem own_fldR {Z : State} {args : Array Value} {t u : Term} {a b : Addr} {C n d : String} (ev : t.eval args Z none [] Z = some (.ref a)) (eb : u.eval args Z none [] Z = some (.ref b)) (h : (Jvm.Cond.eq (.field t C n d) u).value args Z none Z [] = some true) : Fld Z Z.heap a C n d (.ref b) := by
  obtain ⟨x, y, e1, e2, -, K⟩ := cmp_v (Or.inl h)
  cases e2.symm.trans eb
  have q : x = .ref b := gotT (eq_R e1 e2 K.2 rfl) h
  subst q
  exact Fld.start ((fld_at ev).symm.trans e1)
theorem own_and3 (x : Int32) : x &&& (3 : Int32) = 0 ∨ x &&& (3 : Int32) = 1 ∨ x &&& (3 : Int32) = 2 ∨ x &&& (3 : Int32) = 3 := by
  have h := c_and x 3 (by decide)
  have h3 : (3 : Int32).toInt = 3 := rfl
  have hh : (x &&& (3 : Int32)).toInt = 0 ∨ (x &&& (3 : Int32)).toInt = 1 ∨ (x &&& (3 : Int32)).toInt = 2 ∨ (x &&& (3 : Int32)).toInt = 3 := by omega
  rcases hh with h | h | h | h
  · exact Or.inl (Int32.toInt_inj.mp h)
  · exact Or.inr (Or.inl (Int32.toInt_inj.mp h))
  · exact Or.inr (Or.inr (Or.inl (Int32.toInt_inj.mp h)))
  · exact Or.inr (Or.inr (Or.inr (Int32.toInt_inj.mp h)))
theorem d_prog_14_method_1_code_0 : decode prog_14_method_1_code 0 = .ok (.getstatic 25, 3) := by decide +kernel
theorem d_prog_14_method_1_code_3 : decode prog_14_method_1_code 3 = .ok (.invokevirtual 29, 3) := by decide +kernel
theorem d_prog_14_method_1_code_6 : decode prog_14_method_1_code 6 = .ok (.checkcast 30, 3) := by decide +kernel
theorem d_prog_14_method_1_code_9 : decode prog_14_method_1_code 9 = .ok (.areturn, 1) := by decide +kernel
theorem ef_4 (m : MethodId)  : entryFrame m #[] 0 = mkF m 0 #[] [] := by first | (simp [entryFrame, mkF, argsToLocals, Value.category]; done) | rfl
theorem pn_5 : plainName "com/example/innesco/innesco/database/TriggerEvent" = true := by first | (simp [plainName, overriddenIn]; done) | decide +kernel
def Q_values_0 (Z : State) (aV : Addr) (kV : ClassId) (b0 b1 b2 b3 b4 b5 b6 : Addr) (h0 : Heap) (n0 : Nat) (v : Option Value) (h : Heap) (L : List Loc) : Prop := v = some (.ref h0.size) ∧ Fr n0 L ∧ Ext h0 h ∧ Arv Z h h0.size kV (.object "com/example/innesco/innesco/database/TriggerEvent") (7 : Int32) [(.ref b0), (.ref b1), (.ref b2), (.ref b3), (.ref b4), (.ref b5), (.ref b6)] .null
set_option maxRecDepth 65536 in
set_option maxHeartbeats 40000000 in
theorem values_0 (l : Launch) (Z : State) (a0 : Array Value) (hw : ∀ d ∈ tables_1, d.before a0 Z = true) (ws : List Jvm.Cond) (aV : Addr) (kV : ClassId) (b0 b1 b2 b3 b4 b5 b6 : Addr) (h0 : Heap) (n0 : Nat) (Z0 : n0 ≤ h0.size) (SaV : Sta Z h0 "com/example/innesco/innesco/database/TriggerEvent" "$VALUES" "[Lcom/example/innesco/innesco/database/TriggerEvent;" (.ref aV)) (VaV : Arv Z h0 aV kV (.object "com/example/innesco/innesco/database/TriggerEvent") (7 : Int32) [(.ref b0), (.ref b1), (.ref b2), (.ref b3), (.ref b4), (.ref b5), (.ref b6)] .null) (EaV : Exa Z h0 aV "[Lcom/example/innesco/innesco/database/TriggerEvent;") :
    MetFree l (⟨"com/example/innesco/innesco/database/TriggerEvent", "values", "()[Lcom/example/innesco/innesco/database/TriggerEvent;"⟩ : MethodName) (head1 (Jvm.Cond.code (⟨"com/example/innesco/innesco/database/TriggerEvent", "values", "()[Lcom/example/innesco/innesco/database/TriggerEvent;"⟩ : MethodName) prog_14_method_1_code 0 (Option.some (Jvm.ClassFile.FieldType.array (Jvm.ClassFile.FieldType.object "com/example/innesco/innesco/database/TriggerEvent"))) :: ws) ({ frames := 1, cells := 1, slots := 7, locals := 14 } : Room)) (fun a U => a = #[] ∧ Z.Warmed39 U.vm ∧ U.heap = h0) (fun _ _ _ _ _ => True) (fun _ U o U' => ∃ v L, o = .returned v ∧ Q_values_0 Z aV kV b0 b1 b2 b3 b4 b5 b6 h0 n0 v U'.heap L ∧ FrameEnd U o U' L ({ frames := 1, cells := 1, slots := 7, locals := 14 } : Room).cells ({ frames := 1, cells := 1, slots := 7, locals := 14 } : Room).slots) := by
  refine MetFree.of_bodySF (plainFor_of_name pn_5) hisR ?_
  intro p e s m args below meth c s₁ Bd hml0 hP hK
  obtain ⟨rfl, hZ, hh⟩ := hP
  have hx := Bd.exec
  have hby := Bd.bytes
  have hml : c.maxLocals = 0 := hml0
  have hown : s.vm.findClass "com/example/innesco/innesco/database/TriggerEvent" = some m.cls := findClass_of_methodNamed Bd.named
  have hnm := (name_of_methodNamed Bd.named Bd.method).1
  have X0 : Stand p l e ({ frames := 1, cells := 1, slots := 7, locals := 14 } : Room) s m #[] below meth c s₁ [] 0 0 := Stand.of_body Bd
  have e0 : s₁.heap = h0 := by rw [← hh, Bd.state]; rfl
  have N0 := Fr.nil n0
  have pre0 : ∀ t, Steps p.tables e below (s₁.setTop (mkF m 0 #[] [])) t → Steps p.tables e below (s₁.setTop (entryFrame m #[] 0)) t := fun t k => castTop (ef_4 m ) k
  obtain ⟨T1, X1, e1, st1⟩ := getS X0 hx hZ (host := "") hown (hw _ (List.mem_of_getElem? (i := 19) rfl)) Via.refl e0 SaV (g := (mkF m 0 #[] [])) rfl (hb hby d_prog_14_method_1_code_0)
  obtain ⟨T2, h2, X2, e2, Ex2, Vn2, En2, st2⟩ := cloneH X1 hx hZ hown (hw _ (List.mem_of_getElem? (i := 21) rfl)) (hw _ (List.mem_of_getElem? (i := 22) rfl)) (hw _ (List.mem_of_getElem? (i := 26) rfl)) (hw _ (List.mem_of_getElem? (i := 24) rfl)) (hw _ (List.mem_of_getElem? (i := 25) rfl)) (hw _ (List.mem_of_getElem? (i := 27) rfl)) e1 VaV.arh EaV (g := (mkF m 3 #[] [(.ref aV)])) rfl (by rw [hml]; rfl) rfl (hb hby d_prog_14_method_1_code_3) (by decide) (W := 0) (cap := 7) (by show 2 * 0 + _ ≤ _; exact Nat.le_of_eq rfl) (by decide) (by decide) (by decide) (by decide)
  obtain ⟨T3, X3, e3, st3⟩ := castY X2 hx hZ hown (hw _ (List.mem_of_getElem? (i := 35) rfl)) e2 (Ins.of_exa En2 (hw _ (List.mem_of_getElem? (i := 36) rfl))) (g := (mkF m 6 #[] [(.ref h0.size)])) rfl rfl (hb hby d_prog_14_method_1_code_6)
  obtain ⟨fs, hr, hrun, hended, hW, hsame⟩ := X3.leave (v := some (.ref h0.size)) (fun h => by rw [Bd.returns] at h; cases h)
  refine ⟨_, _, pre0 _ ?_, hrun, hended, _, _, rfl, ?_, ⟨_, rfl⟩, hW, hsame.mono (by decide) (by decide)⟩
  · show Steps p.tables e below (s₁.setTop (mkF m 0 #[] [])) _
    refine st1 _ ?_
    show Steps p.tables e below (T1.setTop (mkF m 3 #[] [(.ref aV)])) _
    refine st2 _ ?_
    show Steps p.tables e below (T2.setTop (mkF m 6 #[] [(.ref h0.size)])) _
    refine st3 _ ?_
    show Steps p.tables e below (T3.setTop (mkF m 9 #[] [(.ref h0.size)])) _
    exact retOut X3 hx Bd.returns rfl (Or.inr (Or.inr (Or.inr (Or.inr ⟨rfl, rfl, rfl⟩)))) (hb hby d_prog_14_method_1_code_9) hr
  · refine ⟨rfl, N0, ?_, ?_⟩
    · show Ext h0 T3.heap; rw [e3]; exact Ex2
    · show Arv Z T3.heap _ _ _ _ _ _; rw [e3]; exact Vn2
theorem d_method_2_code_0 : decode method_2_code 0 = .ok (.iload_n 0, 1) := by decide +kernel
theorem d_method_2_code_1 : decode method_2_code 1 = .ok (.ifCond .ne 7, 3) := by decide +kernel
theorem d_method_2_code_4 : decode method_2_code 4 = .ok (.getstatic 7, 3) := by decide +kernel
theorem d_method_2_code_7 : decode method_2_code 7 = .ok (.areturn, 1) := by decide +kernel
theorem ef_10 (m : MethodId) (x0 : Int32) : entryFrame m #[(.int x0)] 1 = mkF m 0 #[.val (.int x0)] [] := by first | (simp [entryFrame, mkF, argsToLocals, Value.category]; done) | rfl
theorem pn_11 : plainName "com/example/innesco/innesco/database/TriggerEventOfPinLaw" = true := by first | (simp [plainName, overriddenIn]; done) | decide +kernel
def Q_wof_0 (Z : State) (u0 : Addr) (h0 : Heap) (n0 : Nat) (v : Option Value) (h : Heap) (L : List Loc) : Prop := v = some (.ref u0) ∧ Fr n0 L ∧ h = h0
set_option maxRecDepth 65536 in
set_option maxHeartbeats 40000000 in
theorem wof_0 (l : Launch) (Z : State) (a0 : Array Value) (hw : ∀ d ∈ tables_1, d.before a0 Z = true) (ws : List Jvm.Cond) (u0 : Addr) (h0 : Heap) (n0 : Nat) (Z0 : n0 ≤ h0.size) (Su0 : Sta Z h0 "com/example/innesco/innesco/database/Write" "INSERT" "Lcom/example/innesco/innesco/database/Write;" (.ref u0)) :
    MetFree l (⟨"com/example/innesco/innesco/database/TriggerEventOfPinLaw", "writeOf", "(I)Lcom/example/innesco/innesco/database/Write;"⟩ : MethodName) (head1 (Jvm.Cond.code (⟨"com/example/innesco/innesco/database/TriggerEventOfPinLaw", "writeOf", "(I)Lcom/example/innesco/innesco/database/Write;"⟩ : MethodName) method_2_code 1 (Option.some (Jvm.ClassFile.FieldType.object "com/example/innesco/innesco/database/Write")) :: ws) ({ frames := 0, cells := 0, slots := 0, locals := 0 } : Room)) (fun a U => a = #[(.int (0 : Int32))] ∧ Z.Warmed39 U.vm ∧ U.heap = h0) (fun _ _ _ _ _ => True) (fun _ U o U' => ∃ v L, o = .returned v ∧ Q_wof_0 Z u0 h0 n0 v U'.heap L ∧ FrameEnd U o U' L ({ frames := 0, cells := 0, slots := 0, locals := 0 } : Room).cells ({ frames := 0, cells := 0, slots := 0, locals := 0 } : Room).slots) := by
  refine MetFree.of_bodySF (plainFor_of_name pn_11) hisR ?_
  intro p e s m args below meth c s₁ Bd hml0 hP hK
  obtain ⟨rfl, hZ, hh⟩ := hP
  have hx := Bd.exec
  have hby := Bd.bytes
  have hml : c.maxLocals = 1 := hml0
  have hown : s.vm.findClass "com/example/innesco/innesco/database/TriggerEventOfPinLaw" = some m.cls := findClass_of_methodNamed Bd.named
  have hnm := (name_of_methodNamed Bd.named Bd.method).1
  have X0 : Stand p l e ({ frames := 0, cells := 0, slots := 0, locals := 0 } : Room) s m #[(.int (0 : Int32))] below meth c s₁ [] 0 0 := Stand.of_body Bd
  have e0 : s₁.heap = h0 := by rw [← hh, Bd.state]; rfl
  have N0 := Fr.nil n0
  have pre0 : ∀ t, Steps p.tables e below (s₁.setTop (mkF m 0 #[.val (.int (0 : Int32))] [])) t → Steps p.tables e below (s₁.setTop (entryFrame m #[(.int (0 : Int32))] 1)) t := fun t k => castTop (ef_10 m (0 : Int32)) k
  obtain ⟨T1, X1, e1, st1⟩ := getS X0 hx hZ (host := "") hown (hw _ (List.mem_of_getElem? (i := 4) rfl)) Via.refl e0 Su0 (g := (mkF m 4 #[.val (.int (0 : Int32))] [])) rfl (hb hby d_method_2_code_4)
  obtain ⟨fs, hr, hrun, hended, hW, hsame⟩ := X1.leave (v := some (.ref u0)) (fun h => by rw [Bd.returns] at h; cases h)
  refine ⟨_, _, pre0 _ ?_, hrun, hended, _, _, rfl, ?_, ⟨_, rfl⟩, hW, hsame.mono (by decide) (by decide)⟩
  · show Steps p.tables e below (s₁.setTop (mkF m 0 #[.val (.int (0 : Int32))] [])) _
    refine XS.iloadN X0.here hx rfl (hb hby d_method_2_code_0) rfl ?_
    show Steps p.tables e below (s₁.setTop (mkF m 1 #[.val (.int (0 : Int32))] [(.int (0 : Int32))])) _
    refine XS.ifNo X0.here hx rfl (hb hby d_method_2_code_1) rfl (by decide) ?_
    show Steps p.tables e below (s₁.setTop (mkF m 4 #[.val (.int (0 : Int32))] [])) _
    refine st1 _ ?_
    show Steps p.tables e below (T1.setTop (mkF m 7 #[.val (.int (0 : Int32))] [(.ref u0)])) _
    exact retOut X1 hx Bd.returns rfl (Or.inr (Or.inr (Or.inr (Or.inr ⟨rfl, rfl, rfl⟩)))) (hb hby d_method_2_code_7) hr
  · exact ⟨rfl, N0, e1⟩
theorem d_prog_14_method_6_code_0 : decode prog_14_method_6_code 0 = .ok (.invokestatic 52, 3) := by decide +kernel
theorem pd_13 : parseMethodDescriptor "()[Lcom/example/innesco/innesco/database/TriggerEvent;" = some ⟨[], some (.array (.object "com/example/innesco/innesco/database/TriggerEvent"))⟩ := by decide +kernel
theorem d_prog_14_method_6_code_3 : decode prog_14_method_6_code 3 = .ok (.astore_n 2, 1) := by decide +kernel
theorem d_prog_14_method_6_code_4 : decode prog_14_method_6_code 4 = .ok (.aload_n 2, 1) := by decide +kernel
theorem d_prog_14_method_6_code_5 : decode prog_14_method_6_code 5 = .ok (.arraylength, 1) := by decide +kernel
theorem d_prog_14_method_6_code_6 : decode prog_14_method_6_code 6 = .ok (.istore_n 3, 1) := by decide +kernel
theorem d_prog_14_method_6_code_7 : decode prog_14_method_6_code 7 = .ok (.iconst 0, 1) := by decide +kernel
theorem d_prog_14_method_6_code_8 : decode prog_14_method_6_code 8 = .ok (.istore 4, 2) := by decide +kernel
theorem d_prog_14_method_6_code_10 : decode prog_14_method_6_code 10 = .ok (.iload 4, 2) := by decide +kernel
theorem d_prog_14_method_6_code_12 : decode prog_14_method_6_code 12 = .ok (.iload_n 3, 1) := by decide +kernel
theorem d_prog_14_method_6_code_13 : decode prog_14_method_6_code 13 = .ok (.if_icmp .ge 36, 3) := by decide +kernel
theorem d_prog_14_method_6_code_16 : decode prog_14_method_6_code 16 = .ok (.aload_n 2, 1) := by decide +kernel
theorem d_prog_14_method_6_code_17 : decode prog_14_method_6_code 17 = .ok (.iload 4, 2) := by decide +kernel
theorem d_prog_14_method_6_code_19 : decode prog_14_method_6_code 19 = .ok (.aaload, 1) := by decide +kernel
theorem d_prog_14_method_6_code_20 : decode prog_14_method_6_code 20 = .ok (.astore 5, 2) := by decide +kernel
theorem d_prog_14_method_6_code_22 : decode prog_14_method_6_code 22 = .ok (.aload 5, 2) := by decide +kernel
theorem d_prog_14_method_6_code_24 : decode prog_14_method_6_code 24 = .ok (.getfield 44, 3) := by decide +kernel
theorem d_prog_14_method_6_code_27 : decode prog_14_method_6_code 27 = .ok (.aload_n 0, 1) := by decide +kernel
theorem d_prog_14_method_6_code_28 : decode prog_14_method_6_code 28 = .ok (.if_acmp .ne 15, 3) := by decide +kernel
theorem d_prog_14_method_6_code_31 : decode prog_14_method_6_code 31 = .ok (.aload 5, 2) := by decide +kernel
theorem d_prog_14_method_6_code_33 : decode prog_14_method_6_code 33 = .ok (.getfield 48, 3) := by decide +kernel
theorem d_prog_14_method_6_code_36 : decode prog_14_method_6_code 36 = .ok (.iload_n 1, 1) := by decide +kernel
theorem d_prog_14_method_6_code_37 : decode prog_14_method_6_code 37 = .ok (.if_icmp .ne 6, 3) := by decide +kernel
theorem d_prog_14_method_6_code_43 : decode prog_14_method_6_code 43 = .ok (.iinc 4 1, 3) := by decide +kernel
theorem d_prog_14_method_6_code_46 : decode prog_14_method_6_code 46 = .ok (.goto (-36), 3) := by decide +kernel
theorem d_prog_14_method_6_code_40 : decode prog_14_method_6_code 40 = .ok (.aload 5, 2) := by decide +kernel
theorem d_prog_14_method_6_code_42 : decode prog_14_method_6_code 42 = .ok (.areturn, 1) := by decide +kernel
theorem ef_39 (m : MethodId) (x0 : Addr) (x1 : Int32) : entryFrame m #[(.ref x0), (.int x1)] 6 = mkF m 0 #[.val (.ref x0), .val (.int x1), .unset, .unset, .unset, .unset] [] := by first | (simp [entryFrame, mkF, argsToLocals, Value.category]; done) | rfl
def Q_of_0_0 (Z : State) (aV : Addr) (kV : ClassId) (b0 b1 b2 b3 b4 b5 b6 : Addr) (u0 u1 u2 u3 : Addr) (h0 : Heap) (n0 : Nat) (v : Option Value) (h : Heap) (L : List Loc) : Prop := v = some (.ref b1) ∧ Fr n0 L ∧ Ext h0 h
set_option maxRecDepth 65536 in
set_option maxHeartbeats 40000000 in
theorem of_0_0 (l : Launch) (Z : State) (a0 : Array Value) (hw : ∀ d ∈ tables_1, d.before a0 Z = true) (ws : List Jvm.Cond) (aV : Addr) (kV : ClassId) (b0 b1 b2 b3 b4 b5 b6 : Addr) (u0 u1 u2 u3 : Addr) (h0 : Heap) (n0 : Nat) (Z0 : n0 ≤ h0.size) (SaV : Sta Z h0 "com/example/innesco/innesco/database/TriggerEvent" "$VALUES" "[Lcom/example/innesco/innesco/database/TriggerEvent;" (.ref aV)) (VaV : Arv Z h0 aV kV (.object "com/example/innesco/innesco/database/TriggerEvent") (7 : Int32) [(.ref b0), (.ref b1), (.ref b2), (.ref b3), (.ref b4), (.ref b5), (.ref b6)] .null) (EaV : Exa Z h0 aV "[Lcom/example/innesco/innesco/database/TriggerEvent;")(Fw0 : Fld Z h0 b0 "com/example/innesco/innesco/database/TriggerEvent" "write" "Lcom/example/innesco/innesco/database/Write;" (.ref u0))(Fw1 : Fld Z h0 b1 "com/example/innesco/innesco/database/TriggerEvent" "write" "Lcom/example/innesco/innesco/database/Write;" (.ref u0))(Fw2 : Fld Z h0 b2 "com/example/innesco/innesco/database/TriggerEvent" "write" "Lcom/example/innesco/innesco/database/Write;" (.ref u1))(Fw3 : Fld Z h0 b3 "com/example/innesco/innesco/database/TriggerEvent" "write" "Lcom/example/innesco/innesco/database/Write;" (.ref u1))(Fw4 : Fld Z h0 b4 "com/example/innesco/innesco/database/TriggerEvent" "write" "Lcom/example/innesco/innesco/database/Write;" (.ref u2))(Fw5 : Fld Z h0 b5 "com/example/innesco/innesco/database/TriggerEvent" "write" "Lcom/example/innesco/innesco/database/Write;" (.ref u2))(Fw6 : Fld Z h0 b6 "com/example/innesco/innesco/database/TriggerEvent" "write" "Lcom/example/innesco/innesco/database/Write;" (.ref u3))(Fb0 : Fld Z h0 b0 "com/example/innesco/innesco/database/TriggerEvent" "before" "Z" (.int (1 : Int32)))(Fb1 : Fld Z h0 b1 "com/example/innesco/innesco/database/TriggerEvent" "before" "Z" (.int (0 : Int32)))(Fb2 : Fld Z h0 b2 "com/example/innesco/innesco/database/TriggerEvent" "before" "Z" (.int (1 : Int32)))(Fb3 : Fld Z h0 b3 "com/example/innesco/innesco/database/TriggerEvent" "before" "Z" (.int (0 : Int32)))(Fb4 : Fld Z h0 b4 "com/example/innesco/innesco/database/TriggerEvent" "before" "Z" (.int (1 : Int32)))(Fb5 : Fld Z h0 b5 "com/example/innesco/innesco/database/TriggerEvent" "before" "Z" (.int (0 : Int32)))(Fb6 : Fld Z h0 b6 "com/example/innesco/innesco/database/TriggerEvent" "before" "Z" (.int (0 : Int32)))(ne01 : u0 ≠ u1)(ne02 : u0 ≠ u2)(ne03 : u0 ≠ u3)(ne12 : u1 ≠ u2)(ne13 : u1 ≠ u3)(ne23 : u2 ≠ u3) :
    MetFree l (⟨"com/example/innesco/innesco/database/TriggerEvent", "of", "(Lcom/example/innesco/innesco/database/Write;Z)Lcom/example/innesco/innesco/database/TriggerEvent;"⟩ : MethodName) (head1 (Jvm.Cond.code (⟨"com/example/innesco/innesco/database/TriggerEvent", "of", "(Lcom/example/innesco/innesco/database/Write;Z)Lcom/example/innesco/innesco/database/TriggerEvent;"⟩ : MethodName) prog_14_method_6_code 6 (Option.some (Jvm.ClassFile.FieldType.object "com/example/innesco/innesco/database/TriggerEvent")) :: ws) ({ frames := 2, cells := 1, slots := 7, locals := 25 } : Room)) (fun a U => a = #[(.ref u0), (.int (0 : Int32))] ∧ Z.Warmed39 U.vm ∧ U.heap = h0) (fun _ _ _ _ _ => True) (fun _ U o U' => ∃ v L, o = .returned v ∧ Q_of_0_0 Z aV kV b0 b1 b2 b3 b4 b5 b6 u0 u1 u2 u3 h0 n0 v U'.heap L ∧ FrameEnd U o U' L ({ frames := 2, cells := 1, slots := 7, locals := 25 } : Room).cells ({ frames := 2, cells := 1, slots := 7, locals := 25 } : Room).slots) := by
  refine MetFree.of_bodySF (plainFor_of_name pn_5) hisR ?_
  intro p e s m args below meth c s₁ Bd hml0 hP hK
  obtain ⟨rfl, hZ, hh⟩ := hP
  have hx := Bd.exec
  have hby := Bd.bytes
  have hml : c.maxLocals = 6 := hml0
  have hown : s.vm.findClass "com/example/innesco/innesco/database/TriggerEvent" = some m.cls := findClass_of_methodNamed Bd.named
  have hnm := (name_of_methodNamed Bd.named Bd.method).1
  have X0 : Stand p l e ({ frames := 2, cells := 1, slots := 7, locals := 25 } : Room) s m #[(.ref u0), (.int (0 : Int32))] below meth c s₁ [] 0 0 := Stand.of_body Bd
  have e0 : s₁.heap = h0 := by rw [← hh, Bd.state]; rfl
  have N0 := Fr.nil n0
  have pre0 : ∀ t, Steps p.tables e below (s₁.setTop (mkF m 0 #[.val (.ref u0), .val (.int (0 : Int32)), .unset, .unset, .unset, .unset] [])) t → Steps p.tables e below (s₁.setTop (entryFrame m #[(.ref u0), (.int (0 : Int32))] 6)) t := fun t k => castTop (ef_39 m u0 (0 : Int32)) k
  obtain ⟨_, _, ⟨T1, L1, k1, n1⟩, -, X1, ⟨Lc1, hQ1, l1, y1, z1⟩, st1⟩ := Jvm.LawKit.callS X0 hx (y := (⟨"com/example/innesco/innesco/database/TriggerEvent", "values", "()[Lcom/example/innesco/innesco/database/TriggerEvent;"⟩ : MethodName)) hown (mvT hZ (hw _ (List.mem_of_getElem? (i := 16) rfl))) (mvT hZ (hw _ (List.mem_of_getElem? (i := 17) rfl))) (mvT hZ (hw _ (List.mem_of_getElem? (i := 11) rfl))) (mvT hZ (hw _ (List.mem_of_getElem? (i := 18) rfl))) (by decide) (backOf (W := 0) (values_0 l Z a0 hw [] aV kV b0 b1 b2 b3 b4 b5 b6 h0 n0 Z0 SaV VaV EaV) hZ (hw _ (List.mem_of_getElem? (i := 18) rfl)) (hw _ (List.mem_of_getElem? (i := 11) rfl)) (by decide) (by decide)) (g := (mkF m 0 #[.val (.ref u0), .val (.int (0 : Int32)), .unset, .unset, .unset, .unset] [])) rfl (by rw [hml]; rfl) (argsL := []) (rest := []) (lenOf pd_13 rfl) rfl (by show 2 * 0 + _ ≤ _; exact Nat.le_of_eq rfl) (hb hby d_prog_14_method_6_code_0) (fun _ _ => ⟨rfl, e0, (by decide : 0 + 1 ≤ _), (by decide : 0 + 7 ≤ _)⟩)
  dsimp only [Pt.U, Pt.locs, Pt.cells, Pt.slots] at X1 l1 y1 z1 st1 hQ1
  subst l1 y1 z1
  obtain ⟨rfl, N1q, Ex1, V1⟩ := hQ1
  have N1 := Fr.app N0 N1q
  obtain ⟨cl, Ar, -, Sz, Ng, Hs, -⟩ := V1
  have hlen : cl.slots.size.toInt32 = (7 : Int32) := len_of Sz Ng
  obtain ⟨T2, X2, e2, st2⟩ := getF X1 hx hZ hown (host := "") (Or.inl (hw _ (List.mem_of_getElem? (i := 37) rfl))) Via.refl rfl (Fw0.ext Ex1) (g := (mkF m 24 #[.val (.ref u0), .val (.int (0 : Int32)), .val (.ref h0.size), .val (.int (7 : Int32)), .val (.int (0 : Int32)), .val (.ref b0)] [(.ref b0)])) rfl rfl (hb hby d_prog_14_method_6_code_24)
  obtain ⟨T3, X3, e3, st3⟩ := getF X2 hx hZ hown (host := "") (Or.inl (hw _ (List.mem_of_getElem? (i := 39) rfl))) Via.refl e2 (Fb0.ext Ex1) (g := (mkF m 33 #[.val (.ref u0), .val (.int (0 : Int32)), .val (.ref h0.size), .val (.int (7 : Int32)), .val (.int (0 : Int32)), .val (.ref b0)] [(.ref b0)])) rfl rfl (hb hby d_prog_14_method_6_code_33)
  obtain ⟨T4, X4, e4, st4⟩ := getF X3 hx hZ hown (host := "") (Or.inl (hw _ (List.mem_of_getElem? (i := 37) rfl))) Via.refl e3 (Fw1.ext Ex1) (g := (mkF m 24 #[.val (.ref u0), .val (.int (0 : Int32)), .val (.ref h0.size), .val (.int (7 : Int32)), .val (.int (1 : Int32)), .val (.ref b1)] [(.ref b1)])) rfl rfl (hb hby d_prog_14_method_6_code_24)
  obtain ⟨T5, X5, e5, st5⟩ := getF X4 hx hZ hown (host := "") (Or.inl (hw _ (List.mem_of_getElem? (i := 39) rfl))) Via.refl e4 (Fb1.ext Ex1) (g := (mkF m 33 #[.val (.ref u0), .val (.int (0 : Int32)), .val (.ref h0.size), .val (.int (7 : Int32)), .val (.int (1 : Int32)), .val (.ref b1)] [(.ref b1)])) rfl rfl (hb hby d_prog_14_method_6_code_33)
  obtain ⟨fs, hr, hrun, hended, hW, hsame⟩ := X5.leave (v := some (.ref b1)) (fun h => by rw [Bd.returns] at h; cases h)
  refine ⟨_, _, pre0 _ ?_, hrun, hended, _, _, rfl, ?_, ⟨_, rfl⟩, hW, hsame.mono (by decide) (by decide)⟩
  · show Steps p.tables e below (s₁.setTop (mkF m 0 #[.val (.ref u0), .val (.int (0 : Int32)), .unset, .unset, .unset, .unset] [])) _
    refine st1 _ ?_
    show Steps p.tables e below (T1.setTop (mkF m 3 #[.val (.ref u0), .val (.int (0 : Int32)), .unset, .unset, .unset, .unset] [(.ref h0.size)])) _
    refine XS.astoreN X1.here hx rfl (hb hby d_prog_14_method_6_code_3) rfl rfl (l' := #[.val (.ref u0), .val (.int (0 : Int32)), .val (.ref h0.size), .unset, .unset, .unset]) rfl ?_
    show Steps p.tables e below (T1.setTop (mkF m 4 #[.val (.ref u0), .val (.int (0 : Int32)), .val (.ref h0.size), .unset, .unset, .unset] [])) _
    refine XS.aloadN X1.here hx rfl (hb hby d_prog_14_method_6_code_4) rfl rfl ?_
    show Steps p.tables e below (T1.setTop (mkF m 5 #[.val (.ref u0), .val (.int (0 : Int32)), .val (.ref h0.size), .unset, .unset, .unset] [(.ref h0.size)])) _
    refine X1.arraylength hx (by first | exact Ar.1 | (rw [rfl]; exact Ar.1)) (State.isArrayOf_alike hZ.alike Ar.2.1) (g := (mkF m 5 #[.val (.ref u0), .val (.int (0 : Int32)), .val (.ref h0.size), .unset, .unset, .unset] [(.ref h0.size)])) rfl rfl (hb hby d_prog_14_method_6_code_5) _ ?_
    show Steps p.tables e below (T1.setTop (mkF m 6 #[.val (.ref u0), .val (.int (0 : Int32)), .val (.ref h0.size), .unset, .unset, .unset] [(.int cl.slots.size.toInt32)])) _
    rw [hlen]
    show Steps p.tables e below (T1.setTop (mkF m 6 #[.val (.ref u0), .val (.int (0 : Int32)), .val (.ref h0.size), .unset, .unset, .unset] [(.int (7 : Int32))])) _
    refine XS.istoreN X1.here hx rfl (hb hby d_prog_14_method_6_code_6) rfl (l' := #[.val (.ref u0), .val (.int (0 : Int32)), .val (.ref h0.size), .val (.int (7 : Int32)), .unset, .unset]) rfl ?_
    show Steps p.tables e below (T1.setTop (mkF m 7 #[.val (.ref u0), .val (.int (0 : Int32)), .val (.ref h0.size), .val (.int (7 : Int32)), .unset, .unset] [])) _
    refine XT.iconstV X1.here hx rfl (0 : Int32) (hb hby d_prog_14_method_6_code_7) (by decide) ?_
    show Steps p.tables e below (T1.setTop (mkF m 8 #[.val (.ref u0), .val (.int (0 : Int32)), .val (.ref h0.size), .val (.int (7 : Int32)), .unset, .unset] [(.int (0 : Int32))])) _
    refine XS.istore X1.here hx rfl (hb hby d_prog_14_method_6_code_8) rfl (l' := #[.val (.ref u0), .val (.int (0 : Int32)), .val (.ref h0.size), .val (.int (7 : Int32)), .val (.int (0 : Int32)), .unset]) rfl ?_
    show Steps p.tables e below (T1.setTop (mkF m 10 #[.val (.ref u0), .val (.int (0 : Int32)), .val (.ref h0.size), .val (.int (7 : Int32)), .val (.int (0 : Int32)), .unset] [])) _
    refine XS.iload X1.here hx rfl (hb hby d_prog_14_method_6_code_10) rfl ?_
    show Steps p.tables e below (T1.setTop (mkF m 12 #[.val (.ref u0), .val (.int (0 : Int32)), .val (.ref h0.size), .val (.int (7 : Int32)), .val (.int (0 : Int32)), .unset] [(.int (0 : Int32))])) _
    refine XS.iloadN X1.here hx rfl (hb hby d_prog_14_method_6_code_12) rfl ?_
    show Steps p.tables e below (T1.setTop (mkF m 13 #[.val (.ref u0), .val (.int (0 : Int32)), .val (.ref h0.size), .val (.int (7 : Int32)), .val (.int (0 : Int32)), .unset] [(.int (7 : Int32)), (.int (0 : Int32))])) _
    refine XS.icmpNo X1.here hx rfl (hb hby d_prog_14_method_6_code_13) rfl (by decide) ?_
    show Steps p.tables e below (T1.setTop (mkF m 16 #[.val (.ref u0), .val (.int (0 : Int32)), .val (.ref h0.size), .val (.int (7 : Int32)), .val (.int (0 : Int32)), .unset] [])) _
    refine XS.aloadN X1.here hx rfl (hb hby d_prog_14_method_6_code_16) rfl rfl ?_
    show Steps p.tables e below (T1.setTop (mkF m 17 #[.val (.ref u0), .val (.int (0 : Int32)), .val (.ref h0.size), .val (.int (7 : Int32)), .val (.int (0 : Int32)), .unset] [(.ref h0.size)])) _
    refine XS.iload X1.here hx rfl (hb hby d_prog_14_method_6_code_17) rfl ?_
    show Steps p.tables e below (T1.setTop (mkF m 19 #[.val (.ref u0), .val (.int (0 : Int32)), .val (.ref h0.size), .val (.int (7 : Int32)), .val (.int (0 : Int32)), .unset] [(.int (0 : Int32)), (.ref h0.size)])) _
    refine X1.aaload hx (j := (0 : Int32)) (v := (.ref b0)) (by first | exact Ar.1 | (rw [rfl]; exact Ar.1)) (State.isArrayOf_alike hZ.alike Ar.2.1) rfl Ar.2.2 (inb_of Sz ⟨by decide, by decide⟩) (Hs.at (inb_of Sz ⟨by decide, by decide⟩) rfl) (g := (mkF m 19 #[.val (.ref u0), .val (.int (0 : Int32)), .val (.ref h0.size), .val (.int (7 : Int32)), .val (.int (0 : Int32)), .unset] [(.int (0 : Int32)), (.ref h0.size)])) rfl rfl (hb hby d_prog_14_method_6_code_19) _ ?_
    show Steps p.tables e below (T1.setTop (mkF m 20 #[.val (.ref u0), .val (.int (0 : Int32)), .val (.ref h0.size), .val (.int (7 : Int32)), .val (.int (0 : Int32)), .unset] [(.ref b0)])) _
    refine XS.astore X1.here hx rfl (hb hby d_prog_14_method_6_code_20) rfl rfl (l' := #[.val (.ref u0), .val (.int (0 : Int32)), .val (.ref h0.size), .val (.int (7 : Int32)), .val (.int (0 : Int32)), .val (.ref b0)]) rfl ?_
    show Steps p.tables e below (T1.setTop (mkF m 22 #[.val (.ref u0), .val (.int (0 : Int32)), .val (.ref h0.size), .val (.int (7 : Int32)), .val (.int (0 : Int32)), .val (.ref b0)] [])) _
    refine XS.aload X1.here hx rfl (hb hby d_prog_14_method_6_code_22) rfl rfl ?_
    show Steps p.tables e below (T1.setTop (mkF m 24 #[.val (.ref u0), .val (.int (0 : Int32)), .val (.ref h0.size), .val (.int (7 : Int32)), .val (.int (0 : Int32)), .val (.ref b0)] [(.ref b0)])) _
    refine st2 _ ?_
    show Steps p.tables e below (T2.setTop (mkF m 27 #[.val (.ref u0), .val (.int (0 : Int32)), .val (.ref h0.size), .val (.int (7 : Int32)), .val (.int (0 : Int32)), .val (.ref b0)] [(.ref u0)])) _
    refine XS.aloadN X2.here hx rfl (hb hby d_prog_14_method_6_code_27) rfl rfl ?_
    show Steps p.tables e below (T2.setTop (mkF m 28 #[.val (.ref u0), .val (.int (0 : Int32)), .val (.ref h0.size), .val (.int (7 : Int32)), .val (.int (0 : Int32)), .val (.ref b0)] [(.ref u0), (.ref u0)])) _
    refine acmp X2 hx rfl rfl rfl (pc0 := 28) (pc' := 31) (same := true) rfl (hb hby d_prog_14_method_6_code_28) rfl (decide_eq_true rfl) (by decide) (by decide) ?_
    show Steps p.tables e below (T2.setTop (mkF m 31 #[.val (.ref u0), .val (.int (0 : Int32)), .val (.ref h0.size), .val (.int (7 : Int32)), .val (.int (0 : Int32)), .val (.ref b0)] [])) _
    refine XS.aload X2.here hx rfl (hb hby d_prog_14_method_6_code_31) rfl rfl ?_
    show Steps p.tables e below (T2.setTop (mkF m 33 #[.val (.ref u0), .val (.int (0 : Int32)), .val (.ref h0.size), .val (.int (7 : Int32)), .val (.int (0 : Int32)), .val (.ref b0)] [(.ref b0)])) _
    refine st3 _ ?_
    show Steps p.tables e below (T3.setTop (mkF m 36 #[.val (.ref u0), .val (.int (0 : Int32)), .val (.ref h0.size), .val (.int (7 : Int32)), .val (.int (0 : Int32)), .val (.ref b0)] [(.int (1 : Int32))])) _
    refine XS.iloadN X3.here hx rfl (hb hby d_prog_14_method_6_code_36) rfl ?_
    show Steps p.tables e below (T3.setTop (mkF m 37 #[.val (.ref u0), .val (.int (0 : Int32)), .val (.ref h0.size), .val (.int (7 : Int32)), .val (.int (0 : Int32)), .val (.ref b0)] [(.int (0 : Int32)), (.int (1 : Int32))])) _
    refine XS.icmpYes X3.here hx rfl (pc0 := 37) (pc' := 43) rfl (hb hby d_prog_14_method_6_code_37) rfl (by decide) (by decide) (by decide) ?_
    show Steps p.tables e below (T3.setTop (mkF m 43 #[.val (.ref u0), .val (.int (0 : Int32)), .val (.ref h0.size), .val (.int (7 : Int32)), .val (.int (0 : Int32)), .val (.ref b0)] [])) _
    refine XT.iincV X3.here hx rfl (1 : Int32) (hb hby d_prog_14_method_6_code_43) (by decide) rfl (l' := #[.val (.ref u0), .val (.int (0 : Int32)), .val (.ref h0.size), .val (.int (7 : Int32)), .val (.int (1 : Int32)), .val (.ref b0)]) rfl ?_
    show Steps p.tables e below (T3.setTop (mkF m 46 #[.val (.ref u0), .val (.int (0 : Int32)), .val (.ref h0.size), .val (.int (7 : Int32)), .val (.int (1 : Int32)), .val (.ref b0)] [])) _
    refine XS.goto X3.here hx rfl (pc0 := 46) (pc' := 10) rfl (hb hby d_prog_14_method_6_code_46) (by decide) (by decide) ?_
    show Steps p.tables e below (T3.setTop (mkF m 10 #[.val (.ref u0), .val (.int (0 : Int32)), .val (.ref h0.size), .val (.int (7 : Int32)), .val (.int (1 : Int32)), .val (.ref b0)] [])) _
    refine XS.iload X3.here hx rfl (hb hby d_prog_14_method_6_code_10) rfl ?_
    show Steps p.tables e below (T3.setTop (mkF m 12 #[.val (.ref u0), .val (.int (0 : Int32)), .val (.ref h0.size), .val (.int (7 : Int32)), .val (.int (1 : Int32)), .val (.ref b0)] [(.int (1 : Int32))])) _
    refine XS.iloadN X3.here hx rfl (hb hby d_prog_14_method_6_code_12) rfl ?_
    show Steps p.tables e below (T3.setTop (mkF m 13 #[.val (.ref u0), .val (.int (0 : Int32)), .val (.ref h0.size), .val (.int (7 : Int32)), .val (.int (1 : Int32)), .val (.ref b0)] [(.int (7 : Int32)), (.int (1 : Int32))])) _
    refine XS.icmpNo X3.here hx rfl (hb hby d_prog_14_method_6_code_13) rfl (by decide) ?_
    show Steps p.tables e below (T3.setTop (mkF m 16 #[.val (.ref u0), .val (.int (0 : Int32)), .val (.ref h0.size), .val (.int (7 : Int32)), .val (.int (1 : Int32)), .val (.ref b0)] [])) _
    refine XS.aloadN X3.here hx rfl (hb hby d_prog_14_method_6_code_16) rfl rfl ?_
    show Steps p.tables e below (T3.setTop (mkF m 17 #[.val (.ref u0), .val (.int (0 : Int32)), .val (.ref h0.size), .val (.int (7 : Int32)), .val (.int (1 : Int32)), .val (.ref b0)] [(.ref h0.size)])) _
    refine XS.iload X3.here hx rfl (hb hby d_prog_14_method_6_code_17) rfl ?_
    show Steps p.tables e below (T3.setTop (mkF m 19 #[.val (.ref u0), .val (.int (0 : Int32)), .val (.ref h0.size), .val (.int (7 : Int32)), .val (.int (1 : Int32)), .val (.ref b0)] [(.int (1 : Int32)), (.ref h0.size)])) _
    refine X3.aaload hx (j := (1 : Int32)) (v := (.ref b1)) (by first | exact Ar.1 | (rw [e3]; exact Ar.1)) (State.isArrayOf_alike hZ.alike Ar.2.1) rfl Ar.2.2 (inb_of Sz ⟨by decide, by decide⟩) (Hs.at (inb_of Sz ⟨by decide, by decide⟩) rfl) (g := (mkF m 19 #[.val (.ref u0), .val (.int (0 : Int32)), .val (.ref h0.size), .val (.int (7 : Int32)), .val (.int (1 : Int32)), .val (.ref b0)] [(.int (1 : Int32)), (.ref h0.size)])) rfl rfl (hb hby d_prog_14_method_6_code_19) _ ?_
    show Steps p.tables e below (T3.setTop (mkF m 20 #[.val (.ref u0), .val (.int (0 : Int32)), .val (.ref h0.size), .val (.int (7 : Int32)), .val (.int (1 : Int32)), .val (.ref b0)] [(.ref b1)])) _
    refine XS.astore X3.here hx rfl (hb hby d_prog_14_method_6_code_20) rfl rfl (l' := #[.val (.ref u0), .val (.int (0 : Int32)), .val (.ref h0.size), .val (.int (7 : Int32)), .val (.int (1 : Int32)), .val (.ref b1)]) rfl ?_
    show Steps p.tables e below (T3.setTop (mkF m 22 #[.val (.ref u0), .val (.int (0 : Int32)), .val (.ref h0.size), .val (.int (7 : Int32)), .val (.int (1 : Int32)), .val (.ref b1)] [])) _
    refine XS.aload X3.here hx rfl (hb hby d_prog_14_method_6_code_22) rfl rfl ?_
    show Steps p.tables e below (T3.setTop (mkF m 24 #[.val (.ref u0), .val (.int (0 : Int32)), .val (.ref h0.size), .val (.int (7 : Int32)), .val (.int (1 : Int32)), .val (.ref b1)] [(.ref b1)])) _
    refine st4 _ ?_
    show Steps p.tables e below (T4.setTop (mkF m 27 #[.val (.ref u0), .val (.int (0 : Int32)), .val (.ref h0.size), .val (.int (7 : Int32)), .val (.int (1 : Int32)), .val (.ref b1)] [(.ref u0)])) _
    refine XS.aloadN X4.here hx rfl (hb hby d_prog_14_method_6_code_27) rfl rfl ?_
    show Steps p.tables e below (T4.setTop (mkF m 28 #[.val (.ref u0), .val (.int (0 : Int32)), .val (.ref h0.size), .val (.int (7 : Int32)), .val (.int (1 : Int32)), .val (.ref b1)] [(.ref u0), (.ref u0)])) _
    refine acmp X4 hx rfl rfl rfl (pc0 := 28) (pc' := 31) (same := true) rfl (hb hby d_prog_14_method_6_code_28) rfl (decide_eq_true rfl) (by decide) (by decide) ?_
    show Steps p.tables e below (T4.setTop (mkF m 31 #[.val (.ref u0), .val (.int (0 : Int32)), .val (.ref h0.size), .val (.int (7 : Int32)), .val (.int (1 : Int32)), .val (.ref b1)] [])) _
    refine XS.aload X4.here hx rfl (hb hby d_prog_14_method_6_code_31) rfl rfl ?_
    show Steps p.tables e below (T4.setTop (mkF m 33 #[.val (.ref u0), .val (.int (0 : Int32)), .val (.ref h0.size), .val (.int (7 : Int32)), .val (.int (1 : Int32)), .val (.ref b1)] [(.ref b1)])) _
    refine st5 _ ?_
    show Steps p.tables e below (T5.setTop (mkF m 36 #[.val (.ref u0), .val (.int (0 : Int32)), .val (.ref h0.size), .val (.int (7 : Int32)), .val (.int (1 : Int32)), .val (.ref b1)] [(.int (0 : Int32))])) _
    refine XS.iloadN X5.here hx rfl (hb hby d_prog_14_method_6_code_36) rfl ?_
    show Steps p.tables e below (T5.setTop (mkF m 37 #[.val (.ref u0), .val (.int (0 : Int32)), .val (.ref h0.size), .val (.int (7 : Int32)), .val (.int (1 : Int32)), .val (.ref b1)] [(.int (0 : Int32)), (.int (0 : Int32))])) _
    refine XS.icmpNo X5.here hx rfl (hb hby d_prog_14_method_6_code_37) rfl (by decide) ?_
    show Steps p.tables e below (T5.setTop (mkF m 40 #[.val (.ref u0), .val (.int (0 : Int32)), .val (.ref h0.size), .val (.int (7 : Int32)), .val (.int (1 : Int32)), .val (.ref b1)] [])) _
    refine XS.aload X5.here hx rfl (hb hby d_prog_14_method_6_code_40) rfl rfl ?_
    show Steps p.tables e below (T5.setTop (mkF m 42 #[.val (.ref u0), .val (.int (0 : Int32)), .val (.ref h0.size), .val (.int (7 : Int32)), .val (.int (1 : Int32)), .val (.ref b1)] [(.ref b1)])) _
    exact retOut X5 hx Bd.returns rfl (Or.inr (Or.inr (Or.inr (Or.inr ⟨rfl, rfl, rfl⟩)))) (hb hby d_prog_14_method_6_code_42) hr
  · exact ⟨rfl, N1, by show Ext h0 T5.heap; rw [e5]; exact Ex1⟩
theorem d_method_3_code_0 : decode method_3_code 0 = .ok (.iload_n 0, 1) := by decide +kernel
theorem d_method_3_code_1 : decode method_3_code 1 = .ok (.ifCond .ne 17, 3) := by decide +kernel
theorem d_method_3_code_4 : decode method_3_code 4 = .ok (.iload_n 1, 1) := by decide +kernel
theorem d_method_3_code_5 : decode method_3_code 5 = .ok (.ifCond .eq 9, 3) := by decide +kernel
theorem d_method_3_code_14 : decode method_3_code 14 = .ok (.getstatic 28, 3) := by decide +kernel
theorem d_method_3_code_17 : decode method_3_code 17 = .ok (.areturn, 1) := by decide +kernel
theorem ef_46 (m : MethodId) (x0 : Int32) (x1 : Int32) : entryFrame m #[(.int x0), (.int x1)] 2 = mkF m 0 #[.val (.int x0), .val (.int x1)] [] := by first | (simp [entryFrame, mkF, argsToLocals, Value.category]; done) | rfl
def Q_eof_0_0 (Z : State) (b1 : Addr) (h0 : Heap) (n0 : Nat) (v : Option Value) (h : Heap) (L : List Loc) : Prop := v = some (.ref b1) ∧ Fr n0 L ∧ h = h0
set_option maxRecDepth 65536 in
set_option maxHeartbeats 40000000 in
theorem eof_0_0 (l : Launch) (Z : State) (a0 : Array Value) (hw : ∀ d ∈ tables_1, d.before a0 Z = true) (ws : List Jvm.Cond) (b1 : Addr) (h0 : Heap) (n0 : Nat) (Z0 : n0 ≤ h0.size) (Sb1 : Sta Z h0 "com/example/innesco/innesco/database/TriggerEvent" "AFTER_INSERT" "Lcom/example/innesco/innesco/database/TriggerEvent;" (.ref b1)) :
    MetFree l (⟨"com/example/innesco/innesco/database/TriggerEventOfPinLaw", "expectedOf", "(IZ)Lcom/example/innesco/innesco/database/TriggerEvent;"⟩ : MethodName) (head1 (Jvm.Cond.code (⟨"com/example/innesco/innesco/database/TriggerEventOfPinLaw", "expectedOf", "(IZ)Lcom/example/innesco/innesco/database/TriggerEvent;"⟩ : MethodName) method_3_code 2 (Option.some (Jvm.ClassFile.FieldType.object "com/example/innesco/innesco/database/TriggerEvent")) :: ws) ({ frames := 0, cells := 0, slots := 0, locals := 0 } : Room)) (fun a U => a = #[(.int (0 : Int32)), (.int (0 : Int32))] ∧ Z.Warmed39 U.vm ∧ U.heap = h0) (fun _ _ _ _ _ => True) (fun _ U o U' => ∃ v L, o = .returned v ∧ Q_eof_0_0 Z b1 h0 n0 v U'.heap L ∧ FrameEnd U o U' L ({ frames := 0, cells := 0, slots := 0, locals := 0 } : Room).cells ({ frames := 0, cells := 0, slots := 0, locals := 0 } : Room).slots) := by
  refine MetFree.of_bodySF (plainFor_of_name pn_11) hisR ?_
  intro p e s m args below meth c s₁ Bd hml0 hP hK
  obtain ⟨rfl, hZ, hh⟩ := hP
  have hx := Bd.exec
  have hby := Bd.bytes
  have hml : c.maxLocals = 2 := hml0
  have hown : s.vm.findClass "com/example/innesco/innesco/database/TriggerEventOfPinLaw" = some m.cls := findClass_of_methodNamed Bd.named
  have hnm := (name_of_methodNamed Bd.named Bd.method).1
  have X0 : Stand p l e ({ frames := 0, cells := 0, slots := 0, locals := 0 } : Room) s m #[(.int (0 : Int32)), (.int (0 : Int32))] below meth c s₁ [] 0 0 := Stand.of_body Bd
  have e0 : s₁.heap = h0 := by rw [← hh, Bd.state]; rfl
  have N0 := Fr.nil n0
  have pre0 : ∀ t, Steps p.tables e below (s₁.setTop (mkF m 0 #[.val (.int (0 : Int32)), .val (.int (0 : Int32))] [])) t → Steps p.tables e below (s₁.setTop (entryFrame m #[(.int (0 : Int32)), (.int (0 : Int32))] 2)) t := fun t k => castTop (ef_46 m (0 : Int32) (0 : Int32)) k
  obtain ⟨T1, X1, e1, st1⟩ := getS X0 hx hZ (host := "") hown (hw _ (List.mem_of_getElem? (i := 45) rfl)) Via.refl e0 Sb1 (g := (mkF m 14 #[.val (.int (0 : Int32)), .val (.int (0 : Int32))] [])) rfl (hb hby d_method_3_code_14)
  obtain ⟨fs, hr, hrun, hended, hW, hsame⟩ := X1.leave (v := some (.ref b1)) (fun h => by rw [Bd.returns] at h; cases h)
  refine ⟨_, _, pre0 _ ?_, hrun, hended, _, _, rfl, ?_, ⟨_, rfl⟩, hW, hsame.mono (by decide) (by decide)⟩
  · show Steps p.tables e below (s₁.setTop (mkF m 0 #[.val (.int (0 : Int32)), .val (.int (0 : Int32))] [])) _
    refine XS.iloadN X0.here hx rfl (hb hby d_method_3_code_0) rfl ?_
    show Steps p.tables e below (s₁.setTop (mkF m 1 #[.val (.int (0 : Int32)), .val (.int (0 : Int32))] [(.int (0 : Int32))])) _
    refine XS.ifNo X0.here hx rfl (hb hby d_method_3_code_1) rfl (by decide) ?_
    show Steps p.tables e below (s₁.setTop (mkF m 4 #[.val (.int (0 : Int32)), .val (.int (0 : Int32))] [])) _
    refine XS.iloadN X0.here hx rfl (hb hby d_method_3_code_4) rfl ?_
    show Steps p.tables e below (s₁.setTop (mkF m 5 #[.val (.int (0 : Int32)), .val (.int (0 : Int32))] [(.int (0 : Int32))])) _
    refine XS.ifYes X0.here hx rfl (pc0 := 5) (pc' := 14) rfl (hb hby d_method_3_code_5) rfl (by decide) (by decide) (by decide) ?_
    show Steps p.tables e below (s₁.setTop (mkF m 14 #[.val (.int (0 : Int32)), .val (.int (0 : Int32))] [])) _
    refine st1 _ ?_
    show Steps p.tables e below (T1.setTop (mkF m 17 #[.val (.int (0 : Int32)), .val (.int (0 : Int32))] [(.ref b1)])) _
    exact retOut X1 hx Bd.returns rfl (Or.inr (Or.inr (Or.inr (Or.inr ⟨rfl, rfl, rfl⟩)))) (hb hby d_method_3_code_17) hr
  · exact ⟨rfl, N0, e1⟩
theorem pd_47 : parseMethodDescriptor "(I)Lcom/example/innesco/innesco/database/Write;" = some ⟨[.int], some (.object "com/example/innesco/innesco/database/Write")⟩ := by decide +kernel
theorem pd_48 : parseMethodDescriptor "(IZ)Lcom/example/innesco/innesco/database/TriggerEvent;" = some ⟨[.int, .boolean], some (.object "com/example/innesco/innesco/database/TriggerEvent")⟩ := by decide +kernel
theorem pd_49 : parseMethodDescriptor "(Lcom/example/innesco/innesco/database/Write;Z)Lcom/example/innesco/innesco/database/TriggerEvent;" = some ⟨[(.object "com/example/innesco/innesco/database/Write"), .boolean], some (.object "com/example/innesco/innesco/database/TriggerEvent")⟩ := by decide +kernel
theorem ef_50 (m : MethodId) (x0 : Int32) (x1 : Int32) : entryFrame m #[(.int x0), (.int x1)] 7 = mkF m 0 #[.val (.int x0), .val (.int x1), .unset, .unset, .unset, .unset, .unset] [] := by first | (simp [entryFrame, mkF, argsToLocals, Value.category]; done) | rfl
def Q_law_0_0 (Z : State) (p1 p2 : Int32) (aV : Addr) (kV : ClassId) (b0 b1 b2 b3 b4 b5 b6 : Addr) (u0 u1 u2 u3 : Addr) (h0 : Heap) (n0 : Nat) (v : Option Value) (h : Heap) (L : List Loc) : Prop := v = some (.int 1) ∧ Fr n0 L ∧ True
set_option maxRecDepth 65536 in
set_option maxHeartbeats 40000000 in
theorem law_0_0 (l : Launch) (Z : State) (a0 : Array Value) (hw : ∀ d ∈ tables_1, d.before a0 Z = true) (ws : List Jvm.Cond) (p1 p2 : Int32) (aV : Addr) (kV : ClassId) (b0 b1 b2 b3 b4 b5 b6 : Addr) (u0 u1 u2 u3 : Addr) (h0 : Heap) (n0 : Nat) (Z0 : n0 ≤ h0.size) (SaV : Sta Z h0 "com/example/innesco/innesco/database/TriggerEvent" "$VALUES" "[Lcom/example/innesco/innesco/database/TriggerEvent;" (.ref aV)) (VaV : Arv Z h0 aV kV (.object "com/example/innesco/innesco/database/TriggerEvent") (7 : Int32) [(.ref b0), (.ref b1), (.ref b2), (.ref b3), (.ref b4), (.ref b5), (.ref b6)] .null) (EaV : Exa Z h0 aV "[Lcom/example/innesco/innesco/database/TriggerEvent;")(Fw0 : Fld Z h0 b0 "com/example/innesco/innesco/database/TriggerEvent" "write" "Lcom/example/innesco/innesco/database/Write;" (.ref u0))(Fw1 : Fld Z h0 b1 "com/example/innesco/innesco/database/TriggerEvent" "write" "Lcom/example/innesco/innesco/database/Write;" (.ref u0))(Fw2 : Fld Z h0 b2 "com/example/innesco/innesco/database/TriggerEvent" "write" "Lcom/example/innesco/innesco/database/Write;" (.ref u1))(Fw3 : Fld Z h0 b3 "com/example/innesco/innesco/database/TriggerEvent" "write" "Lcom/example/innesco/innesco/database/Write;" (.ref u1))(Fw4 : Fld Z h0 b4 "com/example/innesco/innesco/database/TriggerEvent" "write" "Lcom/example/innesco/innesco/database/Write;" (.ref u2))(Fw5 : Fld Z h0 b5 "com/example/innesco/innesco/database/TriggerEvent" "write" "Lcom/example/innesco/innesco/database/Write;" (.ref u2))(Fw6 : Fld Z h0 b6 "com/example/innesco/innesco/database/TriggerEvent" "write" "Lcom/example/innesco/innesco/database/Write;" (.ref u3))(Fb0 : Fld Z h0 b0 "com/example/innesco/innesco/database/TriggerEvent" "before" "Z" (.int (1 : Int32)))(Fb1 : Fld Z h0 b1 "com/example/innesco/innesco/database/TriggerEvent" "before" "Z" (.int (0 : Int32)))(Fb2 : Fld Z h0 b2 "com/example/innesco/innesco/database/TriggerEvent" "before" "Z" (.int (1 : Int32)))(Fb3 : Fld Z h0 b3 "com/example/innesco/innesco/database/TriggerEvent" "before" "Z" (.int (0 : Int32)))(Fb4 : Fld Z h0 b4 "com/example/innesco/innesco/database/TriggerEvent" "before" "Z" (.int (1 : Int32)))(Fb5 : Fld Z h0 b5 "com/example/innesco/innesco/database/TriggerEvent" "before" "Z" (.int (0 : Int32)))(Fb6 : Fld Z h0 b6 "com/example/innesco/innesco/database/TriggerEvent" "before" "Z" (.int (0 : Int32)))(ne01 : u0 ≠ u1)(ne02 : u0 ≠ u2)(ne03 : u0 ≠ u3)(ne12 : u1 ≠ u2)(ne13 : u1 ≠ u3)(ne23 : u2 ≠ u3)(Su0 : Sta Z h0 "com/example/innesco/innesco/database/Write" "INSERT" "Lcom/example/innesco/innesco/database/Write;" (.ref u0))(Sb1 : Sta Z h0 "com/example/innesco/innesco/database/TriggerEvent" "AFTER_INSERT" "Lcom/example/innesco/innesco/database/TriggerEvent;" (.ref b1))(hk0 : p1 &&& (3 : Int32) = (0 : Int32)) (hb0 : p2 &&& (1 : Int32) = (0 : Int32)) :
    MetFree l x (head1 (Jvm.Cond.code x code maxLocals ret :: ws) room_1) (fun a U => a = #[(.int p1), (.int p2)] ∧ Z.Warmed39 U.vm ∧ U.heap = h0) (fun _ _ _ _ _ => True) (fun _ U o U' => ∃ v L, o = .returned v ∧ Q_law_0_0 Z p1 p2 aV kV b0 b1 b2 b3 b4 b5 b6 u0 u1 u2 u3 h0 n0 v U'.heap L ∧ FrameEnd U o U' L 16 128) := by
  refine MetFree.of_bodySF (plainFor_of_name pn_11) hisR ?_
  intro p e s m args below meth c s₁ Bd hml0 hP hK
  obtain ⟨rfl, hZ, hh⟩ := hP
  have hx := Bd.exec
  have hby := Bd.bytes
  have hml : c.maxLocals = 7 := hml0
  have hown : s.vm.findClass "com/example/innesco/innesco/database/TriggerEventOfPinLaw" = some m.cls := findClass_of_methodNamed Bd.named
  have hnm := (name_of_methodNamed Bd.named Bd.method).1
  have X0 : Stand p l e room_1 s m #[(.int p1), (.int p2)] below meth c s₁ [] 0 0 := Stand.of_body Bd
  have e0 : s₁.heap = h0 := by rw [← hh, Bd.state]; rfl
  have N0 := Fr.nil n0
  have pre0 : ∀ t, Steps p.tables e below (s₁.setTop (mkF m 0 #[.val (.int p1), .val (.int p2), .unset, .unset, .unset, .unset, .unset] [])) t → Steps p.tables e below (s₁.setTop (entryFrame m #[(.int p1), (.int p2)] maxLocals)) t := fun t k => castTop (ef_50 m p1 p2) k
  obtain ⟨_, _, ⟨T1, L1, k1, n1⟩, -, X1, ⟨Lc1, hQ1, l1, y1, z1⟩, st1⟩ := Jvm.LawKit.callS X0 hx (y := (⟨"com/example/innesco/innesco/database/TriggerEventOfPinLaw", "writeOf", "(I)Lcom/example/innesco/innesco/database/Write;"⟩ : MethodName)) hown (mvT hZ (hw _ (List.mem_of_getElem? (i := 0) rfl))) (mvT hZ (hw _ (List.mem_of_getElem? (i := 1) rfl))) (mvT hZ (hw _ (List.mem_of_getElem? (i := 2) rfl))) (mvT hZ (hw _ (List.mem_of_getElem? (i := 3) rfl))) (by decide) (backOf (W := 0) (wof_0 l Z a0 hw [] u0 h0 n0 Z0 Su0) hZ (hw _ (List.mem_of_getElem? (i := 3) rfl)) (hw _ (List.mem_of_getElem? (i := 2) rfl)) (by decide) (by decide)) (g := (mkF m 17 #[.val (.int p1), .val (.int p2), .val (.int (0 : Int32)), .val (.int (0 : Int32)), .unset, .unset, .unset] [(.int (0 : Int32))])) rfl (by rw [hml]; rfl) (argsL := [(.int (0 : Int32))]) (rest := []) (lenOf pd_47 rfl) rfl (by show 2 * 0 + _ ≤ _; exact Nat.le_of_eq rfl) (hb hby at_17) (fun _ _ => ⟨rfl, e0, (by decide : 0 + 0 ≤ _), (by decide : 0 + 0 ≤ _)⟩)
  dsimp only [Pt.U, Pt.locs, Pt.cells, Pt.slots] at X1 l1 y1 z1 st1 hQ1
  subst l1 y1 z1
  obtain ⟨rfl, N1q, e1⟩ := hQ1
  have N1 := Fr.app N0 N1q
  obtain ⟨_, _, ⟨T2, L2, k2, n2⟩, -, X2, ⟨Lc2, hQ2, l2, y2, z2⟩, st2⟩ := Jvm.LawKit.callS X1 hx (y := (⟨"com/example/innesco/innesco/database/TriggerEventOfPinLaw", "expectedOf", "(IZ)Lcom/example/innesco/innesco/database/TriggerEvent;"⟩ : MethodName)) hown (mvT hZ (hw _ (List.mem_of_getElem? (i := 7) rfl))) (mvT hZ (hw _ (List.mem_of_getElem? (i := 8) rfl))) (mvT hZ (hw _ (List.mem_of_getElem? (i := 2) rfl))) (mvT hZ (hw _ (List.mem_of_getElem? (i := 9) rfl))) (by decide) (backOf (W := 0) (eof_0_0 l Z a0 hw [] b1 h0 n0 Z0 Sb1) hZ (hw _ (List.mem_of_getElem? (i := 9) rfl)) (hw _ (List.mem_of_getElem? (i := 2) rfl)) (by decide) (by decide)) (g := (mkF m 24 #[.val (.int p1), .val (.int p2), .val (.int (0 : Int32)), .val (.int (0 : Int32)), .val (.ref u0), .unset, .unset] [(.int (0 : Int32)), (.int (0 : Int32))])) rfl (by rw [hml]; rfl) (argsL := [(.int (0 : Int32)), (.int (0 : Int32))]) (rest := []) (lenOf pd_48 rfl) rfl (by show 2 * 0 + _ ≤ _; exact Nat.le_of_eq rfl) (hb hby at_24) (fun _ _ => ⟨rfl, e1, (by decide : 0 + 0 ≤ _), (by decide : 0 + 0 ≤ _)⟩)
  dsimp only [Pt.U, Pt.locs, Pt.cells, Pt.slots] at X2 l2 y2 z2 st2 hQ2
  subst l2 y2 z2
  obtain ⟨rfl, N2q, e2⟩ := hQ2
  have N2 := Fr.app N1 N2q
  obtain ⟨_, _, ⟨T3, L3, k3, n3⟩, -, X3, ⟨Lc3, hQ3, l3, y3, z3⟩, st3⟩ := Jvm.LawKit.callS X2 hx (y := (⟨"com/example/innesco/innesco/database/TriggerEvent", "of", "(Lcom/example/innesco/innesco/database/Write;Z)Lcom/example/innesco/innesco/database/TriggerEvent;"⟩ : MethodName)) hown (mvT hZ (hw _ (List.mem_of_getElem? (i := 13) rfl))) (mvT hZ (hw _ (List.mem_of_getElem? (i := 14) rfl))) (mvT hZ (hw _ (List.mem_of_getElem? (i := 11) rfl))) (mvT hZ (hw _ (List.mem_of_getElem? (i := 15) rfl))) (by decide) (backOf (W := 0) (of_0_0 l Z a0 hw [] aV kV b0 b1 b2 b3 b4 b5 b6 u0 u1 u2 u3 h0 n0 Z0 SaV VaV EaV Fw0 Fw1 Fw2 Fw3 Fw4 Fw5 Fw6 Fb0 Fb1 Fb2 Fb3 Fb4 Fb5 Fb6 ne01 ne02 ne03 ne12 ne13 ne23) hZ (hw _ (List.mem_of_getElem? (i := 15) rfl)) (hw _ (List.mem_of_getElem? (i := 11) rfl)) (by decide) (by decide)) (g := (mkF m 32 #[.val (.int p1), .val (.int p2), .val (.int (0 : Int32)), .val (.int (0 : Int32)), .val (.ref u0), .val (.ref b1), .unset] [(.int (0 : Int32)), (.ref u0)])) rfl (by rw [hml]; rfl) (argsL := [(.ref u0), (.int (0 : Int32))]) (rest := []) (lenOf pd_49 rfl) rfl (by show 2 * 0 + _ ≤ _; exact Nat.le_of_eq rfl) (hb hby at_32) (fun _ _ => ⟨rfl, e2, (by decide : 0 + 1 ≤ _), (by decide : 0 + 7 ≤ _)⟩)
  dsimp only [Pt.U, Pt.locs, Pt.cells, Pt.slots] at X3 l3 y3 z3 st3 hQ3
  subst l3 y3 z3
  obtain ⟨rfl, N3q, Ex3⟩ := hQ3
  have N3 := Fr.app N2 N3q
  obtain ⟨fs, hr, hrun, hended, hW, hsame⟩ := X3.leave (v := some (.int (1 : Int32))) (fun h => by rw [Bd.returns] at h; cases h)
  refine ⟨_, _, pre0 _ ?_, hrun, hended, _, _, rfl, ?_, ⟨_, rfl⟩, hW, hsame.mono (by decide) (by decide)⟩
  · show Steps p.tables e below (s₁.setTop (mkF m 0 #[.val (.int p1), .val (.int p2), .unset, .unset, .unset, .unset, .unset] [])) _
    refine XS.iloadN X0.here hx rfl (hb hby at_0) rfl ?_
    show Steps p.tables e below (s₁.setTop (mkF m 1 #[.val (.int p1), .val (.int p2), .unset, .unset, .unset, .unset, .unset] [(.int p1)])) _
    refine XT.iconstV X0.here hx rfl (3 : Int32) (hb hby at_1) (by decide) ?_
    show Steps p.tables e below (s₁.setTop (mkF m 2 #[.val (.int p1), .val (.int p2), .unset, .unset, .unset, .unset, .unset] [(.int (3 : Int32)), (.int p1)])) _
    refine XS.iand X0.here hx rfl (hb hby at_2) rfl ?_
    show Steps p.tables e below (s₁.setTop (mkF m 3 #[.val (.int p1), .val (.int p2), .unset, .unset, .unset, .unset, .unset] [(.int (p1 &&& (3 : Int32)))])) _
    rw [hk0]
    show Steps p.tables e below (s₁.setTop (mkF m 3 #[.val (.int p1), .val (.int p2), .unset, .unset, .unset, .unset, .unset] [(.int (0 : Int32))])) _
    refine XS.istoreN X0.here hx rfl (hb hby at_3) rfl (l' := #[.val (.int p1), .val (.int p2), .val (.int (0 : Int32)), .unset, .unset, .unset, .unset]) rfl ?_
    show Steps p.tables e below (s₁.setTop (mkF m 4 #[.val (.int p1), .val (.int p2), .val (.int (0 : Int32)), .unset, .unset, .unset, .unset] [])) _
    refine XS.iloadN X0.here hx rfl (hb hby at_4) rfl ?_
    show Steps p.tables e below (s₁.setTop (mkF m 5 #[.val (.int p1), .val (.int p2), .val (.int (0 : Int32)), .unset, .unset, .unset, .unset] [(.int p2)])) _
    refine XT.iconstV X0.here hx rfl (1 : Int32) (hb hby at_5) (by decide) ?_
    show Steps p.tables e below (s₁.setTop (mkF m 6 #[.val (.int p1), .val (.int p2), .val (.int (0 : Int32)), .unset, .unset, .unset, .unset] [(.int (1 : Int32)), (.int p2)])) _
    refine XS.iand X0.here hx rfl (hb hby at_6) rfl ?_
    show Steps p.tables e below (s₁.setTop (mkF m 7 #[.val (.int p1), .val (.int p2), .val (.int (0 : Int32)), .unset, .unset, .unset, .unset] [(.int (p2 &&& (1 : Int32)))])) _
    rw [hb0]
    show Steps p.tables e below (s₁.setTop (mkF m 7 #[.val (.int p1), .val (.int p2), .val (.int (0 : Int32)), .unset, .unset, .unset, .unset] [(.int (0 : Int32))])) _
    refine XS.ifYes X0.here hx rfl (pc0 := 7) (pc' := 14) rfl (hb hby at_7) rfl (by decide) (by decide) (by decide) ?_
    show Steps p.tables e below (s₁.setTop (mkF m 14 #[.val (.int p1), .val (.int p2), .val (.int (0 : Int32)), .unset, .unset, .unset, .unset] [])) _
    refine XT.iconstV X0.here hx rfl (0 : Int32) (hb hby at_14) (by decide) ?_
    show Steps p.tables e below (s₁.setTop (mkF m 15 #[.val (.int p1), .val (.int p2), .val (.int (0 : Int32)), .unset, .unset, .unset, .unset] [(.int (0 : Int32))])) _
    refine XS.istoreN X0.here hx rfl (hb hby at_15) rfl (l' := #[.val (.int p1), .val (.int p2), .val (.int (0 : Int32)), .val (.int (0 : Int32)), .unset, .unset, .unset]) rfl ?_
    show Steps p.tables e below (s₁.setTop (mkF m 16 #[.val (.int p1), .val (.int p2), .val (.int (0 : Int32)), .val (.int (0 : Int32)), .unset, .unset, .unset] [])) _
    refine XS.iloadN X0.here hx rfl (hb hby at_16) rfl ?_
    show Steps p.tables e below (s₁.setTop (mkF m 17 #[.val (.int p1), .val (.int p2), .val (.int (0 : Int32)), .val (.int (0 : Int32)), .unset, .unset, .unset] [(.int (0 : Int32))])) _
    refine st1 _ ?_
    show Steps p.tables e below (T1.setTop (mkF m 20 #[.val (.int p1), .val (.int p2), .val (.int (0 : Int32)), .val (.int (0 : Int32)), .unset, .unset, .unset] [(.ref u0)])) _
    refine XS.astore X1.here hx rfl (hb hby at_20) rfl rfl (l' := #[.val (.int p1), .val (.int p2), .val (.int (0 : Int32)), .val (.int (0 : Int32)), .val (.ref u0), .unset, .unset]) rfl ?_
    show Steps p.tables e below (T1.setTop (mkF m 22 #[.val (.int p1), .val (.int p2), .val (.int (0 : Int32)), .val (.int (0 : Int32)), .val (.ref u0), .unset, .unset] [])) _
    refine XS.iloadN X1.here hx rfl (hb hby at_22) rfl ?_
    show Steps p.tables e below (T1.setTop (mkF m 23 #[.val (.int p1), .val (.int p2), .val (.int (0 : Int32)), .val (.int (0 : Int32)), .val (.ref u0), .unset, .unset] [(.int (0 : Int32))])) _
    refine XS.iloadN X1.here hx rfl (hb hby at_23) rfl ?_
    show Steps p.tables e below (T1.setTop (mkF m 24 #[.val (.int p1), .val (.int p2), .val (.int (0 : Int32)), .val (.int (0 : Int32)), .val (.ref u0), .unset, .unset] [(.int (0 : Int32)), (.int (0 : Int32))])) _
    refine st2 _ ?_
    show Steps p.tables e below (T2.setTop (mkF m 27 #[.val (.int p1), .val (.int p2), .val (.int (0 : Int32)), .val (.int (0 : Int32)), .val (.ref u0), .unset, .unset] [(.ref b1)])) _
    refine XS.astore X2.here hx rfl (hb hby at_27) rfl rfl (l' := #[.val (.int p1), .val (.int p2), .val (.int (0 : Int32)), .val (.int (0 : Int32)), .val (.ref u0), .val (.ref b1), .unset]) rfl ?_
    show Steps p.tables e below (T2.setTop (mkF m 29 #[.val (.int p1), .val (.int p2), .val (.int (0 : Int32)), .val (.int (0 : Int32)), .val (.ref u0), .val (.ref b1), .unset] [])) _
    refine XS.aload X2.here hx rfl (hb hby at_29) rfl rfl ?_
    show Steps p.tables e below (T2.setTop (mkF m 31 #[.val (.int p1), .val (.int p2), .val (.int (0 : Int32)), .val (.int (0 : Int32)), .val (.ref u0), .val (.ref b1), .unset] [(.ref u0)])) _
    refine XS.iloadN X2.here hx rfl (hb hby at_31) rfl ?_
    show Steps p.tables e below (T2.setTop (mkF m 32 #[.val (.int p1), .val (.int p2), .val (.int (0 : Int32)), .val (.int (0 : Int32)), .val (.ref u0), .val (.ref b1), .unset] [(.int (0 : Int32)), (.ref u0)])) _
    refine st3 _ ?_
    show Steps p.tables e below (T3.setTop (mkF m 35 #[.val (.int p1), .val (.int p2), .val (.int (0 : Int32)), .val (.int (0 : Int32)), .val (.ref u0), .val (.ref b1), .unset] [(.ref b1)])) _
    refine XS.astore X3.here hx rfl (hb hby at_35) rfl rfl (l' := #[.val (.int p1), .val (.int p2), .val (.int (0 : Int32)), .val (.int (0 : Int32)), .val (.ref u0), .val (.ref b1), .val (.ref b1)]) rfl ?_
    show Steps p.tables e below (T3.setTop (mkF m 37 #[.val (.int p1), .val (.int p2), .val (.int (0 : Int32)), .val (.int (0 : Int32)), .val (.ref u0), .val (.ref b1), .val (.ref b1)] [])) _
    refine XS.aload X3.here hx rfl (hb hby at_37) rfl rfl ?_
    show Steps p.tables e below (T3.setTop (mkF m 39 #[.val (.int p1), .val (.int p2), .val (.int (0 : Int32)), .val (.int (0 : Int32)), .val (.ref u0), .val (.ref b1), .val (.ref b1)] [(.ref b1)])) _
    refine XS.aload X3.here hx rfl (hb hby at_39) rfl rfl ?_
    show Steps p.tables e below (T3.setTop (mkF m 41 #[.val (.int p1), .val (.int p2), .val (.int (0 : Int32)), .val (.int (0 : Int32)), .val (.ref u0), .val (.ref b1), .val (.ref b1)] [(.ref b1), (.ref b1)])) _
    refine acmp X3 hx rfl rfl rfl (pc0 := 41) (pc' := 44) (same := true) rfl (hb hby at_41) rfl (decide_eq_true rfl) (by decide) (by decide) ?_
    show Steps p.tables e below (T3.setTop (mkF m 44 #[.val (.int p1), .val (.int p2), .val (.int (0 : Int32)), .val (.int (0 : Int32)), .val (.ref u0), .val (.ref b1), .val (.ref b1)] [])) _
    refine XT.iconstV X3.here hx rfl (1 : Int32) (hb hby at_44) (by decide) ?_
    show Steps p.tables e below (T3.setTop (mkF m 45 #[.val (.int p1), .val (.int p2), .val (.int (0 : Int32)), .val (.int (0 : Int32)), .val (.ref u0), .val (.ref b1), .val (.ref b1)] [(.int (1 : Int32))])) _
    refine XS.goto X3.here hx rfl (pc0 := 45) (pc' := 49) rfl (hb hby at_45) (by decide) (by decide) ?_
    show Steps p.tables e below (T3.setTop (mkF m 49 #[.val (.int p1), .val (.int p2), .val (.int (0 : Int32)), .val (.int (0 : Int32)), .val (.ref u0), .val (.ref b1), .val (.ref b1)] [(.int (1 : Int32))])) _
    exact retN X3 hx (t := .boolean) Bd.returns (by simp) (hb hby at_49) hr
  · exact ⟨rfl, N3, trivial⟩
def Q_of_0_1 (Z : State) (aV : Addr) (kV : ClassId) (b0 b1 b2 b3 b4 b5 b6 : Addr) (u0 u1 u2 u3 : Addr) (h0 : Heap) (n0 : Nat) (v : Option Value) (h : Heap) (L : List Loc) : Prop := v = some (.ref b0) ∧ Fr n0 L ∧ Ext h0 h
set_option maxRecDepth 65536 in
set_option maxHeartbeats 40000000 in
theorem of_0_1 (l : Launch) (Z : State) (a0 : Array Value) (hw : ∀ d ∈ tables_1, d.before a0 Z = true) (ws : List Jvm.Cond) (aV : Addr) (kV : ClassId) (b0 b1 b2 b3 b4 b5 b6 : Addr) (u0 u1 u2 u3 : Addr) (h0 : Heap) (n0 : Nat) (Z0 : n0 ≤ h0.size) (SaV : Sta Z h0 "com/example/innesco/innesco/database/TriggerEvent" "$VALUES" "[Lcom/example/innesco/innesco/database/TriggerEvent;" (.ref aV)) (VaV : Arv Z h0 aV kV (.object "com/example/innesco/innesco/database/TriggerEvent") (7 : Int32) [(.ref b0), (.ref b1), (.ref b2), (.ref b3), (.ref b4), (.ref b5), (.ref b6)] .null) (EaV : Exa Z h0 aV "[Lcom/example/innesco/innesco/database/TriggerEvent;")(Fw0 : Fld Z h0 b0 "com/example/innesco/innesco/database/TriggerEvent" "write" "Lcom/example/innesco/innesco/database/Write;" (.ref u0))(Fw1 : Fld Z h0 b1 "com/example/innesco/innesco/database/TriggerEvent" "write" "Lcom/example/innesco/innesco/database/Write;" (.ref u0))(Fw2 : Fld Z h0 b2 "com/example/innesco/innesco/database/TriggerEvent" "write" "Lcom/example/innesco/innesco/database/Write;" (.ref u1))(Fw3 : Fld Z h0 b3 "com/example/innesco/innesco/database/TriggerEvent" "write" "Lcom/example/innesco/innesco/database/Write;" (.ref u1))(Fw4 : Fld Z h0 b4 "com/example/innesco/innesco/database/TriggerEvent" "write" "Lcom/example/innesco/innesco/database/Write;" (.ref u2))(Fw5 : Fld Z h0 b5 "com/example/innesco/innesco/database/TriggerEvent" "write" "Lcom/example/innesco/innesco/database/Write;" (.ref u2))(Fw6 : Fld Z h0 b6 "com/example/innesco/innesco/database/TriggerEvent" "write" "Lcom/example/innesco/innesco/database/Write;" (.ref u3))(Fb0 : Fld Z h0 b0 "com/example/innesco/innesco/database/TriggerEvent" "before" "Z" (.int (1 : Int32)))(Fb1 : Fld Z h0 b1 "com/example/innesco/innesco/database/TriggerEvent" "before" "Z" (.int (0 : Int32)))(Fb2 : Fld Z h0 b2 "com/example/innesco/innesco/database/TriggerEvent" "before" "Z" (.int (1 : Int32)))(Fb3 : Fld Z h0 b3 "com/example/innesco/innesco/database/TriggerEvent" "before" "Z" (.int (0 : Int32)))(Fb4 : Fld Z h0 b4 "com/example/innesco/innesco/database/TriggerEvent" "before" "Z" (.int (1 : Int32)))(Fb5 : Fld Z h0 b5 "com/example/innesco/innesco/database/TriggerEvent" "before" "Z" (.int (0 : Int32)))(Fb6 : Fld Z h0 b6 "com/example/innesco/innesco/database/TriggerEvent" "before" "Z" (.int (0 : Int32)))(ne01 : u0 ≠ u1)(ne02 : u0 ≠ u2)(ne03 : u0 ≠ u3)(ne12 : u1 ≠ u2)(ne13 : u1 ≠ u3)(ne23 : u2 ≠ u3) :
    MetFree l (⟨"com/example/innesco/innesco/database/TriggerEvent", "of", "(Lcom/example/innesco/innesco/database/Write;Z)Lcom/example/innesco/innesco/database/TriggerEvent;"⟩ : MethodName) (head1 (Jvm.Cond.code (⟨"com/example/innesco/innesco/database/TriggerEvent", "of", "(Lcom/example/innesco/innesco/database/Write;Z)Lcom/example/innesco/innesco/database/TriggerEvent;"⟩ : MethodName) prog_14_method_6_code 6 (Option.some (Jvm.ClassFile.FieldType.object "com/example/innesco/innesco/database/TriggerEvent")) :: ws) ({ frames := 2, cells := 1, slots := 7, locals := 25 } : Room)) (fun a U => a = #[(.ref u0), (.int (1 : Int32))] ∧ Z.Warmed39 U.vm ∧ U.heap = h0) (fun _ _ _ _ _ => True) (fun _ U o U' => ∃ v L, o = .returned v ∧ Q_of_0_1 Z aV kV b0 b1 b2 b3 b4 b5 b6 u0 u1 u2 u3 h0 n0 v U'.heap L ∧ FrameEnd U o U' L ({ frames := 2, cells := 1, slots := 7, locals := 25 } : Room).cells ({ frames := 2, cells := 1, slots := 7, locals := 25 } : Room).slots) := by
  refine MetFree.of_bodySF (plainFor_of_name pn_5) hisR ?_
  intro p e s m args below meth c s₁ Bd hml0 hP hK
  obtain ⟨rfl, hZ, hh⟩ := hP
  have hx := Bd.exec
  have hby := Bd.bytes
  have hml : c.maxLocals = 6 := hml0
  have hown : s.vm.findClass "com/example/innesco/innesco/database/TriggerEvent" = some m.cls := findClass_of_methodNamed Bd.named
  have hnm := (name_of_methodNamed Bd.named Bd.method).1
  have X0 : Stand p l e ({ frames := 2, cells := 1, slots := 7, locals := 25 } : Room) s m #[(.ref u0), (.int (1 : Int32))] below meth c s₁ [] 0 0 := Stand.of_body Bd
  have e0 : s₁.heap = h0 := by rw [← hh, Bd.state]; rfl
  have N0 := Fr.nil n0
  have pre0 : ∀ t, Steps p.tables e below (s₁.setTop (mkF m 0 #[.val (.ref u0), .val (.int (1 : Int32)), .unset, .unset, .unset, .unset] [])) t → Steps p.tables e below (s₁.setTop (entryFrame m #[(.ref u0), (.int (1 : Int32))] 6)) t := fun t k => castTop (ef_39 m u0 (1 : Int32)) k
  obtain ⟨_, _, ⟨T1, L1, k1, n1⟩, -, X1, ⟨Lc1, hQ1, l1, y1, z1⟩, st1⟩ := Jvm.LawKit.callS X0 hx (y := (⟨"com/example/innesco/innesco/database/TriggerEvent", "values", "()[Lcom/example/innesco/innesco/database/TriggerEvent;"⟩ : MethodName)) hown (mvT hZ (hw _ (List.mem_of_getElem? (i := 16) rfl))) (mvT hZ (hw _ (List.mem_of_getElem? (i := 17) rfl))) (mvT hZ (hw _ (List.mem_of_getElem? (i := 11) rfl))) (mvT hZ (hw _ (List.mem_of_getElem? (i := 18) rfl))) (by decide) (backOf (W := 0) (values_0 l Z a0 hw [] aV kV b0 b1 b2 b3 b4 b5 b6 h0 n0 Z0 SaV VaV EaV) hZ (hw _ (List.mem_of_getElem? (i := 18) rfl)) (hw _ (List.mem_of_getElem? (i := 11) rfl)) (by decide) (by decide)) (g := (mkF m 0 #[.val (.ref u0), .val (.int (1 : Int32)), .unset, .unset, .unset, .unset] [])) rfl (by rw [hml]; rfl) (argsL := []) (rest := []) (lenOf pd_13 rfl) rfl (by show 2 * 0 + _ ≤ _; exact Nat.le_of_eq rfl) (hb hby d_prog_14_method_6_code_0) (fun _ _ => ⟨rfl, e0, (by decide : 0 + 1 ≤ _), (by decide : 0 + 7 ≤ _)⟩)
  dsimp only [Pt.U, Pt.locs, Pt.cells, Pt.slots] at X1 l1 y1 z1 st1 hQ1
  subst l1 y1 z1
  obtain ⟨rfl, N1q, Ex1, V1⟩ := hQ1
  have N1 := Fr.app N0 N1q
  obtain ⟨cl, Ar, -, Sz, Ng, Hs, -⟩ := V1
  have hlen : cl.slots.size.toInt32 = (7 : Int32) := len_of Sz Ng
  obtain ⟨T2, X2, e2, st2⟩ := getF X1 hx hZ hown (host := "") (Or.inl (hw _ (List.mem_of_getElem? (i := 37) rfl))) Via.refl rfl (Fw0.ext Ex1) (g := (mkF m 24 #[.val (.ref u0), .val (.int (1 : Int32)), .val (.ref h0.size), .val (.int (7 : Int32)), .val (.int (0 : Int32)), .val (.ref b0)] [(.ref b0)])) rfl rfl (hb hby d_prog_14_method_6_code_24)
  obtain ⟨T3, X3, e3, st3⟩ := getF X2 hx hZ hown (host := "") (Or.inl (hw _ (List.mem_of_getElem? (i := 39) rfl))) Via.refl e2 (Fb0.ext Ex1) (g := (mkF m 33 #[.val (.ref u0), .val (.int (1 : Int32)), .val (.ref h0.size), .val (.int (7 : Int32)), .val (.int (0 : Int32)), .val (.ref b0)] [(.ref b0)])) rfl rfl (hb hby d_prog_14_method_6_code_33)
  obtain ⟨fs, hr, hrun, hended, hW, hsame⟩ := X3.leave (v := some (.ref b0)) (fun h => by rw [Bd.returns] at h; cases h)
  refine ⟨_, _, pre0 _ ?_, hrun, hended, _, _, rfl, ?_, ⟨_, rfl⟩, hW, hsame.mono (by decide) (by decide)⟩
  · show Steps p.tables e below (s₁.setTop (mkF m 0 #[.val (.ref u0), .val (.int (1 : Int32)), .unset, .unset, .unset, .unset] [])) _
    refine st1 _ ?_
    show Steps p.tables e below (T1.setTop (mkF m 3 #[.val (.ref u0), .val (.int (1 : Int32)), .unset, .unset, .unset, .unset] [(.ref h0.size)])) _
    refine XS.astoreN X1.here hx rfl (hb hby d_prog_14_method_6_code_3) rfl rfl (l' := #[.val (.ref u0), .val (.int (1 : Int32)), .val (.ref h0.size), .unset, .unset, .unset]) rfl ?_
    show Steps p.tables e below (T1.setTop (mkF m 4 #[.val (.ref u0), .val (.int (1 : Int32)), .val (.ref h0.size), .unset, .unset, .unset] [])) _
    refine XS.aloadN X1.here hx rfl (hb hby d_prog_14_method_6_code_4) rfl rfl ?_
    show Steps p.tables e below (T1.setTop (mkF m 5 #[.val (.ref u0), .val (.int (1 : Int32)), .val (.ref h0.size), .unset, .unset, .unset] [(.ref h0.size)])) _
    refine X1.arraylength hx (by first | exact Ar.1 | (rw [rfl]; exact Ar.1)) (State.isArrayOf_alike hZ.alike Ar.2.1) (g := (mkF m 5 #[.val (.ref u0), .val (.int (1 : Int32)), .val (.ref h0.size), .unset, .unset, .unset] [(.ref h0.size)])) rfl rfl (hb hby d_prog_14_method_6_code_5) _ ?_
    show Steps p.tables e below (T1.setTop (mkF m 6 #[.val (.ref u0), .val (.int (1 : Int32)), .val (.ref h0.size), .unset, .unset, .unset] [(.int cl.slots.size.toInt32)])) _
    rw [hlen]
    show Steps p.tables e below (T1.setTop (mkF m 6 #[.val (.ref u0), .val (.int (1 : Int32)), .val (.ref h0.size), .unset, .unset, .unset] [(.int (7 : Int32))])) _
    refine XS.istoreN X1.here hx rfl (hb hby d_prog_14_method_6_code_6) rfl (l' := #[.val (.ref u0), .val (.int (1 : Int32)), .val (.ref h0.size), .val (.int (7 : Int32)), .unset, .unset]) rfl ?_
    show Steps p.tables e below (T1.setTop (mkF m 7 #[.val (.ref u0), .val (.int (1 : Int32)), .val (.ref h0.size), .val (.int (7 : Int32)), .unset, .unset] [])) _
    refine XT.iconstV X1.here hx rfl (0 : Int32) (hb hby d_prog_14_method_6_code_7) (by decide) ?_
    show Steps p.tables e below (T1.setTop (mkF m 8 #[.val (.ref u0), .val (.int (1 : Int32)), .val (.ref h0.size), .val (.int (7 : Int32)), .unset, .unset] [(.int (0 : Int32))])) _
    refine XS.istore X1.here hx rfl (hb hby d_prog_14_method_6_code_8) rfl (l' := #[.val (.ref u0), .val (.int (1 : Int32)), .val (.ref h0.size), .val (.int (7 : Int32)), .val (.int (0 : Int32)), .unset]) rfl ?_
    show Steps p.tables e below (T1.setTop (mkF m 10 #[.val (.ref u0), .val (.int (1 : Int32)), .val (.ref h0.size), .val (.int (7 : Int32)), .val (.int (0 : Int32)), .unset] [])) _
    refine XS.iload X1.here hx rfl (hb hby d_prog_14_method_6_code_10) rfl ?_
    show Steps p.tables e below (T1.setTop (mkF m 12 #[.val (.ref u0), .val (.int (1 : Int32)), .val (.ref h0.size), .val (.int (7 : Int32)), .val (.int (0 : Int32)), .unset] [(.int (0 : Int32))])) _
    refine XS.iloadN X1.here hx rfl (hb hby d_prog_14_method_6_code_12) rfl ?_
    show Steps p.tables e below (T1.setTop (mkF m 13 #[.val (.ref u0), .val (.int (1 : Int32)), .val (.ref h0.size), .val (.int (7 : Int32)), .val (.int (0 : Int32)), .unset] [(.int (7 : Int32)), (.int (0 : Int32))])) _
    refine XS.icmpNo X1.here hx rfl (hb hby d_prog_14_method_6_code_13) rfl (by decide) ?_
    show Steps p.tables e below (T1.setTop (mkF m 16 #[.val (.ref u0), .val (.int (1 : Int32)), .val (.ref h0.size), .val (.int (7 : Int32)), .val (.int (0 : Int32)), .unset] [])) _
    refine XS.aloadN X1.here hx rfl (hb hby d_prog_14_method_6_code_16) rfl rfl ?_
    show Steps p.tables e below (T1.setTop (mkF m 17 #[.val (.ref u0), .val (.int (1 : Int32)), .val (.ref h0.size), .val (.int (7 : Int32)), .val (.int (0 : Int32)), .unset] [(.ref h0.size)])) _
    refine XS.iload X1.here hx rfl (hb hby d_prog_14_method_6_code_17) rfl ?_
    show Steps p.tables e below (T1.setTop (mkF m 19 #[.val (.ref u0), .val (.int (1 : Int32)), .val (.ref h0.size), .val (.int (7 : Int32)), .val (.int (0 : Int32)), .unset] [(.int (0 : Int32)), (.ref h0.size)])) _
    refine X1.aaload hx (j := (0 : Int32)) (v := (.ref b0)) (by first | exact Ar.1 | (rw [rfl]; exact Ar.1)) (State.isArrayOf_alike hZ.alike Ar.2.1) rfl Ar.2.2 (inb_of Sz ⟨by decide, by decide⟩) (Hs.at (inb_of Sz ⟨by decide, by decide⟩) rfl) (g := (mkF m 19 #[.val (.ref u0), .val (.int (1 : Int32)), .val (.ref h0.size), .val (.int (7 : Int32)), .val (.int (0 : Int32)), .unset] [(.int (0 : Int32)), (.ref h0.size)])) rfl rfl (hb hby d_prog_14_method_6_code_19) _ ?_
    show Steps p.tables e below (T1.setTop (mkF m 20 #[.val (.ref u0), .val (.int (1 : Int32)), .val (.ref h0.size), .val (.int (7 : Int32)), .val (.int (0 : Int32)), .unset] [(.ref b0)])) _
    refine XS.astore X1.here hx rfl (hb hby d_prog_14_method_6_code_20) rfl rfl (l' := #[.val (.ref u0), .val (.int (1 : Int32)), .val (.ref h0.size), .val (.int (7 : Int32)), .val (.int (0 : Int32)), .val (.ref b0)]) rfl ?_
    show Steps p.tables e below (T1.setTop (mkF m 22 #[.val (.ref u0), .val (.int (1 : Int32)), .val (.ref h0.size), .val (.int (7 : Int32)), .val (.int (0 : Int32)), .val (.ref b0)] [])) _
    refine XS.aload X1.here hx rfl (hb hby d_prog_14_method_6_code_22) rfl rfl ?_
    show Steps p.tables e below (T1.setTop (mkF m 24 #[.val (.ref u0), .val (.int (1 : Int32)), .val (.ref h0.size), .val (.int (7 : Int32)), .val (.int (0 : Int32)), .val (.ref b0)] [(.ref b0)])) _
    refine st2 _ ?_
    show Steps p.tables e below (T2.setTop (mkF m 27 #[.val (.ref u0), .val (.int (1 : Int32)), .val (.ref h0.size), .val (.int (7 : Int32)), .val (.int (0 : Int32)), .val (.ref b0)] [(.ref u0)])) _
    refine XS.aloadN X2.here hx rfl (hb hby d_prog_14_method_6_code_27) rfl rfl ?_
    show Steps p.tables e below (T2.setTop (mkF m 28 #[.val (.ref u0), .val (.int (1 : Int32)), .val (.ref h0.size), .val (.int (7 : Int32)), .val (.int (0 : Int32)), .val (.ref b0)] [(.ref u0), (.ref u0)])) _
    refine acmp X2 hx rfl rfl rfl (pc0 := 28) (pc' := 31) (same := true) rfl (hb hby d_prog_14_method_6_code_28) rfl (decide_eq_true rfl) (by decide) (by decide) ?_
    show Steps p.tables e below (T2.setTop (mkF m 31 #[.val (.ref u0), .val (.int (1 : Int32)), .val (.ref h0.size), .val (.int (7 : Int32)), .val (.int (0 : Int32)), .val (.ref b0)] [])) _
    refine XS.aload X2.here hx rfl (hb hby d_prog_14_method_6_code_31) rfl rfl ?_
    show Steps p.tables e below (T2.setTop (mkF m 33 #[.val (.ref u0), .val (.int (1 : Int32)), .val (.ref h0.size), .val (.int (7 : Int32)), .val (.int (0 : Int32)), .val (.ref b0)] [(.ref b0)])) _
    refine st3 _ ?_
    show Steps p.tables e below (T3.setTop (mkF m 36 #[.val (.ref u0), .val (.int (1 : Int32)), .val (.ref h0.size), .val (.int (7 : Int32)), .val (.int (0 : Int32)), .val (.ref b0)] [(.int (1 : Int32))])) _
    refine XS.iloadN X3.here hx rfl (hb hby d_prog_14_method_6_code_36) rfl ?_
    show Steps p.tables e below (T3.setTop (mkF m 37 #[.val (.ref u0), .val (.int (1 : Int32)), .val (.ref h0.size), .val (.int (7 : Int32)), .val (.int (0 : Int32)), .val (.ref b0)] [(.int (1 : Int32)), (.int (1 : Int32))])) _
    refine XS.icmpNo X3.here hx rfl (hb hby d_prog_14_method_6_code_37) rfl (by decide) ?_
    show Steps p.tables e below (T3.setTop (mkF m 40 #[.val (.ref u0), .val (.int (1 : Int32)), .val (.ref h0.size), .val (.int (7 : Int32)), .val (.int (0 : Int32)), .val (.ref b0)] [])) _
    refine XS.aload X3.here hx rfl (hb hby d_prog_14_method_6_code_40) rfl rfl ?_
    show Steps p.tables e below (T3.setTop (mkF m 42 #[.val (.ref u0), .val (.int (1 : Int32)), .val (.ref h0.size), .val (.int (7 : Int32)), .val (.int (0 : Int32)), .val (.ref b0)] [(.ref b0)])) _
    exact retOut X3 hx Bd.returns rfl (Or.inr (Or.inr (Or.inr (Or.inr ⟨rfl, rfl, rfl⟩)))) (hb hby d_prog_14_method_6_code_42) hr
  · exact ⟨rfl, N1, by show Ext h0 T3.heap; rw [e3]; exact Ex1⟩
theorem d_method_3_code_8 : decode method_3_code 8 = .ok (.getstatic 22, 3) := by decide +kernel
theorem d_method_3_code_11 : decode method_3_code 11 = .ok (.goto 6, 3) := by decide +kernel
def Q_eof_0_1 (Z : State) (b0 : Addr) (h0 : Heap) (n0 : Nat) (v : Option Value) (h : Heap) (L : List Loc) : Prop := v = some (.ref b0) ∧ Fr n0 L ∧ h = h0
set_option maxRecDepth 65536 in
set_option maxHeartbeats 40000000 in
theorem eof_0_1 (l : Launch) (Z : State) (a0 : Array Value) (hw : ∀ d ∈ tables_1, d.before a0 Z = true) (ws : List Jvm.Cond) (b0 : Addr) (h0 : Heap) (n0 : Nat) (Z0 : n0 ≤ h0.size) (Sb0 : Sta Z h0 "com/example/innesco/innesco/database/TriggerEvent" "BEFORE_INSERT" "Lcom/example/innesco/innesco/database/TriggerEvent;" (.ref b0)) :
    MetFree l (⟨"com/example/innesco/innesco/database/TriggerEventOfPinLaw", "expectedOf", "(IZ)Lcom/example/innesco/innesco/database/TriggerEvent;"⟩ : MethodName) (head1 (Jvm.Cond.code (⟨"com/example/innesco/innesco/database/TriggerEventOfPinLaw", "expectedOf", "(IZ)Lcom/example/innesco/innesco/database/TriggerEvent;"⟩ : MethodName) method_3_code 2 (Option.some (Jvm.ClassFile.FieldType.object "com/example/innesco/innesco/database/TriggerEvent")) :: ws) ({ frames := 0, cells := 0, slots := 0, locals := 0 } : Room)) (fun a U => a = #[(.int (0 : Int32)), (.int (1 : Int32))] ∧ Z.Warmed39 U.vm ∧ U.heap = h0) (fun _ _ _ _ _ => True) (fun _ U o U' => ∃ v L, o = .returned v ∧ Q_eof_0_1 Z b0 h0 n0 v U'.heap L ∧ FrameEnd U o U' L ({ frames := 0, cells := 0, slots := 0, locals := 0 } : Room).cells ({ frames := 0, cells := 0, slots := 0, locals := 0 } : Room).slots) := by
  refine MetFree.of_bodySF (plainFor_of_name pn_11) hisR ?_
  intro p e s m args below meth c s₁ Bd hml0 hP hK
  obtain ⟨rfl, hZ, hh⟩ := hP
  have hx := Bd.exec
  have hby := Bd.bytes
  have hml : c.maxLocals = 2 := hml0
  have hown : s.vm.findClass "com/example/innesco/innesco/database/TriggerEventOfPinLaw" = some m.cls := findClass_of_methodNamed Bd.named
  have hnm := (name_of_methodNamed Bd.named Bd.method).1
  have X0 : Stand p l e ({ frames := 0, cells := 0, slots := 0, locals := 0 } : Room) s m #[(.int (0 : Int32)), (.int (1 : Int32))] below meth c s₁ [] 0 0 := Stand.of_body Bd
  have e0 : s₁.heap = h0 := by rw [← hh, Bd.state]; rfl
  have N0 := Fr.nil n0
  have pre0 : ∀ t, Steps p.tables e below (s₁.setTop (mkF m 0 #[.val (.int (0 : Int32)), .val (.int (1 : Int32))] [])) t → Steps p.tables e below (s₁.setTop (entryFrame m #[(.int (0 : Int32)), (.int (1 : Int32))] 2)) t := fun t k => castTop (ef_46 m (0 : Int32) (1 : Int32)) k
  obtain ⟨T1, X1, e1, st1⟩ := getS X0 hx hZ (host := "") hown (hw _ (List.mem_of_getElem? (i := 10) rfl)) Via.refl e0 Sb0 (g := (mkF m 8 #[.val (.int (0 : Int32)), .val (.int (1 : Int32))] [])) rfl (hb hby d_method_3_code_8)
  obtain ⟨fs, hr, hrun, hended, hW, hsame⟩ := X1.leave (v := some (.ref b0)) (fun h => by rw [Bd.returns] at h; cases h)
  refine ⟨_, _, pre0 _ ?_, hrun, hended, _, _, rfl, ?_, ⟨_, rfl⟩, hW, hsame.mono (by decide) (by decide)⟩
  · show Steps p.tables e below (s₁.setTop (mkF m 0 #[.val (.int (0 : Int32)), .val (.int (1 : Int32))] [])) _
    refine XS.iloadN X0.here hx rfl (hb hby d_method_3_code_0) rfl ?_
    show Steps p.tables e below (s₁.setTop (mkF m 1 #[.val (.int (0 : Int32)), .val (.int (1 : Int32))] [(.int (0 : Int32))])) _
    refine XS.ifNo X0.here hx rfl (hb hby d_method_3_code_1) rfl (by decide) ?_
    show Steps p.tables e below (s₁.setTop (mkF m 4 #[.val (.int (0 : Int32)), .val (.int (1 : Int32))] [])) _
    refine XS.iloadN X0.here hx rfl (hb hby d_method_3_code_4) rfl ?_
    show Steps p.tables e below (s₁.setTop (mkF m 5 #[.val (.int (0 : Int32)), .val (.int (1 : Int32))] [(.int (1 : Int32))])) _
    refine XS.ifNo X0.here hx rfl (hb hby d_method_3_code_5) rfl (by decide) ?_
    show Steps p.tables e below (s₁.setTop (mkF m 8 #[.val (.int (0 : Int32)), .val (.int (1 : Int32))] [])) _
    refine st1 _ ?_
    show Steps p.tables e below (T1.setTop (mkF m 11 #[.val (.int (0 : Int32)), .val (.int (1 : Int32))] [(.ref b0)])) _
    refine XS.goto X1.here hx rfl (pc0 := 11) (pc' := 17) rfl (hb hby d_method_3_code_11) (by decide) (by decide) ?_
    show Steps p.tables e below (T1.setTop (mkF m 17 #[.val (.int (0 : Int32)), .val (.int (1 : Int32))] [(.ref b0)])) _
    exact retOut X1 hx Bd.returns rfl (Or.inr (Or.inr (Or.inr (Or.inr ⟨rfl, rfl, rfl⟩)))) (hb hby d_method_3_code_17) hr
  · exact ⟨rfl, N0, e1⟩
def Q_law_0_1 (Z : State) (p1 p2 : Int32) (aV : Addr) (kV : ClassId) (b0 b1 b2 b3 b4 b5 b6 : Addr) (u0 u1 u2 u3 : Addr) (h0 : Heap) (n0 : Nat) (v : Option Value) (h : Heap) (L : List Loc) : Prop := v = some (.int 1) ∧ Fr n0 L ∧ True
set_option maxRecDepth 65536 in
set_option maxHeartbeats 40000000 in
theorem law_0_1 (l : Launch) (Z : State) (a0 : Array Value) (hw : ∀ d ∈ tables_1, d.before a0 Z = true) (ws : List Jvm.Cond) (p1 p2 : Int32) (aV : Addr) (kV : ClassId) (b0 b1 b2 b3 b4 b5 b6 : Addr) (u0 u1 u2 u3 : Addr) (h0 : Heap) (n0 : Nat) (Z0 : n0 ≤ h0.size) (SaV : Sta Z h0 "com/example/innesco/innesco/database/TriggerEvent" "$VALUES" "[Lcom/example/innesco/innesco/database/TriggerEvent;" (.ref aV)) (VaV : Arv Z h0 aV kV (.object "com/example/innesco/innesco/database/TriggerEvent") (7 : Int32) [(.ref b0), (.ref b1), (.ref b2), (.ref b3), (.ref b4), (.ref b5), (.ref b6)] .null) (EaV : Exa Z h0 aV "[Lcom/example/innesco/innesco/database/TriggerEvent;")(Fw0 : Fld Z h0 b0 "com/example/innesco/innesco/database/TriggerEvent" "write" "Lcom/example/innesco/innesco/database/Write;" (.ref u0))(Fw1 : Fld Z h0 b1 "com/example/innesco/innesco/database/TriggerEvent" "write" "Lcom/example/innesco/innesco/database/Write;" (.ref u0))(Fw2 : Fld Z h0 b2 "com/example/innesco/innesco/database/TriggerEvent" "write" "Lcom/example/innesco/innesco/database/Write;" (.ref u1))(Fw3 : Fld Z h0 b3 "com/example/innesco/innesco/database/TriggerEvent" "write" "Lcom/example/innesco/innesco/database/Write;" (.ref u1))(Fw4 : Fld Z h0 b4 "com/example/innesco/innesco/database/TriggerEvent" "write" "Lcom/example/innesco/innesco/database/Write;" (.ref u2))(Fw5 : Fld Z h0 b5 "com/example/innesco/innesco/database/TriggerEvent" "write" "Lcom/example/innesco/innesco/database/Write;" (.ref u2))(Fw6 : Fld Z h0 b6 "com/example/innesco/innesco/database/TriggerEvent" "write" "Lcom/example/innesco/innesco/database/Write;" (.ref u3))(Fb0 : Fld Z h0 b0 "com/example/innesco/innesco/database/TriggerEvent" "before" "Z" (.int (1 : Int32)))(Fb1 : Fld Z h0 b1 "com/example/innesco/innesco/database/TriggerEvent" "before" "Z" (.int (0 : Int32)))(Fb2 : Fld Z h0 b2 "com/example/innesco/innesco/database/TriggerEvent" "before" "Z" (.int (1 : Int32)))(Fb3 : Fld Z h0 b3 "com/example/innesco/innesco/database/TriggerEvent" "before" "Z" (.int (0 : Int32)))(Fb4 : Fld Z h0 b4 "com/example/innesco/innesco/database/TriggerEvent" "before" "Z" (.int (1 : Int32)))(Fb5 : Fld Z h0 b5 "com/example/innesco/innesco/database/TriggerEvent" "before" "Z" (.int (0 : Int32)))(Fb6 : Fld Z h0 b6 "com/example/innesco/innesco/database/TriggerEvent" "before" "Z" (.int (0 : Int32)))(ne01 : u0 ≠ u1)(ne02 : u0 ≠ u2)(ne03 : u0 ≠ u3)(ne12 : u1 ≠ u2)(ne13 : u1 ≠ u3)(ne23 : u2 ≠ u3)(Su0 : Sta Z h0 "com/example/innesco/innesco/database/Write" "INSERT" "Lcom/example/innesco/innesco/database/Write;" (.ref u0))(Sb0 : Sta Z h0 "com/example/innesco/innesco/database/TriggerEvent" "BEFORE_INSERT" "Lcom/example/innesco/innesco/database/TriggerEvent;" (.ref b0))(hk0 : p1 &&& (3 : Int32) = (0 : Int32)) (hb0 : p2 &&& (1 : Int32) = (1 : Int32)) :
    MetFree l x (head1 (Jvm.Cond.code x code maxLocals ret :: ws) room_1) (fun a U => a = #[(.int p1), (.int p2)] ∧ Z.Warmed39 U.vm ∧ U.heap = h0) (fun _ _ _ _ _ => True) (fun _ U o U' => ∃ v L, o = .returned v ∧ Q_law_0_1 Z p1 p2 aV kV b0 b1 b2 b3 b4 b5 b6 u0 u1 u2 u3 h0 n0 v U'.heap L ∧ FrameEnd U o U' L 16 128) := by
  refine MetFree.of_bodySF (plainFor_of_name pn_11) hisR ?_
  intro p e s m args below meth c s₁ Bd hml0 hP hK
  obtain ⟨rfl, hZ, hh⟩ := hP
  have hx := Bd.exec
  have hby := Bd.bytes
  have hml : c.maxLocals = 7 := hml0
  have hown : s.vm.findClass "com/example/innesco/innesco/database/TriggerEventOfPinLaw" = some m.cls := findClass_of_methodNamed Bd.named
  have hnm := (name_of_methodNamed Bd.named Bd.method).1
  have X0 : Stand p l e room_1 s m #[(.int p1), (.int p2)] below meth c s₁ [] 0 0 := Stand.of_body Bd
  have e0 : s₁.heap = h0 := by rw [← hh, Bd.state]; rfl
  have N0 := Fr.nil n0
  have pre0 : ∀ t, Steps p.tables e below (s₁.setTop (mkF m 0 #[.val (.int p1), .val (.int p2), .unset, .unset, .unset, .unset, .unset] [])) t → Steps p.tables e below (s₁.setTop (entryFrame m #[(.int p1), (.int p2)] maxLocals)) t := fun t k => castTop (ef_50 m p1 p2) k
  obtain ⟨_, _, ⟨T1, L1, k1, n1⟩, -, X1, ⟨Lc1, hQ1, l1, y1, z1⟩, st1⟩ := Jvm.LawKit.callS X0 hx (y := (⟨"com/example/innesco/innesco/database/TriggerEventOfPinLaw", "writeOf", "(I)Lcom/example/innesco/innesco/database/Write;"⟩ : MethodName)) hown (mvT hZ (hw _ (List.mem_of_getElem? (i := 0) rfl))) (mvT hZ (hw _ (List.mem_of_getElem? (i := 1) rfl))) (mvT hZ (hw _ (List.mem_of_getElem? (i := 2) rfl))) (mvT hZ (hw _ (List.mem_of_getElem? (i := 3) rfl))) (by decide) (backOf (W := 0) (wof_0 l Z a0 hw [] u0 h0 n0 Z0 Su0) hZ (hw _ (List.mem_of_getElem? (i := 3) rfl)) (hw _ (List.mem_of_getElem? (i := 2) rfl)) (by decide) (by decide)) (g := (mkF m 17 #[.val (.int p1), .val (.int p2), .val (.int (0 : Int32)), .val (.int (1 : Int32)), .unset, .unset, .unset] [(.int (0 : Int32))])) rfl (by rw [hml]; rfl) (argsL := [(.int (0 : Int32))]) (rest := []) (lenOf pd_47 rfl) rfl (by show 2 * 0 + _ ≤ _; exact Nat.le_of_eq rfl) (hb hby at_17) (fun _ _ => ⟨rfl, e0, (by decide : 0 + 0 ≤ _), (by decide : 0 + 0 ≤ _)⟩)
  dsimp only [Pt.U, Pt.locs, Pt.cells, Pt.slots] at X1 l1 y1 z1 st1 hQ1
  subst l1 y1 z1
  obtain ⟨rfl, N1q, e1⟩ := hQ1
  have N1 := Fr.app N0 N1q
  obtain ⟨_, _, ⟨T2, L2, k2, n2⟩, -, X2, ⟨Lc2, hQ2, l2, y2, z2⟩, st2⟩ := Jvm.LawKit.callS X1 hx (y := (⟨"com/example/innesco/innesco/database/TriggerEventOfPinLaw", "expectedOf", "(IZ)Lcom/example/innesco/innesco/database/TriggerEvent;"⟩ : MethodName)) hown (mvT hZ (hw _ (List.mem_of_getElem? (i := 7) rfl))) (mvT hZ (hw _ (List.mem_of_getElem? (i := 8) rfl))) (mvT hZ (hw _ (List.mem_of_getElem? (i := 2) rfl))) (mvT hZ (hw _ (List.mem_of_getElem? (i := 9) rfl))) (by decide) (backOf (W := 0) (eof_0_1 l Z a0 hw [] b0 h0 n0 Z0 Sb0) hZ (hw _ (List.mem_of_getElem? (i := 9) rfl)) (hw _ (List.mem_of_getElem? (i := 2) rfl)) (by decide) (by decide)) (g := (mkF m 24 #[.val (.int p1), .val (.int p2), .val (.int (0 : Int32)), .val (.int (1 : Int32)), .val (.ref u0), .unset, .unset] [(.int (1 : Int32)), (.int (0 : Int32))])) rfl (by rw [hml]; rfl) (argsL := [(.int (0 : Int32)), (.int (1 : Int32))]) (rest := []) (lenOf pd_48 rfl) rfl (by show 2 * 0 + _ ≤ _; exact Nat.le_of_eq rfl) (hb hby at_24) (fun _ _ => ⟨rfl, e1, (by decide : 0 + 0 ≤ _), (by decide : 0 + 0 ≤ _)⟩)
  dsimp only [Pt.U, Pt.locs, Pt.cells, Pt.slots] at X2 l2 y2 z2 st2 hQ2
  subst l2 y2 z2
  obtain ⟨rfl, N2q, e2⟩ := hQ2
  have N2 := Fr.app N1 N2q
  obtain ⟨_, _, ⟨T3, L3, k3, n3⟩, -, X3, ⟨Lc3, hQ3, l3, y3, z3⟩, st3⟩ := Jvm.LawKit.callS X2 hx (y := (⟨"com/example/innesco/innesco/database/TriggerEvent", "of", "(Lcom/example/innesco/innesco/database/Write;Z)Lcom/example/innesco/innesco/database/TriggerEvent;"⟩ : MethodName)) hown (mvT hZ (hw _ (List.mem_of_getElem? (i := 13) rfl))) (mvT hZ (hw _ (List.mem_of_getElem? (i := 14) rfl))) (mvT hZ (hw _ (List.mem_of_getElem? (i := 11) rfl))) (mvT hZ (hw _ (List.mem_of_getElem? (i := 15) rfl))) (by decide) (backOf (W := 0) (of_0_1 l Z a0 hw [] aV kV b0 b1 b2 b3 b4 b5 b6 u0 u1 u2 u3 h0 n0 Z0 SaV VaV EaV Fw0 Fw1 Fw2 Fw3 Fw4 Fw5 Fw6 Fb0 Fb1 Fb2 Fb3 Fb4 Fb5 Fb6 ne01 ne02 ne03 ne12 ne13 ne23) hZ (hw _ (List.mem_of_getElem? (i := 15) rfl)) (hw _ (List.mem_of_getElem? (i := 11) rfl)) (by decide) (by decide)) (g := (mkF m 32 #[.val (.int p1), .val (.int p2), .val (.int (0 : Int32)), .val (.int (1 : Int32)), .val (.ref u0), .val (.ref b0), .unset] [(.int (1 : Int32)), (.ref u0)])) rfl (by rw [hml]; rfl) (argsL := [(.ref u0), (.int (1 : Int32))]) (rest := []) (lenOf pd_49 rfl) rfl (by show 2 * 0 + _ ≤ _; exact Nat.le_of_eq rfl) (hb hby at_32) (fun _ _ => ⟨rfl, e2, (by decide : 0 + 1 ≤ _), (by decide : 0 + 7 ≤ _)⟩)
  dsimp only [Pt.U, Pt.locs, Pt.cells, Pt.slots] at X3 l3 y3 z3 st3 hQ3
  subst l3 y3 z3
  obtain ⟨rfl, N3q, Ex3⟩ := hQ3
  have N3 := Fr.app N2 N3q
  obtain ⟨fs, hr, hrun, hended, hW, hsame⟩ := X3.leave (v := some (.int (1 : Int32))) (fun h => by rw [Bd.returns] at h; cases h)
  refine ⟨_, _, pre0 _ ?_, hrun, hended, _, _, rfl, ?_, ⟨_, rfl⟩, hW, hsame.mono (by decide) (by decide)⟩
  · show Steps p.tables e below (s₁.setTop (mkF m 0 #[.val (.int p1), .val (.int p2), .unset, .unset, .unset, .unset, .unset] [])) _
    refine XS.iloadN X0.here hx rfl (hb hby at_0) rfl ?_
    show Steps p.tables e below (s₁.setTop (mkF m 1 #[.val (.int p1), .val (.int p2), .unset, .unset, .unset, .unset, .unset] [(.int p1)])) _
    refine XT.iconstV X0.here hx rfl (3 : Int32) (hb hby at_1) (by decide) ?_
    show Steps p.tables e below (s₁.setTop (mkF m 2 #[.val (.int p1), .val (.int p2), .unset, .unset, .unset, .unset, .unset] [(.int (3 : Int32)), (.int p1)])) _
    refine XS.iand X0.here hx rfl (hb hby at_2) rfl ?_
    show Steps p.tables e below (s₁.setTop (mkF m 3 #[.val (.int p1), .val (.int p2), .unset, .unset, .unset, .unset, .unset] [(.int (p1 &&& (3 : Int32)))])) _
    rw [hk0]
    show Steps p.tables e below (s₁.setTop (mkF m 3 #[.val (.int p1), .val (.int p2), .unset, .unset, .unset, .unset, .unset] [(.int (0 : Int32))])) _
    refine XS.istoreN X0.here hx rfl (hb hby at_3) rfl (l' := #[.val (.int p1), .val (.int p2), .val (.int (0 : Int32)), .unset, .unset, .unset, .unset]) rfl ?_
    show Steps p.tables e below (s₁.setTop (mkF m 4 #[.val (.int p1), .val (.int p2), .val (.int (0 : Int32)), .unset, .unset, .unset, .unset] [])) _
    refine XS.iloadN X0.here hx rfl (hb hby at_4) rfl ?_
    show Steps p.tables e below (s₁.setTop (mkF m 5 #[.val (.int p1), .val (.int p2), .val (.int (0 : Int32)), .unset, .unset, .unset, .unset] [(.int p2)])) _
    refine XT.iconstV X0.here hx rfl (1 : Int32) (hb hby at_5) (by decide) ?_
    show Steps p.tables e below (s₁.setTop (mkF m 6 #[.val (.int p1), .val (.int p2), .val (.int (0 : Int32)), .unset, .unset, .unset, .unset] [(.int (1 : Int32)), (.int p2)])) _
    refine XS.iand X0.here hx rfl (hb hby at_6) rfl ?_
    show Steps p.tables e below (s₁.setTop (mkF m 7 #[.val (.int p1), .val (.int p2), .val (.int (0 : Int32)), .unset, .unset, .unset, .unset] [(.int (p2 &&& (1 : Int32)))])) _
    rw [hb0]
    show Steps p.tables e below (s₁.setTop (mkF m 7 #[.val (.int p1), .val (.int p2), .val (.int (0 : Int32)), .unset, .unset, .unset, .unset] [(.int (1 : Int32))])) _
    refine XS.ifNo X0.here hx rfl (hb hby at_7) rfl (by decide) ?_
    show Steps p.tables e below (s₁.setTop (mkF m 10 #[.val (.int p1), .val (.int p2), .val (.int (0 : Int32)), .unset, .unset, .unset, .unset] [])) _
    refine XT.iconstV X0.here hx rfl (1 : Int32) (hb hby at_10) (by decide) ?_
    show Steps p.tables e below (s₁.setTop (mkF m 11 #[.val (.int p1), .val (.int p2), .val (.int (0 : Int32)), .unset, .unset, .unset, .unset] [(.int (1 : Int32))])) _
    refine XS.goto X0.here hx rfl (pc0 := 11) (pc' := 15) rfl (hb hby at_11) (by decide) (by decide) ?_
    show Steps p.tables e below (s₁.setTop (mkF m 15 #[.val (.int p1), .val (.int p2), .val (.int (0 : Int32)), .unset, .unset, .unset, .unset] [(.int (1 : Int32))])) _
    refine XS.istoreN X0.here hx rfl (hb hby at_15) rfl (l' := #[.val (.int p1), .val (.int p2), .val (.int (0 : Int32)), .val (.int (1 : Int32)), .unset, .unset, .unset]) rfl ?_
    show Steps p.tables e below (s₁.setTop (mkF m 16 #[.val (.int p1), .val (.int p2), .val (.int (0 : Int32)), .val (.int (1 : Int32)), .unset, .unset, .unset] [])) _
    refine XS.iloadN X0.here hx rfl (hb hby at_16) rfl ?_
    show Steps p.tables e below (s₁.setTop (mkF m 17 #[.val (.int p1), .val (.int p2), .val (.int (0 : Int32)), .val (.int (1 : Int32)), .unset, .unset, .unset] [(.int (0 : Int32))])) _
    refine st1 _ ?_
    show Steps p.tables e below (T1.setTop (mkF m 20 #[.val (.int p1), .val (.int p2), .val (.int (0 : Int32)), .val (.int (1 : Int32)), .unset, .unset, .unset] [(.ref u0)])) _
    refine XS.astore X1.here hx rfl (hb hby at_20) rfl rfl (l' := #[.val (.int p1), .val (.int p2), .val (.int (0 : Int32)), .val (.int (1 : Int32)), .val (.ref u0), .unset, .unset]) rfl ?_
    show Steps p.tables e below (T1.setTop (mkF m 22 #[.val (.int p1), .val (.int p2), .val (.int (0 : Int32)), .val (.int (1 : Int32)), .val (.ref u0), .unset, .unset] [])) _
    refine XS.iloadN X1.here hx rfl (hb hby at_22) rfl ?_
    show Steps p.tables e below (T1.setTop (mkF m 23 #[.val (.int p1), .val (.int p2), .val (.int (0 : Int32)), .val (.int (1 : Int32)), .val (.ref u0), .unset, .unset] [(.int (0 : Int32))])) _
    refine XS.iloadN X1.here hx rfl (hb hby at_23) rfl ?_
    show Steps p.tables e below (T1.setTop (mkF m 24 #[.val (.int p1), .val (.int p2), .val (.int (0 : Int32)), .val (.int (1 : Int32)), .val (.ref u0), .unset, .unset] [(.int (1 : Int32)), (.int (0 : Int32))])) _
    refine st2 _ ?_
    show Steps p.tables e below (T2.setTop (mkF m 27 #[.val (.int p1), .val (.int p2), .val (.int (0 : Int32)), .val (.int (1 : Int32)), .val (.ref u0), .unset, .unset] [(.ref b0)])) _
    refine XS.astore X2.here hx rfl (hb hby at_27) rfl rfl (l' := #[.val (.int p1), .val (.int p2), .val (.int (0 : Int32)), .val (.int (1 : Int32)), .val (.ref u0), .val (.ref b0), .unset]) rfl ?_
    show Steps p.tables e below (T2.setTop (mkF m 29 #[.val (.int p1), .val (.int p2), .val (.int (0 : Int32)), .val (.int (1 : Int32)), .val (.ref u0), .val (.ref b0), .unset] [])) _
    refine XS.aload X2.here hx rfl (hb hby at_29) rfl rfl ?_
    show Steps p.tables e below (T2.setTop (mkF m 31 #[.val (.int p1), .val (.int p2), .val (.int (0 : Int32)), .val (.int (1 : Int32)), .val (.ref u0), .val (.ref b0), .unset] [(.ref u0)])) _
    refine XS.iloadN X2.here hx rfl (hb hby at_31) rfl ?_
    show Steps p.tables e below (T2.setTop (mkF m 32 #[.val (.int p1), .val (.int p2), .val (.int (0 : Int32)), .val (.int (1 : Int32)), .val (.ref u0), .val (.ref b0), .unset] [(.int (1 : Int32)), (.ref u0)])) _
    refine st3 _ ?_
    show Steps p.tables e below (T3.setTop (mkF m 35 #[.val (.int p1), .val (.int p2), .val (.int (0 : Int32)), .val (.int (1 : Int32)), .val (.ref u0), .val (.ref b0), .unset] [(.ref b0)])) _
    refine XS.astore X3.here hx rfl (hb hby at_35) rfl rfl (l' := #[.val (.int p1), .val (.int p2), .val (.int (0 : Int32)), .val (.int (1 : Int32)), .val (.ref u0), .val (.ref b0), .val (.ref b0)]) rfl ?_
    show Steps p.tables e below (T3.setTop (mkF m 37 #[.val (.int p1), .val (.int p2), .val (.int (0 : Int32)), .val (.int (1 : Int32)), .val (.ref u0), .val (.ref b0), .val (.ref b0)] [])) _
    refine XS.aload X3.here hx rfl (hb hby at_37) rfl rfl ?_
    show Steps p.tables e below (T3.setTop (mkF m 39 #[.val (.int p1), .val (.int p2), .val (.int (0 : Int32)), .val (.int (1 : Int32)), .val (.ref u0), .val (.ref b0), .val (.ref b0)] [(.ref b0)])) _
    refine XS.aload X3.here hx rfl (hb hby at_39) rfl rfl ?_
    show Steps p.tables e below (T3.setTop (mkF m 41 #[.val (.int p1), .val (.int p2), .val (.int (0 : Int32)), .val (.int (1 : Int32)), .val (.ref u0), .val (.ref b0), .val (.ref b0)] [(.ref b0), (.ref b0)])) _
    refine acmp X3 hx rfl rfl rfl (pc0 := 41) (pc' := 44) (same := true) rfl (hb hby at_41) rfl (decide_eq_true rfl) (by decide) (by decide) ?_
    show Steps p.tables e below (T3.setTop (mkF m 44 #[.val (.int p1), .val (.int p2), .val (.int (0 : Int32)), .val (.int (1 : Int32)), .val (.ref u0), .val (.ref b0), .val (.ref b0)] [])) _
    refine XT.iconstV X3.here hx rfl (1 : Int32) (hb hby at_44) (by decide) ?_
    show Steps p.tables e below (T3.setTop (mkF m 45 #[.val (.int p1), .val (.int p2), .val (.int (0 : Int32)), .val (.int (1 : Int32)), .val (.ref u0), .val (.ref b0), .val (.ref b0)] [(.int (1 : Int32))])) _
    refine XS.goto X3.here hx rfl (pc0 := 45) (pc' := 49) rfl (hb hby at_45) (by decide) (by decide) ?_
    show Steps p.tables e below (T3.setTop (mkF m 49 #[.val (.int p1), .val (.int p2), .val (.int (0 : Int32)), .val (.int (1 : Int32)), .val (.ref u0), .val (.ref b0), .val (.ref b0)] [(.int (1 : Int32))])) _
    exact retN X3 hx (t := .boolean) Bd.returns (by simp) (hb hby at_49) hr
  · exact ⟨rfl, N3, trivial⟩
theorem d_method_2_code_8 : decode method_2_code 8 = .ok (.iload_n 0, 1) := by decide +kernel
theorem d_method_2_code_9 : decode method_2_code 9 = .ok (.iconst 1, 1) := by decide +kernel
theorem d_method_2_code_10 : decode method_2_code 10 = .ok (.if_icmp .ne 7, 3) := by decide +kernel
theorem d_method_2_code_13 : decode method_2_code 13 = .ok (.getstatic 13, 3) := by decide +kernel
theorem d_method_2_code_16 : decode method_2_code 16 = .ok (.areturn, 1) := by decide +kernel
def Q_wof_1 (Z : State) (u1 : Addr) (h0 : Heap) (n0 : Nat) (v : Option Value) (h : Heap) (L : List Loc) : Prop := v = some (.ref u1) ∧ Fr n0 L ∧ h = h0
set_option maxRecDepth 65536 in
set_option maxHeartbeats 40000000 in
theorem wof_1 (l : Launch) (Z : State) (a0 : Array Value) (hw : ∀ d ∈ tables_1, d.before a0 Z = true) (ws : List Jvm.Cond) (u1 : Addr) (h0 : Heap) (n0 : Nat) (Z0 : n0 ≤ h0.size) (Su1 : Sta Z h0 "com/example/innesco/innesco/database/Write" "UPDATE" "Lcom/example/innesco/innesco/database/Write;" (.ref u1)) :
    MetFree l (⟨"com/example/innesco/innesco/database/TriggerEventOfPinLaw", "writeOf", "(I)Lcom/example/innesco/innesco/database/Write;"⟩ : MethodName) (head1 (Jvm.Cond.code (⟨"com/example/innesco/innesco/database/TriggerEventOfPinLaw", "writeOf", "(I)Lcom/example/innesco/innesco/database/Write;"⟩ : MethodName) method_2_code 1 (Option.some (Jvm.ClassFile.FieldType.object "com/example/innesco/innesco/database/Write")) :: ws) ({ frames := 0, cells := 0, slots := 0, locals := 0 } : Room)) (fun a U => a = #[(.int (1 : Int32))] ∧ Z.Warmed39 U.vm ∧ U.heap = h0) (fun _ _ _ _ _ => True) (fun _ U o U' => ∃ v L, o = .returned v ∧ Q_wof_1 Z u1 h0 n0 v U'.heap L ∧ FrameEnd U o U' L ({ frames := 0, cells := 0, slots := 0, locals := 0 } : Room).cells ({ frames := 0, cells := 0, slots := 0, locals := 0 } : Room).slots) := by
  refine MetFree.of_bodySF (plainFor_of_name pn_11) hisR ?_
  intro p e s m args below meth c s₁ Bd hml0 hP hK
  obtain ⟨rfl, hZ, hh⟩ := hP
  have hx := Bd.exec
  have hby := Bd.bytes
  have hml : c.maxLocals = 1 := hml0
  have hown : s.vm.findClass "com/example/innesco/innesco/database/TriggerEventOfPinLaw" = some m.cls := findClass_of_methodNamed Bd.named
  have hnm := (name_of_methodNamed Bd.named Bd.method).1
  have X0 : Stand p l e ({ frames := 0, cells := 0, slots := 0, locals := 0 } : Room) s m #[(.int (1 : Int32))] below meth c s₁ [] 0 0 := Stand.of_body Bd
  have e0 : s₁.heap = h0 := by rw [← hh, Bd.state]; rfl
  have N0 := Fr.nil n0
  have pre0 : ∀ t, Steps p.tables e below (s₁.setTop (mkF m 0 #[.val (.int (1 : Int32))] [])) t → Steps p.tables e below (s₁.setTop (entryFrame m #[(.int (1 : Int32))] 1)) t := fun t k => castTop (ef_10 m (1 : Int32)) k
  obtain ⟨T1, X1, e1, st1⟩ := getS X0 hx hZ (host := "") hown (hw _ (List.mem_of_getElem? (i := 46) rfl)) Via.refl e0 Su1 (g := (mkF m 13 #[.val (.int (1 : Int32))] [])) rfl (hb hby d_method_2_code_13)
  obtain ⟨fs, hr, hrun, hended, hW, hsame⟩ := X1.leave (v := some (.ref u1)) (fun h => by rw [Bd.returns] at h; cases h)
  refine ⟨_, _, pre0 _ ?_, hrun, hended, _, _, rfl, ?_, ⟨_, rfl⟩, hW, hsame.mono (by decide) (by decide)⟩
  · show Steps p.tables e below (s₁.setTop (mkF m 0 #[.val (.int (1 : Int32))] [])) _
    refine XS.iloadN X0.here hx rfl (hb hby d_method_2_code_0) rfl ?_
    show Steps p.tables e below (s₁.setTop (mkF m 1 #[.val (.int (1 : Int32))] [(.int (1 : Int32))])) _
    refine XS.ifYes X0.here hx rfl (pc0 := 1) (pc' := 8) rfl (hb hby d_method_2_code_1) rfl (by decide) (by decide) (by decide) ?_
    show Steps p.tables e below (s₁.setTop (mkF m 8 #[.val (.int (1 : Int32))] [])) _
    refine XS.iloadN X0.here hx rfl (hb hby d_method_2_code_8) rfl ?_
    show Steps p.tables e below (s₁.setTop (mkF m 9 #[.val (.int (1 : Int32))] [(.int (1 : Int32))])) _
    refine XT.iconstV X0.here hx rfl (1 : Int32) (hb hby d_method_2_code_9) (by decide) ?_
    show Steps p.tables e below (s₁.setTop (mkF m 10 #[.val (.int (1 : Int32))] [(.int (1 : Int32)), (.int (1 : Int32))])) _
    refine XS.icmpNo X0.here hx rfl (hb hby d_method_2_code_10) rfl (by decide) ?_
    show Steps p.tables e below (s₁.setTop (mkF m 13 #[.val (.int (1 : Int32))] [])) _
    refine st1 _ ?_
    show Steps p.tables e below (T1.setTop (mkF m 16 #[.val (.int (1 : Int32))] [(.ref u1)])) _
    exact retOut X1 hx Bd.returns rfl (Or.inr (Or.inr (Or.inr (Or.inr ⟨rfl, rfl, rfl⟩)))) (hb hby d_method_2_code_16) hr
  · exact ⟨rfl, N0, e1⟩
def Q_of_1_0 (Z : State) (aV : Addr) (kV : ClassId) (b0 b1 b2 b3 b4 b5 b6 : Addr) (u0 u1 u2 u3 : Addr) (h0 : Heap) (n0 : Nat) (v : Option Value) (h : Heap) (L : List Loc) : Prop := v = some (.ref b3) ∧ Fr n0 L ∧ Ext h0 h
set_option maxRecDepth 65536 in
set_option maxHeartbeats 40000000 in
theorem of_1_0 (l : Launch) (Z : State) (a0 : Array Value) (hw : ∀ d ∈ tables_1, d.before a0 Z = true) (ws : List Jvm.Cond) (aV : Addr) (kV : ClassId) (b0 b1 b2 b3 b4 b5 b6 : Addr) (u0 u1 u2 u3 : Addr) (h0 : Heap) (n0 : Nat) (Z0 : n0 ≤ h0.size) (SaV : Sta Z h0 "com/example/innesco/innesco/database/TriggerEvent" "$VALUES" "[Lcom/example/innesco/innesco/database/TriggerEvent;" (.ref aV)) (VaV : Arv Z h0 aV kV (.object "com/example/innesco/innesco/database/TriggerEvent") (7 : Int32) [(.ref b0), (.ref b1), (.ref b2), (.ref b3), (.ref b4), (.ref b5), (.ref b6)] .null) (EaV : Exa Z h0 aV "[Lcom/example/innesco/innesco/database/TriggerEvent;")(Fw0 : Fld Z h0 b0 "com/example/innesco/innesco/database/TriggerEvent" "write" "Lcom/example/innesco/innesco/database/Write;" (.ref u0))(Fw1 : Fld Z h0 b1 "com/example/innesco/innesco/database/TriggerEvent" "write" "Lcom/example/innesco/innesco/database/Write;" (.ref u0))(Fw2 : Fld Z h0 b2 "com/example/innesco/innesco/database/TriggerEvent" "write" "Lcom/example/innesco/innesco/database/Write;" (.ref u1))(Fw3 : Fld Z h0 b3 "com/example/innesco/innesco/database/TriggerEvent" "write" "Lcom/example/innesco/innesco/database/Write;" (.ref u1))(Fw4 : Fld Z h0 b4 "com/example/innesco/innesco/database/TriggerEvent" "write" "Lcom/example/innesco/innesco/database/Write;" (.ref u2))(Fw5 : Fld Z h0 b5 "com/example/innesco/innesco/database/TriggerEvent" "write" "Lcom/example/innesco/innesco/database/Write;" (.ref u2))(Fw6 : Fld Z h0 b6 "com/example/innesco/innesco/database/TriggerEvent" "write" "Lcom/example/innesco/innesco/database/Write;" (.ref u3))(Fb0 : Fld Z h0 b0 "com/example/innesco/innesco/database/TriggerEvent" "before" "Z" (.int (1 : Int32)))(Fb1 : Fld Z h0 b1 "com/example/innesco/innesco/database/TriggerEvent" "before" "Z" (.int (0 : Int32)))(Fb2 : Fld Z h0 b2 "com/example/innesco/innesco/database/TriggerEvent" "before" "Z" (.int (1 : Int32)))(Fb3 : Fld Z h0 b3 "com/example/innesco/innesco/database/TriggerEvent" "before" "Z" (.int (0 : Int32)))(Fb4 : Fld Z h0 b4 "com/example/innesco/innesco/database/TriggerEvent" "before" "Z" (.int (1 : Int32)))(Fb5 : Fld Z h0 b5 "com/example/innesco/innesco/database/TriggerEvent" "before" "Z" (.int (0 : Int32)))(Fb6 : Fld Z h0 b6 "com/example/innesco/innesco/database/TriggerEvent" "before" "Z" (.int (0 : Int32)))(ne01 : u0 ≠ u1)(ne02 : u0 ≠ u2)(ne03 : u0 ≠ u3)(ne12 : u1 ≠ u2)(ne13 : u1 ≠ u3)(ne23 : u2 ≠ u3) :
    MetFree l (⟨"com/example/innesco/innesco/database/TriggerEvent", "of", "(Lcom/example/innesco/innesco/database/Write;Z)Lcom/example/innesco/innesco/database/TriggerEvent;"⟩ : MethodName) (head1 (Jvm.Cond.code (⟨"com/example/innesco/innesco/database/TriggerEvent", "of", "(Lcom/example/innesco/innesco/database/Write;Z)Lcom/example/innesco/innesco/database/TriggerEvent;"⟩ : MethodName) prog_14_method_6_code 6 (Option.some (Jvm.ClassFile.FieldType.object "com/example/innesco/innesco/database/TriggerEvent")) :: ws) ({ frames := 2, cells := 1, slots := 7, locals := 25 } : Room)) (fun a U => a = #[(.ref u1), (.int (0 : Int32))] ∧ Z.Warmed39 U.vm ∧ U.heap = h0) (fun _ _ _ _ _ => True) (fun _ U o U' => ∃ v L, o = .returned v ∧ Q_of_1_0 Z aV kV b0 b1 b2 b3 b4 b5 b6 u0 u1 u2 u3 h0 n0 v U'.heap L ∧ FrameEnd U o U' L ({ frames := 2, cells := 1, slots := 7, locals := 25 } : Room).cells ({ frames := 2, cells := 1, slots := 7, locals := 25 } : Room).slots) := by
  refine MetFree.of_bodySF (plainFor_of_name pn_5) hisR ?_
  intro p e s m args below meth c s₁ Bd hml0 hP hK
  obtain ⟨rfl, hZ, hh⟩ := hP
  have hx := Bd.exec
  have hby := Bd.bytes
  have hml : c.maxLocals = 6 := hml0
  have hown : s.vm.findClass "com/example/innesco/innesco/database/TriggerEvent" = some m.cls := findClass_of_methodNamed Bd.named
  have hnm := (name_of_methodNamed Bd.named Bd.method).1
  have X0 : Stand p l e ({ frames := 2, cells := 1, slots := 7, locals := 25 } : Room) s m #[(.ref u1), (.int (0 : Int32))] below meth c s₁ [] 0 0 := Stand.of_body Bd
  have e0 : s₁.heap = h0 := by rw [← hh, Bd.state]; rfl
  have N0 := Fr.nil n0
  have pre0 : ∀ t, Steps p.tables e below (s₁.setTop (mkF m 0 #[.val (.ref u1), .val (.int (0 : Int32)), .unset, .unset, .unset, .unset] [])) t → Steps p.tables e below (s₁.setTop (entryFrame m #[(.ref u1), (.int (0 : Int32))] 6)) t := fun t k => castTop (ef_39 m u1 (0 : Int32)) k
  obtain ⟨_, _, ⟨T1, L1, k1, n1⟩, -, X1, ⟨Lc1, hQ1, l1, y1, z1⟩, st1⟩ := Jvm.LawKit.callS X0 hx (y := (⟨"com/example/innesco/innesco/database/TriggerEvent", "values", "()[Lcom/example/innesco/innesco/database/TriggerEvent;"⟩ : MethodName)) hown (mvT hZ (hw _ (List.mem_of_getElem? (i := 16) rfl))) (mvT hZ (hw _ (List.mem_of_getElem? (i := 17) rfl))) (mvT hZ (hw _ (List.mem_of_getElem? (i := 11) rfl))) (mvT hZ (hw _ (List.mem_of_getElem? (i := 18) rfl))) (by decide) (backOf (W := 0) (values_0 l Z a0 hw [] aV kV b0 b1 b2 b3 b4 b5 b6 h0 n0 Z0 SaV VaV EaV) hZ (hw _ (List.mem_of_getElem? (i := 18) rfl)) (hw _ (List.mem_of_getElem? (i := 11) rfl)) (by decide) (by decide)) (g := (mkF m 0 #[.val (.ref u1), .val (.int (0 : Int32)), .unset, .unset, .unset, .unset] [])) rfl (by rw [hml]; rfl) (argsL := []) (rest := []) (lenOf pd_13 rfl) rfl (by show 2 * 0 + _ ≤ _; exact Nat.le_of_eq rfl) (hb hby d_prog_14_method_6_code_0) (fun _ _ => ⟨rfl, e0, (by decide : 0 + 1 ≤ _), (by decide : 0 + 7 ≤ _)⟩)
  dsimp only [Pt.U, Pt.locs, Pt.cells, Pt.slots] at X1 l1 y1 z1 st1 hQ1
  subst l1 y1 z1
  obtain ⟨rfl, N1q, Ex1, V1⟩ := hQ1
  have N1 := Fr.app N0 N1q
  obtain ⟨cl, Ar, -, Sz, Ng, Hs, -⟩ := V1
  have hlen : cl.slots.size.toInt32 = (7 : Int32) := len_of Sz Ng
  obtain ⟨T2, X2, e2, st2⟩ := getF X1 hx hZ hown (host := "") (Or.inl (hw _ (List.mem_of_getElem? (i := 37) rfl))) Via.refl rfl (Fw0.ext Ex1) (g := (mkF m 24 #[.val (.ref u1), .val (.int (0 : Int32)), .val (.ref h0.size), .val (.int (7 : Int32)), .val (.int (0 : Int32)), .val (.ref b0)] [(.ref b0)])) rfl rfl (hb hby d_prog_14_method_6_code_24)
  obtain ⟨T3, X3, e3, st3⟩ := getF X2 hx hZ hown (host := "") (Or.inl (hw _ (List.mem_of_getElem? (i := 37) rfl))) Via.refl e2 (Fw1.ext Ex1) (g := (mkF m 24 #[.val (.ref u1), .val (.int (0 : Int32)), .val (.ref h0.size), .val (.int (7 : Int32)), .val (.int (1 : Int32)), .val (.ref b1)] [(.ref b1)])) rfl rfl (hb hby d_prog_14_method_6_code_24)
  obtain ⟨T4, X4, e4, st4⟩ := getF X3 hx hZ hown (host := "") (Or.inl (hw _ (List.mem_of_getElem? (i := 37) rfl))) Via.refl e3 (Fw2.ext Ex1) (g := (mkF m 24 #[.val (.ref u1), .val (.int (0 : Int32)), .val (.ref h0.size), .val (.int (7 : Int32)), .val (.int (2 : Int32)), .val (.ref b2)] [(.ref b2)])) rfl rfl (hb hby d_prog_14_method_6_code_24)
  obtain ⟨T5, X5, e5, st5⟩ := getF X4 hx hZ hown (host := "") (Or.inl (hw _ (List.mem_of_getElem? (i := 39) rfl))) Via.refl e4 (Fb2.ext Ex1) (g := (mkF m 33 #[.val (.ref u1), .val (.int (0 : Int32)), .val (.ref h0.size), .val (.int (7 : Int32)), .val (.int (2 : Int32)), .val (.ref b2)] [(.ref b2)])) rfl rfl (hb hby d_prog_14_method_6_code_33)
  obtain ⟨T6, X6, e6, st6⟩ := getF X5 hx hZ hown (host := "") (Or.inl (hw _ (List.mem_of_getElem? (i := 37) rfl))) Via.refl e5 (Fw3.ext Ex1) (g := (mkF m 24 #[.val (.ref u1), .val (.int (0 : Int32)), .val (.ref h0.size), .val (.int (7 : Int32)), .val (.int (3 : Int32)), .val (.ref b3)] [(.ref b3)])) rfl rfl (hb hby d_prog_14_method_6_code_24)
  obtain ⟨T7, X7, e7, st7⟩ := getF X6 hx hZ hown (host := "") (Or.inl (hw _ (List.mem_of_getElem? (i := 39) rfl))) Via.refl e6 (Fb3.ext Ex1) (g := (mkF m 33 #[.val (.ref u1), .val (.int (0 : Int32)), .val (.ref h0.size), .val (.int (7 : Int32)), .val (.int (3 : Int32)), .val (.ref b3)] [(.ref b3)])) rfl rfl (hb hby d_prog_14_method_6_code_33)
  obtain ⟨fs, hr, hrun, hended, hW, hsame⟩ := X7.leave (v := some (.ref b3)) (fun h => by rw [Bd.returns] at h; cases h)
  refine ⟨_, _, pre0 _ ?_, hrun, hended, _, _, rfl, ?_, ⟨_, rfl⟩, hW, hsame.mono (by decide) (by decide)⟩
  · show Steps p.tables e below (s₁.setTop (mkF m 0 #[.val (.ref u1), .val (.int (0 : Int32)), .unset, .unset, .unset, .unset] [])) _
    refine st1 _ ?_
    show Steps p.tables e below (T1.setTop (mkF m 3 #[.val (.ref u1), .val (.int (0 : Int32)), .unset, .unset, .unset, .unset] [(.ref h0.size)])) _
    refine XS.astoreN X1.here hx rfl (hb hby d_prog_14_method_6_code_3) rfl rfl (l' := #[.val (.ref u1), .val (.int (0 : Int32)), .val (.ref h0.size), .unset, .unset, .unset]) rfl ?_
    show Steps p.tables e below (T1.setTop (mkF m 4 #[.val (.ref u1), .val (.int (0 : Int32)), .val (.ref h0.size), .unset, .unset, .unset] [])) _
    refine XS.aloadN X1.here hx rfl (hb hby d_prog_14_method_6_code_4) rfl rfl ?_
    show Steps p.tables e below (T1.setTop (mkF m 5 #[.val (.ref u1), .val (.int (0 : Int32)), .val (.ref h0.size), .unset, .unset, .unset] [(.ref h0.size)])) _
    refine X1.arraylength hx (by first | exact Ar.1 | (rw [rfl]; exact Ar.1)) (State.isArrayOf_alike hZ.alike Ar.2.1) (g := (mkF m 5 #[.val (.ref u1), .val (.int (0 : Int32)), .val (.ref h0.size), .unset, .unset, .unset] [(.ref h0.size)])) rfl rfl (hb hby d_prog_14_method_6_code_5) _ ?_
    show Steps p.tables e below (T1.setTop (mkF m 6 #[.val (.ref u1), .val (.int (0 : Int32)), .val (.ref h0.size), .unset, .unset, .unset] [(.int cl.slots.size.toInt32)])) _
    rw [hlen]
    show Steps p.tables e below (T1.setTop (mkF m 6 #[.val (.ref u1), .val (.int (0 : Int32)), .val (.ref h0.size), .unset, .unset, .unset] [(.int (7 : Int32))])) _
    refine XS.istoreN X1.here hx rfl (hb hby d_prog_14_method_6_code_6) rfl (l' := #[.val (.ref u1), .val (.int (0 : Int32)), .val (.ref h0.size), .val (.int (7 : Int32)), .unset, .unset]) rfl ?_
    show Steps p.tables e below (T1.setTop (mkF m 7 #[.val (.ref u1), .val (.int (0 : Int32)), .val (.ref h0.size), .val (.int (7 : Int32)), .unset, .unset] [])) _
    refine XT.iconstV X1.here hx rfl (0 : Int32) (hb hby d_prog_14_method_6_code_7) (by decide) ?_
    show Steps p.tables e below (T1.setTop (mkF m 8 #[.val (.ref u1), .val (.int (0 : Int32)), .val (.ref h0.size), .val (.int (7 : Int32)), .unset, .unset] [(.int (0 : Int32))])) _
    refine XS.istore X1.here hx rfl (hb hby d_prog_14_method_6_code_8) rfl (l' := #[.val (.ref u1), .val (.int (0 : Int32)), .val (.ref h0.size), .val (.int (7 : Int32)), .val (.int (0 : Int32)), .unset]) rfl ?_
    show Steps p.tables e below (T1.setTop (mkF m 10 #[.val (.ref u1), .val (.int (0 : Int32)), .val (.ref h0.size), .val (.int (7 : Int32)), .val (.int (0 : Int32)), .unset] [])) _
    refine XS.iload X1.here hx rfl (hb hby d_prog_14_method_6_code_10) rfl ?_
    show Steps p.tables e below (T1.setTop (mkF m 12 #[.val (.ref u1), .val (.int (0 : Int32)), .val (.ref h0.size), .val (.int (7 : Int32)), .val (.int (0 : Int32)), .unset] [(.int (0 : Int32))])) _
    refine XS.iloadN X1.here hx rfl (hb hby d_prog_14_method_6_code_12) rfl ?_
    show Steps p.tables e below (T1.setTop (mkF m 13 #[.val (.ref u1), .val (.int (0 : Int32)), .val (.ref h0.size), .val (.int (7 : Int32)), .val (.int (0 : Int32)), .unset] [(.int (7 : Int32)), (.int (0 : Int32))])) _
    refine XS.icmpNo X1.here hx rfl (hb hby d_prog_14_method_6_code_13) rfl (by decide) ?_
    show Steps p.tables e below (T1.setTop (mkF m 16 #[.val (.ref u1), .val (.int (0 : Int32)), .val (.ref h0.size), .val (.int (7 : Int32)), .val (.int (0 : Int32)), .unset] [])) _
    refine XS.aloadN X1.here hx rfl (hb hby d_prog_14_method_6_code_16) rfl rfl ?_
    show Steps p.tables e below (T1.setTop (mkF m 17 #[.val (.ref u1), .val (.int (0 : Int32)), .val (.ref h0.size), .val (.int (7 : Int32)), .val (.int (0 : Int32)), .unset] [(.ref h0.size)])) _
    refine XS.iload X1.here hx rfl (hb hby d_prog_14_method_6_code_17) rfl ?_
    show Steps p.tables e below (T1.setTop (mkF m 19 #[.val (.ref u1), .val (.int (0 : Int32)), .val (.ref h0.size), .val (.int (7 : Int32)), .val (.int (0 : Int32)), .unset] [(.int (0 : Int32)), (.ref h0.size)])) _
    refine X1.aaload hx (j := (0 : Int32)) (v := (.ref b0)) (by first | exact Ar.1 | (rw [rfl]; exact Ar.1)) (State.isArrayOf_alike hZ.alike Ar.2.1) rfl Ar.2.2 (inb_of Sz ⟨by decide, by decide⟩) (Hs.at (inb_of Sz ⟨by decide, by decide⟩) rfl) (g := (mkF m 19 #[.val (.ref u1), .val (.int (0 : Int32)), .val (.ref h0.size), .val (.int (7 : Int32)), .val (.int (0 : Int32)), .unset] [(.int (0 : Int32)), (.ref h0.size)])) rfl rfl (hb hby d_prog_14_method_6_code_19) _ ?_
    show Steps p.tables e below (T1.setTop (mkF m 20 #[.val (.ref u1), .val (.int (0 : Int32)), .val (.ref h0.size), .val (.int (7 : Int32)), .val (.int (0 : Int32)), .unset] [(.ref b0)])) _
    refine XS.astore X1.here hx rfl (hb hby d_prog_14_method_6_code_20) rfl rfl (l' := #[.val (.ref u1), .val (.int (0 : Int32)), .val (.ref h0.size), .val (.int (7 : Int32)), .val (.int (0 : Int32)), .val (.ref b0)]) rfl ?_
    show Steps p.tables e below (T1.setTop (mkF m 22 #[.val (.ref u1), .val (.int (0 : Int32)), .val (.ref h0.size), .val (.int (7 : Int32)), .val (.int (0 : Int32)), .val (.ref b0)] [])) _
    refine XS.aload X1.here hx rfl (hb hby d_prog_14_method_6_code_22) rfl rfl ?_
    show Steps p.tables e below (T1.setTop (mkF m 24 #[.val (.ref u1), .val (.int (0 : Int32)), .val (.ref h0.size), .val (.int (7 : Int32)), .val (.int (0 : Int32)), .val (.ref b0)] [(.ref b0)])) _
    refine st2 _ ?_
    show Steps p.tables e below (T2.setTop (mkF m 27 #[.val (.ref u1), .val (.int (0 : Int32)), .val (.ref h0.size), .val (.int (7 : Int32)), .val (.int (0 : Int32)), .val (.ref b0)] [(.ref u0)])) _
    refine XS.aloadN X2.here hx rfl (hb hby d_prog_14_method_6_code_27) rfl rfl ?_
    show Steps p.tables e below (T2.setTop (mkF m 28 #[.val (.ref u1), .val (.int (0 : Int32)), .val (.ref h0.size), .val (.int (7 : Int32)), .val (.int (0 : Int32)), .val (.ref b0)] [(.ref u1), (.ref u0)])) _
    refine acmp X2 hx rfl rfl rfl (pc0 := 28) (pc' := 43) (same := false) rfl (hb hby d_prog_14_method_6_code_28) rfl (decide_eq_false fun q => ne01 (Value.ref.inj q)) (by decide) (by decide) ?_
    show Steps p.tables e below (T2.setTop (mkF m 43 #[.val (.ref u1), .val (.int (0 : Int32)), .val (.ref h0.size), .val (.int (7 : Int32)), .val (.int (0 : Int32)), .val (.ref b0)] [])) _
    refine XT.iincV X2.here hx rfl (1 : Int32) (hb hby d_prog_14_method_6_code_43) (by decide) rfl (l' := #[.val (.ref u1), .val (.int (0 : Int32)), .val (.ref h0.size), .val (.int (7 : Int32)), .val (.int (1 : Int32)), .val (.ref b0)]) rfl ?_
    show Steps p.tables e below (T2.setTop (mkF m 46 #[.val (.ref u1), .val (.int (0 : Int32)), .val (.ref h0.size), .val (.int (7 : Int32)), .val (.int (1 : Int32)), .val (.ref b0)] [])) _
    refine XS.goto X2.here hx rfl (pc0 := 46) (pc' := 10) rfl (hb hby d_prog_14_method_6_code_46) (by decide) (by decide) ?_
    show Steps p.tables e below (T2.setTop (mkF m 10 #[.val (.ref u1), .val (.int (0 : Int32)), .val (.ref h0.size), .val (.int (7 : Int32)), .val (.int (1 : Int32)), .val (.ref b0)] [])) _
    refine XS.iload X2.here hx rfl (hb hby d_prog_14_method_6_code_10) rfl ?_
    show Steps p.tables e below (T2.setTop (mkF m 12 #[.val (.ref u1), .val (.int (0 : Int32)), .val (.ref h0.size), .val (.int (7 : Int32)), .val (.int (1 : Int32)), .val (.ref b0)] [(.int (1 : Int32))])) _
    refine XS.iloadN X2.here hx rfl (hb hby d_prog_14_method_6_code_12) rfl ?_
    show Steps p.tables e below (T2.setTop (mkF m 13 #[.val (.ref u1), .val (.int (0 : Int32)), .val (.ref h0.size), .val (.int (7 : Int32)), .val (.int (1 : Int32)), .val (.ref b0)] [(.int (7 : Int32)), (.int (1 : Int32))])) _
    refine XS.icmpNo X2.here hx rfl (hb hby d_prog_14_method_6_code_13) rfl (by decide) ?_
    show Steps p.tables e below (T2.setTop (mkF m 16 #[.val (.ref u1), .val (.int (0 : Int32)), .val (.ref h0.size), .val (.int (7 : Int32)), .val (.int (1 : Int32)), .val (.ref b0)] [])) _
    refine XS.aloadN X2.here hx rfl (hb hby d_prog_14_method_6_code_16) rfl rfl ?_
    show Steps p.tables e below (T2.setTop (mkF m 17 #[.val (.ref u1), .val (.int (0 : Int32)), .val (.ref h0.size), .val (.int (7 : Int32)), .val (.int (1 : Int32)), .val (.ref b0)] [(.ref h0.size)])) _
    refine XS.iload X2.here hx rfl (hb hby d_prog_14_method_6_code_17) rfl ?_
    show Steps p.tables e below (T2.setTop (mkF m 19 #[.val (.ref u1), .val (.int (0 : Int32)), .val (.ref h0.size), .val (.int (7 : Int32)), .val (.int (1 : Int32)), .val (.ref b0)] [(.int (1 : Int32)), (.ref h0.size)])) _
    refine X2.aaload hx (j := (1 : Int32)) (v := (.ref b1)) (by first | exact Ar.1 | (rw [e2]; exact Ar.1)) (State.isArrayOf_alike hZ.alike Ar.2.1) rfl Ar.2.2 (inb_of Sz ⟨by decide, by decide⟩) (Hs.at (inb_of Sz ⟨by decide, by decide⟩) rfl) (g := (mkF m 19 #[.val (.ref u1), .val (.int (0 : Int32)), .val (.ref h0.size), .val (.int (7 : Int32)), .val (.int (1 : Int32)), .val (.ref b0)] [(.int (1 : Int32)), (.ref h0.size)])) rfl rfl (hb hby d_prog_14_method_6_code_19) _ ?_
    show Steps p.tables e below (T2.setTop (mkF m 20 #[.val (.ref u1), .val (.int (0 : Int32)), .val (.ref h0.size), .val (.int (7 : Int32)), .val (.int (1 : Int32)), .val (.ref b0)] [(.ref b1)])) _
    refine XS.astore X2.here hx rfl (hb hby d_prog_14_method_6_code_20) rfl rfl (l' := #[.val (.ref u1), .val (.int (0 : Int32)), .val (.ref h0.size), .val (.int (7 : Int32)), .val (.int (1 : Int32)), .val (.ref b1)]) rfl ?_
    show Steps p.tables e below (T2.setTop (mkF m 22 #[.val (.ref u1), .val (.int (0 : Int32)), .val (.ref h0.size), .val (.int (7 : Int32)), .val (.int (1 : Int32)), .val (.ref b1)] [])) _
    refine XS.aload X2.here hx rfl (hb hby d_prog_14_method_6_code_22) rfl rfl ?_
    show Steps p.tables e below (T2.setTop (mkF m 24 #[.val (.ref u1), .val (.int (0 : Int32)), .val (.ref h0.size), .val (.int (7 : Int32)), .val (.int (1 : Int32)), .val (.ref b1)] [(.ref b1)])) _
    refine st3 _ ?_
    show Steps p.tables e below (T3.setTop (mkF m 27 #[.val (.ref u1), .val (.int (0 : Int32)), .val (.ref h0.size), .val (.int (7 : Int32)), .val (.int (1 : Int32)), .val (.ref b1)] [(.ref u0)])) _
    refine XS.aloadN X3.here hx rfl (hb hby d_prog_14_method_6_code_27) rfl rfl ?_
    show Steps p.tables e below (T3.setTop (mkF m 28 #[.val (.ref u1), .val (.int (0 : Int32)), .val (.ref h0.size), .val (.int (7 : Int32)), .val (.int (1 : Int32)), .val (.ref b1)] [(.ref u1), (.ref u0)])) _
    refine acmp X3 hx rfl rfl rfl (pc0 := 28) (pc' := 43) (same := false) rfl (hb hby d_prog_14_method_6_code_28) rfl (decide_eq_false fun q => ne01 (Value.ref.inj q)) (by decide) (by decide) ?_
    show Steps p.tables e below (T3.setTop (mkF m 43 #[.val (.ref u1), .val (.int (0 : Int32)), .val (.ref h0.size), .val (.int (7 : Int32)), .val (.int (1 : Int32)), .val (.ref b1)] [])) _
    refine XT.iincV X3.here hx rfl (1 : Int32) (hb hby d_prog_14_method_6_code_43) (by decide) rfl (l' := #[.val (.ref u1), .val (.int (0 : Int32)), .val (.ref h0.size), .val (.int (7 : Int32)), .val (.int (2 : Int32)), .val (.ref b1)]) rfl ?_
    show Steps p.tables e below (T3.setTop (mkF m 46 #[.val (.ref u1), .val (.int (0 : Int32)), .val (.ref h0.size), .val (.int (7 : Int32)), .val (.int (2 : Int32)), .val (.ref b1)] [])) _
    refine XS.goto X3.here hx rfl (pc0 := 46) (pc' := 10) rfl (hb hby d_prog_14_method_6_code_46) (by decide) (by decide) ?_
    show Steps p.tables e below (T3.setTop (mkF m 10 #[.val (.ref u1), .val (.int (0 : Int32)), .val (.ref h0.size), .val (.int (7 : Int32)), .val (.int (2 : Int32)), .val (.ref b1)] [])) _
    refine XS.iload X3.here hx rfl (hb hby d_prog_14_method_6_code_10) rfl ?_
    show Steps p.tables e below (T3.setTop (mkF m 12 #[.val (.ref u1), .val (.int (0 : Int32)), .val (.ref h0.size), .val (.int (7 : Int32)), .val (.int (2 : Int32)), .val (.ref b1)] [(.int (2 : Int32))])) _
    refine XS.iloadN X3.here hx rfl (hb hby d_prog_14_method_6_code_12) rfl ?_
    show Steps p.tables e below (T3.setTop (mkF m 13 #[.val (.ref u1), .val (.int (0 : Int32)), .val (.ref h0.size), .val (.int (7 : Int32)), .val (.int (2 : Int32)), .val (.ref b1)] [(.int (7 : Int32)), (.int (2 : Int32))])) _
    refine XS.icmpNo X3.here hx rfl (hb hby d_prog_14_method_6_code_13) rfl (by decide) ?_
    show Steps p.tables e below (T3.setTop (mkF m 16 #[.val (.ref u1), .val (.int (0 : Int32)), .val (.ref h0.size), .val (.int (7 : Int32)), .val (.int (2 : Int32)), .val (.ref b1)] [])) _
    refine XS.aloadN X3.here hx rfl (hb hby d_prog_14_method_6_code_16) rfl rfl ?_
    show Steps p.tables e below (T3.setTop (mkF m 17 #[.val (.ref u1), .val (.int (0 : Int32)), .val (.ref h0.size), .val (.int (7 : Int32)), .val (.int (2 : Int32)), .val (.ref b1)] [(.ref h0.size)])) _
    refine XS.iload X3.here hx rfl (hb hby d_prog_14_method_6_code_17) rfl ?_
    show Steps p.tables e below (T3.setTop (mkF m 19 #[.val (.ref u1), .val (.int (0 : Int32)), .val (.ref h0.size), .val (.int (7 : Int32)), .val (.int (2 : Int32)), .val (.ref b1)] [(.int (2 : Int32)), (.ref h0.size)])) _
    refine X3.aaload hx (j := (2 : Int32)) (v := (.ref b2)) (by first | exact Ar.1 | (rw [e3]; exact Ar.1)) (State.isArrayOf_alike hZ.alike Ar.2.1) rfl Ar.2.2 (inb_of Sz ⟨by decide, by decide⟩) (Hs.at (inb_of Sz ⟨by decide, by decide⟩) rfl) (g := (mkF m 19 #[.val (.ref u1), .val (.int (0 : Int32)), .val (.ref h0.size), .val (.int (7 : Int32)), .val (.int (2 : Int32)), .val (.ref b1)] [(.int (2 : Int32)), (.ref h0.size)])) rfl rfl (hb hby d_prog_14_method_6_code_19) _ ?_
    show Steps p.tables e below (T3.setTop (mkF m 20 #[.val (.ref u1), .val (.int (0 : Int32)), .val (.ref h0.size), .val (.int (7 : Int32)), .val (.int (2 : Int32)), .val (.ref b1)] [(.ref b2)])) _
    refine XS.astore X3.here hx rfl (hb hby d_prog_14_method_6_code_20) rfl rfl (l' := #[.val (.ref u1), .val (.int (0 : Int32)), .val (.ref h0.size), .val (.int (7 : Int32)), .val (.int (2 : Int32)), .val (.ref b2)]) rfl ?_
    show Steps p.tables e below (T3.setTop (mkF m 22 #[.val (.ref u1), .val (.int (0 : Int32)), .val (.ref h0.size), .val (.int (7 : Int32)), .val (.int (2 : Int32)), .val (.ref b2)] [])) _
    refine XS.aload X3.here hx rfl (hb hby d_prog_14_method_6_code_22) rfl rfl ?_
    show Steps p.tables e below (T3.setTop (mkF m 24 #[.val (.ref u1), .val (.int (0 : Int32)), .val (.ref h0.size), .val (.int (7 : Int32)), .val (.int (2 : Int32)), .val (.ref b2)] [(.ref b2)])) _
    refine st4 _ ?_
    show Steps p.tables e below (T4.setTop (mkF m 27 #[.val (.ref u1), .val (.int (0 : Int32)), .val (.ref h0.size), .val (.int (7 : Int32)), .val (.int (2 : Int32)), .val (.ref b2)] [(.ref u1)])) _
    refine XS.aloadN X4.here hx rfl (hb hby d_prog_14_method_6_code_27) rfl rfl ?_
    show Steps p.tables e below (T4.setTop (mkF m 28 #[.val (.ref u1), .val (.int (0 : Int32)), .val (.ref h0.size), .val (.int (7 : Int32)), .val (.int (2 : Int32)), .val (.ref b2)] [(.ref u1), (.ref u1)])) _
    refine acmp X4 hx rfl rfl rfl (pc0 := 28) (pc' := 31) (same := true) rfl (hb hby d_prog_14_method_6_code_28) rfl (decide_eq_true rfl) (by decide) (by decide) ?_
    show Steps p.tables e below (T4.setTop (mkF m 31 #[.val (.ref u1), .val (.int (0 : Int32)), .val (.ref h0.size), .val (.int (7 : Int32)), .val (.int (2 : Int32)), .val (.ref b2)] [])) _
    refine XS.aload X4.here hx rfl (hb hby d_prog_14_method_6_code_31) rfl rfl ?_
    show Steps p.tables e below (T4.setTop (mkF m 33 #[.val (.ref u1), .val (.int (0 : Int32)), .val (.ref h0.size), .val (.int (7 : Int32)), .val (.int (2 : Int32)), .val (.ref b2)] [(.ref b2)])) _
    refine st5 _ ?_
    show Steps p.tables e below (T5.setTop (mkF m 36 #[.val (.ref u1), .val (.int (0 : Int32)), .val (.ref h0.size), .val (.int (7 : Int32)), .val (.int (2 : Int32)), .val (.ref b2)] [(.int (1 : Int32))])) _
    refine XS.iloadN X5.here hx rfl (hb hby d_prog_14_method_6_code_36) rfl ?_
    show Steps p.tables e below (T5.setTop (mkF m 37 #[.val (.ref u1), .val (.int (0 : Int32)), .val (.ref h0.size), .val (.int (7 : Int32)), .val (.int (2 : Int32)), .val (.ref b2)] [(.int (0 : Int32)), (.int (1 : Int32))])) _
    refine XS.icmpYes X5.here hx rfl (pc0 := 37) (pc' := 43) rfl (hb hby d_prog_14_method_6_code_37) rfl (by decide) (by decide) (by decide) ?_
    show Steps p.tables e below (T5.setTop (mkF m 43 #[.val (.ref u1), .val (.int (0 : Int32)), .val (.ref h0.size), .val (.int (7 : Int32)), .val (.int (2 : Int32)), .val (.ref b2)] [])) _
    refine XT.iincV X5.here hx rfl (1 : Int32) (hb hby d_prog_14_method_6_code_43) (by decide) rfl (l' := #[.val (.ref u1), .val (.int (0 : Int32)), .val (.ref h0.size), .val (.int (7 : Int32)), .val (.int (3 : Int32)), .val (.ref b2)]) rfl ?_
    show Steps p.tables e below (T5.setTop (mkF m 46 #[.val (.ref u1), .val (.int (0 : Int32)), .val (.ref h0.size), .val (.int (7 : Int32)), .val (.int (3 : Int32)), .val (.ref b2)] [])) _
    refine XS.goto X5.here hx rfl (pc0 := 46) (pc' := 10) rfl (hb hby d_prog_14_method_6_code_46) (by decide) (by decide) ?_
    show Steps p.tables e below (T5.setTop (mkF m 10 #[.val (.ref u1), .val (.int (0 : Int32)), .val (.ref h0.size), .val (.int (7 : Int32)), .val (.int (3 : Int32)), .val (.ref b2)] [])) _
    refine XS.iload X5.here hx rfl (hb hby d_prog_14_method_6_code_10) rfl ?_
    show Steps p.tables e below (T5.setTop (mkF m 12 #[.val (.ref u1), .val (.int (0 : Int32)), .val (.ref h0.size), .val (.int (7 : Int32)), .val (.int (3 : Int32)), .val (.ref b2)] [(.int (3 : Int32))])) _
    refine XS.iloadN X5.here hx rfl (hb hby d_prog_14_method_6_code_12) rfl ?_
    show Steps p.tables e below (T5.setTop (mkF m 13 #[.val (.ref u1), .val (.int (0 : Int32)), .val (.ref h0.size), .val (.int (7 : Int32)), .val (.int (3 : Int32)), .val (.ref b2)] [(.int (7 : Int32)), (.int (3 : Int32))])) _
    refine XS.icmpNo X5.here hx rfl (hb hby d_prog_14_method_6_code_13) rfl (by decide) ?_
    show Steps p.tables e below (T5.setTop (mkF m 16 #[.val (.ref u1), .val (.int (0 : Int32)), .val (.ref h0.size), .val (.int (7 : Int32)), .val (.int (3 : Int32)), .val (.ref b2)] [])) _
    refine XS.aloadN X5.here hx rfl (hb hby d_prog_14_method_6_code_16) rfl rfl ?_
    show Steps p.tables e below (T5.setTop (mkF m 17 #[.val (.ref u1), .val (.int (0 : Int32)), .val (.ref h0.size), .val (.int (7 : Int32)), .val (.int (3 : Int32)), .val (.ref b2)] [(.ref h0.size)])) _
    refine XS.iload X5.here hx rfl (hb hby d_prog_14_method_6_code_17) rfl ?_
    show Steps p.tables e below (T5.setTop (mkF m 19 #[.val (.ref u1), .val (.int (0 : Int32)), .val (.ref h0.size), .val (.int (7 : Int32)), .val (.int (3 : Int32)), .val (.ref b2)] [(.int (3 : Int32)), (.ref h0.size)])) _
    refine X5.aaload hx (j := (3 : Int32)) (v := (.ref b3)) (by first | exact Ar.1 | (rw [e5]; exact Ar.1)) (State.isArrayOf_alike hZ.alike Ar.2.1) rfl Ar.2.2 (inb_of Sz ⟨by decide, by decide⟩) (Hs.at (inb_of Sz ⟨by decide, by decide⟩) rfl) (g := (mkF m 19 #[.val (.ref u1), .val (.int (0 : Int32)), .val (.ref h0.size), .val (.int (7 : Int32)), .val (.int (3 : Int32)), .val (.ref b2)] [(.int (3 : Int32)), (.ref h0.size)])) rfl rfl (hb hby d_prog_14_method_6_code_19) _ ?_
    show Steps p.tables e below (T5.setTop (mkF m 20 #[.val (.ref u1), .val (.int (0 : Int32)), .val (.ref h0.size), .val (.int (7 : Int32)), .val (.int (3 : Int32)), .val (.ref b2)] [(.ref b3)])) _
    refine XS.astore X5.here hx rfl (hb hby d_prog_14_method_6_code_20) rfl rfl (l' := #[.val (.ref u1), .val (.int (0 : Int32)), .val (.ref h0.size), .val (.int (7 : Int32)), .val (.int (3 : Int32)), .val (.ref b3)]) rfl ?_
    show Steps p.tables e below (T5.setTop (mkF m 22 #[.val (.ref u1), .val (.int (0 : Int32)), .val (.ref h0.size), .val (.int (7 : Int32)), .val (.int (3 : Int32)), .val (.ref b3)] [])) _
    refine XS.aload X5.here hx rfl (hb hby d_prog_14_method_6_code_22) rfl rfl ?_
    show Steps p.tables e below (T5.setTop (mkF m 24 #[.val (.ref u1), .val (.int (0 : Int32)), .val (.ref h0.size), .val (.int (7 : Int32)), .val (.int (3 : Int32)), .val (.ref b3)] [(.ref b3)])) _
    refine st6 _ ?_
    show Steps p.tables e below (T6.setTop (mkF m 27 #[.val (.ref u1), .val (.int (0 : Int32)), .val (.ref h0.size), .val (.int (7 : Int32)), .val (.int (3 : Int32)), .val (.ref b3)] [(.ref u1)])) _
    refine XS.aloadN X6.here hx rfl (hb hby d_prog_14_method_6_code_27) rfl rfl ?_
    show Steps p.tables e below (T6.setTop (mkF m 28 #[.val (.ref u1), .val (.int (0 : Int32)), .val (.ref h0.size), .val (.int (7 : Int32)), .val (.int (3 : Int32)), .val (.ref b3)] [(.ref u1), (.ref u1)])) _
    refine acmp X6 hx rfl rfl rfl (pc0 := 28) (pc' := 31) (same := true) rfl (hb hby d_prog_14_method_6_code_28) rfl (decide_eq_true rfl) (by decide) (by decide) ?_
    show Steps p.tables e below (T6.setTop (mkF m 31 #[.val (.ref u1), .val (.int (0 : Int32)), .val (.ref h0.size), .val (.int (7 : Int32)), .val (.int (3 : Int32)), .val (.ref b3)] [])) _
    refine XS.aload X6.here hx rfl (hb hby d_prog_14_method_6_code_31) rfl rfl ?_
    show Steps p.tables e below (T6.setTop (mkF m 33 #[.val (.ref u1), .val (.int (0 : Int32)), .val (.ref h0.size), .val (.int (7 : Int32)), .val (.int (3 : Int32)), .val (.ref b3)] [(.ref b3)])) _
    refine st7 _ ?_
    show Steps p.tables e below (T7.setTop (mkF m 36 #[.val (.ref u1), .val (.int (0 : Int32)), .val (.ref h0.size), .val (.int (7 : Int32)), .val (.int (3 : Int32)), .val (.ref b3)] [(.int (0 : Int32))])) _
    refine XS.iloadN X7.here hx rfl (hb hby d_prog_14_method_6_code_36) rfl ?_
    show Steps p.tables e below (T7.setTop (mkF m 37 #[.val (.ref u1), .val (.int (0 : Int32)), .val (.ref h0.size), .val (.int (7 : Int32)), .val (.int (3 : Int32)), .val (.ref b3)] [(.int (0 : Int32)), (.int (0 : Int32))])) _
    refine XS.icmpNo X7.here hx rfl (hb hby d_prog_14_method_6_code_37) rfl (by decide) ?_
    show Steps p.tables e below (T7.setTop (mkF m 40 #[.val (.ref u1), .val (.int (0 : Int32)), .val (.ref h0.size), .val (.int (7 : Int32)), .val (.int (3 : Int32)), .val (.ref b3)] [])) _
    refine XS.aload X7.here hx rfl (hb hby d_prog_14_method_6_code_40) rfl rfl ?_
    show Steps p.tables e below (T7.setTop (mkF m 42 #[.val (.ref u1), .val (.int (0 : Int32)), .val (.ref h0.size), .val (.int (7 : Int32)), .val (.int (3 : Int32)), .val (.ref b3)] [(.ref b3)])) _
    exact retOut X7 hx Bd.returns rfl (Or.inr (Or.inr (Or.inr (Or.inr ⟨rfl, rfl, rfl⟩)))) (hb hby d_prog_14_method_6_code_42) hr
  · exact ⟨rfl, N1, by show Ext h0 T7.heap; rw [e7]; exact Ex1⟩
theorem d_method_3_code_18 : decode method_3_code 18 = .ok (.iload_n 0, 1) := by decide +kernel
theorem d_method_3_code_19 : decode method_3_code 19 = .ok (.iconst 1, 1) := by decide +kernel
theorem d_method_3_code_20 : decode method_3_code 20 = .ok (.if_icmp .ne 17, 3) := by decide +kernel
theorem d_method_3_code_23 : decode method_3_code 23 = .ok (.iload_n 1, 1) := by decide +kernel
theorem d_method_3_code_24 : decode method_3_code 24 = .ok (.ifCond .eq 9, 3) := by decide +kernel
theorem d_method_3_code_33 : decode method_3_code 33 = .ok (.getstatic 34, 3) := by decide +kernel
theorem d_method_3_code_36 : decode method_3_code 36 = .ok (.areturn, 1) := by decide +kernel
def Q_eof_1_0 (Z : State) (b3 : Addr) (h0 : Heap) (n0 : Nat) (v : Option Value) (h : Heap) (L : List Loc) : Prop := v = some (.ref b3) ∧ Fr n0 L ∧ h = h0
set_option maxRecDepth 65536 in
set_option maxHeartbeats 40000000 in
theorem eof_1_0 (l : Launch) (Z : State) (a0 : Array Value) (hw : ∀ d ∈ tables_1, d.before a0 Z = true) (ws : List Jvm.Cond) (b3 : Addr) (h0 : Heap) (n0 : Nat) (Z0 : n0 ≤ h0.size) (Sb3 : Sta Z h0 "com/example/innesco/innesco/database/TriggerEvent" "AFTER_UPDATE" "Lcom/example/innesco/innesco/database/TriggerEvent;" (.ref b3)) :
    MetFree l (⟨"com/example/innesco/innesco/database/TriggerEventOfPinLaw", "expectedOf", "(IZ)Lcom/example/innesco/innesco/database/TriggerEvent;"⟩ : MethodName) (head1 (Jvm.Cond.code (⟨"com/example/innesco/innesco/database/TriggerEventOfPinLaw", "expectedOf", "(IZ)Lcom/example/innesco/innesco/database/TriggerEvent;"⟩ : MethodName) method_3_code 2 (Option.some (Jvm.ClassFile.FieldType.object "com/example/innesco/innesco/database/TriggerEvent")) :: ws) ({ frames := 0, cells := 0, slots := 0, locals := 0 } : Room)) (fun a U => a = #[(.int (1 : Int32)), (.int (0 : Int32))] ∧ Z.Warmed39 U.vm ∧ U.heap = h0) (fun _ _ _ _ _ => True) (fun _ U o U' => ∃ v L, o = .returned v ∧ Q_eof_1_0 Z b3 h0 n0 v U'.heap L ∧ FrameEnd U o U' L ({ frames := 0, cells := 0, slots := 0, locals := 0 } : Room).cells ({ frames := 0, cells := 0, slots := 0, locals := 0 } : Room).slots) := by
  refine MetFree.of_bodySF (plainFor_of_name pn_11) hisR ?_
  intro p e s m args below meth c s₁ Bd hml0 hP hK
  obtain ⟨rfl, hZ, hh⟩ := hP
  have hx := Bd.exec
  have hby := Bd.bytes
  have hml : c.maxLocals = 2 := hml0
  have hown : s.vm.findClass "com/example/innesco/innesco/database/TriggerEventOfPinLaw" = some m.cls := findClass_of_methodNamed Bd.named
  have hnm := (name_of_methodNamed Bd.named Bd.method).1
  have X0 : Stand p l e ({ frames := 0, cells := 0, slots := 0, locals := 0 } : Room) s m #[(.int (1 : Int32)), (.int (0 : Int32))] below meth c s₁ [] 0 0 := Stand.of_body Bd
  have e0 : s₁.heap = h0 := by rw [← hh, Bd.state]; rfl
  have N0 := Fr.nil n0
  have pre0 : ∀ t, Steps p.tables e below (s₁.setTop (mkF m 0 #[.val (.int (1 : Int32)), .val (.int (0 : Int32))] [])) t → Steps p.tables e below (s₁.setTop (entryFrame m #[(.int (1 : Int32)), (.int (0 : Int32))] 2)) t := fun t k => castTop (ef_46 m (1 : Int32) (0 : Int32)) k
  obtain ⟨T1, X1, e1, st1⟩ := getS X0 hx hZ (host := "") hown (hw _ (List.mem_of_getElem? (i := 52) rfl)) Via.refl e0 Sb3 (g := (mkF m 33 #[.val (.int (1 : Int32)), .val (.int (0 : Int32))] [])) rfl (hb hby d_method_3_code_33)
  obtain ⟨fs, hr, hrun, hended, hW, hsame⟩ := X1.leave (v := some (.ref b3)) (fun h => by rw [Bd.returns] at h; cases h)
  refine ⟨_, _, pre0 _ ?_, hrun, hended, _, _, rfl, ?_, ⟨_, rfl⟩, hW, hsame.mono (by decide) (by decide)⟩
  · show Steps p.tables e below (s₁.setTop (mkF m 0 #[.val (.int (1 : Int32)), .val (.int (0 : Int32))] [])) _
    refine XS.iloadN X0.here hx rfl (hb hby d_method_3_code_0) rfl ?_
    show Steps p.tables e below (s₁.setTop (mkF m 1 #[.val (.int (1 : Int32)), .val (.int (0 : Int32))] [(.int (1 : Int32))])) _
    refine XS.ifYes X0.here hx rfl (pc0 := 1) (pc' := 18) rfl (hb hby d_method_3_code_1) rfl (by decide) (by decide) (by decide) ?_
    show Steps p.tables e below (s₁.setTop (mkF m 18 #[.val (.int (1 : Int32)), .val (.int (0 : Int32))] [])) _
    refine XS.iloadN X0.here hx rfl (hb hby d_method_3_code_18) rfl ?_
    show Steps p.tables e below (s₁.setTop (mkF m 19 #[.val (.int (1 : Int32)), .val (.int (0 : Int32))] [(.int (1 : Int32))])) _
    refine XT.iconstV X0.here hx rfl (1 : Int32) (hb hby d_method_3_code_19) (by decide) ?_
    show Steps p.tables e below (s₁.setTop (mkF m 20 #[.val (.int (1 : Int32)), .val (.int (0 : Int32))] [(.int (1 : Int32)), (.int (1 : Int32))])) _
    refine XS.icmpNo X0.here hx rfl (hb hby d_method_3_code_20) rfl (by decide) ?_
    show Steps p.tables e below (s₁.setTop (mkF m 23 #[.val (.int (1 : Int32)), .val (.int (0 : Int32))] [])) _
    refine XS.iloadN X0.here hx rfl (hb hby d_method_3_code_23) rfl ?_
    show Steps p.tables e below (s₁.setTop (mkF m 24 #[.val (.int (1 : Int32)), .val (.int (0 : Int32))] [(.int (0 : Int32))])) _
    refine XS.ifYes X0.here hx rfl (pc0 := 24) (pc' := 33) rfl (hb hby d_method_3_code_24) rfl (by decide) (by decide) (by decide) ?_
    show Steps p.tables e below (s₁.setTop (mkF m 33 #[.val (.int (1 : Int32)), .val (.int (0 : Int32))] [])) _
    refine st1 _ ?_
    show Steps p.tables e below (T1.setTop (mkF m 36 #[.val (.int (1 : Int32)), .val (.int (0 : Int32))] [(.ref b3)])) _
    exact retOut X1 hx Bd.returns rfl (Or.inr (Or.inr (Or.inr (Or.inr ⟨rfl, rfl, rfl⟩)))) (hb hby d_method_3_code_36) hr
  · exact ⟨rfl, N0, e1⟩
def Q_law_1_0 (Z : State) (p1 p2 : Int32) (aV : Addr) (kV : ClassId) (b0 b1 b2 b3 b4 b5 b6 : Addr) (u0 u1 u2 u3 : Addr) (h0 : Heap) (n0 : Nat) (v : Option Value) (h : Heap) (L : List Loc) : Prop := v = some (.int 1) ∧ Fr n0 L ∧ True
set_option maxRecDepth 65536 in
set_option maxHeartbeats 40000000 in
theorem law_1_0 (l : Launch) (Z : State) (a0 : Array Value) (hw : ∀ d ∈ tables_1, d.before a0 Z = true) (ws : List Jvm.Cond) (p1 p2 : Int32) (aV : Addr) (kV : ClassId) (b0 b1 b2 b3 b4 b5 b6 : Addr) (u0 u1 u2 u3 : Addr) (h0 : Heap) (n0 : Nat) (Z0 : n0 ≤ h0.size) (SaV : Sta Z h0 "com/example/innesco/innesco/database/TriggerEvent" "$VALUES" "[Lcom/example/innesco/innesco/database/TriggerEvent;" (.ref aV)) (VaV : Arv Z h0 aV kV (.object "com/example/innesco/innesco/database/TriggerEvent") (7 : Int32) [(.ref b0), (.ref b1), (.ref b2), (.ref b3), (.ref b4), (.ref b5), (.ref b6)] .null) (EaV : Exa Z h0 aV "[Lcom/example/innesco/innesco/database/TriggerEvent;")(Fw0 : Fld Z h0 b0 "com/example/innesco/innesco/database/TriggerEvent" "write" "Lcom/example/innesco/innesco/database/Write;" (.ref u0))(Fw1 : Fld Z h0 b1 "com/example/innesco/innesco/database/TriggerEvent" "write" "Lcom/example/innesco/innesco/database/Write;" (.ref u0))(Fw2 : Fld Z h0 b2 "com/example/innesco/innesco/database/TriggerEvent" "write" "Lcom/example/innesco/innesco/database/Write;" (.ref u1))(Fw3 : Fld Z h0 b3 "com/example/innesco/innesco/database/TriggerEvent" "write" "Lcom/example/innesco/innesco/database/Write;" (.ref u1))(Fw4 : Fld Z h0 b4 "com/example/innesco/innesco/database/TriggerEvent" "write" "Lcom/example/innesco/innesco/database/Write;" (.ref u2))(Fw5 : Fld Z h0 b5 "com/example/innesco/innesco/database/TriggerEvent" "write" "Lcom/example/innesco/innesco/database/Write;" (.ref u2))(Fw6 : Fld Z h0 b6 "com/example/innesco/innesco/database/TriggerEvent" "write" "Lcom/example/innesco/innesco/database/Write;" (.ref u3))(Fb0 : Fld Z h0 b0 "com/example/innesco/innesco/database/TriggerEvent" "before" "Z" (.int (1 : Int32)))(Fb1 : Fld Z h0 b1 "com/example/innesco/innesco/database/TriggerEvent" "before" "Z" (.int (0 : Int32)))(Fb2 : Fld Z h0 b2 "com/example/innesco/innesco/database/TriggerEvent" "before" "Z" (.int (1 : Int32)))(Fb3 : Fld Z h0 b3 "com/example/innesco/innesco/database/TriggerEvent" "before" "Z" (.int (0 : Int32)))(Fb4 : Fld Z h0 b4 "com/example/innesco/innesco/database/TriggerEvent" "before" "Z" (.int (1 : Int32)))(Fb5 : Fld Z h0 b5 "com/example/innesco/innesco/database/TriggerEvent" "before" "Z" (.int (0 : Int32)))(Fb6 : Fld Z h0 b6 "com/example/innesco/innesco/database/TriggerEvent" "before" "Z" (.int (0 : Int32)))(ne01 : u0 ≠ u1)(ne02 : u0 ≠ u2)(ne03 : u0 ≠ u3)(ne12 : u1 ≠ u2)(ne13 : u1 ≠ u3)(ne23 : u2 ≠ u3)(Su1 : Sta Z h0 "com/example/innesco/innesco/database/Write" "UPDATE" "Lcom/example/innesco/innesco/database/Write;" (.ref u1))(Sb3 : Sta Z h0 "com/example/innesco/innesco/database/TriggerEvent" "AFTER_UPDATE" "Lcom/example/innesco/innesco/database/TriggerEvent;" (.ref b3))(hk0 : p1 &&& (3 : Int32) = (1 : Int32)) (hb0 : p2 &&& (1 : Int32) = (0 : Int32)) :
    MetFree l x (head1 (Jvm.Cond.code x code maxLocals ret :: ws) room_1) (fun a U => a = #[(.int p1), (.int p2)] ∧ Z.Warmed39 U.vm ∧ U.heap = h0) (fun _ _ _ _ _ => True) (fun _ U o U' => ∃ v L, o = .returned v ∧ Q_law_1_0 Z p1 p2 aV kV b0 b1 b2 b3 b4 b5 b6 u0 u1 u2 u3 h0 n0 v U'.heap L ∧ FrameEnd U o U' L 16 128) := by
  refine MetFree.of_bodySF (plainFor_of_name pn_11) hisR ?_
  intro p e s m args below meth c s₁ Bd hml0 hP hK
  obtain ⟨rfl, hZ, hh⟩ := hP
  have hx := Bd.exec
  have hby := Bd.bytes
  have hml : c.maxLocals = 7 := hml0
  have hown : s.vm.findClass "com/example/innesco/innesco/database/TriggerEventOfPinLaw" = some m.cls := findClass_of_methodNamed Bd.named
  have hnm := (name_of_methodNamed Bd.named Bd.method).1
  have X0 : Stand p l e room_1 s m #[(.int p1), (.int p2)] below meth c s₁ [] 0 0 := Stand.of_body Bd
  have e0 : s₁.heap = h0 := by rw [← hh, Bd.state]; rfl
  have N0 := Fr.nil n0
  have pre0 : ∀ t, Steps p.tables e below (s₁.setTop (mkF m 0 #[.val (.int p1), .val (.int p2), .unset, .unset, .unset, .unset, .unset] [])) t → Steps p.tables e below (s₁.setTop (entryFrame m #[(.int p1), (.int p2)] maxLocals)) t := fun t k => castTop (ef_50 m p1 p2) k
  obtain ⟨_, _, ⟨T1, L1, k1, n1⟩, -, X1, ⟨Lc1, hQ1, l1, y1, z1⟩, st1⟩ := Jvm.LawKit.callS X0 hx (y := (⟨"com/example/innesco/innesco/database/TriggerEventOfPinLaw", "writeOf", "(I)Lcom/example/innesco/innesco/database/Write;"⟩ : MethodName)) hown (mvT hZ (hw _ (List.mem_of_getElem? (i := 0) rfl))) (mvT hZ (hw _ (List.mem_of_getElem? (i := 1) rfl))) (mvT hZ (hw _ (List.mem_of_getElem? (i := 2) rfl))) (mvT hZ (hw _ (List.mem_of_getElem? (i := 3) rfl))) (by decide) (backOf (W := 0) (wof_1 l Z a0 hw [] u1 h0 n0 Z0 Su1) hZ (hw _ (List.mem_of_getElem? (i := 3) rfl)) (hw _ (List.mem_of_getElem? (i := 2) rfl)) (by decide) (by decide)) (g := (mkF m 17 #[.val (.int p1), .val (.int p2), .val (.int (1 : Int32)), .val (.int (0 : Int32)), .unset, .unset, .unset] [(.int (1 : Int32))])) rfl (by rw [hml]; rfl) (argsL := [(.int (1 : Int32))]) (rest := []) (lenOf pd_47 rfl) rfl (by show 2 * 0 + _ ≤ _; exact Nat.le_of_eq rfl) (hb hby at_17) (fun _ _ => ⟨rfl, e0, (by decide : 0 + 0 ≤ _), (by decide : 0 + 0 ≤ _)⟩)
  dsimp only [Pt.U, Pt.locs, Pt.cells, Pt.slots] at X1 l1 y1 z1 st1 hQ1
  subst l1 y1 z1
  obtain ⟨rfl, N1q, e1⟩ := hQ1
  have N1 := Fr.app N0 N1q
  obtain ⟨_, _, ⟨T2, L2, k2, n2⟩, -, X2, ⟨Lc2, hQ2, l2, y2, z2⟩, st2⟩ := Jvm.LawKit.callS X1 hx (y := (⟨"com/example/innesco/innesco/database/TriggerEventOfPinLaw", "expectedOf", "(IZ)Lcom/example/innesco/innesco/database/TriggerEvent;"⟩ : MethodName)) hown (mvT hZ (hw _ (List.mem_of_getElem? (i := 7) rfl))) (mvT hZ (hw _ (List.mem_of_getElem? (i := 8) rfl))) (mvT hZ (hw _ (List.mem_of_getElem? (i := 2) rfl))) (mvT hZ (hw _ (List.mem_of_getElem? (i := 9) rfl))) (by decide) (backOf (W := 0) (eof_1_0 l Z a0 hw [] b3 h0 n0 Z0 Sb3) hZ (hw _ (List.mem_of_getElem? (i := 9) rfl)) (hw _ (List.mem_of_getElem? (i := 2) rfl)) (by decide) (by decide)) (g := (mkF m 24 #[.val (.int p1), .val (.int p2), .val (.int (1 : Int32)), .val (.int (0 : Int32)), .val (.ref u1), .unset, .unset] [(.int (0 : Int32)), (.int (1 : Int32))])) rfl (by rw [hml]; rfl) (argsL := [(.int (1 : Int32)), (.int (0 : Int32))]) (rest := []) (lenOf pd_48 rfl) rfl (by show 2 * 0 + _ ≤ _; exact Nat.le_of_eq rfl) (hb hby at_24) (fun _ _ => ⟨rfl, e1, (by decide : 0 + 0 ≤ _), (by decide : 0 + 0 ≤ _)⟩)
  dsimp only [Pt.U, Pt.locs, Pt.cells, Pt.slots] at X2 l2 y2 z2 st2 hQ2
  subst l2 y2 z2
  obtain ⟨rfl, N2q, e2⟩ := hQ2
  have N2 := Fr.app N1 N2q
  obtain ⟨_, _, ⟨T3, L3, k3, n3⟩, -, X3, ⟨Lc3, hQ3, l3, y3, z3⟩, st3⟩ := Jvm.LawKit.callS X2 hx (y := (⟨"com/example/innesco/innesco/database/TriggerEvent", "of", "(Lcom/example/innesco/innesco/database/Write;Z)Lcom/example/innesco/innesco/database/TriggerEvent;"⟩ : MethodName)) hown (mvT hZ (hw _ (List.mem_of_getElem? (i := 13) rfl))) (mvT hZ (hw _ (List.mem_of_getElem? (i := 14) rfl))) (mvT hZ (hw _ (List.mem_of_getElem? (i := 11) rfl))) (mvT hZ (hw _ (List.mem_of_getElem? (i := 15) rfl))) (by decide) (backOf (W := 0) (of_1_0 l Z a0 hw [] aV kV b0 b1 b2 b3 b4 b5 b6 u0 u1 u2 u3 h0 n0 Z0 SaV VaV EaV Fw0 Fw1 Fw2 Fw3 Fw4 Fw5 Fw6 Fb0 Fb1 Fb2 Fb3 Fb4 Fb5 Fb6 ne01 ne02 ne03 ne12 ne13 ne23) hZ (hw _ (List.mem_of_getElem? (i := 15) rfl)) (hw _ (List.mem_of_getElem? (i := 11) rfl)) (by decide) (by decide)) (g := (mkF m 32 #[.val (.int p1), .val (.int p2), .val (.int (1 : Int32)), .val (.int (0 : Int32)), .val (.ref u1), .val (.ref b3), .unset] [(.int (0 : Int32)), (.ref u1)])) rfl (by rw [hml]; rfl) (argsL := [(.ref u1), (.int (0 : Int32))]) (rest := []) (lenOf pd_49 rfl) rfl (by show 2 * 0 + _ ≤ _; exact Nat.le_of_eq rfl) (hb hby at_32) (fun _ _ => ⟨rfl, e2, (by decide : 0 + 1 ≤ _), (by decide : 0 + 7 ≤ _)⟩)
  dsimp only [Pt.U, Pt.locs, Pt.cells, Pt.slots] at X3 l3 y3 z3 st3 hQ3
  subst l3 y3 z3
  obtain ⟨rfl, N3q, Ex3⟩ := hQ3
  have N3 := Fr.app N2 N3q
  obtain ⟨fs, hr, hrun, hended, hW, hsame⟩ := X3.leave (v := some (.int (1 : Int32))) (fun h => by rw [Bd.returns] at h; cases h)
  refine ⟨_, _, pre0 _ ?_, hrun, hended, _, _, rfl, ?_, ⟨_, rfl⟩, hW, hsame.mono (by decide) (by decide)⟩
  · show Steps p.tables e below (s₁.setTop (mkF m 0 #[.val (.int p1), .val (.int p2), .unset, .unset, .unset, .unset, .unset] [])) _
    refine XS.iloadN X0.here hx rfl (hb hby at_0) rfl ?_
    show Steps p.tables e below (s₁.setTop (mkF m 1 #[.val (.int p1), .val (.int p2), .unset, .unset, .unset, .unset, .unset] [(.int p1)])) _
    refine XT.iconstV X0.here hx rfl (3 : Int32) (hb hby at_1) (by decide) ?_
    show Steps p.tables e below (s₁.setTop (mkF m 2 #[.val (.int p1), .val (.int p2), .unset, .unset, .unset, .unset, .unset] [(.int (3 : Int32)), (.int p1)])) _
    refine XS.iand X0.here hx rfl (hb hby at_2) rfl ?_
    show Steps p.tables e below (s₁.setTop (mkF m 3 #[.val (.int p1), .val (.int p2), .unset, .unset, .unset, .unset, .unset] [(.int (p1 &&& (3 : Int32)))])) _
    rw [hk0]
    show Steps p.tables e below (s₁.setTop (mkF m 3 #[.val (.int p1), .val (.int p2), .unset, .unset, .unset, .unset, .unset] [(.int (1 : Int32))])) _
    refine XS.istoreN X0.here hx rfl (hb hby at_3) rfl (l' := #[.val (.int p1), .val (.int p2), .val (.int (1 : Int32)), .unset, .unset, .unset, .unset]) rfl ?_
    show Steps p.tables e below (s₁.setTop (mkF m 4 #[.val (.int p1), .val (.int p2), .val (.int (1 : Int32)), .unset, .unset, .unset, .unset] [])) _
    refine XS.iloadN X0.here hx rfl (hb hby at_4) rfl ?_
    show Steps p.tables e below (s₁.setTop (mkF m 5 #[.val (.int p1), .val (.int p2), .val (.int (1 : Int32)), .unset, .unset, .unset, .unset] [(.int p2)])) _
    refine XT.iconstV X0.here hx rfl (1 : Int32) (hb hby at_5) (by decide) ?_
    show Steps p.tables e below (s₁.setTop (mkF m 6 #[.val (.int p1), .val (.int p2), .val (.int (1 : Int32)), .unset, .unset, .unset, .unset] [(.int (1 : Int32)), (.int p2)])) _
    refine XS.iand X0.here hx rfl (hb hby at_6) rfl ?_
    show Steps p.tables e below (s₁.setTop (mkF m 7 #[.val (.int p1), .val (.int p2), .val (.int (1 : Int32)), .unset, .unset, .unset, .unset] [(.int (p2 &&& (1 : Int32)))])) _
    rw [hb0]
    show Steps p.tables e below (s₁.setTop (mkF m 7 #[.val (.int p1), .val (.int p2), .val (.int (1 : Int32)), .unset, .unset, .unset, .unset] [(.int (0 : Int32))])) _
    refine XS.ifYes X0.here hx rfl (pc0 := 7) (pc' := 14) rfl (hb hby at_7) rfl (by decide) (by decide) (by decide) ?_
    show Steps p.tables e below (s₁.setTop (mkF m 14 #[.val (.int p1), .val (.int p2), .val (.int (1 : Int32)), .unset, .unset, .unset, .unset] [])) _
    refine XT.iconstV X0.here hx rfl (0 : Int32) (hb hby at_14) (by decide) ?_
    show Steps p.tables e below (s₁.setTop (mkF m 15 #[.val (.int p1), .val (.int p2), .val (.int (1 : Int32)), .unset, .unset, .unset, .unset] [(.int (0 : Int32))])) _
    refine XS.istoreN X0.here hx rfl (hb hby at_15) rfl (l' := #[.val (.int p1), .val (.int p2), .val (.int (1 : Int32)), .val (.int (0 : Int32)), .unset, .unset, .unset]) rfl ?_
    show Steps p.tables e below (s₁.setTop (mkF m 16 #[.val (.int p1), .val (.int p2), .val (.int (1 : Int32)), .val (.int (0 : Int32)), .unset, .unset, .unset] [])) _
    refine XS.iloadN X0.here hx rfl (hb hby at_16) rfl ?_
    show Steps p.tables e below (s₁.setTop (mkF m 17 #[.val (.int p1), .val (.int p2), .val (.int (1 : Int32)), .val (.int (0 : Int32)), .unset, .unset, .unset] [(.int (1 : Int32))])) _
    refine st1 _ ?_
    show Steps p.tables e below (T1.setTop (mkF m 20 #[.val (.int p1), .val (.int p2), .val (.int (1 : Int32)), .val (.int (0 : Int32)), .unset, .unset, .unset] [(.ref u1)])) _
    refine XS.astore X1.here hx rfl (hb hby at_20) rfl rfl (l' := #[.val (.int p1), .val (.int p2), .val (.int (1 : Int32)), .val (.int (0 : Int32)), .val (.ref u1), .unset, .unset]) rfl ?_
    show Steps p.tables e below (T1.setTop (mkF m 22 #[.val (.int p1), .val (.int p2), .val (.int (1 : Int32)), .val (.int (0 : Int32)), .val (.ref u1), .unset, .unset] [])) _
    refine XS.iloadN X1.here hx rfl (hb hby at_22) rfl ?_
    show Steps p.tables e below (T1.setTop (mkF m 23 #[.val (.int p1), .val (.int p2), .val (.int (1 : Int32)), .val (.int (0 : Int32)), .val (.ref u1), .unset, .unset] [(.int (1 : Int32))])) _
    refine XS.iloadN X1.here hx rfl (hb hby at_23) rfl ?_
    show Steps p.tables e below (T1.setTop (mkF m 24 #[.val (.int p1), .val (.int p2), .val (.int (1 : Int32)), .val (.int (0 : Int32)), .val (.ref u1), .unset, .unset] [(.int (0 : Int32)), (.int (1 : Int32))])) _
    refine st2 _ ?_
    show Steps p.tables e below (T2.setTop (mkF m 27 #[.val (.int p1), .val (.int p2), .val (.int (1 : Int32)), .val (.int (0 : Int32)), .val (.ref u1), .unset, .unset] [(.ref b3)])) _
    refine XS.astore X2.here hx rfl (hb hby at_27) rfl rfl (l' := #[.val (.int p1), .val (.int p2), .val (.int (1 : Int32)), .val (.int (0 : Int32)), .val (.ref u1), .val (.ref b3), .unset]) rfl ?_
    show Steps p.tables e below (T2.setTop (mkF m 29 #[.val (.int p1), .val (.int p2), .val (.int (1 : Int32)), .val (.int (0 : Int32)), .val (.ref u1), .val (.ref b3), .unset] [])) _
    refine XS.aload X2.here hx rfl (hb hby at_29) rfl rfl ?_
    show Steps p.tables e below (T2.setTop (mkF m 31 #[.val (.int p1), .val (.int p2), .val (.int (1 : Int32)), .val (.int (0 : Int32)), .val (.ref u1), .val (.ref b3), .unset] [(.ref u1)])) _
    refine XS.iloadN X2.here hx rfl (hb hby at_31) rfl ?_
    show Steps p.tables e below (T2.setTop (mkF m 32 #[.val (.int p1), .val (.int p2), .val (.int (1 : Int32)), .val (.int (0 : Int32)), .val (.ref u1), .val (.ref b3), .unset] [(.int (0 : Int32)), (.ref u1)])) _
    refine st3 _ ?_
    show Steps p.tables e below (T3.setTop (mkF m 35 #[.val (.int p1), .val (.int p2), .val (.int (1 : Int32)), .val (.int (0 : Int32)), .val (.ref u1), .val (.ref b3), .unset] [(.ref b3)])) _
    refine XS.astore X3.here hx rfl (hb hby at_35) rfl rfl (l' := #[.val (.int p1), .val (.int p2), .val (.int (1 : Int32)), .val (.int (0 : Int32)), .val (.ref u1), .val (.ref b3), .val (.ref b3)]) rfl ?_
    show Steps p.tables e below (T3.setTop (mkF m 37 #[.val (.int p1), .val (.int p2), .val (.int (1 : Int32)), .val (.int (0 : Int32)), .val (.ref u1), .val (.ref b3), .val (.ref b3)] [])) _
    refine XS.aload X3.here hx rfl (hb hby at_37) rfl rfl ?_
    show Steps p.tables e below (T3.setTop (mkF m 39 #[.val (.int p1), .val (.int p2), .val (.int (1 : Int32)), .val (.int (0 : Int32)), .val (.ref u1), .val (.ref b3), .val (.ref b3)] [(.ref b3)])) _
    refine XS.aload X3.here hx rfl (hb hby at_39) rfl rfl ?_
    show Steps p.tables e below (T3.setTop (mkF m 41 #[.val (.int p1), .val (.int p2), .val (.int (1 : Int32)), .val (.int (0 : Int32)), .val (.ref u1), .val (.ref b3), .val (.ref b3)] [(.ref b3), (.ref b3)])) _
    refine acmp X3 hx rfl rfl rfl (pc0 := 41) (pc' := 44) (same := true) rfl (hb hby at_41) rfl (decide_eq_true rfl) (by decide) (by decide) ?_
    show Steps p.tables e below (T3.setTop (mkF m 44 #[.val (.int p1), .val (.int p2), .val (.int (1 : Int32)), .val (.int (0 : Int32)), .val (.ref u1), .val (.ref b3), .val (.ref b3)] [])) _
    refine XT.iconstV X3.here hx rfl (1 : Int32) (hb hby at_44) (by decide) ?_
    show Steps p.tables e below (T3.setTop (mkF m 45 #[.val (.int p1), .val (.int p2), .val (.int (1 : Int32)), .val (.int (0 : Int32)), .val (.ref u1), .val (.ref b3), .val (.ref b3)] [(.int (1 : Int32))])) _
    refine XS.goto X3.here hx rfl (pc0 := 45) (pc' := 49) rfl (hb hby at_45) (by decide) (by decide) ?_
    show Steps p.tables e below (T3.setTop (mkF m 49 #[.val (.int p1), .val (.int p2), .val (.int (1 : Int32)), .val (.int (0 : Int32)), .val (.ref u1), .val (.ref b3), .val (.ref b3)] [(.int (1 : Int32))])) _
    exact retN X3 hx (t := .boolean) Bd.returns (by simp) (hb hby at_49) hr
  · exact ⟨rfl, N3, trivial⟩
def Q_of_1_1 (Z : State) (aV : Addr) (kV : ClassId) (b0 b1 b2 b3 b4 b5 b6 : Addr) (u0 u1 u2 u3 : Addr) (h0 : Heap) (n0 : Nat) (v : Option Value) (h : Heap) (L : List Loc) : Prop := v = some (.ref b2) ∧ Fr n0 L ∧ Ext h0 h
set_option maxRecDepth 65536 in
set_option maxHeartbeats 40000000 in
theorem of_1_1 (l : Launch) (Z : State) (a0 : Array Value) (hw : ∀ d ∈ tables_1, d.before a0 Z = true) (ws : List Jvm.Cond) (aV : Addr) (kV : ClassId) (b0 b1 b2 b3 b4 b5 b6 : Addr) (u0 u1 u2 u3 : Addr) (h0 : Heap) (n0 : Nat) (Z0 : n0 ≤ h0.size) (SaV : Sta Z h0 "com/example/innesco/innesco/database/TriggerEvent" "$VALUES" "[Lcom/example/innesco/innesco/database/TriggerEvent;" (.ref aV)) (VaV : Arv Z h0 aV kV (.object "com/example/innesco/innesco/database/TriggerEvent") (7 : Int32) [(.ref b0), (.ref b1), (.ref b2), (.ref b3), (.ref b4), (.ref b5), (.ref b6)] .null) (EaV : Exa Z h0 aV "[Lcom/example/innesco/innesco/database/TriggerEvent;")(Fw0 : Fld Z h0 b0 "com/example/innesco/innesco/database/TriggerEvent" "write" "Lcom/example/innesco/innesco/database/Write;" (.ref u0))(Fw1 : Fld Z h0 b1 "com/example/innesco/innesco/database/TriggerEvent" "write" "Lcom/example/innesco/innesco/database/Write;" (.ref u0))(Fw2 : Fld Z h0 b2 "com/example/innesco/innesco/database/TriggerEvent" "write" "Lcom/example/innesco/innesco/database/Write;" (.ref u1))(Fw3 : Fld Z h0 b3 "com/example/innesco/innesco/database/TriggerEvent" "write" "Lcom/example/innesco/innesco/database/Write;" (.ref u1))(Fw4 : Fld Z h0 b4 "com/example/innesco/innesco/database/TriggerEvent" "write" "Lcom/example/innesco/innesco/database/Write;" (.ref u2))(Fw5 : Fld Z h0 b5 "com/example/innesco/innesco/database/TriggerEvent" "write" "Lcom/example/innesco/innesco/database/Write;" (.ref u2))(Fw6 : Fld Z h0 b6 "com/example/innesco/innesco/database/TriggerEvent" "write" "Lcom/example/innesco/innesco/database/Write;" (.ref u3))(Fb0 : Fld Z h0 b0 "com/example/innesco/innesco/database/TriggerEvent" "before" "Z" (.int (1 : Int32)))(Fb1 : Fld Z h0 b1 "com/example/innesco/innesco/database/TriggerEvent" "before" "Z" (.int (0 : Int32)))(Fb2 : Fld Z h0 b2 "com/example/innesco/innesco/database/TriggerEvent" "before" "Z" (.int (1 : Int32)))(Fb3 : Fld Z h0 b3 "com/example/innesco/innesco/database/TriggerEvent" "before" "Z" (.int (0 : Int32)))(Fb4 : Fld Z h0 b4 "com/example/innesco/innesco/database/TriggerEvent" "before" "Z" (.int (1 : Int32)))(Fb5 : Fld Z h0 b5 "com/example/innesco/innesco/database/TriggerEvent" "before" "Z" (.int (0 : Int32)))(Fb6 : Fld Z h0 b6 "com/example/innesco/innesco/database/TriggerEvent" "before" "Z" (.int (0 : Int32)))(ne01 : u0 ≠ u1)(ne02 : u0 ≠ u2)(ne03 : u0 ≠ u3)(ne12 : u1 ≠ u2)(ne13 : u1 ≠ u3)(ne23 : u2 ≠ u3) :
    MetFree l (⟨"com/example/innesco/innesco/database/TriggerEvent", "of", "(Lcom/example/innesco/innesco/database/Write;Z)Lcom/example/innesco/innesco/database/TriggerEvent;"⟩ : MethodName) (head1 (Jvm.Cond.code (⟨"com/example/innesco/innesco/database/TriggerEvent", "of", "(Lcom/example/innesco/innesco/database/Write;Z)Lcom/example/innesco/innesco/database/TriggerEvent;"⟩ : MethodName) prog_14_method_6_code 6 (Option.some (Jvm.ClassFile.FieldType.object "com/example/innesco/innesco/database/TriggerEvent")) :: ws) ({ frames := 2, cells := 1, slots := 7, locals := 25 } : Room)) (fun a U => a = #[(.ref u1), (.int (1 : Int32))] ∧ Z.Warmed39 U.vm ∧ U.heap = h0) (fun _ _ _ _ _ => True) (fun _ U o U' => ∃ v L, o = .returned v ∧ Q_of_1_1 Z aV kV b0 b1 b2 b3 b4 b5 b6 u0 u1 u2 u3 h0 n0 v U'.heap L ∧ FrameEnd U o U' L ({ frames := 2, cells := 1, slots := 7, locals := 25 } : Room).cells ({ frames := 2, cells := 1, slots := 7, locals := 25 } : Room).slots) := by
  refine MetFree.of_bodySF (plainFor_of_name pn_5) hisR ?_
  intro p e s m args below meth c s₁ Bd hml0 hP hK
  obtain ⟨rfl, hZ, hh⟩ := hP
  have hx := Bd.exec
  have hby := Bd.bytes
  have hml : c.maxLocals = 6 := hml0
  have hown : s.vm.findClass "com/example/innesco/innesco/database/TriggerEvent" = some m.cls := findClass_of_methodNamed Bd.named
  have hnm := (name_of_methodNamed Bd.named Bd.method).1
  have X0 : Stand p l e ({ frames := 2, cells := 1, slots := 7, locals := 25 } : Room) s m #[(.ref u1), (.int (1 : Int32))] below meth c s₁ [] 0 0 := Stand.of_body Bd
  have e0 : s₁.heap = h0 := by rw [← hh, Bd.state]; rfl
  have N0 := Fr.nil n0
  have pre0 : ∀ t, Steps p.tables e below (s₁.setTop (mkF m 0 #[.val (.ref u1), .val (.int (1 : Int32)), .unset, .unset, .unset, .unset] [])) t → Steps p.tables e below (s₁.setTop (entryFrame m #[(.ref u1), (.int (1 : Int32))] 6)) t := fun t k => castTop (ef_39 m u1 (1 : Int32)) k
  obtain ⟨_, _, ⟨T1, L1, k1, n1⟩, -, X1, ⟨Lc1, hQ1, l1, y1, z1⟩, st1⟩ := Jvm.LawKit.callS X0 hx (y := (⟨"com/example/innesco/innesco/database/TriggerEvent", "values", "()[Lcom/example/innesco/innesco/database/TriggerEvent;"⟩ : MethodName)) hown (mvT hZ (hw _ (List.mem_of_getElem? (i := 16) rfl))) (mvT hZ (hw _ (List.mem_of_getElem? (i := 17) rfl))) (mvT hZ (hw _ (List.mem_of_getElem? (i := 11) rfl))) (mvT hZ (hw _ (List.mem_of_getElem? (i := 18) rfl))) (by decide) (backOf (W := 0) (values_0 l Z a0 hw [] aV kV b0 b1 b2 b3 b4 b5 b6 h0 n0 Z0 SaV VaV EaV) hZ (hw _ (List.mem_of_getElem? (i := 18) rfl)) (hw _ (List.mem_of_getElem? (i := 11) rfl)) (by decide) (by decide)) (g := (mkF m 0 #[.val (.ref u1), .val (.int (1 : Int32)), .unset, .unset, .unset, .unset] [])) rfl (by rw [hml]; rfl) (argsL := []) (rest := []) (lenOf pd_13 rfl) rfl (by show 2 * 0 + _ ≤ _; exact Nat.le_of_eq rfl) (hb hby d_prog_14_method_6_code_0) (fun _ _ => ⟨rfl, e0, (by decide : 0 + 1 ≤ _), (by decide : 0 + 7 ≤ _)⟩)
  dsimp only [Pt.U, Pt.locs, Pt.cells, Pt.slots] at X1 l1 y1 z1 st1 hQ1
  subst l1 y1 z1
  obtain ⟨rfl, N1q, Ex1, V1⟩ := hQ1
  have N1 := Fr.app N0 N1q
  obtain ⟨cl, Ar, -, Sz, Ng, Hs, -⟩ := V1
  have hlen : cl.slots.size.toInt32 = (7 : Int32) := len_of Sz Ng
  obtain ⟨T2, X2, e2, st2⟩ := getF X1 hx hZ hown (host := "") (Or.inl (hw _ (List.mem_of_getElem? (i := 37) rfl))) Via.refl rfl (Fw0.ext Ex1) (g := (mkF m 24 #[.val (.ref u1), .val (.int (1 : Int32)), .val (.ref h0.size), .val (.int (7 : Int32)), .val (.int (0 : Int32)), .val (.ref b0)] [(.ref b0)])) rfl rfl (hb hby d_prog_14_method_6_code_24)
  obtain ⟨T3, X3, e3, st3⟩ := getF X2 hx hZ hown (host := "") (Or.inl (hw _ (List.mem_of_getElem? (i := 37) rfl))) Via.refl e2 (Fw1.ext Ex1) (g := (mkF m 24 #[.val (.ref u1), .val (.int (1 : Int32)), .val (.ref h0.size), .val (.int (7 : Int32)), .val (.int (1 : Int32)), .val (.ref b1)] [(.ref b1)])) rfl rfl (hb hby d_prog_14_method_6_code_24)
  obtain ⟨T4, X4, e4, st4⟩ := getF X3 hx hZ hown (host := "") (Or.inl (hw _ (List.mem_of_getElem? (i := 37) rfl))) Via.refl e3 (Fw2.ext Ex1) (g := (mkF m 24 #[.val (.ref u1), .val (.int (1 : Int32)), .val (.ref h0.size), .val (.int (7 : Int32)), .val (.int (2 : Int32)), .val (.ref b2)] [(.ref b2)])) rfl rfl (hb hby d_prog_14_method_6_code_24)
  obtain ⟨T5, X5, e5, st5⟩ := getF X4 hx hZ hown (host := "") (Or.inl (hw _ (List.mem_of_getElem? (i := 39) rfl))) Via.refl e4 (Fb2.ext Ex1) (g := (mkF m 33 #[.val (.ref u1), .val (.int (1 : Int32)), .val (.ref h0.size), .val (.int (7 : Int32)), .val (.int (2 : Int32)), .val (.ref b2)] [(.ref b2)])) rfl rfl (hb hby d_prog_14_method_6_code_33)
  obtain ⟨fs, hr, hrun, hended, hW, hsame⟩ := X5.leave (v := some (.ref b2)) (fun h => by rw [Bd.returns] at h; cases h)
  refine ⟨_, _, pre0 _ ?_, hrun, hended, _, _, rfl, ?_, ⟨_, rfl⟩, hW, hsame.mono (by decide) (by decide)⟩
  · show Steps p.tables e below (s₁.setTop (mkF m 0 #[.val (.ref u1), .val (.int (1 : Int32)), .unset, .unset, .unset, .unset] [])) _
    refine st1 _ ?_
    show Steps p.tables e below (T1.setTop (mkF m 3 #[.val (.ref u1), .val (.int (1 : Int32)), .unset, .unset, .unset, .unset] [(.ref h0.size)])) _
    refine XS.astoreN X1.here hx rfl (hb hby d_prog_14_method_6_code_3) rfl rfl (l' := #[.val (.ref u1), .val (.int (1 : Int32)), .val (.ref h0.size), .unset, .unset, .unset]) rfl ?_
    show Steps p.tables e below (T1.setTop (mkF m 4 #[.val (.ref u1), .val (.int (1 : Int32)), .val (.ref h0.size), .unset, .unset, .unset] [])) _
    refine XS.aloadN X1.here hx rfl (hb hby d_prog_14_method_6_code_4) rfl rfl ?_
    show Steps p.tables e below (T1.setTop (mkF m 5 #[.val (.ref u1), .val (.int (1 : Int32)), .val (.ref h0.size), .unset, .unset, .unset] [(.ref h0.size)])) _
    refine X1.arraylength hx (by first | exact Ar.1 | (rw [rfl]; exact Ar.1)) (State.isArrayOf_alike hZ.alike Ar.2.1) (g := (mkF m 5 #[.val (.ref u1), .val (.int (1 : Int32)), .val (.ref h0.size), .unset, .unset, .unset] [(.ref h0.size)])) rfl rfl (hb hby d_prog_14_method_6_code_5) _ ?_
    show Steps p.tables e below (T1.setTop (mkF m 6 #[.val (.ref u1), .val (.int (1 : Int32)), .val (.ref h0.size), .unset, .unset, .unset] [(.int cl.slots.size.toInt32)])) _
    rw [hlen]
    show Steps p.tables e below (T1.setTop (mkF m 6 #[.val (.ref u1), .val (.int (1 : Int32)), .val (.ref h0.size), .unset, .unset, .unset] [(.int (7 : Int32))])) _
    refine XS.istoreN X1.here hx rfl (hb hby d_prog_14_method_6_code_6) rfl (l' := #[.val (.ref u1), .val (.int (1 : Int32)), .val (.ref h0.size), .val (.int (7 : Int32)), .unset, .unset]) rfl ?_
    show Steps p.tables e below (T1.setTop (mkF m 7 #[.val (.ref u1), .val (.int (1 : Int32)), .val (.ref h0.size), .val (.int (7 : Int32)), .unset, .unset] [])) _
    refine XT.iconstV X1.here hx rfl (0 : Int32) (hb hby d_prog_14_method_6_code_7) (by decide) ?_
    show Steps p.tables e below (T1.setTop (mkF m 8 #[.val (.ref u1), .val (.int (1 : Int32)), .val (.ref h0.size), .val (.int (7 : Int32)), .unset, .unset] [(.int (0 : Int32))])) _
    refine XS.istore X1.here hx rfl (hb hby d_prog_14_method_6_code_8) rfl (l' := #[.val (.ref u1), .val (.int (1 : Int32)), .val (.ref h0.size), .val (.int (7 : Int32)), .val (.int (0 : Int32)), .unset]) rfl ?_
    show Steps p.tables e below (T1.setTop (mkF m 10 #[.val (.ref u1), .val (.int (1 : Int32)), .val (.ref h0.size), .val (.int (7 : Int32)), .val (.int (0 : Int32)), .unset] [])) _
    refine XS.iload X1.here hx rfl (hb hby d_prog_14_method_6_code_10) rfl ?_
    show Steps p.tables e below (T1.setTop (mkF m 12 #[.val (.ref u1), .val (.int (1 : Int32)), .val (.ref h0.size), .val (.int (7 : Int32)), .val (.int (0 : Int32)), .unset] [(.int (0 : Int32))])) _
    refine XS.iloadN X1.here hx rfl (hb hby d_prog_14_method_6_code_12) rfl ?_
    show Steps p.tables e below (T1.setTop (mkF m 13 #[.val (.ref u1), .val (.int (1 : Int32)), .val (.ref h0.size), .val (.int (7 : Int32)), .val (.int (0 : Int32)), .unset] [(.int (7 : Int32)), (.int (0 : Int32))])) _
    refine XS.icmpNo X1.here hx rfl (hb hby d_prog_14_method_6_code_13) rfl (by decide) ?_
    show Steps p.tables e below (T1.setTop (mkF m 16 #[.val (.ref u1), .val (.int (1 : Int32)), .val (.ref h0.size), .val (.int (7 : Int32)), .val (.int (0 : Int32)), .unset] [])) _
    refine XS.aloadN X1.here hx rfl (hb hby d_prog_14_method_6_code_16) rfl rfl ?_
    show Steps p.tables e below (T1.setTop (mkF m 17 #[.val (.ref u1), .val (.int (1 : Int32)), .val (.ref h0.size), .val (.int (7 : Int32)), .val (.int (0 : Int32)), .unset] [(.ref h0.size)])) _
    refine XS.iload X1.here hx rfl (hb hby d_prog_14_method_6_code_17) rfl ?_
    show Steps p.tables e below (T1.setTop (mkF m 19 #[.val (.ref u1), .val (.int (1 : Int32)), .val (.ref h0.size), .val (.int (7 : Int32)), .val (.int (0 : Int32)), .unset] [(.int (0 : Int32)), (.ref h0.size)])) _
    refine X1.aaload hx (j := (0 : Int32)) (v := (.ref b0)) (by first | exact Ar.1 | (rw [rfl]; exact Ar.1)) (State.isArrayOf_alike hZ.alike Ar.2.1) rfl Ar.2.2 (inb_of Sz ⟨by decide, by decide⟩) (Hs.at (inb_of Sz ⟨by decide, by decide⟩) rfl) (g := (mkF m 19 #[.val (.ref u1), .val (.int (1 : Int32)), .val (.ref h0.size), .val (.int (7 : Int32)), .val (.int (0 : Int32)), .unset] [(.int (0 : Int32)), (.ref h0.size)])) rfl rfl (hb hby d_prog_14_method_6_code_19) _ ?_
    show Steps p.tables e below (T1.setTop (mkF m 20 #[.val (.ref u1), .val (.int (1 : Int32)), .val (.ref h0.size), .val (.int (7 : Int32)), .val (.int (0 : Int32)), .unset] [(.ref b0)])) _
    refine XS.astore X1.here hx rfl (hb hby d_prog_14_method_6_code_20) rfl rfl (l' := #[.val (.ref u1), .val (.int (1 : Int32)), .val (.ref h0.size), .val (.int (7 : Int32)), .val (.int (0 : Int32)), .val (.ref b0)]) rfl ?_
    show Steps p.tables e below (T1.setTop (mkF m 22 #[.val (.ref u1), .val (.int (1 : Int32)), .val (.ref h0.size), .val (.int (7 : Int32)), .val (.int (0 : Int32)), .val (.ref b0)] [])) _
    refine XS.aload X1.here hx rfl (hb hby d_prog_14_method_6_code_22) rfl rfl ?_
    show Steps p.tables e below (T1.setTop (mkF m 24 #[.val (.ref u1), .val (.int (1 : Int32)), .val (.ref h0.size), .val (.int (7 : Int32)), .val (.int (0 : Int32)), .val (.ref b0)] [(.ref b0)])) _
    refine st2 _ ?_
    show Steps p.tables e below (T2.setTop (mkF m 27 #[.val (.ref u1), .val (.int (1 : Int32)), .val (.ref h0.size), .val (.int (7 : Int32)), .val (.int (0 : Int32)), .val (.ref b0)] [(.ref u0)])) _
    refine XS.aloadN X2.here hx rfl (hb hby d_prog_14_method_6_code_27) rfl rfl ?_
    show Steps p.tables e below (T2.setTop (mkF m 28 #[.val (.ref u1), .val (.int (1 : Int32)), .val (.ref h0.size), .val (.int (7 : Int32)), .val (.int (0 : Int32)), .val (.ref b0)] [(.ref u1), (.ref u0)])) _
    refine acmp X2 hx rfl rfl rfl (pc0 := 28) (pc' := 43) (same := false) rfl (hb hby d_prog_14_method_6_code_28) rfl (decide_eq_false fun q => ne01 (Value.ref.inj q)) (by decide) (by decide) ?_
    show Steps p.tables e below (T2.setTop (mkF m 43 #[.val (.ref u1), .val (.int (1 : Int32)), .val (.ref h0.size), .val (.int (7 : Int32)), .val (.int (0 : Int32)), .val (.ref b0)] [])) _
    refine XT.iincV X2.here hx rfl (1 : Int32) (hb hby d_prog_14_method_6_code_43) (by decide) rfl (l' := #[.val (.ref u1), .val (.int (1 : Int32)), .val (.ref h0.size), .val (.int (7 : Int32)), .val (.int (1 : Int32)), .val (.ref b0)]) rfl ?_
    show Steps p.tables e below (T2.setTop (mkF m 46 #[.val (.ref u1), .val (.int (1 : Int32)), .val (.ref h0.size), .val (.int (7 : Int32)), .val (.int (1 : Int32)), .val (.ref b0)] [])) _
    refine XS.goto X2.here hx rfl (pc0 := 46) (pc' := 10) rfl (hb hby d_prog_14_method_6_code_46) (by decide) (by decide) ?_
    show Steps p.tables e below (T2.setTop (mkF m 10 #[.val (.ref u1), .val (.int (1 : Int32)), .val (.ref h0.size), .val (.int (7 : Int32)), .val (.int (1 : Int32)), .val (.ref b0)] [])) _
    refine XS.iload X2.here hx rfl (hb hby d_prog_14_method_6_code_10) rfl ?_
    show Steps p.tables e below (T2.setTop (mkF m 12 #[.val (.ref u1), .val (.int (1 : Int32)), .val (.ref h0.size), .val (.int (7 : Int32)), .val (.int (1 : Int32)), .val (.ref b0)] [(.int (1 : Int32))])) _
    refine XS.iloadN X2.here hx rfl (hb hby d_prog_14_method_6_code_12) rfl ?_
    show Steps p.tables e below (T2.setTop (mkF m 13 #[.val (.ref u1), .val (.int (1 : Int32)), .val (.ref h0.size), .val (.int (7 : Int32)), .val (.int (1 : Int32)), .val (.ref b0)] [(.int (7 : Int32)), (.int (1 : Int32))])) _
    refine XS.icmpNo X2.here hx rfl (hb hby d_prog_14_method_6_code_13) rfl (by decide) ?_
    show Steps p.tables e below (T2.setTop (mkF m 16 #[.val (.ref u1), .val (.int (1 : Int32)), .val (.ref h0.size), .val (.int (7 : Int32)), .val (.int (1 : Int32)), .val (.ref b0)] [])) _
    refine XS.aloadN X2.here hx rfl (hb hby d_prog_14_method_6_code_16) rfl rfl ?_
    show Steps p.tables e below (T2.setTop (mkF m 17 #[.val (.ref u1), .val (.int (1 : Int32)), .val (.ref h0.size), .val (.int (7 : Int32)), .val (.int (1 : Int32)), .val (.ref b0)] [(.ref h0.size)])) _
    refine XS.iload X2.here hx rfl (hb hby d_prog_14_method_6_code_17) rfl ?_
    show Steps p.tables e below (T2.setTop (mkF m 19 #[.val (.ref u1), .val (.int (1 : Int32)), .val (.ref h0.size), .val (.int (7 : Int32)), .val (.int (1 : Int32)), .val (.ref b0)] [(.int (1 : Int32)), (.ref h0.size)])) _
    refine X2.aaload hx (j := (1 : Int32)) (v := (.ref b1)) (by first | exact Ar.1 | (rw [e2]; exact Ar.1)) (State.isArrayOf_alike hZ.alike Ar.2.1) rfl Ar.2.2 (inb_of Sz ⟨by decide, by decide⟩) (Hs.at (inb_of Sz ⟨by decide, by decide⟩) rfl) (g := (mkF m 19 #[.val (.ref u1), .val (.int (1 : Int32)), .val (.ref h0.size), .val (.int (7 : Int32)), .val (.int (1 : Int32)), .val (.ref b0)] [(.int (1 : Int32)), (.ref h0.size)])) rfl rfl (hb hby d_prog_14_method_6_code_19) _ ?_
    show Steps p.tables e below (T2.setTop (mkF m 20 #[.val (.ref u1), .val (.int (1 : Int32)), .val (.ref h0.size), .val (.int (7 : Int32)), .val (.int (1 : Int32)), .val (.ref b0)] [(.ref b1)])) _
    refine XS.astore X2.here hx rfl (hb hby d_prog_14_method_6_code_20) rfl rfl (l' := #[.val (.ref u1), .val (.int (1 : Int32)), .val (.ref h0.size), .val (.int (7 : Int32)), .val (.int (1 : Int32)), .val (.ref b1)]) rfl ?_
    show Steps p.tables e below (T2.setTop (mkF m 22 #[.val (.ref u1), .val (.int (1 : Int32)), .val (.ref h0.size), .val (.int (7 : Int32)), .val (.int (1 : Int32)), .val (.ref b1)] [])) _
    refine XS.aload X2.here hx rfl (hb hby d_prog_14_method_6_code_22) rfl rfl ?_
    show Steps p.tables e below (T2.setTop (mkF m 24 #[.val (.ref u1), .val (.int (1 : Int32)), .val (.ref h0.size), .val (.int (7 : Int32)), .val (.int (1 : Int32)), .val (.ref b1)] [(.ref b1)])) _
    refine st3 _ ?_
    show Steps p.tables e below (T3.setTop (mkF m 27 #[.val (.ref u1), .val (.int (1 : Int32)), .val (.ref h0.size), .val (.int (7 : Int32)), .val (.int (1 : Int32)), .val (.ref b1)] [(.ref u0)])) _
    refine XS.aloadN X3.here hx rfl (hb hby d_prog_14_method_6_code_27) rfl rfl ?_
    show Steps p.tables e below (T3.setTop (mkF m 28 #[.val (.ref u1), .val (.int (1 : Int32)), .val (.ref h0.size), .val (.int (7 : Int32)), .val (.int (1 : Int32)), .val (.ref b1)] [(.ref u1), (.ref u0)])) _
    refine acmp X3 hx rfl rfl rfl (pc0 := 28) (pc' := 43) (same := false) rfl (hb hby d_prog_14_method_6_code_28) rfl (decide_eq_false fun q => ne01 (Value.ref.inj q)) (by decide) (by decide) ?_
    show Steps p.tables e below (T3.setTop (mkF m 43 #[.val (.ref u1), .val (.int (1 : Int32)), .val (.ref h0.size), .val (.int (7 : Int32)), .val (.int (1 : Int32)), .val (.ref b1)] [])) _
    refine XT.iincV X3.here hx rfl (1 : Int32) (hb hby d_prog_14_method_6_code_43) (by decide) rfl (l' := #[.val (.ref u1), .val (.int (1 : Int32)), .val (.ref h0.size), .val (.int (7 : Int32)), .val (.int (2 : Int32)), .val (.ref b1)]) rfl ?_
    show Steps p.tables e below (T3.setTop (mkF m 46 #[.val (.ref u1), .val (.int (1 : Int32)), .val (.ref h0.size), .val (.int (7 : Int32)), .val (.int (2 : Int32)), .val (.ref b1)] [])) _
    refine XS.goto X3.here hx rfl (pc0 := 46) (pc' := 10) rfl (hb hby d_prog_14_method_6_code_46) (by decide) (by decide) ?_
    show Steps p.tables e below (T3.setTop (mkF m 10 #[.val (.ref u1), .val (.int (1 : Int32)), .val (.ref h0.size), .val (.int (7 : Int32)), .val (.int (2 : Int32)), .val (.ref b1)] [])) _
    refine XS.iload X3.here hx rfl (hb hby d_prog_14_method_6_code_10) rfl ?_
    show Steps p.tables e below (T3.setTop (mkF m 12 #[.val (.ref u1), .val (.int (1 : Int32)), .val (.ref h0.size), .val (.int (7 : Int32)), .val (.int (2 : Int32)), .val (.ref b1)] [(.int (2 : Int32))])) _
    refine XS.iloadN X3.here hx rfl (hb hby d_prog_14_method_6_code_12) rfl ?_
    show Steps p.tables e below (T3.setTop (mkF m 13 #[.val (.ref u1), .val (.int (1 : Int32)), .val (.ref h0.size), .val (.int (7 : Int32)), .val (.int (2 : Int32)), .val (.ref b1)] [(.int (7 : Int32)), (.int (2 : Int32))])) _
    refine XS.icmpNo X3.here hx rfl (hb hby d_prog_14_method_6_code_13) rfl (by decide) ?_
    show Steps p.tables e below (T3.setTop (mkF m 16 #[.val (.ref u1), .val (.int (1 : Int32)), .val (.ref h0.size), .val (.int (7 : Int32)), .val (.int (2 : Int32)), .val (.ref b1)] [])) _
    refine XS.aloadN X3.here hx rfl (hb hby d_prog_14_method_6_code_16) rfl rfl ?_
    show Steps p.tables e below (T3.setTop (mkF m 17 #[.val (.ref u1), .val (.int (1 : Int32)), .val (.ref h0.size), .val (.int (7 : Int32)), .val (.int (2 : Int32)), .val (.ref b1)] [(.ref h0.size)])) _
    refine XS.iload X3.here hx rfl (hb hby d_prog_14_method_6_code_17) rfl ?_
    show Steps p.tables e below (T3.setTop (mkF m 19 #[.val (.ref u1), .val (.int (1 : Int32)), .val (.ref h0.size), .val (.int (7 : Int32)), .val (.int (2 : Int32)), .val (.ref b1)] [(.int (2 : Int32)), (.ref h0.size)])) _
    refine X3.aaload hx (j := (2 : Int32)) (v := (.ref b2)) (by first | exact Ar.1 | (rw [e3]; exact Ar.1)) (State.isArrayOf_alike hZ.alike Ar.2.1) rfl Ar.2.2 (inb_of Sz ⟨by decide, by decide⟩) (Hs.at (inb_of Sz ⟨by decide, by decide⟩) rfl) (g := (mkF m 19 #[.val (.ref u1), .val (.int (1 : Int32)), .val (.ref h0.size), .val (.int (7 : Int32)), .val (.int (2 : Int32)), .val (.ref b1)] [(.int (2 : Int32)), (.ref h0.size)])) rfl rfl (hb hby d_prog_14_method_6_code_19) _ ?_
    show Steps p.tables e below (T3.setTop (mkF m 20 #[.val (.ref u1), .val (.int (1 : Int32)), .val (.ref h0.size), .val (.int (7 : Int32)), .val (.int (2 : Int32)), .val (.ref b1)] [(.ref b2)])) _
    refine XS.astore X3.here hx rfl (hb hby d_prog_14_method_6_code_20) rfl rfl (l' := #[.val (.ref u1), .val (.int (1 : Int32)), .val (.ref h0.size), .val (.int (7 : Int32)), .val (.int (2 : Int32)), .val (.ref b2)]) rfl ?_
    show Steps p.tables e below (T3.setTop (mkF m 22 #[.val (.ref u1), .val (.int (1 : Int32)), .val (.ref h0.size), .val (.int (7 : Int32)), .val (.int (2 : Int32)), .val (.ref b2)] [])) _
    refine XS.aload X3.here hx rfl (hb hby d_prog_14_method_6_code_22) rfl rfl ?_
    show Steps p.tables e below (T3.setTop (mkF m 24 #[.val (.ref u1), .val (.int (1 : Int32)), .val (.ref h0.size), .val (.int (7 : Int32)), .val (.int (2 : Int32)), .val (.ref b2)] [(.ref b2)])) _
    refine st4 _ ?_
    show Steps p.tables e below (T4.setTop (mkF m 27 #[.val (.ref u1), .val (.int (1 : Int32)), .val (.ref h0.size), .val (.int (7 : Int32)), .val (.int (2 : Int32)), .val (.ref b2)] [(.ref u1)])) _
    refine XS.aloadN X4.here hx rfl (hb hby d_prog_14_method_6_code_27) rfl rfl ?_
    show Steps p.tables e below (T4.setTop (mkF m 28 #[.val (.ref u1), .val (.int (1 : Int32)), .val (.ref h0.size), .val (.int (7 : Int32)), .val (.int (2 : Int32)), .val (.ref b2)] [(.ref u1), (.ref u1)])) _
    refine acmp X4 hx rfl rfl rfl (pc0 := 28) (pc' := 31) (same := true) rfl (hb hby d_prog_14_method_6_code_28) rfl (decide_eq_true rfl) (by decide) (by decide) ?_
    show Steps p.tables e below (T4.setTop (mkF m 31 #[.val (.ref u1), .val (.int (1 : Int32)), .val (.ref h0.size), .val (.int (7 : Int32)), .val (.int (2 : Int32)), .val (.ref b2)] [])) _
    refine XS.aload X4.here hx rfl (hb hby d_prog_14_method_6_code_31) rfl rfl ?_
    show Steps p.tables e below (T4.setTop (mkF m 33 #[.val (.ref u1), .val (.int (1 : Int32)), .val (.ref h0.size), .val (.int (7 : Int32)), .val (.int (2 : Int32)), .val (.ref b2)] [(.ref b2)])) _
    refine st5 _ ?_
    show Steps p.tables e below (T5.setTop (mkF m 36 #[.val (.ref u1), .val (.int (1 : Int32)), .val (.ref h0.size), .val (.int (7 : Int32)), .val (.int (2 : Int32)), .val (.ref b2)] [(.int (1 : Int32))])) _
    refine XS.iloadN X5.here hx rfl (hb hby d_prog_14_method_6_code_36) rfl ?_
    show Steps p.tables e below (T5.setTop (mkF m 37 #[.val (.ref u1), .val (.int (1 : Int32)), .val (.ref h0.size), .val (.int (7 : Int32)), .val (.int (2 : Int32)), .val (.ref b2)] [(.int (1 : Int32)), (.int (1 : Int32))])) _
    refine XS.icmpNo X5.here hx rfl (hb hby d_prog_14_method_6_code_37) rfl (by decide) ?_
    show Steps p.tables e below (T5.setTop (mkF m 40 #[.val (.ref u1), .val (.int (1 : Int32)), .val (.ref h0.size), .val (.int (7 : Int32)), .val (.int (2 : Int32)), .val (.ref b2)] [])) _
    refine XS.aload X5.here hx rfl (hb hby d_prog_14_method_6_code_40) rfl rfl ?_
    show Steps p.tables e below (T5.setTop (mkF m 42 #[.val (.ref u1), .val (.int (1 : Int32)), .val (.ref h0.size), .val (.int (7 : Int32)), .val (.int (2 : Int32)), .val (.ref b2)] [(.ref b2)])) _
    exact retOut X5 hx Bd.returns rfl (Or.inr (Or.inr (Or.inr (Or.inr ⟨rfl, rfl, rfl⟩)))) (hb hby d_prog_14_method_6_code_42) hr
  · exact ⟨rfl, N1, by show Ext h0 T5.heap; rw [e5]; exact Ex1⟩
theorem d_method_3_code_27 : decode method_3_code 27 = .ok (.getstatic 31, 3) := by decide +kernel
theorem d_method_3_code_30 : decode method_3_code 30 = .ok (.goto 6, 3) := by decide +kernel
def Q_eof_1_1 (Z : State) (b2 : Addr) (h0 : Heap) (n0 : Nat) (v : Option Value) (h : Heap) (L : List Loc) : Prop := v = some (.ref b2) ∧ Fr n0 L ∧ h = h0
set_option maxRecDepth 65536 in
set_option maxHeartbeats 40000000 in
theorem eof_1_1 (l : Launch) (Z : State) (a0 : Array Value) (hw : ∀ d ∈ tables_1, d.before a0 Z = true) (ws : List Jvm.Cond) (b2 : Addr) (h0 : Heap) (n0 : Nat) (Z0 : n0 ≤ h0.size) (Sb2 : Sta Z h0 "com/example/innesco/innesco/database/TriggerEvent" "BEFORE_UPDATE" "Lcom/example/innesco/innesco/database/TriggerEvent;" (.ref b2)) :
    MetFree l (⟨"com/example/innesco/innesco/database/TriggerEventOfPinLaw", "expectedOf", "(IZ)Lcom/example/innesco/innesco/database/TriggerEvent;"⟩ : MethodName) (head1 (Jvm.Cond.code (⟨"com/example/innesco/innesco/database/TriggerEventOfPinLaw", "expectedOf", "(IZ)Lcom/example/innesco/innesco/database/TriggerEvent;"⟩ : MethodName) method_3_code 2 (Option.some (Jvm.ClassFile.FieldType.object "com/example/innesco/innesco/database/TriggerEvent")) :: ws) ({ frames := 0, cells := 0, slots := 0, locals := 0 } : Room)) (fun a U => a = #[(.int (1 : Int32)), (.int (1 : Int32))] ∧ Z.Warmed39 U.vm ∧ U.heap = h0) (fun _ _ _ _ _ => True) (fun _ U o U' => ∃ v L, o = .returned v ∧ Q_eof_1_1 Z b2 h0 n0 v U'.heap L ∧ FrameEnd U o U' L ({ frames := 0, cells := 0, slots := 0, locals := 0 } : Room).cells ({ frames := 0, cells := 0, slots := 0, locals := 0 } : Room).slots) := by
  refine MetFree.of_bodySF (plainFor_of_name pn_11) hisR ?_
  intro p e s m args below meth c s₁ Bd hml0 hP hK
  obtain ⟨rfl, hZ, hh⟩ := hP
  have hx := Bd.exec
  have hby := Bd.bytes
  have hml : c.maxLocals = 2 := hml0
  have hown : s.vm.findClass "com/example/innesco/innesco/database/TriggerEventOfPinLaw" = some m.cls := findClass_of_methodNamed Bd.named
  have hnm := (name_of_methodNamed Bd.named Bd.method).1
  have X0 : Stand p l e ({ frames := 0, cells := 0, slots := 0, locals := 0 } : Room) s m #[(.int (1 : Int32)), (.int (1 : Int32))] below meth c s₁ [] 0 0 := Stand.of_body Bd
  have e0 : s₁.heap = h0 := by rw [← hh, Bd.state]; rfl
  have N0 := Fr.nil n0
  have pre0 : ∀ t, Steps p.tables e below (s₁.setTop (mkF m 0 #[.val (.int (1 : Int32)), .val (.int (1 : Int32))] [])) t → Steps p.tables e below (s₁.setTop (entryFrame m #[(.int (1 : Int32)), (.int (1 : Int32))] 2)) t := fun t k => castTop (ef_46 m (1 : Int32) (1 : Int32)) k
  obtain ⟨T1, X1, e1, st1⟩ := getS X0 hx hZ (host := "") hown (hw _ (List.mem_of_getElem? (i := 47) rfl)) Via.refl e0 Sb2 (g := (mkF m 27 #[.val (.int (1 : Int32)), .val (.int (1 : Int32))] [])) rfl (hb hby d_method_3_code_27)
  obtain ⟨fs, hr, hrun, hended, hW, hsame⟩ := X1.leave (v := some (.ref b2)) (fun h => by rw [Bd.returns] at h; cases h)
  refine ⟨_, _, pre0 _ ?_, hrun, hended, _, _, rfl, ?_, ⟨_, rfl⟩, hW, hsame.mono (by decide) (by decide)⟩
  · show Steps p.tables e below (s₁.setTop (mkF m 0 #[.val (.int (1 : Int32)), .val (.int (1 : Int32))] [])) _
    refine XS.iloadN X0.here hx rfl (hb hby d_method_3_code_0) rfl ?_
    show Steps p.tables e below (s₁.setTop (mkF m 1 #[.val (.int (1 : Int32)), .val (.int (1 : Int32))] [(.int (1 : Int32))])) _
    refine XS.ifYes X0.here hx rfl (pc0 := 1) (pc' := 18) rfl (hb hby d_method_3_code_1) rfl (by decide) (by decide) (by decide) ?_
    show Steps p.tables e below (s₁.setTop (mkF m 18 #[.val (.int (1 : Int32)), .val (.int (1 : Int32))] [])) _
    refine XS.iloadN X0.here hx rfl (hb hby d_method_3_code_18) rfl ?_
    show Steps p.tables e below (s₁.setTop (mkF m 19 #[.val (.int (1 : Int32)), .val (.int (1 : Int32))] [(.int (1 : Int32))])) _
    refine XT.iconstV X0.here hx rfl (1 : Int32) (hb hby d_method_3_code_19) (by decide) ?_
    show Steps p.tables e below (s₁.setTop (mkF m 20 #[.val (.int (1 : Int32)), .val (.int (1 : Int32))] [(.int (1 : Int32)), (.int (1 : Int32))])) _
    refine XS.icmpNo X0.here hx rfl (hb hby d_method_3_code_20) rfl (by decide) ?_
    show Steps p.tables e below (s₁.setTop (mkF m 23 #[.val (.int (1 : Int32)), .val (.int (1 : Int32))] [])) _
    refine XS.iloadN X0.here hx rfl (hb hby d_method_3_code_23) rfl ?_
    show Steps p.tables e below (s₁.setTop (mkF m 24 #[.val (.int (1 : Int32)), .val (.int (1 : Int32))] [(.int (1 : Int32))])) _
    refine XS.ifNo X0.here hx rfl (hb hby d_method_3_code_24) rfl (by decide) ?_
    show Steps p.tables e below (s₁.setTop (mkF m 27 #[.val (.int (1 : Int32)), .val (.int (1 : Int32))] [])) _
    refine st1 _ ?_
    show Steps p.tables e below (T1.setTop (mkF m 30 #[.val (.int (1 : Int32)), .val (.int (1 : Int32))] [(.ref b2)])) _
    refine XS.goto X1.here hx rfl (pc0 := 30) (pc' := 36) rfl (hb hby d_method_3_code_30) (by decide) (by decide) ?_
    show Steps p.tables e below (T1.setTop (mkF m 36 #[.val (.int (1 : Int32)), .val (.int (1 : Int32))] [(.ref b2)])) _
    exact retOut X1 hx Bd.returns rfl (Or.inr (Or.inr (Or.inr (Or.inr ⟨rfl, rfl, rfl⟩)))) (hb hby d_method_3_code_36) hr
  · exact ⟨rfl, N0, e1⟩
def Q_law_1_1 (Z : State) (p1 p2 : Int32) (aV : Addr) (kV : ClassId) (b0 b1 b2 b3 b4 b5 b6 : Addr) (u0 u1 u2 u3 : Addr) (h0 : Heap) (n0 : Nat) (v : Option Value) (h : Heap) (L : List Loc) : Prop := v = some (.int 1) ∧ Fr n0 L ∧ True
set_option maxRecDepth 65536 in
set_option maxHeartbeats 40000000 in
theorem law_1_1 (l : Launch) (Z : State) (a0 : Array Value) (hw : ∀ d ∈ tables_1, d.before a0 Z = true) (ws : List Jvm.Cond) (p1 p2 : Int32) (aV : Addr) (kV : ClassId) (b0 b1 b2 b3 b4 b5 b6 : Addr) (u0 u1 u2 u3 : Addr) (h0 : Heap) (n0 : Nat) (Z0 : n0 ≤ h0.size) (SaV : Sta Z h0 "com/example/innesco/innesco/database/TriggerEvent" "$VALUES" "[Lcom/example/innesco/innesco/database/TriggerEvent;" (.ref aV)) (VaV : Arv Z h0 aV kV (.object "com/example/innesco/innesco/database/TriggerEvent") (7 : Int32) [(.ref b0), (.ref b1), (.ref b2), (.ref b3), (.ref b4), (.ref b5), (.ref b6)] .null) (EaV : Exa Z h0 aV "[Lcom/example/innesco/innesco/database/TriggerEvent;")(Fw0 : Fld Z h0 b0 "com/example/innesco/innesco/database/TriggerEvent" "write" "Lcom/example/innesco/innesco/database/Write;" (.ref u0))(Fw1 : Fld Z h0 b1 "com/example/innesco/innesco/database/TriggerEvent" "write" "Lcom/example/innesco/innesco/database/Write;" (.ref u0))(Fw2 : Fld Z h0 b2 "com/example/innesco/innesco/database/TriggerEvent" "write" "Lcom/example/innesco/innesco/database/Write;" (.ref u1))(Fw3 : Fld Z h0 b3 "com/example/innesco/innesco/database/TriggerEvent" "write" "Lcom/example/innesco/innesco/database/Write;" (.ref u1))(Fw4 : Fld Z h0 b4 "com/example/innesco/innesco/database/TriggerEvent" "write" "Lcom/example/innesco/innesco/database/Write;" (.ref u2))(Fw5 : Fld Z h0 b5 "com/example/innesco/innesco/database/TriggerEvent" "write" "Lcom/example/innesco/innesco/database/Write;" (.ref u2))(Fw6 : Fld Z h0 b6 "com/example/innesco/innesco/database/TriggerEvent" "write" "Lcom/example/innesco/innesco/database/Write;" (.ref u3))(Fb0 : Fld Z h0 b0 "com/example/innesco/innesco/database/TriggerEvent" "before" "Z" (.int (1 : Int32)))(Fb1 : Fld Z h0 b1 "com/example/innesco/innesco/database/TriggerEvent" "before" "Z" (.int (0 : Int32)))(Fb2 : Fld Z h0 b2 "com/example/innesco/innesco/database/TriggerEvent" "before" "Z" (.int (1 : Int32)))(Fb3 : Fld Z h0 b3 "com/example/innesco/innesco/database/TriggerEvent" "before" "Z" (.int (0 : Int32)))(Fb4 : Fld Z h0 b4 "com/example/innesco/innesco/database/TriggerEvent" "before" "Z" (.int (1 : Int32)))(Fb5 : Fld Z h0 b5 "com/example/innesco/innesco/database/TriggerEvent" "before" "Z" (.int (0 : Int32)))(Fb6 : Fld Z h0 b6 "com/example/innesco/innesco/database/TriggerEvent" "before" "Z" (.int (0 : Int32)))(ne01 : u0 ≠ u1)(ne02 : u0 ≠ u2)(ne03 : u0 ≠ u3)(ne12 : u1 ≠ u2)(ne13 : u1 ≠ u3)(ne23 : u2 ≠ u3)(Su1 : Sta Z h0 "com/example/innesco/innesco/database/Write" "UPDATE" "Lcom/example/innesco/innesco/database/Write;" (.ref u1))(Sb2 : Sta Z h0 "com/example/innesco/innesco/database/TriggerEvent" "BEFORE_UPDATE" "Lcom/example/innesco/innesco/database/TriggerEvent;" (.ref b2))(hk0 : p1 &&& (3 : Int32) = (1 : Int32)) (hb0 : p2 &&& (1 : Int32) = (1 : Int32)) :
    MetFree l x (head1 (Jvm.Cond.code x code maxLocals ret :: ws) room_1) (fun a U => a = #[(.int p1), (.int p2)] ∧ Z.Warmed39 U.vm ∧ U.heap = h0) (fun _ _ _ _ _ => True) (fun _ U o U' => ∃ v L, o = .returned v ∧ Q_law_1_1 Z p1 p2 aV kV b0 b1 b2 b3 b4 b5 b6 u0 u1 u2 u3 h0 n0 v U'.heap L ∧ FrameEnd U o U' L 16 128) := by
  refine MetFree.of_bodySF (plainFor_of_name pn_11) hisR ?_
  intro p e s m args below meth c s₁ Bd hml0 hP hK
  obtain ⟨rfl, hZ, hh⟩ := hP
  have hx := Bd.exec
  have hby := Bd.bytes
  have hml : c.maxLocals = 7 := hml0
  have hown : s.vm.findClass "com/example/innesco/innesco/database/TriggerEventOfPinLaw" = some m.cls := findClass_of_methodNamed Bd.named
  have hnm := (name_of_methodNamed Bd.named Bd.method).1
  have X0 : Stand p l e room_1 s m #[(.int p1), (.int p2)] below meth c s₁ [] 0 0 := Stand.of_body Bd
  have e0 : s₁.heap = h0 := by rw [← hh, Bd.state]; rfl
  have N0 := Fr.nil n0
  have pre0 : ∀ t, Steps p.tables e below (s₁.setTop (mkF m 0 #[.val (.int p1), .val (.int p2), .unset, .unset, .unset, .unset, .unset] [])) t → Steps p.tables e below (s₁.setTop (entryFrame m #[(.int p1), (.int p2)] maxLocals)) t := fun t k => castTop (ef_50 m p1 p2) k
  obtain ⟨_, _, ⟨T1, L1, k1, n1⟩, -, X1, ⟨Lc1, hQ1, l1, y1, z1⟩, st1⟩ := Jvm.LawKit.callS X0 hx (y := (⟨"com/example/innesco/innesco/database/TriggerEventOfPinLaw", "writeOf", "(I)Lcom/example/innesco/innesco/database/Write;"⟩ : MethodName)) hown (mvT hZ (hw _ (List.mem_of_getElem? (i := 0) rfl))) (mvT hZ (hw _ (List.mem_of_getElem? (i := 1) rfl))) (mvT hZ (hw _ (List.mem_of_getElem? (i := 2) rfl))) (mvT hZ (hw _ (List.mem_of_getElem? (i := 3) rfl))) (by decide) (backOf (W := 0) (wof_1 l Z a0 hw [] u1 h0 n0 Z0 Su1) hZ (hw _ (List.mem_of_getElem? (i := 3) rfl)) (hw _ (List.mem_of_getElem? (i := 2) rfl)) (by decide) (by decide)) (g := (mkF m 17 #[.val (.int p1), .val (.int p2), .val (.int (1 : Int32)), .val (.int (1 : Int32)), .unset, .unset, .unset] [(.int (1 : Int32))])) rfl (by rw [hml]; rfl) (argsL := [(.int (1 : Int32))]) (rest := []) (lenOf pd_47 rfl) rfl (by show 2 * 0 + _ ≤ _; exact Nat.le_of_eq rfl) (hb hby at_17) (fun _ _ => ⟨rfl, e0, (by decide : 0 + 0 ≤ _), (by decide : 0 + 0 ≤ _)⟩)
  dsimp only [Pt.U, Pt.locs, Pt.cells, Pt.slots] at X1 l1 y1 z1 st1 hQ1
  subst l1 y1 z1
  obtain ⟨rfl, N1q, e1⟩ := hQ1
  have N1 := Fr.app N0 N1q
  obtain ⟨_, _, ⟨T2, L2, k2, n2⟩, -, X2, ⟨Lc2, hQ2, l2, y2, z2⟩, st2⟩ := Jvm.LawKit.callS X1 hx (y := (⟨"com/example/innesco/innesco/database/TriggerEventOfPinLaw", "expectedOf", "(IZ)Lcom/example/innesco/innesco/database/TriggerEvent;"⟩ : MethodName)) hown (mvT hZ (hw _ (List.mem_of_getElem? (i := 7) rfl))) (mvT hZ (hw _ (List.mem_of_getElem? (i := 8) rfl))) (mvT hZ (hw _ (List.mem_of_getElem? (i := 2) rfl))) (mvT hZ (hw _ (List.mem_of_getElem? (i := 9) rfl))) (by decide) (backOf (W := 0) (eof_1_1 l Z a0 hw [] b2 h0 n0 Z0 Sb2) hZ (hw _ (List.mem_of_getElem? (i := 9) rfl)) (hw _ (List.mem_of_getElem? (i := 2) rfl)) (by decide) (by decide)) (g := (mkF m 24 #[.val (.int p1), .val (.int p2), .val (.int (1 : Int32)), .val (.int (1 : Int32)), .val (.ref u1), .unset, .unset] [(.int (1 : Int32)), (.int (1 : Int32))])) rfl (by rw [hml]; rfl) (argsL := [(.int (1 : Int32)), (.int (1 : Int32))]) (rest := []) (lenOf pd_48 rfl) rfl (by show 2 * 0 + _ ≤ _; exact Nat.le_of_eq rfl) (hb hby at_24) (fun _ _ => ⟨rfl, e1, (by decide : 0 + 0 ≤ _), (by decide : 0 + 0 ≤ _)⟩)
  dsimp only [Pt.U, Pt.locs, Pt.cells, Pt.slots] at X2 l2 y2 z2 st2 hQ2
  subst l2 y2 z2
  obtain ⟨rfl, N2q, e2⟩ := hQ2
  have N2 := Fr.app N1 N2q
  obtain ⟨_, _, ⟨T3, L3, k3, n3⟩, -, X3, ⟨Lc3, hQ3, l3, y3, z3⟩, st3⟩ := Jvm.LawKit.callS X2 hx (y := (⟨"com/example/innesco/innesco/database/TriggerEvent", "of", "(Lcom/example/innesco/innesco/database/Write;Z)Lcom/example/innesco/innesco/database/TriggerEvent;"⟩ : MethodName)) hown (mvT hZ (hw _ (List.mem_of_getElem? (i := 13) rfl))) (mvT hZ (hw _ (List.mem_of_getElem? (i := 14) rfl))) (mvT hZ (hw _ (List.mem_of_getElem? (i := 11) rfl))) (mvT hZ (hw _ (List.mem_of_getElem? (i := 15) rfl))) (by decide) (backOf (W := 0) (of_1_1 l Z a0 hw [] aV kV b0 b1 b2 b3 b4 b5 b6 u0 u1 u2 u3 h0 n0 Z0 SaV VaV EaV Fw0 Fw1 Fw2 Fw3 Fw4 Fw5 Fw6 Fb0 Fb1 Fb2 Fb3 Fb4 Fb5 Fb6 ne01 ne02 ne03 ne12 ne13 ne23) hZ (hw _ (List.mem_of_getElem? (i := 15) rfl)) (hw _ (List.mem_of_getElem? (i := 11) rfl)) (by decide) (by decide)) (g := (mkF m 32 #[.val (.int p1), .val (.int p2), .val (.int (1 : Int32)), .val (.int (1 : Int32)), .val (.ref u1), .val (.ref b2), .unset] [(.int (1 : Int32)), (.ref u1)])) rfl (by rw [hml]; rfl) (argsL := [(.ref u1), (.int (1 : Int32))]) (rest := []) (lenOf pd_49 rfl) rfl (by show 2 * 0 + _ ≤ _; exact Nat.le_of_eq rfl) (hb hby at_32) (fun _ _ => ⟨rfl, e2, (by decide : 0 + 1 ≤ _), (by decide : 0 + 7 ≤ _)⟩)
  dsimp only [Pt.U, Pt.locs, Pt.cells, Pt.slots] at X3 l3 y3 z3 st3 hQ3
  subst l3 y3 z3
  obtain ⟨rfl, N3q, Ex3⟩ := hQ3
  have N3 := Fr.app N2 N3q
  obtain ⟨fs, hr, hrun, hended, hW, hsame⟩ := X3.leave (v := some (.int (1 : Int32))) (fun h => by rw [Bd.returns] at h; cases h)
  refine ⟨_, _, pre0 _ ?_, hrun, hended, _, _, rfl, ?_, ⟨_, rfl⟩, hW, hsame.mono (by decide) (by decide)⟩
  · show Steps p.tables e below (s₁.setTop (mkF m 0 #[.val (.int p1), .val (.int p2), .unset, .unset, .unset, .unset, .unset] [])) _
    refine XS.iloadN X0.here hx rfl (hb hby at_0) rfl ?_
    show Steps p.tables e below (s₁.setTop (mkF m 1 #[.val (.int p1), .val (.int p2), .unset, .unset, .unset, .unset, .unset] [(.int p1)])) _
    refine XT.iconstV X0.here hx rfl (3 : Int32) (hb hby at_1) (by decide) ?_
    show Steps p.tables e below (s₁.setTop (mkF m 2 #[.val (.int p1), .val (.int p2), .unset, .unset, .unset, .unset, .unset] [(.int (3 : Int32)), (.int p1)])) _
    refine XS.iand X0.here hx rfl (hb hby at_2) rfl ?_
    show Steps p.tables e below (s₁.setTop (mkF m 3 #[.val (.int p1), .val (.int p2), .unset, .unset, .unset, .unset, .unset] [(.int (p1 &&& (3 : Int32)))])) _
    rw [hk0]
    show Steps p.tables e below (s₁.setTop (mkF m 3 #[.val (.int p1), .val (.int p2), .unset, .unset, .unset, .unset, .unset] [(.int (1 : Int32))])) _
    refine XS.istoreN X0.here hx rfl (hb hby at_3) rfl (l' := #[.val (.int p1), .val (.int p2), .val (.int (1 : Int32)), .unset, .unset, .unset, .unset]) rfl ?_
    show Steps p.tables e below (s₁.setTop (mkF m 4 #[.val (.int p1), .val (.int p2), .val (.int (1 : Int32)), .unset, .unset, .unset, .unset] [])) _
    refine XS.iloadN X0.here hx rfl (hb hby at_4) rfl ?_
    show Steps p.tables e below (s₁.setTop (mkF m 5 #[.val (.int p1), .val (.int p2), .val (.int (1 : Int32)), .unset, .unset, .unset, .unset] [(.int p2)])) _
    refine XT.iconstV X0.here hx rfl (1 : Int32) (hb hby at_5) (by decide) ?_
    show Steps p.tables e below (s₁.setTop (mkF m 6 #[.val (.int p1), .val (.int p2), .val (.int (1 : Int32)), .unset, .unset, .unset, .unset] [(.int (1 : Int32)), (.int p2)])) _
    refine XS.iand X0.here hx rfl (hb hby at_6) rfl ?_
    show Steps p.tables e below (s₁.setTop (mkF m 7 #[.val (.int p1), .val (.int p2), .val (.int (1 : Int32)), .unset, .unset, .unset, .unset] [(.int (p2 &&& (1 : Int32)))])) _
    rw [hb0]
    show Steps p.tables e below (s₁.setTop (mkF m 7 #[.val (.int p1), .val (.int p2), .val (.int (1 : Int32)), .unset, .unset, .unset, .unset] [(.int (1 : Int32))])) _
    refine XS.ifNo X0.here hx rfl (hb hby at_7) rfl (by decide) ?_
    show Steps p.tables e below (s₁.setTop (mkF m 10 #[.val (.int p1), .val (.int p2), .val (.int (1 : Int32)), .unset, .unset, .unset, .unset] [])) _
    refine XT.iconstV X0.here hx rfl (1 : Int32) (hb hby at_10) (by decide) ?_
    show Steps p.tables e below (s₁.setTop (mkF m 11 #[.val (.int p1), .val (.int p2), .val (.int (1 : Int32)), .unset, .unset, .unset, .unset] [(.int (1 : Int32))])) _
    refine XS.goto X0.here hx rfl (pc0 := 11) (pc' := 15) rfl (hb hby at_11) (by decide) (by decide) ?_
    show Steps p.tables e below (s₁.setTop (mkF m 15 #[.val (.int p1), .val (.int p2), .val (.int (1 : Int32)), .unset, .unset, .unset, .unset] [(.int (1 : Int32))])) _
    refine XS.istoreN X0.here hx rfl (hb hby at_15) rfl (l' := #[.val (.int p1), .val (.int p2), .val (.int (1 : Int32)), .val (.int (1 : Int32)), .unset, .unset, .unset]) rfl ?_
    show Steps p.tables e below (s₁.setTop (mkF m 16 #[.val (.int p1), .val (.int p2), .val (.int (1 : Int32)), .val (.int (1 : Int32)), .unset, .unset, .unset] [])) _
    refine XS.iloadN X0.here hx rfl (hb hby at_16) rfl ?_
    show Steps p.tables e below (s₁.setTop (mkF m 17 #[.val (.int p1), .val (.int p2), .val (.int (1 : Int32)), .val (.int (1 : Int32)), .unset, .unset, .unset] [(.int (1 : Int32))])) _
    refine st1 _ ?_
    show Steps p.tables e below (T1.setTop (mkF m 20 #[.val (.int p1), .val (.int p2), .val (.int (1 : Int32)), .val (.int (1 : Int32)), .unset, .unset, .unset] [(.ref u1)])) _
    refine XS.astore X1.here hx rfl (hb hby at_20) rfl rfl (l' := #[.val (.int p1), .val (.int p2), .val (.int (1 : Int32)), .val (.int (1 : Int32)), .val (.ref u1), .unset, .unset]) rfl ?_
    show Steps p.tables e below (T1.setTop (mkF m 22 #[.val (.int p1), .val (.int p2), .val (.int (1 : Int32)), .val (.int (1 : Int32)), .val (.ref u1), .unset, .unset] [])) _
    refine XS.iloadN X1.here hx rfl (hb hby at_22) rfl ?_
    show Steps p.tables e below (T1.setTop (mkF m 23 #[.val (.int p1), .val (.int p2), .val (.int (1 : Int32)), .val (.int (1 : Int32)), .val (.ref u1), .unset, .unset] [(.int (1 : Int32))])) _
    refine XS.iloadN X1.here hx rfl (hb hby at_23) rfl ?_
    show Steps p.tables e below (T1.setTop (mkF m 24 #[.val (.int p1), .val (.int p2), .val (.int (1 : Int32)), .val (.int (1 : Int32)), .val (.ref u1), .unset, .unset] [(.int (1 : Int32)), (.int (1 : Int32))])) _
    refine st2 _ ?_
    show Steps p.tables e below (T2.setTop (mkF m 27 #[.val (.int p1), .val (.int p2), .val (.int (1 : Int32)), .val (.int (1 : Int32)), .val (.ref u1), .unset, .unset] [(.ref b2)])) _
    refine XS.astore X2.here hx rfl (hb hby at_27) rfl rfl (l' := #[.val (.int p1), .val (.int p2), .val (.int (1 : Int32)), .val (.int (1 : Int32)), .val (.ref u1), .val (.ref b2), .unset]) rfl ?_
    show Steps p.tables e below (T2.setTop (mkF m 29 #[.val (.int p1), .val (.int p2), .val (.int (1 : Int32)), .val (.int (1 : Int32)), .val (.ref u1), .val (.ref b2), .unset] [])) _
    refine XS.aload X2.here hx rfl (hb hby at_29) rfl rfl ?_
    show Steps p.tables e below (T2.setTop (mkF m 31 #[.val (.int p1), .val (.int p2), .val (.int (1 : Int32)), .val (.int (1 : Int32)), .val (.ref u1), .val (.ref b2), .unset] [(.ref u1)])) _
    refine XS.iloadN X2.here hx rfl (hb hby at_31) rfl ?_
    show Steps p.tables e below (T2.setTop (mkF m 32 #[.val (.int p1), .val (.int p2), .val (.int (1 : Int32)), .val (.int (1 : Int32)), .val (.ref u1), .val (.ref b2), .unset] [(.int (1 : Int32)), (.ref u1)])) _
    refine st3 _ ?_
    show Steps p.tables e below (T3.setTop (mkF m 35 #[.val (.int p1), .val (.int p2), .val (.int (1 : Int32)), .val (.int (1 : Int32)), .val (.ref u1), .val (.ref b2), .unset] [(.ref b2)])) _
    refine XS.astore X3.here hx rfl (hb hby at_35) rfl rfl (l' := #[.val (.int p1), .val (.int p2), .val (.int (1 : Int32)), .val (.int (1 : Int32)), .val (.ref u1), .val (.ref b2), .val (.ref b2)]) rfl ?_
    show Steps p.tables e below (T3.setTop (mkF m 37 #[.val (.int p1), .val (.int p2), .val (.int (1 : Int32)), .val (.int (1 : Int32)), .val (.ref u1), .val (.ref b2), .val (.ref b2)] [])) _
    refine XS.aload X3.here hx rfl (hb hby at_37) rfl rfl ?_
    show Steps p.tables e below (T3.setTop (mkF m 39 #[.val (.int p1), .val (.int p2), .val (.int (1 : Int32)), .val (.int (1 : Int32)), .val (.ref u1), .val (.ref b2), .val (.ref b2)] [(.ref b2)])) _
    refine XS.aload X3.here hx rfl (hb hby at_39) rfl rfl ?_
    show Steps p.tables e below (T3.setTop (mkF m 41 #[.val (.int p1), .val (.int p2), .val (.int (1 : Int32)), .val (.int (1 : Int32)), .val (.ref u1), .val (.ref b2), .val (.ref b2)] [(.ref b2), (.ref b2)])) _
    refine acmp X3 hx rfl rfl rfl (pc0 := 41) (pc' := 44) (same := true) rfl (hb hby at_41) rfl (decide_eq_true rfl) (by decide) (by decide) ?_
    show Steps p.tables e below (T3.setTop (mkF m 44 #[.val (.int p1), .val (.int p2), .val (.int (1 : Int32)), .val (.int (1 : Int32)), .val (.ref u1), .val (.ref b2), .val (.ref b2)] [])) _
    refine XT.iconstV X3.here hx rfl (1 : Int32) (hb hby at_44) (by decide) ?_
    show Steps p.tables e below (T3.setTop (mkF m 45 #[.val (.int p1), .val (.int p2), .val (.int (1 : Int32)), .val (.int (1 : Int32)), .val (.ref u1), .val (.ref b2), .val (.ref b2)] [(.int (1 : Int32))])) _
    refine XS.goto X3.here hx rfl (pc0 := 45) (pc' := 49) rfl (hb hby at_45) (by decide) (by decide) ?_
    show Steps p.tables e below (T3.setTop (mkF m 49 #[.val (.int p1), .val (.int p2), .val (.int (1 : Int32)), .val (.int (1 : Int32)), .val (.ref u1), .val (.ref b2), .val (.ref b2)] [(.int (1 : Int32))])) _
    exact retN X3 hx (t := .boolean) Bd.returns (by simp) (hb hby at_49) hr
  · exact ⟨rfl, N3, trivial⟩
theorem d_method_2_code_17 : decode method_2_code 17 = .ok (.iload_n 0, 1) := by decide +kernel
theorem d_method_2_code_18 : decode method_2_code 18 = .ok (.iconst 2, 1) := by decide +kernel
theorem d_method_2_code_19 : decode method_2_code 19 = .ok (.if_icmp .ne 7, 3) := by decide +kernel
theorem d_method_2_code_22 : decode method_2_code 22 = .ok (.getstatic 16, 3) := by decide +kernel
theorem d_method_2_code_25 : decode method_2_code 25 = .ok (.areturn, 1) := by decide +kernel
def Q_wof_2 (Z : State) (u2 : Addr) (h0 : Heap) (n0 : Nat) (v : Option Value) (h : Heap) (L : List Loc) : Prop := v = some (.ref u2) ∧ Fr n0 L ∧ h = h0
set_option maxRecDepth 65536 in
set_option maxHeartbeats 40000000 in
theorem wof_2 (l : Launch) (Z : State) (a0 : Array Value) (hw : ∀ d ∈ tables_1, d.before a0 Z = true) (ws : List Jvm.Cond) (u2 : Addr) (h0 : Heap) (n0 : Nat) (Z0 : n0 ≤ h0.size) (Su2 : Sta Z h0 "com/example/innesco/innesco/database/Write" "DELETE" "Lcom/example/innesco/innesco/database/Write;" (.ref u2)) :
    MetFree l (⟨"com/example/innesco/innesco/database/TriggerEventOfPinLaw", "writeOf", "(I)Lcom/example/innesco/innesco/database/Write;"⟩ : MethodName) (head1 (Jvm.Cond.code (⟨"com/example/innesco/innesco/database/TriggerEventOfPinLaw", "writeOf", "(I)Lcom/example/innesco/innesco/database/Write;"⟩ : MethodName) method_2_code 1 (Option.some (Jvm.ClassFile.FieldType.object "com/example/innesco/innesco/database/Write")) :: ws) ({ frames := 0, cells := 0, slots := 0, locals := 0 } : Room)) (fun a U => a = #[(.int (2 : Int32))] ∧ Z.Warmed39 U.vm ∧ U.heap = h0) (fun _ _ _ _ _ => True) (fun _ U o U' => ∃ v L, o = .returned v ∧ Q_wof_2 Z u2 h0 n0 v U'.heap L ∧ FrameEnd U o U' L ({ frames := 0, cells := 0, slots := 0, locals := 0 } : Room).cells ({ frames := 0, cells := 0, slots := 0, locals := 0 } : Room).slots) := by
  refine MetFree.of_bodySF (plainFor_of_name pn_11) hisR ?_
  intro p e s m args below meth c s₁ Bd hml0 hP hK
  obtain ⟨rfl, hZ, hh⟩ := hP
  have hx := Bd.exec
  have hby := Bd.bytes
  have hml : c.maxLocals = 1 := hml0
  have hown : s.vm.findClass "com/example/innesco/innesco/database/TriggerEventOfPinLaw" = some m.cls := findClass_of_methodNamed Bd.named
  have hnm := (name_of_methodNamed Bd.named Bd.method).1
  have X0 : Stand p l e ({ frames := 0, cells := 0, slots := 0, locals := 0 } : Room) s m #[(.int (2 : Int32))] below meth c s₁ [] 0 0 := Stand.of_body Bd
  have e0 : s₁.heap = h0 := by rw [← hh, Bd.state]; rfl
  have N0 := Fr.nil n0
  have pre0 : ∀ t, Steps p.tables e below (s₁.setTop (mkF m 0 #[.val (.int (2 : Int32))] [])) t → Steps p.tables e below (s₁.setTop (entryFrame m #[(.int (2 : Int32))] 1)) t := fun t k => castTop (ef_10 m (2 : Int32)) k
  obtain ⟨T1, X1, e1, st1⟩ := getS X0 hx hZ (host := "") hown (hw _ (List.mem_of_getElem? (i := 41) rfl)) Via.refl e0 Su2 (g := (mkF m 22 #[.val (.int (2 : Int32))] [])) rfl (hb hby d_method_2_code_22)
  obtain ⟨fs, hr, hrun, hended, hW, hsame⟩ := X1.leave (v := some (.ref u2)) (fun h => by rw [Bd.returns] at h; cases h)
  refine ⟨_, _, pre0 _ ?_, hrun, hended, _, _, rfl, ?_, ⟨_, rfl⟩, hW, hsame.mono (by decide) (by decide)⟩
  · show Steps p.tables e below (s₁.setTop (mkF m 0 #[.val (.int (2 : Int32))] [])) _
    refine XS.iloadN X0.here hx rfl (hb hby d_method_2_code_0) rfl ?_
    show Steps p.tables e below (s₁.setTop (mkF m 1 #[.val (.int (2 : Int32))] [(.int (2 : Int32))])) _
    refine XS.ifYes X0.here hx rfl (pc0 := 1) (pc' := 8) rfl (hb hby d_method_2_code_1) rfl (by decide) (by decide) (by decide) ?_
    show Steps p.tables e below (s₁.setTop (mkF m 8 #[.val (.int (2 : Int32))] [])) _
    refine XS.iloadN X0.here hx rfl (hb hby d_method_2_code_8) rfl ?_
    show Steps p.tables e below (s₁.setTop (mkF m 9 #[.val (.int (2 : Int32))] [(.int (2 : Int32))])) _
    refine XT.iconstV X0.here hx rfl (1 : Int32) (hb hby d_method_2_code_9) (by decide) ?_
    show Steps p.tables e below (s₁.setTop (mkF m 10 #[.val (.int (2 : Int32))] [(.int (1 : Int32)), (.int (2 : Int32))])) _
    refine XS.icmpYes X0.here hx rfl (pc0 := 10) (pc' := 17) rfl (hb hby d_method_2_code_10) rfl (by decide) (by decide) (by decide) ?_
    show Steps p.tables e below (s₁.setTop (mkF m 17 #[.val (.int (2 : Int32))] [])) _
    refine XS.iloadN X0.here hx rfl (hb hby d_method_2_code_17) rfl ?_
    show Steps p.tables e below (s₁.setTop (mkF m 18 #[.val (.int (2 : Int32))] [(.int (2 : Int32))])) _
    refine XT.iconstV X0.here hx rfl (2 : Int32) (hb hby d_method_2_code_18) (by decide) ?_
    show Steps p.tables e below (s₁.setTop (mkF m 19 #[.val (.int (2 : Int32))] [(.int (2 : Int32)), (.int (2 : Int32))])) _
    refine XS.icmpNo X0.here hx rfl (hb hby d_method_2_code_19) rfl (by decide) ?_
    show Steps p.tables e below (s₁.setTop (mkF m 22 #[.val (.int (2 : Int32))] [])) _
    refine st1 _ ?_
    show Steps p.tables e below (T1.setTop (mkF m 25 #[.val (.int (2 : Int32))] [(.ref u2)])) _
    exact retOut X1 hx Bd.returns rfl (Or.inr (Or.inr (Or.inr (Or.inr ⟨rfl, rfl, rfl⟩)))) (hb hby d_method_2_code_25) hr
  · exact ⟨rfl, N0, e1⟩
def Q_of_2_0 (Z : State) (aV : Addr) (kV : ClassId) (b0 b1 b2 b3 b4 b5 b6 : Addr) (u0 u1 u2 u3 : Addr) (h0 : Heap) (n0 : Nat) (v : Option Value) (h : Heap) (L : List Loc) : Prop := v = some (.ref b5) ∧ Fr n0 L ∧ Ext h0 h
set_option maxRecDepth 65536 in
set_option maxHeartbeats 40000000 in
theorem of_2_0 (l : Launch) (Z : State) (a0 : Array Value) (hw : ∀ d ∈ tables_1, d.before a0 Z = true) (ws : List Jvm.Cond) (aV : Addr) (kV : ClassId) (b0 b1 b2 b3 b4 b5 b6 : Addr) (u0 u1 u2 u3 : Addr) (h0 : Heap) (n0 : Nat) (Z0 : n0 ≤ h0.size) (SaV : Sta Z h0 "com/example/innesco/innesco/database/TriggerEvent" "$VALUES" "[Lcom/example/innesco/innesco/database/TriggerEvent;" (.ref aV)) (VaV : Arv Z h0 aV kV (.object "com/example/innesco/innesco/database/TriggerEvent") (7 : Int32) [(.ref b0), (.ref b1), (.ref b2), (.ref b3), (.ref b4), (.ref b5), (.ref b6)] .null) (EaV : Exa Z h0 aV "[Lcom/example/innesco/innesco/database/TriggerEvent;")(Fw0 : Fld Z h0 b0 "com/example/innesco/innesco/database/TriggerEvent" "write" "Lcom/example/innesco/innesco/database/Write;" (.ref u0))(Fw1 : Fld Z h0 b1 "com/example/innesco/innesco/database/TriggerEvent" "write" "Lcom/example/innesco/innesco/database/Write;" (.ref u0))(Fw2 : Fld Z h0 b2 "com/example/innesco/innesco/database/TriggerEvent" "write" "Lcom/example/innesco/innesco/database/Write;" (.ref u1))(Fw3 : Fld Z h0 b3 "com/example/innesco/innesco/database/TriggerEvent" "write" "Lcom/example/innesco/innesco/database/Write;" (.ref u1))(Fw4 : Fld Z h0 b4 "com/example/innesco/innesco/database/TriggerEvent" "write" "Lcom/example/innesco/innesco/database/Write;" (.ref u2))(Fw5 : Fld Z h0 b5 "com/example/innesco/innesco/database/TriggerEvent" "write" "Lcom/example/innesco/innesco/database/Write;" (.ref u2))(Fw6 : Fld Z h0 b6 "com/example/innesco/innesco/database/TriggerEvent" "write" "Lcom/example/innesco/innesco/database/Write;" (.ref u3))(Fb0 : Fld Z h0 b0 "com/example/innesco/innesco/database/TriggerEvent" "before" "Z" (.int (1 : Int32)))(Fb1 : Fld Z h0 b1 "com/example/innesco/innesco/database/TriggerEvent" "before" "Z" (.int (0 : Int32)))(Fb2 : Fld Z h0 b2 "com/example/innesco/innesco/database/TriggerEvent" "before" "Z" (.int (1 : Int32)))(Fb3 : Fld Z h0 b3 "com/example/innesco/innesco/database/TriggerEvent" "before" "Z" (.int (0 : Int32)))(Fb4 : Fld Z h0 b4 "com/example/innesco/innesco/database/TriggerEvent" "before" "Z" (.int (1 : Int32)))(Fb5 : Fld Z h0 b5 "com/example/innesco/innesco/database/TriggerEvent" "before" "Z" (.int (0 : Int32)))(Fb6 : Fld Z h0 b6 "com/example/innesco/innesco/database/TriggerEvent" "before" "Z" (.int (0 : Int32)))(ne01 : u0 ≠ u1)(ne02 : u0 ≠ u2)(ne03 : u0 ≠ u3)(ne12 : u1 ≠ u2)(ne13 : u1 ≠ u3)(ne23 : u2 ≠ u3) :
    MetFree l (⟨"com/example/innesco/innesco/database/TriggerEvent", "of", "(Lcom/example/innesco/innesco/database/Write;Z)Lcom/example/innesco/innesco/database/TriggerEvent;"⟩ : MethodName) (head1 (Jvm.Cond.code (⟨"com/example/innesco/innesco/database/TriggerEvent", "of", "(Lcom/example/innesco/innesco/database/Write;Z)Lcom/example/innesco/innesco/database/TriggerEvent;"⟩ : MethodName) prog_14_method_6_code 6 (Option.some (Jvm.ClassFile.FieldType.object "com/example/innesco/innesco/database/TriggerEvent")) :: ws) ({ frames := 2, cells := 1, slots := 7, locals := 25 } : Room)) (fun a U => a = #[(.ref u2), (.int (0 : Int32))] ∧ Z.Warmed39 U.vm ∧ U.heap = h0) (fun _ _ _ _ _ => True) (fun _ U o U' => ∃ v L, o = .returned v ∧ Q_of_2_0 Z aV kV b0 b1 b2 b3 b4 b5 b6 u0 u1 u2 u3 h0 n0 v U'.heap L ∧ FrameEnd U o U' L ({ frames := 2, cells := 1, slots := 7, locals := 25 } : Room).cells ({ frames := 2, cells := 1, slots := 7, locals := 25 } : Room).slots) := by
  refine MetFree.of_bodySF (plainFor_of_name pn_5) hisR ?_
  intro p e s m args below meth c s₁ Bd hml0 hP hK
  obtain ⟨rfl, hZ, hh⟩ := hP
  have hx := Bd.exec
  have hby := Bd.bytes
  have hml : c.maxLocals = 6 := hml0
  have hown : s.vm.findClass "com/example/innesco/innesco/database/TriggerEvent" = some m.cls := findClass_of_methodNamed Bd.named
  have hnm := (name_of_methodNamed Bd.named Bd.method).1
  have X0 : Stand p l e ({ frames := 2, cells := 1, slots := 7, locals := 25 } : Room) s m #[(.ref u2), (.int (0 : Int32))] below meth c s₁ [] 0 0 := Stand.of_body Bd
  have e0 : s₁.heap = h0 := by rw [← hh, Bd.state]; rfl
  have N0 := Fr.nil n0
  have pre0 : ∀ t, Steps p.tables e below (s₁.setTop (mkF m 0 #[.val (.ref u2), .val (.int (0 : Int32)), .unset, .unset, .unset, .unset] [])) t → Steps p.tables e below (s₁.setTop (entryFrame m #[(.ref u2), (.int (0 : Int32))] 6)) t := fun t k => castTop (ef_39 m u2 (0 : Int32)) k
  obtain ⟨_, _, ⟨T1, L1, k1, n1⟩, -, X1, ⟨Lc1, hQ1, l1, y1, z1⟩, st1⟩ := Jvm.LawKit.callS X0 hx (y := (⟨"com/example/innesco/innesco/database/TriggerEvent", "values", "()[Lcom/example/innesco/innesco/database/TriggerEvent;"⟩ : MethodName)) hown (mvT hZ (hw _ (List.mem_of_getElem? (i := 16) rfl))) (mvT hZ (hw _ (List.mem_of_getElem? (i := 17) rfl))) (mvT hZ (hw _ (List.mem_of_getElem? (i := 11) rfl))) (mvT hZ (hw _ (List.mem_of_getElem? (i := 18) rfl))) (by decide) (backOf (W := 0) (values_0 l Z a0 hw [] aV kV b0 b1 b2 b3 b4 b5 b6 h0 n0 Z0 SaV VaV EaV) hZ (hw _ (List.mem_of_getElem? (i := 18) rfl)) (hw _ (List.mem_of_getElem? (i := 11) rfl)) (by decide) (by decide)) (g := (mkF m 0 #[.val (.ref u2), .val (.int (0 : Int32)), .unset, .unset, .unset, .unset] [])) rfl (by rw [hml]; rfl) (argsL := []) (rest := []) (lenOf pd_13 rfl) rfl (by show 2 * 0 + _ ≤ _; exact Nat.le_of_eq rfl) (hb hby d_prog_14_method_6_code_0) (fun _ _ => ⟨rfl, e0, (by decide : 0 + 1 ≤ _), (by decide : 0 + 7 ≤ _)⟩)
  dsimp only [Pt.U, Pt.locs, Pt.cells, Pt.slots] at X1 l1 y1 z1 st1 hQ1
  subst l1 y1 z1
  obtain ⟨rfl, N1q, Ex1, V1⟩ := hQ1
  have N1 := Fr.app N0 N1q
  obtain ⟨cl, Ar, -, Sz, Ng, Hs, -⟩ := V1
  have hlen : cl.slots.size.toInt32 = (7 : Int32) := len_of Sz Ng
  obtain ⟨T2, X2, e2, st2⟩ := getF X1 hx hZ hown (host := "") (Or.inl (hw _ (List.mem_of_getElem? (i := 37) rfl))) Via.refl rfl (Fw0.ext Ex1) (g := (mkF m 24 #[.val (.ref u2), .val (.int (0 : Int32)), .val (.ref h0.size), .val (.int (7 : Int32)), .val (.int (0 : Int32)), .val (.ref b0)] [(.ref b0)])) rfl rfl (hb hby d_prog_14_method_6_code_24)
  obtain ⟨T3, X3, e3, st3⟩ := getF X2 hx hZ hown (host := "") (Or.inl (hw _ (List.mem_of_getElem? (i := 37) rfl))) Via.refl e2 (Fw1.ext Ex1) (g := (mkF m 24 #[.val (.ref u2), .val (.int (0 : Int32)), .val (.ref h0.size), .val (.int (7 : Int32)), .val (.int (1 : Int32)), .val (.ref b1)] [(.ref b1)])) rfl rfl (hb hby d_prog_14_method_6_code_24)
  obtain ⟨T4, X4, e4, st4⟩ := getF X3 hx hZ hown (host := "") (Or.inl (hw _ (List.mem_of_getElem? (i := 37) rfl))) Via.refl e3 (Fw2.ext Ex1) (g := (mkF m 24 #[.val (.ref u2), .val (.int (0 : Int32)), .val (.ref h0.size), .val (.int (7 : Int32)), .val (.int (2 : Int32)), .val (.ref b2)] [(.ref b2)])) rfl rfl (hb hby d_prog_14_method_6_code_24)
  obtain ⟨T5, X5, e5, st5⟩ := getF X4 hx hZ hown (host := "") (Or.inl (hw _ (List.mem_of_getElem? (i := 37) rfl))) Via.refl e4 (Fw3.ext Ex1) (g := (mkF m 24 #[.val (.ref u2), .val (.int (0 : Int32)), .val (.ref h0.size), .val (.int (7 : Int32)), .val (.int (3 : Int32)), .val (.ref b3)] [(.ref b3)])) rfl rfl (hb hby d_prog_14_method_6_code_24)
  obtain ⟨T6, X6, e6, st6⟩ := getF X5 hx hZ hown (host := "") (Or.inl (hw _ (List.mem_of_getElem? (i := 37) rfl))) Via.refl e5 (Fw4.ext Ex1) (g := (mkF m 24 #[.val (.ref u2), .val (.int (0 : Int32)), .val (.ref h0.size), .val (.int (7 : Int32)), .val (.int (4 : Int32)), .val (.ref b4)] [(.ref b4)])) rfl rfl (hb hby d_prog_14_method_6_code_24)
  obtain ⟨T7, X7, e7, st7⟩ := getF X6 hx hZ hown (host := "") (Or.inl (hw _ (List.mem_of_getElem? (i := 39) rfl))) Via.refl e6 (Fb4.ext Ex1) (g := (mkF m 33 #[.val (.ref u2), .val (.int (0 : Int32)), .val (.ref h0.size), .val (.int (7 : Int32)), .val (.int (4 : Int32)), .val (.ref b4)] [(.ref b4)])) rfl rfl (hb hby d_prog_14_method_6_code_33)
  obtain ⟨T8, X8, e8, st8⟩ := getF X7 hx hZ hown (host := "") (Or.inl (hw _ (List.mem_of_getElem? (i := 37) rfl))) Via.refl e7 (Fw5.ext Ex1) (g := (mkF m 24 #[.val (.ref u2), .val (.int (0 : Int32)), .val (.ref h0.size), .val (.int (7 : Int32)), .val (.int (5 : Int32)), .val (.ref b5)] [(.ref b5)])) rfl rfl (hb hby d_prog_14_method_6_code_24)
  obtain ⟨T9, X9, e9, st9⟩ := getF X8 hx hZ hown (host := "") (Or.inl (hw _ (List.mem_of_getElem? (i := 39) rfl))) Via.refl e8 (Fb5.ext Ex1) (g := (mkF m 33 #[.val (.ref u2), .val (.int (0 : Int32)), .val (.ref h0.size), .val (.int (7 : Int32)), .val (.int (5 : Int32)), .val (.ref b5)] [(.ref b5)])) rfl rfl (hb hby d_prog_14_method_6_code_33)
  obtain ⟨fs, hr, hrun, hended, hW, hsame⟩ := X9.leave (v := some (.ref b5)) (fun h => by rw [Bd.returns] at h; cases h)
  refine ⟨_, _, pre0 _ ?_, hrun, hended, _, _, rfl, ?_, ⟨_, rfl⟩, hW, hsame.mono (by decide) (by decide)⟩
  · show Steps p.tables e below (s₁.setTop (mkF m 0 #[.val (.ref u2), .val (.int (0 : Int32)), .unset, .unset, .unset, .unset] [])) _
    refine st1 _ ?_
    show Steps p.tables e below (T1.setTop (mkF m 3 #[.val (.ref u2), .val (.int (0 : Int32)), .unset, .unset, .unset, .unset] [(.ref h0.size)])) _
    refine XS.astoreN X1.here hx rfl (hb hby d_prog_14_method_6_code_3) rfl rfl (l' := #[.val (.ref u2), .val (.int (0 : Int32)), .val (.ref h0.size), .unset, .unset, .unset]) rfl ?_
    show Steps p.tables e below (T1.setTop (mkF m 4 #[.val (.ref u2), .val (.int (0 : Int32)), .val (.ref h0.size), .unset, .unset, .unset] [])) _
    refine XS.aloadN X1.here hx rfl (hb hby d_prog_14_method_6_code_4) rfl rfl ?_
    show Steps p.tables e below (T1.setTop (mkF m 5 #[.val (.ref u2), .val (.int (0 : Int32)), .val (.ref h0.size), .unset, .unset, .unset] [(.ref h0.size)])) _
    refine X1.arraylength hx (by first | exact Ar.1 | (rw [rfl]; exact Ar.1)) (State.isArrayOf_alike hZ.alike Ar.2.1) (g := (mkF m 5 #[.val (.ref u2), .val (.int (0 : Int32)), .val (.ref h0.size), .unset, .unset, .unset] [(.ref h0.size)])) rfl rfl (hb hby d_prog_14_method_6_code_5) _ ?_
    show Steps p.tables e below (T1.setTop (mkF m 6 #[.val (.ref u2), .val (.int (0 : Int32)), .val (.ref h0.size), .unset, .unset, .unset] [(.int cl.slots.size.toInt32)])) _
    rw [hlen]
    show Steps p.tables e below (T1.setTop (mkF m 6 #[.val (.ref u2), .val (.int (0 : Int32)), .val (.ref h0.size), .unset, .unset, .unset] [(.int (7 : Int32))])) _
    refine XS.istoreN X1.here hx rfl (hb hby d_prog_14_method_6_code_6) rfl (l' := #[.val (.ref u2), .val (.int (0 : Int32)), .val (.ref h0.size), .val (.int (7 : Int32)), .unset, .unset]) rfl ?_
    show Steps p.tables e below (T1.setTop (mkF m 7 #[.val (.ref u2), .val (.int (0 : Int32)), .val (.ref h0.size), .val (.int (7 : Int32)), .unset, .unset] [])) _
    refine XT.iconstV X1.here hx rfl (0 : Int32) (hb hby d_prog_14_method_6_code_7) (by decide) ?_
    show Steps p.tables e below (T1.setTop (mkF m 8 #[.val (.ref u2), .val (.int (0 : Int32)), .val (.ref h0.size), .val (.int (7 : Int32)), .unset, .unset] [(.int (0 : Int32))])) _
    refine XS.istore X1.here hx rfl (hb hby d_prog_14_method_6_code_8) rfl (l' := #[.val (.ref u2), .val (.int (0 : Int32)), .val (.ref h0.size), .val (.int (7 : Int32)), .val (.int (0 : Int32)), .unset]) rfl ?_
    show Steps p.tables e below (T1.setTop (mkF m 10 #[.val (.ref u2), .val (.int (0 : Int32)), .val (.ref h0.size), .val (.int (7 : Int32)), .val (.int (0 : Int32)), .unset] [])) _
    refine XS.iload X1.here hx rfl (hb hby d_prog_14_method_6_code_10) rfl ?_
    show Steps p.tables e below (T1.setTop (mkF m 12 #[.val (.ref u2), .val (.int (0 : Int32)), .val (.ref h0.size), .val (.int (7 : Int32)), .val (.int (0 : Int32)), .unset] [(.int (0 : Int32))])) _
    refine XS.iloadN X1.here hx rfl (hb hby d_prog_14_method_6_code_12) rfl ?_
    show Steps p.tables e below (T1.setTop (mkF m 13 #[.val (.ref u2), .val (.int (0 : Int32)), .val (.ref h0.size), .val (.int (7 : Int32)), .val (.int (0 : Int32)), .unset] [(.int (7 : Int32)), (.int (0 : Int32))])) _
    refine XS.icmpNo X1.here hx rfl (hb hby d_prog_14_method_6_code_13) rfl (by decide) ?_
    show Steps p.tables e below (T1.setTop (mkF m 16 #[.val (.ref u2), .val (.int (0 : Int32)), .val (.ref h0.size), .val (.int (7 : Int32)), .val (.int (0 : Int32)), .unset] [])) _
    refine XS.aloadN X1.here hx rfl (hb hby d_prog_14_method_6_code_16) rfl rfl ?_
    show Steps p.tables e below (T1.setTop (mkF m 17 #[.val (.ref u2), .val (.int (0 : Int32)), .val (.ref h0.size), .val (.int (7 : Int32)), .val (.int (0 : Int32)), .unset] [(.ref h0.size)])) _
    refine XS.iload X1.here hx rfl (hb hby d_prog_14_method_6_code_17) rfl ?_
    show Steps p.tables e below (T1.setTop (mkF m 19 #[.val (.ref u2), .val (.int (0 : Int32)), .val (.ref h0.size), .val (.int (7 : Int32)), .val (.int (0 : Int32)), .unset] [(.int (0 : Int32)), (.ref h0.size)])) _
    refine X1.aaload hx (j := (0 : Int32)) (v := (.ref b0)) (by first | exact Ar.1 | (rw [rfl]; exact Ar.1)) (State.isArrayOf_alike hZ.alike Ar.2.1) rfl Ar.2.2 (inb_of Sz ⟨by decide, by decide⟩) (Hs.at (inb_of Sz ⟨by decide, by decide⟩) rfl) (g := (mkF m 19 #[.val (.ref u2), .val (.int (0 : Int32)), .val (.ref h0.size), .val (.int (7 : Int32)), .val (.int (0 : Int32)), .unset] [(.int (0 : Int32)), (.ref h0.size)])) rfl rfl (hb hby d_prog_14_method_6_code_19) _ ?_
    show Steps p.tables e below (T1.setTop (mkF m 20 #[.val (.ref u2), .val (.int (0 : Int32)), .val (.ref h0.size), .val (.int (7 : Int32)), .val (.int (0 : Int32)), .unset] [(.ref b0)])) _
    refine XS.astore X1.here hx rfl (hb hby d_prog_14_method_6_code_20) rfl rfl (l' := #[.val (.ref u2), .val (.int (0 : Int32)), .val (.ref h0.size), .val (.int (7 : Int32)), .val (.int (0 : Int32)), .val (.ref b0)]) rfl ?_
    show Steps p.tables e below (T1.setTop (mkF m 22 #[.val (.ref u2), .val (.int (0 : Int32)), .val (.ref h0.size), .val (.int (7 : Int32)), .val (.int (0 : Int32)), .val (.ref b0)] [])) _
    refine XS.aload X1.here hx rfl (hb hby d_prog_14_method_6_code_22) rfl rfl ?_
    show Steps p.tables e below (T1.setTop (mkF m 24 #[.val (.ref u2), .val (.int (0 : Int32)), .val (.ref h0.size), .val (.int (7 : Int32)), .val (.int (0 : Int32)), .val (.ref b0)] [(.ref b0)])) _
    refine st2 _ ?_
    show Steps p.tables e below (T2.setTop (mkF m 27 #[.val (.ref u2), .val (.int (0 : Int32)), .val (.ref h0.size), .val (.int (7 : Int32)), .val (.int (0 : Int32)), .val (.ref b0)] [(.ref u0)])) _
    refine XS.aloadN X2.here hx rfl (hb hby d_prog_14_method_6_code_27) rfl rfl ?_
    show Steps p.tables e below (T2.setTop (mkF m 28 #[.val (.ref u2), .val (.int (0 : Int32)), .val (.ref h0.size), .val (.int (7 : Int32)), .val (.int (0 : Int32)), .val (.ref b0)] [(.ref u2), (.ref u0)])) _
    refine acmp X2 hx rfl rfl rfl (pc0 := 28) (pc' := 43) (same := false) rfl (hb hby d_prog_14_method_6_code_28) rfl (decide_eq_false fun q => ne02 (Value.ref.inj q)) (by decide) (by decide) ?_
    show Steps p.tables e below (T2.setTop (mkF m 43 #[.val (.ref u2), .val (.int (0 : Int32)), .val (.ref h0.size), .val (.int (7 : Int32)), .val (.int (0 : Int32)), .val (.ref b0)] [])) _
    refine XT.iincV X2.here hx rfl (1 : Int32) (hb hby d_prog_14_method_6_code_43) (by decide) rfl (l' := #[.val (.ref u2), .val (.int (0 : Int32)), .val (.ref h0.size), .val (.int (7 : Int32)), .val (.int (1 : Int32)), .val (.ref b0)]) rfl ?_
    show Steps p.tables e below (T2.setTop (mkF m 46 #[.val (.ref u2), .val (.int (0 : Int32)), .val (.ref h0.size), .val (.int (7 : Int32)), .val (.int (1 : Int32)), .val (.ref b0)] [])) _
    refine XS.goto X2.here hx rfl (pc0 := 46) (pc' := 10) rfl (hb hby d_prog_14_method_6_code_46) (by decide) (by decide) ?_
    show Steps p.tables e below (T2.setTop (mkF m 10 #[.val (.ref u2), .val (.int (0 : Int32)), .val (.ref h0.size), .val (.int (7 : Int32)), .val (.int (1 : Int32)), .val (.ref b0)] [])) _
    refine XS.iload X2.here hx rfl (hb hby d_prog_14_method_6_code_10) rfl ?_
    show Steps p.tables e below (T2.setTop (mkF m 12 #[.val (.ref u2), .val (.int (0 : Int32)), .val (.ref h0.size), .val (.int (7 : Int32)), .val (.int (1 : Int32)), .val (.ref b0)] [(.int (1 : Int32))])) _
    refine XS.iloadN X2.here hx rfl (hb hby d_prog_14_method_6_code_12) rfl ?_
    show Steps p.tables e below (T2.setTop (mkF m 13 #[.val (.ref u2), .val (.int (0 : Int32)), .val (.ref h0.size), .val (.int (7 : Int32)), .val (.int (1 : Int32)), .val (.ref b0)] [(.int (7 : Int32)), (.int (1 : Int32))])) _
    refine XS.icmpNo X2.here hx rfl (hb hby d_prog_14_method_6_code_13) rfl (by decide) ?_
    show Steps p.tables e below (T2.setTop (mkF m 16 #[.val (.ref u2), .val (.int (0 : Int32)), .val (.ref h0.size), .val (.int (7 : Int32)), .val (.int (1 : Int32)), .val (.ref b0)] [])) _
    refine XS.aloadN X2.here hx rfl (hb hby d_prog_14_method_6_code_16) rfl rfl ?_
    show Steps p.tables e below (T2.setTop (mkF m 17 #[.val (.ref u2), .val (.int (0 : Int32)), .val (.ref h0.size), .val (.int (7 : Int32)), .val (.int (1 : Int32)), .val (.ref b0)] [(.ref h0.size)])) _
    refine XS.iload X2.here hx rfl (hb hby d_prog_14_method_6_code_17) rfl ?_
    show Steps p.tables e below (T2.setTop (mkF m 19 #[.val (.ref u2), .val (.int (0 : Int32)), .val (.ref h0.size), .val (.int (7 : Int32)), .val (.int (1 : Int32)), .val (.ref b0)] [(.int (1 : Int32)), (.ref h0.size)])) _
    refine X2.aaload hx (j := (1 : Int32)) (v := (.ref b1)) (by first | exact Ar.1 | (rw [e2]; exact Ar.1)) (State.isArrayOf_alike hZ.alike Ar.2.1) rfl Ar.2.2 (inb_of Sz ⟨by decide, by decide⟩) (Hs.at (inb_of Sz ⟨by decide, by decide⟩) rfl) (g := (mkF m 19 #[.val (.ref u2), .val (.int (0 : Int32)), .val (.ref h0.size), .val (.int (7 : Int32)), .val (.int (1 : Int32)), .val (.ref b0)] [(.int (1 : Int32)), (.ref h0.size)])) rfl rfl (hb hby d_prog_14_method_6_code_19) _ ?_
    show Steps p.tables e below (T2.setTop (mkF m 20 #[.val (.ref u2), .val (.int (0 : Int32)), .val (.ref h0.size), .val (.int (7 : Int32)), .val (.int (1 : Int32)), .val (.ref b0)] [(.ref b1)])) _
    refine XS.astore X2.here hx rfl (hb hby d_prog_14_method_6_code_20) rfl rfl (l' := #[.val (.ref u2), .val (.int (0 : Int32)), .val (.ref h0.size), .val (.int (7 : Int32)), .val (.int (1 : Int32)), .val (.ref b1)]) rfl ?_
    show Steps p.tables e below (T2.setTop (mkF m 22 #[.val (.ref u2), .val (.int (0 : Int32)), .val (.ref h0.size), .val (.int (7 : Int32)), .val (.int (1 : Int32)), .val (.ref b1)] [])) _
    refine XS.aload X2.here hx rfl (hb hby d_prog_14_method_6_code_22) rfl rfl ?_
    show Steps p.tables e below (T2.setTop (mkF m 24 #[.val (.ref u2), .val (.int (0 : Int32)), .val (.ref h0.size), .val (.int (7 : Int32)), .val (.int (1 : Int32)), .val (.ref b1)] [(.ref b1)])) _
    refine st3 _ ?_
    show Steps p.tables e below (T3.setTop (mkF m 27 #[.val (.ref u2), .val (.int (0 : Int32)), .val (.ref h0.size), .val (.int (7 : Int32)), .val (.int (1 : Int32)), .val (.ref b1)] [(.ref u0)])) _
    refine XS.aloadN X3.here hx rfl (hb hby d_prog_14_method_6_code_27) rfl rfl ?_
    show Steps p.tables e below (T3.setTop (mkF m 28 #[.val (.ref u2), .val (.int (0 : Int32)), .val (.ref h0.size), .val (.int (7 : Int32)), .val (.int (1 : Int32)), .val (.ref b1)] [(.ref u2), (.ref u0)])) _
    refine acmp X3 hx rfl rfl rfl (pc0 := 28) (pc' := 43) (same := false) rfl (hb hby d_prog_14_method_6_code_28) rfl (decide_eq_false fun q => ne02 (Value.ref.inj q)) (by decide) (by decide) ?_
    show Steps p.tables e below (T3.setTop (mkF m 43 #[.val (.ref u2), .val (.int (0 : Int32)), .val (.ref h0.size), .val (.int (7 : Int32)), .val (.int (1 : Int32)), .val (.ref b1)] [])) _
    refine XT.iincV X3.here hx rfl (1 : Int32) (hb hby d_prog_14_method_6_code_43) (by decide) rfl (l' := #[.val (.ref u2), .val (.int (0 : Int32)), .val (.ref h0.size), .val (.int (7 : Int32)), .val (.int (2 : Int32)), .val (.ref b1)]) rfl ?_
    show Steps p.tables e below (T3.setTop (mkF m 46 #[.val (.ref u2), .val (.int (0 : Int32)), .val (.ref h0.size), .val (.int (7 : Int32)), .val (.int (2 : Int32)), .val (.ref b1)] [])) _
    refine XS.goto X3.here hx rfl (pc0 := 46) (pc' := 10) rfl (hb hby d_prog_14_method_6_code_46) (by decide) (by decide) ?_
    show Steps p.tables e below (T3.setTop (mkF m 10 #[.val (.ref u2), .val (.int (0 : Int32)), .val (.ref h0.size), .val (.int (7 : Int32)), .val (.int (2 : Int32)), .val (.ref b1)] [])) _
    refine XS.iload X3.here hx rfl (hb hby d_prog_14_method_6_code_10) rfl ?_
    show Steps p.tables e below (T3.setTop (mkF m 12 #[.val (.ref u2), .val (.int (0 : Int32)), .val (.ref h0.size), .val (.int (7 : Int32)), .val (.int (2 : Int32)), .val (.ref b1)] [(.int (2 : Int32))])) _
    refine XS.iloadN X3.here hx rfl (hb hby d_prog_14_method_6_code_12) rfl ?_
    show Steps p.tables e below (T3.setTop (mkF m 13 #[.val (.ref u2), .val (.int (0 : Int32)), .val (.ref h0.size), .val (.int (7 : Int32)), .val (.int (2 : Int32)), .val (.ref b1)] [(.int (7 : Int32)), (.int (2 : Int32))])) _
    refine XS.icmpNo X3.here hx rfl (hb hby d_prog_14_method_6_code_13) rfl (by decide) ?_
    show Steps p.tables e below (T3.setTop (mkF m 16 #[.val (.ref u2), .val (.int (0 : Int32)), .val (.ref h0.size), .val (.int (7 : Int32)), .val (.int (2 : Int32)), .val (.ref b1)] [])) _
    refine XS.aloadN X3.here hx rfl (hb hby d_prog_14_method_6_code_16) rfl rfl ?_
    show Steps p.tables e below (T3.setTop (mkF m 17 #[.val (.ref u2), .val (.int (0 : Int32)), .val (.ref h0.size), .val (.int (7 : Int32)), .val (.int (2 : Int32)), .val (.ref b1)] [(.ref h0.size)])) _
    refine XS.iload X3.here hx rfl (hb hby d_prog_14_method_6_code_17) rfl ?_
    show Steps p.tables e below (T3.setTop (mkF m 19 #[.val (.ref u2), .val (.int (0 : Int32)), .val (.ref h0.size), .val (.int (7 : Int32)), .val (.int (2 : Int32)), .val (.ref b1)] [(.int (2 : Int32)), (.ref h0.size)])) _
    refine X3.aaload hx (j := (2 : Int32)) (v := (.ref b2)) (by first | exact Ar.1 | (rw [e3]; exact Ar.1)) (State.isArrayOf_alike hZ.alike Ar.2.1) rfl Ar.2.2 (inb_of Sz ⟨by decide, by decide⟩) (Hs.at (inb_of Sz ⟨by decide, by decide⟩) rfl) (g := (mkF m 19 #[.val (.ref u2), .val (.int (0 : Int32)), .val (.ref h0.size), .val (.int (7 : Int32)), .val (.int (2 : Int32)), .val (.ref b1)] [(.int (2 : Int32)), (.ref h0.size)])) rfl rfl (hb hby d_prog_14_method_6_code_19) _ ?_
    show Steps p.tables e below (T3.setTop (mkF m 20 #[.val (.ref u2), .val (.int (0 : Int32)), .val (.ref h0.size), .val (.int (7 : Int32)), .val (.int (2 : Int32)), .val (.ref b1)] [(.ref b2)])) _
    refine XS.astore X3.here hx rfl (hb hby d_prog_14_method_6_code_20) rfl rfl (l' := #[.val (.ref u2), .val (.int (0 : Int32)), .val (.ref h0.size), .val (.int (7 : Int32)), .val (.int (2 : Int32)), .val (.ref b2)]) rfl ?_
    show Steps p.tables e below (T3.setTop (mkF m 22 #[.val (.ref u2), .val (.int (0 : Int32)), .val (.ref h0.size), .val (.int (7 : Int32)), .val (.int (2 : Int32)), .val (.ref b2)] [])) _
    refine XS.aload X3.here hx rfl (hb hby d_prog_14_method_6_code_22) rfl rfl ?_
    show Steps p.tables e below (T3.setTop (mkF m 24 #[.val (.ref u2), .val (.int (0 : Int32)), .val (.ref h0.size), .val (.int (7 : Int32)), .val (.int (2 : Int32)), .val (.ref b2)] [(.ref b2)])) _
    refine st4 _ ?_
    show Steps p.tables e below (T4.setTop (mkF m 27 #[.val (.ref u2), .val (.int (0 : Int32)), .val (.ref h0.size), .val (.int (7 : Int32)), .val (.int (2 : Int32)), .val (.ref b2)] [(.ref u1)])) _
    refine XS.aloadN X4.here hx rfl (hb hby d_prog_14_method_6_code_27) rfl rfl ?_
    show Steps p.tables e below (T4.setTop (mkF m 28 #[.val (.ref u2), .val (.int (0 : Int32)), .val (.ref h0.size), .val (.int (7 : Int32)), .val (.int (2 : Int32)), .val (.ref b2)] [(.ref u2), (.ref u1)])) _
    refine acmp X4 hx rfl rfl rfl (pc0 := 28) (pc' := 43) (same := false) rfl (hb hby d_prog_14_method_6_code_28) rfl (decide_eq_false fun q => ne12 (Value.ref.inj q)) (by decide) (by decide) ?_
    show Steps p.tables e below (T4.setTop (mkF m 43 #[.val (.ref u2), .val (.int (0 : Int32)), .val (.ref h0.size), .val (.int (7 : Int32)), .val (.int (2 : Int32)), .val (.ref b2)] [])) _
    refine XT.iincV X4.here hx rfl (1 : Int32) (hb hby d_prog_14_method_6_code_43) (by decide) rfl (l' := #[.val (.ref u2), .val (.int (0 : Int32)), .val (.ref h0.size), .val (.int (7 : Int32)), .val (.int (3 : Int32)), .val (.ref b2)]) rfl ?_
    show Steps p.tables e below (T4.setTop (mkF m 46 #[.val (.ref u2), .val (.int (0 : Int32)), .val (.ref h0.size), .val (.int (7 : Int32)), .val (.int (3 : Int32)), .val (.ref b2)] [])) _
    refine XS.goto X4.here hx rfl (pc0 := 46) (pc' := 10) rfl (hb hby d_prog_14_method_6_code_46) (by decide) (by decide) ?_
    show Steps p.tables e below (T4.setTop (mkF m 10 #[.val (.ref u2), .val (.int (0 : Int32)), .val (.ref h0.size), .val (.int (7 : Int32)), .val (.int (3 : Int32)), .val (.ref b2)] [])) _
    refine XS.iload X4.here hx rfl (hb hby d_prog_14_method_6_code_10) rfl ?_
    show Steps p.tables e below (T4.setTop (mkF m 12 #[.val (.ref u2), .val (.int (0 : Int32)), .val (.ref h0.size), .val (.int (7 : Int32)), .val (.int (3 : Int32)), .val (.ref b2)] [(.int (3 : Int32))])) _
    refine XS.iloadN X4.here hx rfl (hb hby d_prog_14_method_6_code_12) rfl ?_
    show Steps p.tables e below (T4.setTop (mkF m 13 #[.val (.ref u2), .val (.int (0 : Int32)), .val (.ref h0.size), .val (.int (7 : Int32)), .val (.int (3 : Int32)), .val (.ref b2)] [(.int (7 : Int32)), (.int (3 : Int32))])) _
    refine XS.icmpNo X4.here hx rfl (hb hby d_prog_14_method_6_code_13) rfl (by decide) ?_
    show Steps p.tables e below (T4.setTop (mkF m 16 #[.val (.ref u2), .val (.int (0 : Int32)), .val (.ref h0.size), .val (.int (7 : Int32)), .val (.int (3 : Int32)), .val (.ref b2)] [])) _
    refine XS.aloadN X4.here hx rfl (hb hby d_prog_14_method_6_code_16) rfl rfl ?_
    show Steps p.tables e below (T4.setTop (mkF m 17 #[.val (.ref u2), .val (.int (0 : Int32)), .val (.ref h0.size), .val (.int (7 : Int32)), .val (.int (3 : Int32)), .val (.ref b2)] [(.ref h0.size)])) _
    refine XS.iload X4.here hx rfl (hb hby d_prog_14_method_6_code_17) rfl ?_
    show Steps p.tables e below (T4.setTop (mkF m 19 #[.val (.ref u2), .val (.int (0 : Int32)), .val (.ref h0.size), .val (.int (7 : Int32)), .val (.int (3 : Int32)), .val (.ref b2)] [(.int (3 : Int32)), (.ref h0.size)])) _
    refine X4.aaload hx (j := (3 : Int32)) (v := (.ref b3)) (by first | exact Ar.1 | (rw [e4]; exact Ar.1)) (State.isArrayOf_alike hZ.alike Ar.2.1) rfl Ar.2.2 (inb_of Sz ⟨by decide, by decide⟩) (Hs.at (inb_of Sz ⟨by decide, by decide⟩) rfl) (g := (mkF m 19 #[.val (.ref u2), .val (.int (0 : Int32)), .val (.ref h0.size), .val (.int (7 : Int32)), .val (.int (3 : Int32)), .val (.ref b2)] [(.int (3 : Int32)), (.ref h0.size)])) rfl rfl (hb hby d_prog_14_method_6_code_19) _ ?_
    show Steps p.tables e below (T4.setTop (mkF m 20 #[.val (.ref u2), .val (.int (0 : Int32)), .val (.ref h0.size), .val (.int (7 : Int32)), .val (.int (3 : Int32)), .val (.ref b2)] [(.ref b3)])) _
    refine XS.astore X4.here hx rfl (hb hby d_prog_14_method_6_code_20) rfl rfl (l' := #[.val (.ref u2), .val (.int (0 : Int32)), .val (.ref h0.size), .val (.int (7 : Int32)), .val (.int (3 : Int32)), .val (.ref b3)]) rfl ?_
    show Steps p.tables e below (T4.setTop (mkF m 22 #[.val (.ref u2), .val (.int (0 : Int32)), .val (.ref h0.size), .val (.int (7 : Int32)), .val (.int (3 : Int32)), .val (.ref b3)] [])) _
    refine XS.aload X4.here hx rfl (hb hby d_prog_14_method_6_code_22) rfl rfl ?_
    show Steps p.tables e below (T4.setTop (mkF m 24 #[.val (.ref u2), .val (.int (0 : Int32)), .val (.ref h0.size), .val (.int (7 : Int32)), .val (.int (3 : Int32)), .val (.ref b3)] [(.ref b3)])) _
    refine st5 _ ?_
    show Steps p.tables e below (T5.setTop (mkF m 27 #[.val (.ref u2), .val (.int (0 : Int32)), .val (.ref h0.size), .val (.int (7 : Int32)), .val (.int (3 : Int32)), .val (.ref b3)] [(.ref u1)])) _
    refine XS.aloadN X5.here hx rfl (hb hby d_prog_14_method_6_code_27) rfl rfl ?_
    show Steps p.tables e below (T5.setTop (mkF m 28 #[.val (.ref u2), .val (.int (0 : Int32)), .val (.ref h0.size), .val (.int (7 : Int32)), .val (.int (3 : Int32)), .val (.ref b3)] [(.ref u2), (.ref u1)])) _
    refine acmp X5 hx rfl rfl rfl (pc0 := 28) (pc' := 43) (same := false) rfl (hb hby d_prog_14_method_6_code_28) rfl (decide_eq_false fun q => ne12 (Value.ref.inj q)) (by decide) (by decide) ?_
    show Steps p.tables e below (T5.setTop (mkF m 43 #[.val (.ref u2), .val (.int (0 : Int32)), .val (.ref h0.size), .val (.int (7 : Int32)), .val (.int (3 : Int32)), .val (.ref b3)] [])) _
    refine XT.iincV X5.here hx rfl (1 : Int32) (hb hby d_prog_14_method_6_code_43) (by decide) rfl (l' := #[.val (.ref u2), .val (.int (0 : Int32)), .val (.ref h0.size), .val (.int (7 : Int32)), .val (.int (4 : Int32)), .val (.ref b3)]) rfl ?_
    show Steps p.tables e below (T5.setTop (mkF m 46 #[.val (.ref u2), .val (.int (0 : Int32)), .val (.ref h0.size), .val (.int (7 : Int32)), .val (.int (4 : Int32)), .val (.ref b3)] [])) _
    refine XS.goto X5.here hx rfl (pc0 := 46) (pc' := 10) rfl (hb hby d_prog_14_method_6_code_46) (by decide) (by decide) ?_
    show Steps p.tables e below (T5.setTop (mkF m 10 #[.val (.ref u2), .val (.int (0 : Int32)), .val (.ref h0.size), .val (.int (7 : Int32)), .val (.int (4 : Int32)), .val (.ref b3)] [])) _
    refine XS.iload X5.here hx rfl (hb hby d_prog_14_method_6_code_10) rfl ?_
    show Steps p.tables e below (T5.setTop (mkF m 12 #[.val (.ref u2), .val (.int (0 : Int32)), .val (.ref h0.size), .val (.int (7 : Int32)), .val (.int (4 : Int32)), .val (.ref b3)] [(.int (4 : Int32))])) _
    refine XS.iloadN X5.here hx rfl (hb hby d_prog_14_method_6_code_12) rfl ?_
    show Steps p.tables e below (T5.setTop (mkF m 13 #[.val (.ref u2), .val (.int (0 : Int32)), .val (.ref h0.size), .val (.int (7 : Int32)), .val (.int (4 : Int32)), .val (.ref b3)] [(.int (7 : Int32)), (.int (4 : Int32))])) _
    refine XS.icmpNo X5.here hx rfl (hb hby d_prog_14_method_6_code_13) rfl (by decide) ?_
    show Steps p.tables e below (T5.setTop (mkF m 16 #[.val (.ref u2), .val (.int (0 : Int32)), .val (.ref h0.size), .val (.int (7 : Int32)), .val (.int (4 : Int32)), .val (.ref b3)] [])) _
    refine XS.aloadN X5.here hx rfl (hb hby d_prog_14_method_6_code_16) rfl rfl ?_
    show Steps p.tables e below (T5.setTop (mkF m 17 #[.val (.ref u2), .val (.int (0 : Int32)), .val (.ref h0.size), .val (.int (7 : Int32)), .val (.int (4 : Int32)), .val (.ref b3)] [(.ref h0.size)])) _
    refine XS.iload X5.here hx rfl (hb hby d_prog_14_method_6_code_17) rfl ?_
    show Steps p.tables e below (T5.setTop (mkF m 19 #[.val (.ref u2), .val (.int (0 : Int32)), .val (.ref h0.size), .val (.int (7 : Int32)), .val (.int (4 : Int32)), .val (.ref b3)] [(.int (4 : Int32)), (.ref h0.size)])) _
    refine X5.aaload hx (j := (4 : Int32)) (v := (.ref b4)) (by first | exact Ar.1 | (rw [e5]; exact Ar.1)) (State.isArrayOf_alike hZ.alike Ar.2.1) rfl Ar.2.2 (inb_of Sz ⟨by decide, by decide⟩) (Hs.at (inb_of Sz ⟨by decide, by decide⟩) rfl) (g := (mkF m 19 #[.val (.ref u2), .val (.int (0 : Int32)), .val (.ref h0.size), .val (.int (7 : Int32)), .val (.int (4 : Int32)), .val (.ref b3)] [(.int (4 : Int32)), (.ref h0.size)])) rfl rfl (hb hby d_prog_14_method_6_code_19) _ ?_
    show Steps p.tables e below (T5.setTop (mkF m 20 #[.val (.ref u2), .val (.int (0 : Int32)), .val (.ref h0.size), .val (.int (7 : Int32)), .val (.int (4 : Int32)), .val (.ref b3)] [(.ref b4)])) _
    refine XS.astore X5.here hx rfl (hb hby d_prog_14_method_6_code_20) rfl rfl (l' := #[.val (.ref u2), .val (.int (0 : Int32)), .val (.ref h0.size), .val (.int (7 : Int32)), .val (.int (4 : Int32)), .val (.ref b4)]) rfl ?_
    show Steps p.tables e below (T5.setTop (mkF m 22 #[.val (.ref u2), .val (.int (0 : Int32)), .val (.ref h0.size), .val (.int (7 : Int32)), .val (.int (4 : Int32)), .val (.ref b4)] [])) _
    refine XS.aload X5.here hx rfl (hb hby d_prog_14_method_6_code_22) rfl rfl ?_
    show Steps p.tables e below (T5.setTop (mkF m 24 #[.val (.ref u2), .val (.int (0 : Int32)), .val (.ref h0.size), .val (.int (7 : Int32)), .val (.int (4 : Int32)), .val (.ref b4)] [(.ref b4)])) _
    refine st6 _ ?_
    show Steps p.tables e below (T6.setTop (mkF m 27 #[.val (.ref u2), .val (.int (0 : Int32)), .val (.ref h0.size), .val (.int (7 : Int32)), .val (.int (4 : Int32)), .val (.ref b4)] [(.ref u2)])) _
    refine XS.aloadN X6.here hx rfl (hb hby d_prog_14_method_6_code_27) rfl rfl ?_
    show Steps p.tables e below (T6.setTop (mkF m 28 #[.val (.ref u2), .val (.int (0 : Int32)), .val (.ref h0.size), .val (.int (7 : Int32)), .val (.int (4 : Int32)), .val (.ref b4)] [(.ref u2), (.ref u2)])) _
    refine acmp X6 hx rfl rfl rfl (pc0 := 28) (pc' := 31) (same := true) rfl (hb hby d_prog_14_method_6_code_28) rfl (decide_eq_true rfl) (by decide) (by decide) ?_
    show Steps p.tables e below (T6.setTop (mkF m 31 #[.val (.ref u2), .val (.int (0 : Int32)), .val (.ref h0.size), .val (.int (7 : Int32)), .val (.int (4 : Int32)), .val (.ref b4)] [])) _
    refine XS.aload X6.here hx rfl (hb hby d_prog_14_method_6_code_31) rfl rfl ?_
    show Steps p.tables e below (T6.setTop (mkF m 33 #[.val (.ref u2), .val (.int (0 : Int32)), .val (.ref h0.size), .val (.int (7 : Int32)), .val (.int (4 : Int32)), .val (.ref b4)] [(.ref b4)])) _
    refine st7 _ ?_
    show Steps p.tables e below (T7.setTop (mkF m 36 #[.val (.ref u2), .val (.int (0 : Int32)), .val (.ref h0.size), .val (.int (7 : Int32)), .val (.int (4 : Int32)), .val (.ref b4)] [(.int (1 : Int32))])) _
    refine XS.iloadN X7.here hx rfl (hb hby d_prog_14_method_6_code_36) rfl ?_
    show Steps p.tables e below (T7.setTop (mkF m 37 #[.val (.ref u2), .val (.int (0 : Int32)), .val (.ref h0.size), .val (.int (7 : Int32)), .val (.int (4 : Int32)), .val (.ref b4)] [(.int (0 : Int32)), (.int (1 : Int32))])) _
    refine XS.icmpYes X7.here hx rfl (pc0 := 37) (pc' := 43) rfl (hb hby d_prog_14_method_6_code_37) rfl (by decide) (by decide) (by decide) ?_
    show Steps p.tables e below (T7.setTop (mkF m 43 #[.val (.ref u2), .val (.int (0 : Int32)), .val (.ref h0.size), .val (.int (7 : Int32)), .val (.int (4 : Int32)), .val (.ref b4)] [])) _
    refine XT.iincV X7.here hx rfl (1 : Int32) (hb hby d_prog_14_method_6_code_43) (by decide) rfl (l' := #[.val (.ref u2), .val (.int (0 : Int32)), .val (.ref h0.size), .val (.int (7 : Int32)), .val (.int (5 : Int32)), .val (.ref b4)]) rfl ?_
    show Steps p.tables e below (T7.setTop (mkF m 46 #[.val (.ref u2), .val (.int (0 : Int32)), .val (.ref h0.size), .val (.int (7 : Int32)), .val (.int (5 : Int32)), .val (.ref b4)] [])) _
    refine XS.goto X7.here hx rfl (pc0 := 46) (pc' := 10) rfl (hb hby d_prog_14_method_6_code_46) (by decide) (by decide) ?_
    show Steps p.tables e below (T7.setTop (mkF m 10 #[.val (.ref u2), .val (.int (0 : Int32)), .val (.ref h0.size), .val (.int (7 : Int32)), .val (.int (5 : Int32)), .val (.ref b4)] [])) _
    refine XS.iload X7.here hx rfl (hb hby d_prog_14_method_6_code_10) rfl ?_
    show Steps p.tables e below (T7.setTop (mkF m 12 #[.val (.ref u2), .val (.int (0 : Int32)), .val (.ref h0.size), .val (.int (7 : Int32)), .val (.int (5 : Int32)), .val (.ref b4)] [(.int (5 : Int32))])) _
    refine XS.iloadN X7.here hx rfl (hb hby d_prog_14_method_6_code_12) rfl ?_
    show Steps p.tables e below (T7.setTop (mkF m 13 #[.val (.ref u2), .val (.int (0 : Int32)), .val (.ref h0.size), .val (.int (7 : Int32)), .val (.int (5 : Int32)), .val (.ref b4)] [(.int (7 : Int32)), (.int (5 : Int32))])) _
    refine XS.icmpNo X7.here hx rfl (hb hby d_prog_14_method_6_code_13) rfl (by decide) ?_
    show Steps p.tables e below (T7.setTop (mkF m 16 #[.val (.ref u2), .val (.int (0 : Int32)), .val (.ref h0.size), .val (.int (7 : Int32)), .val (.int (5 : Int32)), .val (.ref b4)] [])) _
    refine XS.aloadN X7.here hx rfl (hb hby d_prog_14_method_6_code_16) rfl rfl ?_
    show Steps p.tables e below (T7.setTop (mkF m 17 #[.val (.ref u2), .val (.int (0 : Int32)), .val (.ref h0.size), .val (.int (7 : Int32)), .val (.int (5 : Int32)), .val (.ref b4)] [(.ref h0.size)])) _
    refine XS.iload X7.here hx rfl (hb hby d_prog_14_method_6_code_17) rfl ?_
    show Steps p.tables e below (T7.setTop (mkF m 19 #[.val (.ref u2), .val (.int (0 : Int32)), .val (.ref h0.size), .val (.int (7 : Int32)), .val (.int (5 : Int32)), .val (.ref b4)] [(.int (5 : Int32)), (.ref h0.size)])) _
    refine X7.aaload hx (j := (5 : Int32)) (v := (.ref b5)) (by first | exact Ar.1 | (rw [e7]; exact Ar.1)) (State.isArrayOf_alike hZ.alike Ar.2.1) rfl Ar.2.2 (inb_of Sz ⟨by decide, by decide⟩) (Hs.at (inb_of Sz ⟨by decide, by decide⟩) rfl) (g := (mkF m 19 #[.val (.ref u2), .val (.int (0 : Int32)), .val (.ref h0.size), .val (.int (7 : Int32)), .val (.int (5 : Int32)), .val (.ref b4)] [(.int (5 : Int32)), (.ref h0.size)])) rfl rfl (hb hby d_prog_14_method_6_code_19) _ ?_
    show Steps p.tables e below (T7.setTop (mkF m 20 #[.val (.ref u2), .val (.int (0 : Int32)), .val (.ref h0.size), .val (.int (7 : Int32)), .val (.int (5 : Int32)), .val (.ref b4)] [(.ref b5)])) _
    refine XS.astore X7.here hx rfl (hb hby d_prog_14_method_6_code_20) rfl rfl (l' := #[.val (.ref u2), .val (.int (0 : Int32)), .val (.ref h0.size), .val (.int (7 : Int32)), .val (.int (5 : Int32)), .val (.ref b5)]) rfl ?_
    show Steps p.tables e below (T7.setTop (mkF m 22 #[.val (.ref u2), .val (.int (0 : Int32)), .val (.ref h0.size), .val (.int (7 : Int32)), .val (.int (5 : Int32)), .val (.ref b5)] [])) _
    refine XS.aload X7.here hx rfl (hb hby d_prog_14_method_6_code_22) rfl rfl ?_
    show Steps p.tables e below (T7.setTop (mkF m 24 #[.val (.ref u2), .val (.int (0 : Int32)), .val (.ref h0.size), .val (.int (7 : Int32)), .val (.int (5 : Int32)), .val (.ref b5)] [(.ref b5)])) _
    refine st8 _ ?_
    show Steps p.tables e below (T8.setTop (mkF m 27 #[.val (.ref u2), .val (.int (0 : Int32)), .val (.ref h0.size), .val (.int (7 : Int32)), .val (.int (5 : Int32)), .val (.ref b5)] [(.ref u2)])) _
    refine XS.aloadN X8.here hx rfl (hb hby d_prog_14_method_6_code_27) rfl rfl ?_
    show Steps p.tables e below (T8.setTop (mkF m 28 #[.val (.ref u2), .val (.int (0 : Int32)), .val (.ref h0.size), .val (.int (7 : Int32)), .val (.int (5 : Int32)), .val (.ref b5)] [(.ref u2), (.ref u2)])) _
    refine acmp X8 hx rfl rfl rfl (pc0 := 28) (pc' := 31) (same := true) rfl (hb hby d_prog_14_method_6_code_28) rfl (decide_eq_true rfl) (by decide) (by decide) ?_
    show Steps p.tables e below (T8.setTop (mkF m 31 #[.val (.ref u2), .val (.int (0 : Int32)), .val (.ref h0.size), .val (.int (7 : Int32)), .val (.int (5 : Int32)), .val (.ref b5)] [])) _
    refine XS.aload X8.here hx rfl (hb hby d_prog_14_method_6_code_31) rfl rfl ?_
    show Steps p.tables e below (T8.setTop (mkF m 33 #[.val (.ref u2), .val (.int (0 : Int32)), .val (.ref h0.size), .val (.int (7 : Int32)), .val (.int (5 : Int32)), .val (.ref b5)] [(.ref b5)])) _
    refine st9 _ ?_
    show Steps p.tables e below (T9.setTop (mkF m 36 #[.val (.ref u2), .val (.int (0 : Int32)), .val (.ref h0.size), .val (.int (7 : Int32)), .val (.int (5 : Int32)), .val (.ref b5)] [(.int (0 : Int32))])) _
    refine XS.iloadN X9.here hx rfl (hb hby d_prog_14_method_6_code_36) rfl ?_
    show Steps p.tables e below (T9.setTop (mkF m 37 #[.val (.ref u2), .val (.int (0 : Int32)), .val (.ref h0.size), .val (.int (7 : Int32)), .val (.int (5 : Int32)), .val (.ref b5)] [(.int (0 : Int32)), (.int (0 : Int32))])) _
    refine XS.icmpNo X9.here hx rfl (hb hby d_prog_14_method_6_code_37) rfl (by decide) ?_
    show Steps p.tables e below (T9.setTop (mkF m 40 #[.val (.ref u2), .val (.int (0 : Int32)), .val (.ref h0.size), .val (.int (7 : Int32)), .val (.int (5 : Int32)), .val (.ref b5)] [])) _
    refine XS.aload X9.here hx rfl (hb hby d_prog_14_method_6_code_40) rfl rfl ?_
    show Steps p.tables e below (T9.setTop (mkF m 42 #[.val (.ref u2), .val (.int (0 : Int32)), .val (.ref h0.size), .val (.int (7 : Int32)), .val (.int (5 : Int32)), .val (.ref b5)] [(.ref b5)])) _
    exact retOut X9 hx Bd.returns rfl (Or.inr (Or.inr (Or.inr (Or.inr ⟨rfl, rfl, rfl⟩)))) (hb hby d_prog_14_method_6_code_42) hr
  · exact ⟨rfl, N1, by show Ext h0 T9.heap; rw [e9]; exact Ex1⟩
theorem d_method_3_code_37 : decode method_3_code 37 = .ok (.iload_n 0, 1) := by decide +kernel
theorem d_method_3_code_38 : decode method_3_code 38 = .ok (.iconst 2, 1) := by decide +kernel
theorem d_method_3_code_39 : decode method_3_code 39 = .ok (.if_icmp .ne 17, 3) := by decide +kernel
theorem d_method_3_code_42 : decode method_3_code 42 = .ok (.iload_n 1, 1) := by decide +kernel
theorem d_method_3_code_43 : decode method_3_code 43 = .ok (.ifCond .eq 9, 3) := by decide +kernel
theorem d_method_3_code_52 : decode method_3_code 52 = .ok (.getstatic 40, 3) := by decide +kernel
theorem d_method_3_code_55 : decode method_3_code 55 = .ok (.areturn, 1) := by decide +kernel
def Q_eof_2_0 (Z : State) (b5 : Addr) (h0 : Heap) (n0 : Nat) (v : Option Value) (h : Heap) (L : List Loc) : Prop := v = some (.ref b5) ∧ Fr n0 L ∧ h = h0
set_option maxRecDepth 65536 in
set_option maxHeartbeats 40000000 in
theorem eof_2_0 (l : Launch) (Z : State) (a0 : Array Value) (hw : ∀ d ∈ tables_1, d.before a0 Z = true) (ws : List Jvm.Cond) (b5 : Addr) (h0 : Heap) (n0 : Nat) (Z0 : n0 ≤ h0.size) (Sb5 : Sta Z h0 "com/example/innesco/innesco/database/TriggerEvent" "AFTER_DELETE" "Lcom/example/innesco/innesco/database/TriggerEvent;" (.ref b5)) :
    MetFree l (⟨"com/example/innesco/innesco/database/TriggerEventOfPinLaw", "expectedOf", "(IZ)Lcom/example/innesco/innesco/database/TriggerEvent;"⟩ : MethodName) (head1 (Jvm.Cond.code (⟨"com/example/innesco/innesco/database/TriggerEventOfPinLaw", "expectedOf", "(IZ)Lcom/example/innesco/innesco/database/TriggerEvent;"⟩ : MethodName) method_3_code 2 (Option.some (Jvm.ClassFile.FieldType.object "com/example/innesco/innesco/database/TriggerEvent")) :: ws) ({ frames := 0, cells := 0, slots := 0, locals := 0 } : Room)) (fun a U => a = #[(.int (2 : Int32)), (.int (0 : Int32))] ∧ Z.Warmed39 U.vm ∧ U.heap = h0) (fun _ _ _ _ _ => True) (fun _ U o U' => ∃ v L, o = .returned v ∧ Q_eof_2_0 Z b5 h0 n0 v U'.heap L ∧ FrameEnd U o U' L ({ frames := 0, cells := 0, slots := 0, locals := 0 } : Room).cells ({ frames := 0, cells := 0, slots := 0, locals := 0 } : Room).slots) := by
  refine MetFree.of_bodySF (plainFor_of_name pn_11) hisR ?_
  intro p e s m args below meth c s₁ Bd hml0 hP hK
  obtain ⟨rfl, hZ, hh⟩ := hP
  have hx := Bd.exec
  have hby := Bd.bytes
  have hml : c.maxLocals = 2 := hml0
  have hown : s.vm.findClass "com/example/innesco/innesco/database/TriggerEventOfPinLaw" = some m.cls := findClass_of_methodNamed Bd.named
  have hnm := (name_of_methodNamed Bd.named Bd.method).1
  have X0 : Stand p l e ({ frames := 0, cells := 0, slots := 0, locals := 0 } : Room) s m #[(.int (2 : Int32)), (.int (0 : Int32))] below meth c s₁ [] 0 0 := Stand.of_body Bd
  have e0 : s₁.heap = h0 := by rw [← hh, Bd.state]; rfl
  have N0 := Fr.nil n0
  have pre0 : ∀ t, Steps p.tables e below (s₁.setTop (mkF m 0 #[.val (.int (2 : Int32)), .val (.int (0 : Int32))] [])) t → Steps p.tables e below (s₁.setTop (entryFrame m #[(.int (2 : Int32)), (.int (0 : Int32))] 2)) t := fun t k => castTop (ef_46 m (2 : Int32) (0 : Int32)) k
  obtain ⟨T1, X1, e1, st1⟩ := getS X0 hx hZ (host := "") hown (hw _ (List.mem_of_getElem? (i := 48) rfl)) Via.refl e0 Sb5 (g := (mkF m 52 #[.val (.int (2 : Int32)), .val (.int (0 : Int32))] [])) rfl (hb hby d_method_3_code_52)
  obtain ⟨fs, hr, hrun, hended, hW, hsame⟩ := X1.leave (v := some (.ref b5)) (fun h => by rw [Bd.returns] at h; cases h)
  refine ⟨_, _, pre0 _ ?_, hrun, hended, _, _, rfl, ?_, ⟨_, rfl⟩, hW, hsame.mono (by decide) (by decide)⟩
  · show Steps p.tables e below (s₁.setTop (mkF m 0 #[.val (.int (2 : Int32)), .val (.int (0 : Int32))] [])) _
    refine XS.iloadN X0.here hx rfl (hb hby d_method_3_code_0) rfl ?_
    show Steps p.tables e below (s₁.setTop (mkF m 1 #[.val (.int (2 : Int32)), .val (.int (0 : Int32))] [(.int (2 : Int32))])) _
    refine XS.ifYes X0.here hx rfl (pc0 := 1) (pc' := 18) rfl (hb hby d_method_3_code_1) rfl (by decide) (by decide) (by decide) ?_
    show Steps p.tables e below (s₁.setTop (mkF m 18 #[.val (.int (2 : Int32)), .val (.int (0 : Int32))] [])) _
    refine XS.iloadN X0.here hx rfl (hb hby d_method_3_code_18) rfl ?_
    show Steps p.tables e below (s₁.setTop (mkF m 19 #[.val (.int (2 : Int32)), .val (.int (0 : Int32))] [(.int (2 : Int32))])) _
    refine XT.iconstV X0.here hx rfl (1 : Int32) (hb hby d_method_3_code_19) (by decide) ?_
    show Steps p.tables e below (s₁.setTop (mkF m 20 #[.val (.int (2 : Int32)), .val (.int (0 : Int32))] [(.int (1 : Int32)), (.int (2 : Int32))])) _
    refine XS.icmpYes X0.here hx rfl (pc0 := 20) (pc' := 37) rfl (hb hby d_method_3_code_20) rfl (by decide) (by decide) (by decide) ?_
    show Steps p.tables e below (s₁.setTop (mkF m 37 #[.val (.int (2 : Int32)), .val (.int (0 : Int32))] [])) _
    refine XS.iloadN X0.here hx rfl (hb hby d_method_3_code_37) rfl ?_
    show Steps p.tables e below (s₁.setTop (mkF m 38 #[.val (.int (2 : Int32)), .val (.int (0 : Int32))] [(.int (2 : Int32))])) _
    refine XT.iconstV X0.here hx rfl (2 : Int32) (hb hby d_method_3_code_38) (by decide) ?_
    show Steps p.tables e below (s₁.setTop (mkF m 39 #[.val (.int (2 : Int32)), .val (.int (0 : Int32))] [(.int (2 : Int32)), (.int (2 : Int32))])) _
    refine XS.icmpNo X0.here hx rfl (hb hby d_method_3_code_39) rfl (by decide) ?_
    show Steps p.tables e below (s₁.setTop (mkF m 42 #[.val (.int (2 : Int32)), .val (.int (0 : Int32))] [])) _
    refine XS.iloadN X0.here hx rfl (hb hby d_method_3_code_42) rfl ?_
    show Steps p.tables e below (s₁.setTop (mkF m 43 #[.val (.int (2 : Int32)), .val (.int (0 : Int32))] [(.int (0 : Int32))])) _
    refine XS.ifYes X0.here hx rfl (pc0 := 43) (pc' := 52) rfl (hb hby d_method_3_code_43) rfl (by decide) (by decide) (by decide) ?_
    show Steps p.tables e below (s₁.setTop (mkF m 52 #[.val (.int (2 : Int32)), .val (.int (0 : Int32))] [])) _
    refine st1 _ ?_
    show Steps p.tables e below (T1.setTop (mkF m 55 #[.val (.int (2 : Int32)), .val (.int (0 : Int32))] [(.ref b5)])) _
    exact retOut X1 hx Bd.returns rfl (Or.inr (Or.inr (Or.inr (Or.inr ⟨rfl, rfl, rfl⟩)))) (hb hby d_method_3_code_55) hr
  · exact ⟨rfl, N0, e1⟩
def Q_law_2_0 (Z : State) (p1 p2 : Int32) (aV : Addr) (kV : ClassId) (b0 b1 b2 b3 b4 b5 b6 : Addr) (u0 u1 u2 u3 : Addr) (h0 : Heap) (n0 : Nat) (v : Option Value) (h : Heap) (L : List Loc) : Prop := v = some (.int 1) ∧ Fr n0 L ∧ True
set_option maxRecDepth 65536 in
set_option maxHeartbeats 40000000 in
theorem law_2_0 (l : Launch) (Z : State) (a0 : Array Value) (hw : ∀ d ∈ tables_1, d.before a0 Z = true) (ws : List Jvm.Cond) (p1 p2 : Int32) (aV : Addr) (kV : ClassId) (b0 b1 b2 b3 b4 b5 b6 : Addr) (u0 u1 u2 u3 : Addr) (h0 : Heap) (n0 : Nat) (Z0 : n0 ≤ h0.size) (SaV : Sta Z h0 "com/example/innesco/innesco/database/TriggerEvent" "$VALUES" "[Lcom/example/innesco/innesco/database/TriggerEvent;" (.ref aV)) (VaV : Arv Z h0 aV kV (.object "com/example/innesco/innesco/database/TriggerEvent") (7 : Int32) [(.ref b0), (.ref b1), (.ref b2), (.ref b3), (.ref b4), (.ref b5), (.ref b6)] .null) (EaV : Exa Z h0 aV "[Lcom/example/innesco/innesco/database/TriggerEvent;")(Fw0 : Fld Z h0 b0 "com/example/innesco/innesco/database/TriggerEvent" "write" "Lcom/example/innesco/innesco/database/Write;" (.ref u0))(Fw1 : Fld Z h0 b1 "com/example/innesco/innesco/database/TriggerEvent" "write" "Lcom/example/innesco/innesco/database/Write;" (.ref u0))(Fw2 : Fld Z h0 b2 "com/example/innesco/innesco/database/TriggerEvent" "write" "Lcom/example/innesco/innesco/database/Write;" (.ref u1))(Fw3 : Fld Z h0 b3 "com/example/innesco/innesco/database/TriggerEvent" "write" "Lcom/example/innesco/innesco/database/Write;" (.ref u1))(Fw4 : Fld Z h0 b4 "com/example/innesco/innesco/database/TriggerEvent" "write" "Lcom/example/innesco/innesco/database/Write;" (.ref u2))(Fw5 : Fld Z h0 b5 "com/example/innesco/innesco/database/TriggerEvent" "write" "Lcom/example/innesco/innesco/database/Write;" (.ref u2))(Fw6 : Fld Z h0 b6 "com/example/innesco/innesco/database/TriggerEvent" "write" "Lcom/example/innesco/innesco/database/Write;" (.ref u3))(Fb0 : Fld Z h0 b0 "com/example/innesco/innesco/database/TriggerEvent" "before" "Z" (.int (1 : Int32)))(Fb1 : Fld Z h0 b1 "com/example/innesco/innesco/database/TriggerEvent" "before" "Z" (.int (0 : Int32)))(Fb2 : Fld Z h0 b2 "com/example/innesco/innesco/database/TriggerEvent" "before" "Z" (.int (1 : Int32)))(Fb3 : Fld Z h0 b3 "com/example/innesco/innesco/database/TriggerEvent" "before" "Z" (.int (0 : Int32)))(Fb4 : Fld Z h0 b4 "com/example/innesco/innesco/database/TriggerEvent" "before" "Z" (.int (1 : Int32)))(Fb5 : Fld Z h0 b5 "com/example/innesco/innesco/database/TriggerEvent" "before" "Z" (.int (0 : Int32)))(Fb6 : Fld Z h0 b6 "com/example/innesco/innesco/database/TriggerEvent" "before" "Z" (.int (0 : Int32)))(ne01 : u0 ≠ u1)(ne02 : u0 ≠ u2)(ne03 : u0 ≠ u3)(ne12 : u1 ≠ u2)(ne13 : u1 ≠ u3)(ne23 : u2 ≠ u3)(Su2 : Sta Z h0 "com/example/innesco/innesco/database/Write" "DELETE" "Lcom/example/innesco/innesco/database/Write;" (.ref u2))(Sb5 : Sta Z h0 "com/example/innesco/innesco/database/TriggerEvent" "AFTER_DELETE" "Lcom/example/innesco/innesco/database/TriggerEvent;" (.ref b5))(hk0 : p1 &&& (3 : Int32) = (2 : Int32)) (hb0 : p2 &&& (1 : Int32) = (0 : Int32)) :
    MetFree l x (head1 (Jvm.Cond.code x code maxLocals ret :: ws) room_1) (fun a U => a = #[(.int p1), (.int p2)] ∧ Z.Warmed39 U.vm ∧ U.heap = h0) (fun _ _ _ _ _ => True) (fun _ U o U' => ∃ v L, o = .returned v ∧ Q_law_2_0 Z p1 p2 aV kV b0 b1 b2 b3 b4 b5 b6 u0 u1 u2 u3 h0 n0 v U'.heap L ∧ FrameEnd U o U' L 16 128) := by
  refine MetFree.of_bodySF (plainFor_of_name pn_11) hisR ?_
  intro p e s m args below meth c s₁ Bd hml0 hP hK
  obtain ⟨rfl, hZ, hh⟩ := hP
  have hx := Bd.exec
  have hby := Bd.bytes
  have hml : c.maxLocals = 7 := hml0
  have hown : s.vm.findClass "com/example/innesco/innesco/database/TriggerEventOfPinLaw" = some m.cls := findClass_of_methodNamed Bd.named
  have hnm := (name_of_methodNamed Bd.named Bd.method).1
  have X0 : Stand p l e room_1 s m #[(.int p1), (.int p2)] below meth c s₁ [] 0 0 := Stand.of_body Bd
  have e0 : s₁.heap = h0 := by rw [← hh, Bd.state]; rfl
  have N0 := Fr.nil n0
  have pre0 : ∀ t, Steps p.tables e below (s₁.setTop (mkF m 0 #[.val (.int p1), .val (.int p2), .unset, .unset, .unset, .unset, .unset] [])) t → Steps p.tables e below (s₁.setTop (entryFrame m #[(.int p1), (.int p2)] maxLocals)) t := fun t k => castTop (ef_50 m p1 p2) k
  obtain ⟨_, _, ⟨T1, L1, k1, n1⟩, -, X1, ⟨Lc1, hQ1, l1, y1, z1⟩, st1⟩ := Jvm.LawKit.callS X0 hx (y := (⟨"com/example/innesco/innesco/database/TriggerEventOfPinLaw", "writeOf", "(I)Lcom/example/innesco/innesco/database/Write;"⟩ : MethodName)) hown (mvT hZ (hw _ (List.mem_of_getElem? (i := 0) rfl))) (mvT hZ (hw _ (List.mem_of_getElem? (i := 1) rfl))) (mvT hZ (hw _ (List.mem_of_getElem? (i := 2) rfl))) (mvT hZ (hw _ (List.mem_of_getElem? (i := 3) rfl))) (by decide) (backOf (W := 0) (wof_2 l Z a0 hw [] u2 h0 n0 Z0 Su2) hZ (hw _ (List.mem_of_getElem? (i := 3) rfl)) (hw _ (List.mem_of_getElem? (i := 2) rfl)) (by decide) (by decide)) (g := (mkF m 17 #[.val (.int p1), .val (.int p2), .val (.int (2 : Int32)), .val (.int (0 : Int32)), .unset, .unset, .unset] [(.int (2 : Int32))])) rfl (by rw [hml]; rfl) (argsL := [(.int (2 : Int32))]) (rest := []) (lenOf pd_47 rfl) rfl (by show 2 * 0 + _ ≤ _; exact Nat.le_of_eq rfl) (hb hby at_17) (fun _ _ => ⟨rfl, e0, (by decide : 0 + 0 ≤ _), (by decide : 0 + 0 ≤ _)⟩)
  dsimp only [Pt.U, Pt.locs, Pt.cells, Pt.slots] at X1 l1 y1 z1 st1 hQ1
  subst l1 y1 z1
  obtain ⟨rfl, N1q, e1⟩ := hQ1
  have N1 := Fr.app N0 N1q
  obtain ⟨_, _, ⟨T2, L2, k2, n2⟩, -, X2, ⟨Lc2, hQ2, l2, y2, z2⟩, st2⟩ := Jvm.LawKit.callS X1 hx (y := (⟨"com/example/innesco/innesco/database/TriggerEventOfPinLaw", "expectedOf", "(IZ)Lcom/example/innesco/innesco/database/TriggerEvent;"⟩ : MethodName)) hown (mvT hZ (hw _ (List.mem_of_getElem? (i := 7) rfl))) (mvT hZ (hw _ (List.mem_of_getElem? (i := 8) rfl))) (mvT hZ (hw _ (List.mem_of_getElem? (i := 2) rfl))) (mvT hZ (hw _ (List.mem_of_getElem? (i := 9) rfl))) (by decide) (backOf (W := 0) (eof_2_0 l Z a0 hw [] b5 h0 n0 Z0 Sb5) hZ (hw _ (List.mem_of_getElem? (i := 9) rfl)) (hw _ (List.mem_of_getElem? (i := 2) rfl)) (by decide) (by decide)) (g := (mkF m 24 #[.val (.int p1), .val (.int p2), .val (.int (2 : Int32)), .val (.int (0 : Int32)), .val (.ref u2), .unset, .unset] [(.int (0 : Int32)), (.int (2 : Int32))])) rfl (by rw [hml]; rfl) (argsL := [(.int (2 : Int32)), (.int (0 : Int32))]) (rest := []) (lenOf pd_48 rfl) rfl (by show 2 * 0 + _ ≤ _; exact Nat.le_of_eq rfl) (hb hby at_24) (fun _ _ => ⟨rfl, e1, (by decide : 0 + 0 ≤ _), (by decide : 0 + 0 ≤ _)⟩)
  dsimp only [Pt.U, Pt.locs, Pt.cells, Pt.slots] at X2 l2 y2 z2 st2 hQ2
  subst l2 y2 z2
  obtain ⟨rfl, N2q, e2⟩ := hQ2
  have N2 := Fr.app N1 N2q
  obtain ⟨_, _, ⟨T3, L3, k3, n3⟩, -, X3, ⟨Lc3, hQ3, l3, y3, z3⟩, st3⟩ := Jvm.LawKit.callS X2 hx (y := (⟨"com/example/innesco/innesco/database/TriggerEvent", "of", "(Lcom/example/innesco/innesco/database/Write;Z)Lcom/example/innesco/innesco/database/TriggerEvent;"⟩ : MethodName)) hown (mvT hZ (hw _ (List.mem_of_getElem? (i := 13) rfl))) (mvT hZ (hw _ (List.mem_of_getElem? (i := 14) rfl))) (mvT hZ (hw _ (List.mem_of_getElem? (i := 11) rfl))) (mvT hZ (hw _ (List.mem_of_getElem? (i := 15) rfl))) (by decide) (backOf (W := 0) (of_2_0 l Z a0 hw [] aV kV b0 b1 b2 b3 b4 b5 b6 u0 u1 u2 u3 h0 n0 Z0 SaV VaV EaV Fw0 Fw1 Fw2 Fw3 Fw4 Fw5 Fw6 Fb0 Fb1 Fb2 Fb3 Fb4 Fb5 Fb6 ne01 ne02 ne03 ne12 ne13 ne23) hZ (hw _ (List.mem_of_getElem? (i := 15) rfl)) (hw _ (List.mem_of_getElem? (i := 11) rfl)) (by decide) (by decide)) (g := (mkF m 32 #[.val (.int p1), .val (.int p2), .val (.int (2 : Int32)), .val (.int (0 : Int32)), .val (.ref u2), .val (.ref b5), .unset] [(.int (0 : Int32)), (.ref u2)])) rfl (by rw [hml]; rfl) (argsL := [(.ref u2), (.int (0 : Int32))]) (rest := []) (lenOf pd_49 rfl) rfl (by show 2 * 0 + _ ≤ _; exact Nat.le_of_eq rfl) (hb hby at_32) (fun _ _ => ⟨rfl, e2, (by decide : 0 + 1 ≤ _), (by decide : 0 + 7 ≤ _)⟩)
  dsimp only [Pt.U, Pt.locs, Pt.cells, Pt.slots] at X3 l3 y3 z3 st3 hQ3
  subst l3 y3 z3
  obtain ⟨rfl, N3q, Ex3⟩ := hQ3
  have N3 := Fr.app N2 N3q
  obtain ⟨fs, hr, hrun, hended, hW, hsame⟩ := X3.leave (v := some (.int (1 : Int32))) (fun h => by rw [Bd.returns] at h; cases h)
  refine ⟨_, _, pre0 _ ?_, hrun, hended, _, _, rfl, ?_, ⟨_, rfl⟩, hW, hsame.mono (by decide) (by decide)⟩
  · show Steps p.tables e below (s₁.setTop (mkF m 0 #[.val (.int p1), .val (.int p2), .unset, .unset, .unset, .unset, .unset] [])) _
    refine XS.iloadN X0.here hx rfl (hb hby at_0) rfl ?_
    show Steps p.tables e below (s₁.setTop (mkF m 1 #[.val (.int p1), .val (.int p2), .unset, .unset, .unset, .unset, .unset] [(.int p1)])) _
    refine XT.iconstV X0.here hx rfl (3 : Int32) (hb hby at_1) (by decide) ?_
    show Steps p.tables e below (s₁.setTop (mkF m 2 #[.val (.int p1), .val (.int p2), .unset, .unset, .unset, .unset, .unset] [(.int (3 : Int32)), (.int p1)])) _
    refine XS.iand X0.here hx rfl (hb hby at_2) rfl ?_
    show Steps p.tables e below (s₁.setTop (mkF m 3 #[.val (.int p1), .val (.int p2), .unset, .unset, .unset, .unset, .unset] [(.int (p1 &&& (3 : Int32)))])) _
    rw [hk0]
    show Steps p.tables e below (s₁.setTop (mkF m 3 #[.val (.int p1), .val (.int p2), .unset, .unset, .unset, .unset, .unset] [(.int (2 : Int32))])) _
    refine XS.istoreN X0.here hx rfl (hb hby at_3) rfl (l' := #[.val (.int p1), .val (.int p2), .val (.int (2 : Int32)), .unset, .unset, .unset, .unset]) rfl ?_
    show Steps p.tables e below (s₁.setTop (mkF m 4 #[.val (.int p1), .val (.int p2), .val (.int (2 : Int32)), .unset, .unset, .unset, .unset] [])) _
    refine XS.iloadN X0.here hx rfl (hb hby at_4) rfl ?_
    show Steps p.tables e below (s₁.setTop (mkF m 5 #[.val (.int p1), .val (.int p2), .val (.int (2 : Int32)), .unset, .unset, .unset, .unset] [(.int p2)])) _
    refine XT.iconstV X0.here hx rfl (1 : Int32) (hb hby at_5) (by decide) ?_
    show Steps p.tables e below (s₁.setTop (mkF m 6 #[.val (.int p1), .val (.int p2), .val (.int (2 : Int32)), .unset, .unset, .unset, .unset] [(.int (1 : Int32)), (.int p2)])) _
    refine XS.iand X0.here hx rfl (hb hby at_6) rfl ?_
    show Steps p.tables e below (s₁.setTop (mkF m 7 #[.val (.int p1), .val (.int p2), .val (.int (2 : Int32)), .unset, .unset, .unset, .unset] [(.int (p2 &&& (1 : Int32)))])) _
    rw [hb0]
    show Steps p.tables e below (s₁.setTop (mkF m 7 #[.val (.int p1), .val (.int p2), .val (.int (2 : Int32)), .unset, .unset, .unset, .unset] [(.int (0 : Int32))])) _
    refine XS.ifYes X0.here hx rfl (pc0 := 7) (pc' := 14) rfl (hb hby at_7) rfl (by decide) (by decide) (by decide) ?_
    show Steps p.tables e below (s₁.setTop (mkF m 14 #[.val (.int p1), .val (.int p2), .val (.int (2 : Int32)), .unset, .unset, .unset, .unset] [])) _
    refine XT.iconstV X0.here hx rfl (0 : Int32) (hb hby at_14) (by decide) ?_
    show Steps p.tables e below (s₁.setTop (mkF m 15 #[.val (.int p1), .val (.int p2), .val (.int (2 : Int32)), .unset, .unset, .unset, .unset] [(.int (0 : Int32))])) _
    refine XS.istoreN X0.here hx rfl (hb hby at_15) rfl (l' := #[.val (.int p1), .val (.int p2), .val (.int (2 : Int32)), .val (.int (0 : Int32)), .unset, .unset, .unset]) rfl ?_
    show Steps p.tables e below (s₁.setTop (mkF m 16 #[.val (.int p1), .val (.int p2), .val (.int (2 : Int32)), .val (.int (0 : Int32)), .unset, .unset, .unset] [])) _
    refine XS.iloadN X0.here hx rfl (hb hby at_16) rfl ?_
    show Steps p.tables e below (s₁.setTop (mkF m 17 #[.val (.int p1), .val (.int p2), .val (.int (2 : Int32)), .val (.int (0 : Int32)), .unset, .unset, .unset] [(.int (2 : Int32))])) _
    refine st1 _ ?_
    show Steps p.tables e below (T1.setTop (mkF m 20 #[.val (.int p1), .val (.int p2), .val (.int (2 : Int32)), .val (.int (0 : Int32)), .unset, .unset, .unset] [(.ref u2)])) _
    refine XS.astore X1.here hx rfl (hb hby at_20) rfl rfl (l' := #[.val (.int p1), .val (.int p2), .val (.int (2 : Int32)), .val (.int (0 : Int32)), .val (.ref u2), .unset, .unset]) rfl ?_
    show Steps p.tables e below (T1.setTop (mkF m 22 #[.val (.int p1), .val (.int p2), .val (.int (2 : Int32)), .val (.int (0 : Int32)), .val (.ref u2), .unset, .unset] [])) _
    refine XS.iloadN X1.here hx rfl (hb hby at_22) rfl ?_
    show Steps p.tables e below (T1.setTop (mkF m 23 #[.val (.int p1), .val (.int p2), .val (.int (2 : Int32)), .val (.int (0 : Int32)), .val (.ref u2), .unset, .unset] [(.int (2 : Int32))])) _
    refine XS.iloadN X1.here hx rfl (hb hby at_23) rfl ?_
    show Steps p.tables e below (T1.setTop (mkF m 24 #[.val (.int p1), .val (.int p2), .val (.int (2 : Int32)), .val (.int (0 : Int32)), .val (.ref u2), .unset, .unset] [(.int (0 : Int32)), (.int (2 : Int32))])) _
    refine st2 _ ?_
    show Steps p.tables e below (T2.setTop (mkF m 27 #[.val (.int p1), .val (.int p2), .val (.int (2 : Int32)), .val (.int (0 : Int32)), .val (.ref u2), .unset, .unset] [(.ref b5)])) _
    refine XS.astore X2.here hx rfl (hb hby at_27) rfl rfl (l' := #[.val (.int p1), .val (.int p2), .val (.int (2 : Int32)), .val (.int (0 : Int32)), .val (.ref u2), .val (.ref b5), .unset]) rfl ?_
    show Steps p.tables e below (T2.setTop (mkF m 29 #[.val (.int p1), .val (.int p2), .val (.int (2 : Int32)), .val (.int (0 : Int32)), .val (.ref u2), .val (.ref b5), .unset] [])) _
    refine XS.aload X2.here hx rfl (hb hby at_29) rfl rfl ?_
    show Steps p.tables e below (T2.setTop (mkF m 31 #[.val (.int p1), .val (.int p2), .val (.int (2 : Int32)), .val (.int (0 : Int32)), .val (.ref u2), .val (.ref b5), .unset] [(.ref u2)])) _
    refine XS.iloadN X2.here hx rfl (hb hby at_31) rfl ?_
    show Steps p.tables e below (T2.setTop (mkF m 32 #[.val (.int p1), .val (.int p2), .val (.int (2 : Int32)), .val (.int (0 : Int32)), .val (.ref u2), .val (.ref b5), .unset] [(.int (0 : Int32)), (.ref u2)])) _
    refine st3 _ ?_
    show Steps p.tables e below (T3.setTop (mkF m 35 #[.val (.int p1), .val (.int p2), .val (.int (2 : Int32)), .val (.int (0 : Int32)), .val (.ref u2), .val (.ref b5), .unset] [(.ref b5)])) _
    refine XS.astore X3.here hx rfl (hb hby at_35) rfl rfl (l' := #[.val (.int p1), .val (.int p2), .val (.int (2 : Int32)), .val (.int (0 : Int32)), .val (.ref u2), .val (.ref b5), .val (.ref b5)]) rfl ?_
    show Steps p.tables e below (T3.setTop (mkF m 37 #[.val (.int p1), .val (.int p2), .val (.int (2 : Int32)), .val (.int (0 : Int32)), .val (.ref u2), .val (.ref b5), .val (.ref b5)] [])) _
    refine XS.aload X3.here hx rfl (hb hby at_37) rfl rfl ?_
    show Steps p.tables e below (T3.setTop (mkF m 39 #[.val (.int p1), .val (.int p2), .val (.int (2 : Int32)), .val (.int (0 : Int32)), .val (.ref u2), .val (.ref b5), .val (.ref b5)] [(.ref b5)])) _
    refine XS.aload X3.here hx rfl (hb hby at_39) rfl rfl ?_
    show Steps p.tables e below (T3.setTop (mkF m 41 #[.val (.int p1), .val (.int p2), .val (.int (2 : Int32)), .val (.int (0 : Int32)), .val (.ref u2), .val (.ref b5), .val (.ref b5)] [(.ref b5), (.ref b5)])) _
    refine acmp X3 hx rfl rfl rfl (pc0 := 41) (pc' := 44) (same := true) rfl (hb hby at_41) rfl (decide_eq_true rfl) (by decide) (by decide) ?_
    show Steps p.tables e below (T3.setTop (mkF m 44 #[.val (.int p1), .val (.int p2), .val (.int (2 : Int32)), .val (.int (0 : Int32)), .val (.ref u2), .val (.ref b5), .val (.ref b5)] [])) _
    refine XT.iconstV X3.here hx rfl (1 : Int32) (hb hby at_44) (by decide) ?_
    show Steps p.tables e below (T3.setTop (mkF m 45 #[.val (.int p1), .val (.int p2), .val (.int (2 : Int32)), .val (.int (0 : Int32)), .val (.ref u2), .val (.ref b5), .val (.ref b5)] [(.int (1 : Int32))])) _
    refine XS.goto X3.here hx rfl (pc0 := 45) (pc' := 49) rfl (hb hby at_45) (by decide) (by decide) ?_
    show Steps p.tables e below (T3.setTop (mkF m 49 #[.val (.int p1), .val (.int p2), .val (.int (2 : Int32)), .val (.int (0 : Int32)), .val (.ref u2), .val (.ref b5), .val (.ref b5)] [(.int (1 : Int32))])) _
    exact retN X3 hx (t := .boolean) Bd.returns (by simp) (hb hby at_49) hr
  · exact ⟨rfl, N3, trivial⟩
def Q_of_2_1 (Z : State) (aV : Addr) (kV : ClassId) (b0 b1 b2 b3 b4 b5 b6 : Addr) (u0 u1 u2 u3 : Addr) (h0 : Heap) (n0 : Nat) (v : Option Value) (h : Heap) (L : List Loc) : Prop := v = some (.ref b4) ∧ Fr n0 L ∧ Ext h0 h
set_option maxRecDepth 65536 in
set_option maxHeartbeats 40000000 in
theorem of_2_1 (l : Launch) (Z : State) (a0 : Array Value) (hw : ∀ d ∈ tables_1, d.before a0 Z = true) (ws : List Jvm.Cond) (aV : Addr) (kV : ClassId) (b0 b1 b2 b3 b4 b5 b6 : Addr) (u0 u1 u2 u3 : Addr) (h0 : Heap) (n0 : Nat) (Z0 : n0 ≤ h0.size) (SaV : Sta Z h0 "com/example/innesco/innesco/database/TriggerEvent" "$VALUES" "[Lcom/example/innesco/innesco/database/TriggerEvent;" (.ref aV)) (VaV : Arv Z h0 aV kV (.object "com/example/innesco/innesco/database/TriggerEvent") (7 : Int32) [(.ref b0), (.ref b1), (.ref b2), (.ref b3), (.ref b4), (.ref b5), (.ref b6)] .null) (EaV : Exa Z h0 aV "[Lcom/example/innesco/innesco/database/TriggerEvent;")(Fw0 : Fld Z h0 b0 "com/example/innesco/innesco/database/TriggerEvent" "write" "Lcom/example/innesco/innesco/database/Write;" (.ref u0))(Fw1 : Fld Z h0 b1 "com/example/innesco/innesco/database/TriggerEvent" "write" "Lcom/example/innesco/innesco/database/Write;" (.ref u0))(Fw2 : Fld Z h0 b2 "com/example/innesco/innesco/database/TriggerEvent" "write" "Lcom/example/innesco/innesco/database/Write;" (.ref u1))(Fw3 : Fld Z h0 b3 "com/example/innesco/innesco/database/TriggerEvent" "write" "Lcom/example/innesco/innesco/database/Write;" (.ref u1))(Fw4 : Fld Z h0 b4 "com/example/innesco/innesco/database/TriggerEvent" "write" "Lcom/example/innesco/innesco/database/Write;" (.ref u2))(Fw5 : Fld Z h0 b5 "com/example/innesco/innesco/database/TriggerEvent" "write" "Lcom/example/innesco/innesco/database/Write;" (.ref u2))(Fw6 : Fld Z h0 b6 "com/example/innesco/innesco/database/TriggerEvent" "write" "Lcom/example/innesco/innesco/database/Write;" (.ref u3))(Fb0 : Fld Z h0 b0 "com/example/innesco/innesco/database/TriggerEvent" "before" "Z" (.int (1 : Int32)))(Fb1 : Fld Z h0 b1 "com/example/innesco/innesco/database/TriggerEvent" "before" "Z" (.int (0 : Int32)))(Fb2 : Fld Z h0 b2 "com/example/innesco/innesco/database/TriggerEvent" "before" "Z" (.int (1 : Int32)))(Fb3 : Fld Z h0 b3 "com/example/innesco/innesco/database/TriggerEvent" "before" "Z" (.int (0 : Int32)))(Fb4 : Fld Z h0 b4 "com/example/innesco/innesco/database/TriggerEvent" "before" "Z" (.int (1 : Int32)))(Fb5 : Fld Z h0 b5 "com/example/innesco/innesco/database/TriggerEvent" "before" "Z" (.int (0 : Int32)))(Fb6 : Fld Z h0 b6 "com/example/innesco/innesco/database/TriggerEvent" "before" "Z" (.int (0 : Int32)))(ne01 : u0 ≠ u1)(ne02 : u0 ≠ u2)(ne03 : u0 ≠ u3)(ne12 : u1 ≠ u2)(ne13 : u1 ≠ u3)(ne23 : u2 ≠ u3) :
    MetFree l (⟨"com/example/innesco/innesco/database/TriggerEvent", "of", "(Lcom/example/innesco/innesco/database/Write;Z)Lcom/example/innesco/innesco/database/TriggerEvent;"⟩ : MethodName) (head1 (Jvm.Cond.code (⟨"com/example/innesco/innesco/database/TriggerEvent", "of", "(Lcom/example/innesco/innesco/database/Write;Z)Lcom/example/innesco/innesco/database/TriggerEvent;"⟩ : MethodName) prog_14_method_6_code 6 (Option.some (Jvm.ClassFile.FieldType.object "com/example/innesco/innesco/database/TriggerEvent")) :: ws) ({ frames := 2, cells := 1, slots := 7, locals := 25 } : Room)) (fun a U => a = #[(.ref u2), (.int (1 : Int32))] ∧ Z.Warmed39 U.vm ∧ U.heap = h0) (fun _ _ _ _ _ => True) (fun _ U o U' => ∃ v L, o = .returned v ∧ Q_of_2_1 Z aV kV b0 b1 b2 b3 b4 b5 b6 u0 u1 u2 u3 h0 n0 v U'.heap L ∧ FrameEnd U o U' L ({ frames := 2, cells := 1, slots := 7, locals := 25 } : Room).cells ({ frames := 2, cells := 1, slots := 7, locals := 25 } : Room).slots) := by
  refine MetFree.of_bodySF (plainFor_of_name pn_5) hisR ?_
  intro p e s m args below meth c s₁ Bd hml0 hP hK
  obtain ⟨rfl, hZ, hh⟩ := hP
  have hx := Bd.exec
  have hby := Bd.bytes
  have hml : c.maxLocals = 6 := hml0
  have hown : s.vm.findClass "com/example/innesco/innesco/database/TriggerEvent" = some m.cls := findClass_of_methodNamed Bd.named
  have hnm := (name_of_methodNamed Bd.named Bd.method).1
  have X0 : Stand p l e ({ frames := 2, cells := 1, slots := 7, locals := 25 } : Room) s m #[(.ref u2), (.int (1 : Int32))] below meth c s₁ [] 0 0 := Stand.of_body Bd
  have e0 : s₁.heap = h0 := by rw [← hh, Bd.state]; rfl
  have N0 := Fr.nil n0
  have pre0 : ∀ t, Steps p.tables e below (s₁.setTop (mkF m 0 #[.val (.ref u2), .val (.int (1 : Int32)), .unset, .unset, .unset, .unset] [])) t → Steps p.tables e below (s₁.setTop (entryFrame m #[(.ref u2), (.int (1 : Int32))] 6)) t := fun t k => castTop (ef_39 m u2 (1 : Int32)) k
  obtain ⟨_, _, ⟨T1, L1, k1, n1⟩, -, X1, ⟨Lc1, hQ1, l1, y1, z1⟩, st1⟩ := Jvm.LawKit.callS X0 hx (y := (⟨"com/example/innesco/innesco/database/TriggerEvent", "values", "()[Lcom/example/innesco/innesco/database/TriggerEvent;"⟩ : MethodName)) hown (mvT hZ (hw _ (List.mem_of_getElem? (i := 16) rfl))) (mvT hZ (hw _ (List.mem_of_getElem? (i := 17) rfl))) (mvT hZ (hw _ (List.mem_of_getElem? (i := 11) rfl))) (mvT hZ (hw _ (List.mem_of_getElem? (i := 18) rfl))) (by decide) (backOf (W := 0) (values_0 l Z a0 hw [] aV kV b0 b1 b2 b3 b4 b5 b6 h0 n0 Z0 SaV VaV EaV) hZ (hw _ (List.mem_of_getElem? (i := 18) rfl)) (hw _ (List.mem_of_getElem? (i := 11) rfl)) (by decide) (by decide)) (g := (mkF m 0 #[.val (.ref u2), .val (.int (1 : Int32)), .unset, .unset, .unset, .unset] [])) rfl (by rw [hml]; rfl) (argsL := []) (rest := []) (lenOf pd_13 rfl) rfl (by show 2 * 0 + _ ≤ _; exact Nat.le_of_eq rfl) (hb hby d_prog_14_method_6_code_0) (fun _ _ => ⟨rfl, e0, (by decide : 0 + 1 ≤ _), (by decide : 0 + 7 ≤ _)⟩)
  dsimp only [Pt.U, Pt.locs, Pt.cells, Pt.slots] at X1 l1 y1 z1 st1 hQ1
  subst l1 y1 z1
  obtain ⟨rfl, N1q, Ex1, V1⟩ := hQ1
  have N1 := Fr.app N0 N1q
  obtain ⟨cl, Ar, -, Sz, Ng, Hs, -⟩ := V1
  have hlen : cl.slots.size.toInt32 = (7 : Int32) := len_of Sz Ng
  obtain ⟨T2, X2, e2, st2⟩ := getF X1 hx hZ hown (host := "") (Or.inl (hw _ (List.mem_of_getElem? (i := 37) rfl))) Via.refl rfl (Fw0.ext Ex1) (g := (mkF m 24 #[.val (.ref u2), .val (.int (1 : Int32)), .val (.ref h0.size), .val (.int (7 : Int32)), .val (.int (0 : Int32)), .val (.ref b0)] [(.ref b0)])) rfl rfl (hb hby d_prog_14_method_6_code_24)
  obtain ⟨T3, X3, e3, st3⟩ := getF X2 hx hZ hown (host := "") (Or.inl (hw _ (List.mem_of_getElem? (i := 37) rfl))) Via.refl e2 (Fw1.ext Ex1) (g := (mkF m 24 #[.val (.ref u2), .val (.int (1 : Int32)), .val (.ref h0.size), .val (.int (7 : Int32)), .val (.int (1 : Int32)), .val (.ref b1)] [(.ref b1)])) rfl rfl (hb hby d_prog_14_method_6_code_24)
  obtain ⟨T4, X4, e4, st4⟩ := getF X3 hx hZ hown (host := "") (Or.inl (hw _ (List.mem_of_getElem? (i := 37) rfl))) Via.refl e3 (Fw2.ext Ex1) (g := (mkF m 24 #[.val (.ref u2), .val (.int (1 : Int32)), .val (.ref h0.size), .val (.int (7 : Int32)), .val (.int (2 : Int32)), .val (.ref b2)] [(.ref b2)])) rfl rfl (hb hby d_prog_14_method_6_code_24)
  obtain ⟨T5, X5, e5, st5⟩ := getF X4 hx hZ hown (host := "") (Or.inl (hw _ (List.mem_of_getElem? (i := 37) rfl))) Via.refl e4 (Fw3.ext Ex1) (g := (mkF m 24 #[.val (.ref u2), .val (.int (1 : Int32)), .val (.ref h0.size), .val (.int (7 : Int32)), .val (.int (3 : Int32)), .val (.ref b3)] [(.ref b3)])) rfl rfl (hb hby d_prog_14_method_6_code_24)
  obtain ⟨T6, X6, e6, st6⟩ := getF X5 hx hZ hown (host := "") (Or.inl (hw _ (List.mem_of_getElem? (i := 37) rfl))) Via.refl e5 (Fw4.ext Ex1) (g := (mkF m 24 #[.val (.ref u2), .val (.int (1 : Int32)), .val (.ref h0.size), .val (.int (7 : Int32)), .val (.int (4 : Int32)), .val (.ref b4)] [(.ref b4)])) rfl rfl (hb hby d_prog_14_method_6_code_24)
  obtain ⟨T7, X7, e7, st7⟩ := getF X6 hx hZ hown (host := "") (Or.inl (hw _ (List.mem_of_getElem? (i := 39) rfl))) Via.refl e6 (Fb4.ext Ex1) (g := (mkF m 33 #[.val (.ref u2), .val (.int (1 : Int32)), .val (.ref h0.size), .val (.int (7 : Int32)), .val (.int (4 : Int32)), .val (.ref b4)] [(.ref b4)])) rfl rfl (hb hby d_prog_14_method_6_code_33)
  obtain ⟨fs, hr, hrun, hended, hW, hsame⟩ := X7.leave (v := some (.ref b4)) (fun h => by rw [Bd.returns] at h; cases h)
  refine ⟨_, _, pre0 _ ?_, hrun, hended, _, _, rfl, ?_, ⟨_, rfl⟩, hW, hsame.mono (by decide) (by decide)⟩
  · show Steps p.tables e below (s₁.setTop (mkF m 0 #[.val (.ref u2), .val (.int (1 : Int32)), .unset, .unset, .unset, .unset] [])) _
    refine st1 _ ?_
    show Steps p.tables e below (T1.setTop (mkF m 3 #[.val (.ref u2), .val (.int (1 : Int32)), .unset, .unset, .unset, .unset] [(.ref h0.size)])) _
    refine XS.astoreN X1.here hx rfl (hb hby d_prog_14_method_6_code_3) rfl rfl (l' := #[.val (.ref u2), .val (.int (1 : Int32)), .val (.ref h0.size), .unset, .unset, .unset]) rfl ?_
    show Steps p.tables e below (T1.setTop (mkF m 4 #[.val (.ref u2), .val (.int (1 : Int32)), .val (.ref h0.size), .unset, .unset, .unset] [])) _
    refine XS.aloadN X1.here hx rfl (hb hby d_prog_14_method_6_code_4) rfl rfl ?_
    show Steps p.tables e below (T1.setTop (mkF m 5 #[.val (.ref u2), .val (.int (1 : Int32)), .val (.ref h0.size), .unset, .unset, .unset] [(.ref h0.size)])) _
    refine X1.arraylength hx (by first | exact Ar.1 | (rw [rfl]; exact Ar.1)) (State.isArrayOf_alike hZ.alike Ar.2.1) (g := (mkF m 5 #[.val (.ref u2), .val (.int (1 : Int32)), .val (.ref h0.size), .unset, .unset, .unset] [(.ref h0.size)])) rfl rfl (hb hby d_prog_14_method_6_code_5) _ ?_
    show Steps p.tables e below (T1.setTop (mkF m 6 #[.val (.ref u2), .val (.int (1 : Int32)), .val (.ref h0.size), .unset, .unset, .unset] [(.int cl.slots.size.toInt32)])) _
    rw [hlen]
    show Steps p.tables e below (T1.setTop (mkF m 6 #[.val (.ref u2), .val (.int (1 : Int32)), .val (.ref h0.size), .unset, .unset, .unset] [(.int (7 : Int32))])) _
    refine XS.istoreN X1.here hx rfl (hb hby d_prog_14_method_6_code_6) rfl (l' := #[.val (.ref u2), .val (.int (1 : Int32)), .val (.ref h0.size), .val (.int (7 : Int32)), .unset, .unset]) rfl ?_
    show Steps p.tables e below (T1.setTop (mkF m 7 #[.val (.ref u2), .val (.int (1 : Int32)), .val (.ref h0.size), .val (.int (7 : Int32)), .unset, .unset] [])) _
    refine XT.iconstV X1.here hx rfl (0 : Int32) (hb hby d_prog_14_method_6_code_7) (by decide) ?_
    show Steps p.tables e below (T1.setTop (mkF m 8 #[.val (.ref u2), .val (.int (1 : Int32)), .val (.ref h0.size), .val (.int (7 : Int32)), .unset, .unset] [(.int (0 : Int32))])) _
    refine XS.istore X1.here hx rfl (hb hby d_prog_14_method_6_code_8) rfl (l' := #[.val (.ref u2), .val (.int (1 : Int32)), .val (.ref h0.size), .val (.int (7 : Int32)), .val (.int (0 : Int32)), .unset]) rfl ?_
    show Steps p.tables e below (T1.setTop (mkF m 10 #[.val (.ref u2), .val (.int (1 : Int32)), .val (.ref h0.size), .val (.int (7 : Int32)), .val (.int (0 : Int32)), .unset] [])) _
    refine XS.iload X1.here hx rfl (hb hby d_prog_14_method_6_code_10) rfl ?_
    show Steps p.tables e below (T1.setTop (mkF m 12 #[.val (.ref u2), .val (.int (1 : Int32)), .val (.ref h0.size), .val (.int (7 : Int32)), .val (.int (0 : Int32)), .unset] [(.int (0 : Int32))])) _
    refine XS.iloadN X1.here hx rfl (hb hby d_prog_14_method_6_code_12) rfl ?_
    show Steps p.tables e below (T1.setTop (mkF m 13 #[.val (.ref u2), .val (.int (1 : Int32)), .val (.ref h0.size), .val (.int (7 : Int32)), .val (.int (0 : Int32)), .unset] [(.int (7 : Int32)), (.int (0 : Int32))])) _
    refine XS.icmpNo X1.here hx rfl (hb hby d_prog_14_method_6_code_13) rfl (by decide) ?_
    show Steps p.tables e below (T1.setTop (mkF m 16 #[.val (.ref u2), .val (.int (1 : Int32)), .val (.ref h0.size), .val (.int (7 : Int32)), .val (.int (0 : Int32)), .unset] [])) _
    refine XS.aloadN X1.here hx rfl (hb hby d_prog_14_method_6_code_16) rfl rfl ?_
    show Steps p.tables e below (T1.setTop (mkF m 17 #[.val (.ref u2), .val (.int (1 : Int32)), .val (.ref h0.size), .val (.int (7 : Int32)), .val (.int (0 : Int32)), .unset] [(.ref h0.size)])) _
    refine XS.iload X1.here hx rfl (hb hby d_prog_14_method_6_code_17) rfl ?_
    show Steps p.tables e below (T1.setTop (mkF m 19 #[.val (.ref u2), .val (.int (1 : Int32)), .val (.ref h0.size), .val (.int (7 : Int32)), .val (.int (0 : Int32)), .unset] [(.int (0 : Int32)), (.ref h0.size)])) _
    refine X1.aaload hx (j := (0 : Int32)) (v := (.ref b0)) (by first | exact Ar.1 | (rw [rfl]; exact Ar.1)) (State.isArrayOf_alike hZ.alike Ar.2.1) rfl Ar.2.2 (inb_of Sz ⟨by decide, by decide⟩) (Hs.at (inb_of Sz ⟨by decide, by decide⟩) rfl) (g := (mkF m 19 #[.val (.ref u2), .val (.int (1 : Int32)), .val (.ref h0.size), .val (.int (7 : Int32)), .val (.int (0 : Int32)), .unset] [(.int (0 : Int32)), (.ref h0.size)])) rfl rfl (hb hby d_prog_14_method_6_code_19) _ ?_
    show Steps p.tables e below (T1.setTop (mkF m 20 #[.val (.ref u2), .val (.int (1 : Int32)), .val (.ref h0.size), .val (.int (7 : Int32)), .val (.int (0 : Int32)), .unset] [(.ref b0)])) _
    refine XS.astore X1.here hx rfl (hb hby d_prog_14_method_6_code_20) rfl rfl (l' := #[.val (.ref u2), .val (.int (1 : Int32)), .val (.ref h0.size), .val (.int (7 : Int32)), .val (.int (0 : Int32)), .val (.ref b0)]) rfl ?_
    show Steps p.tables e below (T1.setTop (mkF m 22 #[.val (.ref u2), .val (.int (1 : Int32)), .val (.ref h0.size), .val (.int (7 : Int32)), .val (.int (0 : Int32)), .val (.ref b0)] [])) _
    refine XS.aload X1.here hx rfl (hb hby d_prog_14_method_6_code_22) rfl rfl ?_
    show Steps p.tables e below (T1.setTop (mkF m 24 #[.val (.ref u2), .val (.int (1 : Int32)), .val (.ref h0.size), .val (.int (7 : Int32)), .val (.int (0 : Int32)), .val (.ref b0)] [(.ref b0)])) _
    refine st2 _ ?_
    show Steps p.tables e below (T2.setTop (mkF m 27 #[.val (.ref u2), .val (.int (1 : Int32)), .val (.ref h0.size), .val (.int (7 : Int32)), .val (.int (0 : Int32)), .val (.ref b0)] [(.ref u0)])) _
    refine XS.aloadN X2.here hx rfl (hb hby d_prog_14_method_6_code_27) rfl rfl ?_
    show Steps p.tables e below (T2.setTop (mkF m 28 #[.val (.ref u2), .val (.int (1 : Int32)), .val (.ref h0.size), .val (.int (7 : Int32)), .val (.int (0 : Int32)), .val (.ref b0)] [(.ref u2), (.ref u0)])) _
    refine acmp X2 hx rfl rfl rfl (pc0 := 28) (pc' := 43) (same := false) rfl (hb hby d_prog_14_method_6_code_28) rfl (decide_eq_false fun q => ne02 (Value.ref.inj q)) (by decide) (by decide) ?_
    show Steps p.tables e below (T2.setTop (mkF m 43 #[.val (.ref u2), .val (.int (1 : Int32)), .val (.ref h0.size), .val (.int (7 : Int32)), .val (.int (0 : Int32)), .val (.ref b0)] [])) _
    refine XT.iincV X2.here hx rfl (1 : Int32) (hb hby d_prog_14_method_6_code_43) (by decide) rfl (l' := #[.val (.ref u2), .val (.int (1 : Int32)), .val (.ref h0.size), .val (.int (7 : Int32)), .val (.int (1 : Int32)), .val (.ref b0)]) rfl ?_
    show Steps p.tables e below (T2.setTop (mkF m 46 #[.val (.ref u2), .val (.int (1 : Int32)), .val (.ref h0.size), .val (.int (7 : Int32)), .val (.int (1 : Int32)), .val (.ref b0)] [])) _
    refine XS.goto X2.here hx rfl (pc0 := 46) (pc' := 10) rfl (hb hby d_prog_14_method_6_code_46) (by decide) (by decide) ?_
    show Steps p.tables e below (T2.setTop (mkF m 10 #[.val (.ref u2), .val (.int (1 : Int32)), .val (.ref h0.size), .val (.int (7 : Int32)), .val (.int (1 : Int32)), .val (.ref b0)] [])) _
    refine XS.iload X2.here hx rfl (hb hby d_prog_14_method_6_code_10) rfl ?_
    show Steps p.tables e below (T2.setTop (mkF m 12 #[.val (.ref u2), .val (.int (1 : Int32)), .val (.ref h0.size), .val (.int (7 : Int32)), .val (.int (1 : Int32)), .val (.ref b0)] [(.int (1 : Int32))])) _
    refine XS.iloadN X2.here hx rfl (hb hby d_prog_14_method_6_code_12) rfl ?_
    show Steps p.tables e below (T2.setTop (mkF m 13 #[.val (.ref u2), .val (.int (1 : Int32)), .val (.ref h0.size), .val (.int (7 : Int32)), .val (.int (1 : Int32)), .val (.ref b0)] [(.int (7 : Int32)), (.int (1 : Int32))])) _
    refine XS.icmpNo X2.here hx rfl (hb hby d_prog_14_method_6_code_13) rfl (by decide) ?_
    show Steps p.tables e below (T2.setTop (mkF m 16 #[.val (.ref u2), .val (.int (1 : Int32)), .val (.ref h0.size), .val (.int (7 : Int32)), .val (.int (1 : Int32)), .val (.ref b0)] [])) _
    refine XS.aloadN X2.here hx rfl (hb hby d_prog_14_method_6_code_16) rfl rfl ?_
    show Steps p.tables e below (T2.setTop (mkF m 17 #[.val (.ref u2), .val (.int (1 : Int32)), .val (.ref h0.size), .val (.int (7 : Int32)), .val (.int (1 : Int32)), .val (.ref b0)] [(.ref h0.size)])) _
    refine XS.iload X2.here hx rfl (hb hby d_prog_14_method_6_code_17) rfl ?_
    show Steps p.tables e below (T2.setTop (mkF m 19 #[.val (.ref u2), .val (.int (1 : Int32)), .val (.ref h0.size), .val (.int (7 : Int32)), .val (.int (1 : Int32)), .val (.ref b0)] [(.int (1 : Int32)), (.ref h0.size)])) _
    refine X2.aaload hx (j := (1 : Int32)) (v := (.ref b1)) (by first | exact Ar.1 | (rw [e2]; exact Ar.1)) (State.isArrayOf_alike hZ.alike Ar.2.1) rfl Ar.2.2 (inb_of Sz ⟨by decide, by decide⟩) (Hs.at (inb_of Sz ⟨by decide, by decide⟩) rfl) (g := (mkF m 19 #[.val (.ref u2), .val (.int (1 : Int32)), .val (.ref h0.size), .val (.int (7 : Int32)), .val (.int (1 : Int32)), .val (.ref b0)] [(.int (1 : Int32)), (.ref h0.size)])) rfl rfl (hb hby d_prog_14_method_6_code_19) _ ?_
    show Steps p.tables e below (T2.setTop (mkF m 20 #[.val (.ref u2), .val (.int (1 : Int32)), .val (.ref h0.size), .val (.int (7 : Int32)), .val (.int (1 : Int32)), .val (.ref b0)] [(.ref b1)])) _
    refine XS.astore X2.here hx rfl (hb hby d_prog_14_method_6_code_20) rfl rfl (l' := #[.val (.ref u2), .val (.int (1 : Int32)), .val (.ref h0.size), .val (.int (7 : Int32)), .val (.int (1 : Int32)), .val (.ref b1)]) rfl ?_
    show Steps p.tables e below (T2.setTop (mkF m 22 #[.val (.ref u2), .val (.int (1 : Int32)), .val (.ref h0.size), .val (.int (7 : Int32)), .val (.int (1 : Int32)), .val (.ref b1)] [])) _
    refine XS.aload X2.here hx rfl (hb hby d_prog_14_method_6_code_22) rfl rfl ?_
    show Steps p.tables e below (T2.setTop (mkF m 24 #[.val (.ref u2), .val (.int (1 : Int32)), .val (.ref h0.size), .val (.int (7 : Int32)), .val (.int (1 : Int32)), .val (.ref b1)] [(.ref b1)])) _
    refine st3 _ ?_
    show Steps p.tables e below (T3.setTop (mkF m 27 #[.val (.ref u2), .val (.int (1 : Int32)), .val (.ref h0.size), .val (.int (7 : Int32)), .val (.int (1 : Int32)), .val (.ref b1)] [(.ref u0)])) _
    refine XS.aloadN X3.here hx rfl (hb hby d_prog_14_method_6_code_27) rfl rfl ?_
    show Steps p.tables e below (T3.setTop (mkF m 28 #[.val (.ref u2), .val (.int (1 : Int32)), .val (.ref h0.size), .val (.int (7 : Int32)), .val (.int (1 : Int32)), .val (.ref b1)] [(.ref u2), (.ref u0)])) _
    refine acmp X3 hx rfl rfl rfl (pc0 := 28) (pc' := 43) (same := false) rfl (hb hby d_prog_14_method_6_code_28) rfl (decide_eq_false fun q => ne02 (Value.ref.inj q)) (by decide) (by decide) ?_
    show Steps p.tables e below (T3.setTop (mkF m 43 #[.val (.ref u2), .val (.int (1 : Int32)), .val (.ref h0.size), .val (.int (7 : Int32)), .val (.int (1 : Int32)), .val (.ref b1)] [])) _
    refine XT.iincV X3.here hx rfl (1 : Int32) (hb hby d_prog_14_method_6_code_43) (by decide) rfl (l' := #[.val (.ref u2), .val (.int (1 : Int32)), .val (.ref h0.size), .val (.int (7 : Int32)), .val (.int (2 : Int32)), .val (.ref b1)]) rfl ?_
    show Steps p.tables e below (T3.setTop (mkF m 46 #[.val (.ref u2), .val (.int (1 : Int32)), .val (.ref h0.size), .val (.int (7 : Int32)), .val (.int (2 : Int32)), .val (.ref b1)] [])) _
    refine XS.goto X3.here hx rfl (pc0 := 46) (pc' := 10) rfl (hb hby d_prog_14_method_6_code_46) (by decide) (by decide) ?_
    show Steps p.tables e below (T3.setTop (mkF m 10 #[.val (.ref u2), .val (.int (1 : Int32)), .val (.ref h0.size), .val (.int (7 : Int32)), .val (.int (2 : Int32)), .val (.ref b1)] [])) _
    refine XS.iload X3.here hx rfl (hb hby d_prog_14_method_6_code_10) rfl ?_
    show Steps p.tables e below (T3.setTop (mkF m 12 #[.val (.ref u2), .val (.int (1 : Int32)), .val (.ref h0.size), .val (.int (7 : Int32)), .val (.int (2 : Int32)), .val (.ref b1)] [(.int (2 : Int32))])) _
    refine XS.iloadN X3.here hx rfl (hb hby d_prog_14_method_6_code_12) rfl ?_
    show Steps p.tables e below (T3.setTop (mkF m 13 #[.val (.ref u2), .val (.int (1 : Int32)), .val (.ref h0.size), .val (.int (7 : Int32)), .val (.int (2 : Int32)), .val (.ref b1)] [(.int (7 : Int32)), (.int (2 : Int32))])) _
    refine XS.icmpNo X3.here hx rfl (hb hby d_prog_14_method_6_code_13) rfl (by decide) ?_
    show Steps p.tables e below (T3.setTop (mkF m 16 #[.val (.ref u2), .val (.int (1 : Int32)), .val (.ref h0.size), .val (.int (7 : Int32)), .val (.int (2 : Int32)), .val (.ref b1)] [])) _
    refine XS.aloadN X3.here hx rfl (hb hby d_prog_14_method_6_code_16) rfl rfl ?_
    show Steps p.tables e below (T3.setTop (mkF m 17 #[.val (.ref u2), .val (.int (1 : Int32)), .val (.ref h0.size), .val (.int (7 : Int32)), .val (.int (2 : Int32)), .val (.ref b1)] [(.ref h0.size)])) _
    refine XS.iload X3.here hx rfl (hb hby d_prog_14_method_6_code_17) rfl ?_
    show Steps p.tables e below (T3.setTop (mkF m 19 #[.val (.ref u2), .val (.int (1 : Int32)), .val (.ref h0.size), .val (.int (7 : Int32)), .val (.int (2 : Int32)), .val (.ref b1)] [(.int (2 : Int32)), (.ref h0.size)])) _
    refine X3.aaload hx (j := (2 : Int32)) (v := (.ref b2)) (by first | exact Ar.1 | (rw [e3]; exact Ar.1)) (State.isArrayOf_alike hZ.alike Ar.2.1) rfl Ar.2.2 (inb_of Sz ⟨by decide, by decide⟩) (Hs.at (inb_of Sz ⟨by decide, by decide⟩) rfl) (g := (mkF m 19 #[.val (.ref u2), .val (.int (1 : Int32)), .val (.ref h0.size), .val (.int (7 : Int32)), .val (.int (2 : Int32)), .val (.ref b1)] [(.int (2 : Int32)), (.ref h0.size)])) rfl rfl (hb hby d_prog_14_method_6_code_19) _ ?_
    show Steps p.tables e below (T3.setTop (mkF m 20 #[.val (.ref u2), .val (.int (1 : Int32)), .val (.ref h0.size), .val (.int (7 : Int32)), .val (.int (2 : Int32)), .val (.ref b1)] [(.ref b2)])) _
    refine XS.astore X3.here hx rfl (hb hby d_prog_14_method_6_code_20) rfl rfl (l' := #[.val (.ref u2), .val (.int (1 : Int32)), .val (.ref h0.size), .val (.int (7 : Int32)), .val (.int (2 : Int32)), .val (.ref b2)]) rfl ?_
    show Steps p.tables e below (T3.setTop (mkF m 22 #[.val (.ref u2), .val (.int (1 : Int32)), .val (.ref h0.size), .val (.int (7 : Int32)), .val (.int (2 : Int32)), .val (.ref b2)] [])) _
    refine XS.aload X3.here hx rfl (hb hby d_prog_14_method_6_code_22) rfl rfl ?_
    show Steps p.tables e below (T3.setTop (mkF m 24 #[.val (.ref u2), .val (.int (1 : Int32)), .val (.ref h0.size), .val (.int (7 : Int32)), .val (.int (2 : Int32)), .val (.ref b2)] [(.ref b2)])) _
    refine st4 _ ?_
    show Steps p.tables e below (T4.setTop (mkF m 27 #[.val (.ref u2), .val (.int (1 : Int32)), .val (.ref h0.size), .val (.int (7 : Int32)), .val (.int (2 : Int32)), .val (.ref b2)] [(.ref u1)])) _
    refine XS.aloadN X4.here hx rfl (hb hby d_prog_14_method_6_code_27) rfl rfl ?_
    show Steps p.tables e below (T4.setTop (mkF m 28 #[.val (.ref u2), .val (.int (1 : Int32)), .val (.ref h0.size), .val (.int (7 : Int32)), .val (.int (2 : Int32)), .val (.ref b2)] [(.ref u2), (.ref u1)])) _
    refine acmp X4 hx rfl rfl rfl (pc0 := 28) (pc' := 43) (same := false) rfl (hb hby d_prog_14_method_6_code_28) rfl (decide_eq_false fun q => ne12 (Value.ref.inj q)) (by decide) (by decide) ?_
    show Steps p.tables e below (T4.setTop (mkF m 43 #[.val (.ref u2), .val (.int (1 : Int32)), .val (.ref h0.size), .val (.int (7 : Int32)), .val (.int (2 : Int32)), .val (.ref b2)] [])) _
    refine XT.iincV X4.here hx rfl (1 : Int32) (hb hby d_prog_14_method_6_code_43) (by decide) rfl (l' := #[.val (.ref u2), .val (.int (1 : Int32)), .val (.ref h0.size), .val (.int (7 : Int32)), .val (.int (3 : Int32)), .val (.ref b2)]) rfl ?_
    show Steps p.tables e below (T4.setTop (mkF m 46 #[.val (.ref u2), .val (.int (1 : Int32)), .val (.ref h0.size), .val (.int (7 : Int32)), .val (.int (3 : Int32)), .val (.ref b2)] [])) _
    refine XS.goto X4.here hx rfl (pc0 := 46) (pc' := 10) rfl (hb hby d_prog_14_method_6_code_46) (by decide) (by decide) ?_
    show Steps p.tables e below (T4.setTop (mkF m 10 #[.val (.ref u2), .val (.int (1 : Int32)), .val (.ref h0.size), .val (.int (7 : Int32)), .val (.int (3 : Int32)), .val (.ref b2)] [])) _
    refine XS.iload X4.here hx rfl (hb hby d_prog_14_method_6_code_10) rfl ?_
    show Steps p.tables e below (T4.setTop (mkF m 12 #[.val (.ref u2), .val (.int (1 : Int32)), .val (.ref h0.size), .val (.int (7 : Int32)), .val (.int (3 : Int32)), .val (.ref b2)] [(.int (3 : Int32))])) _
    refine XS.iloadN X4.here hx rfl (hb hby d_prog_14_method_6_code_12) rfl ?_
    show Steps p.tables e below (T4.setTop (mkF m 13 #[.val (.ref u2), .val (.int (1 : Int32)), .val (.ref h0.size), .val (.int (7 : Int32)), .val (.int (3 : Int32)), .val (.ref b2)] [(.int (7 : Int32)), (.int (3 : Int32))])) _
    refine XS.icmpNo X4.here hx rfl (hb hby d_prog_14_method_6_code_13) rfl (by decide) ?_
    show Steps p.tables e below (T4.setTop (mkF m 16 #[.val (.ref u2), .val (.int (1 : Int32)), .val (.ref h0.size), .val (.int (7 : Int32)), .val (.int (3 : Int32)), .val (.ref b2)] [])) _
    refine XS.aloadN X4.here hx rfl (hb hby d_prog_14_method_6_code_16) rfl rfl ?_
    show Steps p.tables e below (T4.setTop (mkF m 17 #[.val (.ref u2), .val (.int (1 : Int32)), .val (.ref h0.size), .val (.int (7 : Int32)), .val (.int (3 : Int32)), .val (.ref b2)] [(.ref h0.size)])) _
    refine XS.iload X4.here hx rfl (hb hby d_prog_14_method_6_code_17) rfl ?_
    show Steps p.tables e below (T4.setTop (mkF m 19 #[.val (.ref u2), .val (.int (1 : Int32)), .val (.ref h0.size), .val (.int (7 : Int32)), .val (.int (3 : Int32)), .val (.ref b2)] [(.int (3 : Int32)), (.ref h0.size)])) _
    refine X4.aaload hx (j := (3 : Int32)) (v := (.ref b3)) (by first | exact Ar.1 | (rw [e4]; exact Ar.1)) (State.isArrayOf_alike hZ.alike Ar.2.1) rfl Ar.2.2 (inb_of Sz ⟨by decide, by decide⟩) (Hs.at (inb_of Sz ⟨by decide, by decide⟩) rfl) (g := (mkF m 19 #[.val (.ref u2), .val (.int (1 : Int32)), .val (.ref h0.size), .val (.int (7 : Int32)), .val (.int (3 : Int32)), .val (.ref b2)] [(.int (3 : Int32)), (.ref h0.size)])) rfl rfl (hb hby d_prog_14_method_6_code_19) _ ?_
    show Steps p.tables e below (T4.setTop (mkF m 20 #[.val (.ref u2), .val (.int (1 : Int32)), .val (.ref h0.size), .val (.int (7 : Int32)), .val (.int (3 : Int32)), .val (.ref b2)] [(.ref b3)])) _
    refine XS.astore X4.here hx rfl (hb hby d_prog_14_method_6_code_20) rfl rfl (l' := #[.val (.ref u2), .val (.int (1 : Int32)), .val (.ref h0.size), .val (.int (7 : Int32)), .val (.int (3 : Int32)), .val (.ref b3)]) rfl ?_
    show Steps p.tables e below (T4.setTop (mkF m 22 #[.val (.ref u2), .val (.int (1 : Int32)), .val (.ref h0.size), .val (.int (7 : Int32)), .val (.int (3 : Int32)), .val (.ref b3)] [])) _
    refine XS.aload X4.here hx rfl (hb hby d_prog_14_method_6_code_22) rfl rfl ?_
    show Steps p.tables e below (T4.setTop (mkF m 24 #[.val (.ref u2), .val (.int (1 : Int32)), .val (.ref h0.size), .val (.int (7 : Int32)), .val (.int (3 : Int32)), .val (.ref b3)] [(.ref b3)])) _
    refine st5 _ ?_
    show Steps p.tables e below (T5.setTop (mkF m 27 #[.val (.ref u2), .val (.int (1 : Int32)), .val (.ref h0.size), .val (.int (7 : Int32)), .val (.int (3 : Int32)), .val (.ref b3)] [(.ref u1)])) _
    refine XS.aloadN X5.here hx rfl (hb hby d_prog_14_method_6_code_27) rfl rfl ?_
    show Steps p.tables e below (T5.setTop (mkF m 28 #[.val (.ref u2), .val (.int (1 : Int32)), .val (.ref h0.size), .val (.int (7 : Int32)), .val (.int (3 : Int32)), .val (.ref b3)] [(.ref u2), (.ref u1)])) _
    refine acmp X5 hx rfl rfl rfl (pc0 := 28) (pc' := 43) (same := false) rfl (hb hby d_prog_14_method_6_code_28) rfl (decide_eq_false fun q => ne12 (Value.ref.inj q)) (by decide) (by decide) ?_
    show Steps p.tables e below (T5.setTop (mkF m 43 #[.val (.ref u2), .val (.int (1 : Int32)), .val (.ref h0.size), .val (.int (7 : Int32)), .val (.int (3 : Int32)), .val (.ref b3)] [])) _
    refine XT.iincV X5.here hx rfl (1 : Int32) (hb hby d_prog_14_method_6_code_43) (by decide) rfl (l' := #[.val (.ref u2), .val (.int (1 : Int32)), .val (.ref h0.size), .val (.int (7 : Int32)), .val (.int (4 : Int32)), .val (.ref b3)]) rfl ?_
    show Steps p.tables e below (T5.setTop (mkF m 46 #[.val (.ref u2), .val (.int (1 : Int32)), .val (.ref h0.size), .val (.int (7 : Int32)), .val (.int (4 : Int32)), .val (.ref b3)] [])) _
    refine XS.goto X5.here hx rfl (pc0 := 46) (pc' := 10) rfl (hb hby d_prog_14_method_6_code_46) (by decide) (by decide) ?_
    show Steps p.tables e below (T5.setTop (mkF m 10 #[.val (.ref u2), .val (.int (1 : Int32)), .val (.ref h0.size), .val (.int (7 : Int32)), .val (.int (4 : Int32)), .val (.ref b3)] [])) _
    refine XS.iload X5.here hx rfl (hb hby d_prog_14_method_6_code_10) rfl ?_
    show Steps p.tables e below (T5.setTop (mkF m 12 #[.val (.ref u2), .val (.int (1 : Int32)), .val (.ref h0.size), .val (.int (7 : Int32)), .val (.int (4 : Int32)), .val (.ref b3)] [(.int (4 : Int32))])) _
    refine XS.iloadN X5.here hx rfl (hb hby d_prog_14_method_6_code_12) rfl ?_
    show Steps p.tables e below (T5.setTop (mkF m 13 #[.val (.ref u2), .val (.int (1 : Int32)), .val (.ref h0.size), .val (.int (7 : Int32)), .val (.int (4 : Int32)), .val (.ref b3)] [(.int (7 : Int32)), (.int (4 : Int32))])) _
    refine XS.icmpNo X5.here hx rfl (hb hby d_prog_14_method_6_code_13) rfl (by decide) ?_
    show Steps p.tables e below (T5.setTop (mkF m 16 #[.val (.ref u2), .val (.int (1 : Int32)), .val (.ref h0.size), .val (.int (7 : Int32)), .val (.int (4 : Int32)), .val (.ref b3)] [])) _
    refine XS.aloadN X5.here hx rfl (hb hby d_prog_14_method_6_code_16) rfl rfl ?_
    show Steps p.tables e below (T5.setTop (mkF m 17 #[.val (.ref u2), .val (.int (1 : Int32)), .val (.ref h0.size), .val (.int (7 : Int32)), .val (.int (4 : Int32)), .val (.ref b3)] [(.ref h0.size)])) _
    refine XS.iload X5.here hx rfl (hb hby d_prog_14_method_6_code_17) rfl ?_
    show Steps p.tables e below (T5.setTop (mkF m 19 #[.val (.ref u2), .val (.int (1 : Int32)), .val (.ref h0.size), .val (.int (7 : Int32)), .val (.int (4 : Int32)), .val (.ref b3)] [(.int (4 : Int32)), (.ref h0.size)])) _
    refine X5.aaload hx (j := (4 : Int32)) (v := (.ref b4)) (by first | exact Ar.1 | (rw [e5]; exact Ar.1)) (State.isArrayOf_alike hZ.alike Ar.2.1) rfl Ar.2.2 (inb_of Sz ⟨by decide, by decide⟩) (Hs.at (inb_of Sz ⟨by decide, by decide⟩) rfl) (g := (mkF m 19 #[.val (.ref u2), .val (.int (1 : Int32)), .val (.ref h0.size), .val (.int (7 : Int32)), .val (.int (4 : Int32)), .val (.ref b3)] [(.int (4 : Int32)), (.ref h0.size)])) rfl rfl (hb hby d_prog_14_method_6_code_19) _ ?_
    show Steps p.tables e below (T5.setTop (mkF m 20 #[.val (.ref u2), .val (.int (1 : Int32)), .val (.ref h0.size), .val (.int (7 : Int32)), .val (.int (4 : Int32)), .val (.ref b3)] [(.ref b4)])) _
    refine XS.astore X5.here hx rfl (hb hby d_prog_14_method_6_code_20) rfl rfl (l' := #[.val (.ref u2), .val (.int (1 : Int32)), .val (.ref h0.size), .val (.int (7 : Int32)), .val (.int (4 : Int32)), .val (.ref b4)]) rfl ?_
    show Steps p.tables e below (T5.setTop (mkF m 22 #[.val (.ref u2), .val (.int (1 : Int32)), .val (.ref h0.size), .val (.int (7 : Int32)), .val (.int (4 : Int32)), .val (.ref b4)] [])) _
    refine XS.aload X5.here hx rfl (hb hby d_prog_14_method_6_code_22) rfl rfl ?_
    show Steps p.tables e below (T5.setTop (mkF m 24 #[.val (.ref u2), .val (.int (1 : Int32)), .val (.ref h0.size), .val (.int (7 : Int32)), .val (.int (4 : Int32)), .val (.ref b4)] [(.ref b4)])) _
    refine st6 _ ?_
    show Steps p.tables e below (T6.setTop (mkF m 27 #[.val (.ref u2), .val (.int (1 : Int32)), .val (.ref h0.size), .val (.int (7 : Int32)), .val (.int (4 : Int32)), .val (.ref b4)] [(.ref u2)])) _
    refine XS.aloadN X6.here hx rfl (hb hby d_prog_14_method_6_code_27) rfl rfl ?_
    show Steps p.tables e below (T6.setTop (mkF m 28 #[.val (.ref u2), .val (.int (1 : Int32)), .val (.ref h0.size), .val (.int (7 : Int32)), .val (.int (4 : Int32)), .val (.ref b4)] [(.ref u2), (.ref u2)])) _
    refine acmp X6 hx rfl rfl rfl (pc0 := 28) (pc' := 31) (same := true) rfl (hb hby d_prog_14_method_6_code_28) rfl (decide_eq_true rfl) (by decide) (by decide) ?_
    show Steps p.tables e below (T6.setTop (mkF m 31 #[.val (.ref u2), .val (.int (1 : Int32)), .val (.ref h0.size), .val (.int (7 : Int32)), .val (.int (4 : Int32)), .val (.ref b4)] [])) _
    refine XS.aload X6.here hx rfl (hb hby d_prog_14_method_6_code_31) rfl rfl ?_
    show Steps p.tables e below (T6.setTop (mkF m 33 #[.val (.ref u2), .val (.int (1 : Int32)), .val (.ref h0.size), .val (.int (7 : Int32)), .val (.int (4 : Int32)), .val (.ref b4)] [(.ref b4)])) _
    refine st7 _ ?_
    show Steps p.tables e below (T7.setTop (mkF m 36 #[.val (.ref u2), .val (.int (1 : Int32)), .val (.ref h0.size), .val (.int (7 : Int32)), .val (.int (4 : Int32)), .val (.ref b4)] [(.int (1 : Int32))])) _
    refine XS.iloadN X7.here hx rfl (hb hby d_prog_14_method_6_code_36) rfl ?_
    show Steps p.tables e below (T7.setTop (mkF m 37 #[.val (.ref u2), .val (.int (1 : Int32)), .val (.ref h0.size), .val (.int (7 : Int32)), .val (.int (4 : Int32)), .val (.ref b4)] [(.int (1 : Int32)), (.int (1 : Int32))])) _
    refine XS.icmpNo X7.here hx rfl (hb hby d_prog_14_method_6_code_37) rfl (by decide) ?_
    show Steps p.tables e below (T7.setTop (mkF m 40 #[.val (.ref u2), .val (.int (1 : Int32)), .val (.ref h0.size), .val (.int (7 : Int32)), .val (.int (4 : Int32)), .val (.ref b4)] [])) _
    refine XS.aload X7.here hx rfl (hb hby d_prog_14_method_6_code_40) rfl rfl ?_
    show Steps p.tables e below (T7.setTop (mkF m 42 #[.val (.ref u2), .val (.int (1 : Int32)), .val (.ref h0.size), .val (.int (7 : Int32)), .val (.int (4 : Int32)), .val (.ref b4)] [(.ref b4)])) _
    exact retOut X7 hx Bd.returns rfl (Or.inr (Or.inr (Or.inr (Or.inr ⟨rfl, rfl, rfl⟩)))) (hb hby d_prog_14_method_6_code_42) hr
  · exact ⟨rfl, N1, by show Ext h0 T7.heap; rw [e7]; exact Ex1⟩
theorem d_method_3_code_46 : decode method_3_code 46 = .ok (.getstatic 37, 3) := by decide +kernel
theorem d_method_3_code_49 : decode method_3_code 49 = .ok (.goto 6, 3) := by decide +kernel
def Q_eof_2_1 (Z : State) (b4 : Addr) (h0 : Heap) (n0 : Nat) (v : Option Value) (h : Heap) (L : List Loc) : Prop := v = some (.ref b4) ∧ Fr n0 L ∧ h = h0
set_option maxRecDepth 65536 in
set_option maxHeartbeats 40000000 in
theorem eof_2_1 (l : Launch) (Z : State) (a0 : Array Value) (hw : ∀ d ∈ tables_1, d.before a0 Z = true) (ws : List Jvm.Cond) (b4 : Addr) (h0 : Heap) (n0 : Nat) (Z0 : n0 ≤ h0.size) (Sb4 : Sta Z h0 "com/example/innesco/innesco/database/TriggerEvent" "BEFORE_DELETE" "Lcom/example/innesco/innesco/database/TriggerEvent;" (.ref b4)) :
    MetFree l (⟨"com/example/innesco/innesco/database/TriggerEventOfPinLaw", "expectedOf", "(IZ)Lcom/example/innesco/innesco/database/TriggerEvent;"⟩ : MethodName) (head1 (Jvm.Cond.code (⟨"com/example/innesco/innesco/database/TriggerEventOfPinLaw", "expectedOf", "(IZ)Lcom/example/innesco/innesco/database/TriggerEvent;"⟩ : MethodName) method_3_code 2 (Option.some (Jvm.ClassFile.FieldType.object "com/example/innesco/innesco/database/TriggerEvent")) :: ws) ({ frames := 0, cells := 0, slots := 0, locals := 0 } : Room)) (fun a U => a = #[(.int (2 : Int32)), (.int (1 : Int32))] ∧ Z.Warmed39 U.vm ∧ U.heap = h0) (fun _ _ _ _ _ => True) (fun _ U o U' => ∃ v L, o = .returned v ∧ Q_eof_2_1 Z b4 h0 n0 v U'.heap L ∧ FrameEnd U o U' L ({ frames := 0, cells := 0, slots := 0, locals := 0 } : Room).cells ({ frames := 0, cells := 0, slots := 0, locals := 0 } : Room).slots) := by
  refine MetFree.of_bodySF (plainFor_of_name pn_11) hisR ?_
  intro p e s m args below meth c s₁ Bd hml0 hP hK
  obtain ⟨rfl, hZ, hh⟩ := hP
  have hx := Bd.exec
  have hby := Bd.bytes
  have hml : c.maxLocals = 2 := hml0
  have hown : s.vm.findClass "com/example/innesco/innesco/database/TriggerEventOfPinLaw" = some m.cls := findClass_of_methodNamed Bd.named
  have hnm := (name_of_methodNamed Bd.named Bd.method).1
  have X0 : Stand p l e ({ frames := 0, cells := 0, slots := 0, locals := 0 } : Room) s m #[(.int (2 : Int32)), (.int (1 : Int32))] below meth c s₁ [] 0 0 := Stand.of_body Bd
  have e0 : s₁.heap = h0 := by rw [← hh, Bd.state]; rfl
  have N0 := Fr.nil n0
  have pre0 : ∀ t, Steps p.tables e below (s₁.setTop (mkF m 0 #[.val (.int (2 : Int32)), .val (.int (1 : Int32))] [])) t → Steps p.tables e below (s₁.setTop (entryFrame m #[(.int (2 : Int32)), (.int (1 : Int32))] 2)) t := fun t k => castTop (ef_46 m (2 : Int32) (1 : Int32)) k
  obtain ⟨T1, X1, e1, st1⟩ := getS X0 hx hZ (host := "") hown (hw _ (List.mem_of_getElem? (i := 43) rfl)) Via.refl e0 Sb4 (g := (mkF m 46 #[.val (.int (2 : Int32)), .val (.int (1 : Int32))] [])) rfl (hb hby d_method_3_code_46)
  obtain ⟨fs, hr, hrun, hended, hW, hsame⟩ := X1.leave (v := some (.ref b4)) (fun h => by rw [Bd.returns] at h; cases h)
  refine ⟨_, _, pre0 _ ?_, hrun, hended, _, _, rfl, ?_, ⟨_, rfl⟩, hW, hsame.mono (by decide) (by decide)⟩
  · show Steps p.tables e below (s₁.setTop (mkF m 0 #[.val (.int (2 : Int32)), .val (.int (1 : Int32))] [])) _
    refine XS.iloadN X0.here hx rfl (hb hby d_method_3_code_0) rfl ?_
    show Steps p.tables e below (s₁.setTop (mkF m 1 #[.val (.int (2 : Int32)), .val (.int (1 : Int32))] [(.int (2 : Int32))])) _
    refine XS.ifYes X0.here hx rfl (pc0 := 1) (pc' := 18) rfl (hb hby d_method_3_code_1) rfl (by decide) (by decide) (by decide) ?_
    show Steps p.tables e below (s₁.setTop (mkF m 18 #[.val (.int (2 : Int32)), .val (.int (1 : Int32))] [])) _
    refine XS.iloadN X0.here hx rfl (hb hby d_method_3_code_18) rfl ?_
    show Steps p.tables e below (s₁.setTop (mkF m 19 #[.val (.int (2 : Int32)), .val (.int (1 : Int32))] [(.int (2 : Int32))])) _
    refine XT.iconstV X0.here hx rfl (1 : Int32) (hb hby d_method_3_code_19) (by decide) ?_
    show Steps p.tables e below (s₁.setTop (mkF m 20 #[.val (.int (2 : Int32)), .val (.int (1 : Int32))] [(.int (1 : Int32)), (.int (2 : Int32))])) _
    refine XS.icmpYes X0.here hx rfl (pc0 := 20) (pc' := 37) rfl (hb hby d_method_3_code_20) rfl (by decide) (by decide) (by decide) ?_
    show Steps p.tables e below (s₁.setTop (mkF m 37 #[.val (.int (2 : Int32)), .val (.int (1 : Int32))] [])) _
    refine XS.iloadN X0.here hx rfl (hb hby d_method_3_code_37) rfl ?_
    show Steps p.tables e below (s₁.setTop (mkF m 38 #[.val (.int (2 : Int32)), .val (.int (1 : Int32))] [(.int (2 : Int32))])) _
    refine XT.iconstV X0.here hx rfl (2 : Int32) (hb hby d_method_3_code_38) (by decide) ?_
    show Steps p.tables e below (s₁.setTop (mkF m 39 #[.val (.int (2 : Int32)), .val (.int (1 : Int32))] [(.int (2 : Int32)), (.int (2 : Int32))])) _
    refine XS.icmpNo X0.here hx rfl (hb hby d_method_3_code_39) rfl (by decide) ?_
    show Steps p.tables e below (s₁.setTop (mkF m 42 #[.val (.int (2 : Int32)), .val (.int (1 : Int32))] [])) _
    refine XS.iloadN X0.here hx rfl (hb hby d_method_3_code_42) rfl ?_
    show Steps p.tables e below (s₁.setTop (mkF m 43 #[.val (.int (2 : Int32)), .val (.int (1 : Int32))] [(.int (1 : Int32))])) _
    refine XS.ifNo X0.here hx rfl (hb hby d_method_3_code_43) rfl (by decide) ?_
    show Steps p.tables e below (s₁.setTop (mkF m 46 #[.val (.int (2 : Int32)), .val (.int (1 : Int32))] [])) _
    refine st1 _ ?_
    show Steps p.tables e below (T1.setTop (mkF m 49 #[.val (.int (2 : Int32)), .val (.int (1 : Int32))] [(.ref b4)])) _
    refine XS.goto X1.here hx rfl (pc0 := 49) (pc' := 55) rfl (hb hby d_method_3_code_49) (by decide) (by decide) ?_
    show Steps p.tables e below (T1.setTop (mkF m 55 #[.val (.int (2 : Int32)), .val (.int (1 : Int32))] [(.ref b4)])) _
    exact retOut X1 hx Bd.returns rfl (Or.inr (Or.inr (Or.inr (Or.inr ⟨rfl, rfl, rfl⟩)))) (hb hby d_method_3_code_55) hr
  · exact ⟨rfl, N0, e1⟩
def Q_law_2_1 (Z : State) (p1 p2 : Int32) (aV : Addr) (kV : ClassId) (b0 b1 b2 b3 b4 b5 b6 : Addr) (u0 u1 u2 u3 : Addr) (h0 : Heap) (n0 : Nat) (v : Option Value) (h : Heap) (L : List Loc) : Prop := v = some (.int 1) ∧ Fr n0 L ∧ True
set_option maxRecDepth 65536 in
set_option maxHeartbeats 40000000 in
theorem law_2_1 (l : Launch) (Z : State) (a0 : Array Value) (hw : ∀ d ∈ tables_1, d.before a0 Z = true) (ws : List Jvm.Cond) (p1 p2 : Int32) (aV : Addr) (kV : ClassId) (b0 b1 b2 b3 b4 b5 b6 : Addr) (u0 u1 u2 u3 : Addr) (h0 : Heap) (n0 : Nat) (Z0 : n0 ≤ h0.size) (SaV : Sta Z h0 "com/example/innesco/innesco/database/TriggerEvent" "$VALUES" "[Lcom/example/innesco/innesco/database/TriggerEvent;" (.ref aV)) (VaV : Arv Z h0 aV kV (.object "com/example/innesco/innesco/database/TriggerEvent") (7 : Int32) [(.ref b0), (.ref b1), (.ref b2), (.ref b3), (.ref b4), (.ref b5), (.ref b6)] .null) (EaV : Exa Z h0 aV "[Lcom/example/innesco/innesco/database/TriggerEvent;")(Fw0 : Fld Z h0 b0 "com/example/innesco/innesco/database/TriggerEvent" "write" "Lcom/example/innesco/innesco/database/Write;" (.ref u0))(Fw1 : Fld Z h0 b1 "com/example/innesco/innesco/database/TriggerEvent" "write" "Lcom/example/innesco/innesco/database/Write;" (.ref u0))(Fw2 : Fld Z h0 b2 "com/example/innesco/innesco/database/TriggerEvent" "write" "Lcom/example/innesco/innesco/database/Write;" (.ref u1))(Fw3 : Fld Z h0 b3 "com/example/innesco/innesco/database/TriggerEvent" "write" "Lcom/example/innesco/innesco/database/Write;" (.ref u1))(Fw4 : Fld Z h0 b4 "com/example/innesco/innesco/database/TriggerEvent" "write" "Lcom/example/innesco/innesco/database/Write;" (.ref u2))(Fw5 : Fld Z h0 b5 "com/example/innesco/innesco/database/TriggerEvent" "write" "Lcom/example/innesco/innesco/database/Write;" (.ref u2))(Fw6 : Fld Z h0 b6 "com/example/innesco/innesco/database/TriggerEvent" "write" "Lcom/example/innesco/innesco/database/Write;" (.ref u3))(Fb0 : Fld Z h0 b0 "com/example/innesco/innesco/database/TriggerEvent" "before" "Z" (.int (1 : Int32)))(Fb1 : Fld Z h0 b1 "com/example/innesco/innesco/database/TriggerEvent" "before" "Z" (.int (0 : Int32)))(Fb2 : Fld Z h0 b2 "com/example/innesco/innesco/database/TriggerEvent" "before" "Z" (.int (1 : Int32)))(Fb3 : Fld Z h0 b3 "com/example/innesco/innesco/database/TriggerEvent" "before" "Z" (.int (0 : Int32)))(Fb4 : Fld Z h0 b4 "com/example/innesco/innesco/database/TriggerEvent" "before" "Z" (.int (1 : Int32)))(Fb5 : Fld Z h0 b5 "com/example/innesco/innesco/database/TriggerEvent" "before" "Z" (.int (0 : Int32)))(Fb6 : Fld Z h0 b6 "com/example/innesco/innesco/database/TriggerEvent" "before" "Z" (.int (0 : Int32)))(ne01 : u0 ≠ u1)(ne02 : u0 ≠ u2)(ne03 : u0 ≠ u3)(ne12 : u1 ≠ u2)(ne13 : u1 ≠ u3)(ne23 : u2 ≠ u3)(Su2 : Sta Z h0 "com/example/innesco/innesco/database/Write" "DELETE" "Lcom/example/innesco/innesco/database/Write;" (.ref u2))(Sb4 : Sta Z h0 "com/example/innesco/innesco/database/TriggerEvent" "BEFORE_DELETE" "Lcom/example/innesco/innesco/database/TriggerEvent;" (.ref b4))(hk0 : p1 &&& (3 : Int32) = (2 : Int32)) (hb0 : p2 &&& (1 : Int32) = (1 : Int32)) :
    MetFree l x (head1 (Jvm.Cond.code x code maxLocals ret :: ws) room_1) (fun a U => a = #[(.int p1), (.int p2)] ∧ Z.Warmed39 U.vm ∧ U.heap = h0) (fun _ _ _ _ _ => True) (fun _ U o U' => ∃ v L, o = .returned v ∧ Q_law_2_1 Z p1 p2 aV kV b0 b1 b2 b3 b4 b5 b6 u0 u1 u2 u3 h0 n0 v U'.heap L ∧ FrameEnd U o U' L 16 128) := by
  refine MetFree.of_bodySF (plainFor_of_name pn_11) hisR ?_
  intro p e s m args below meth c s₁ Bd hml0 hP hK
  obtain ⟨rfl, hZ, hh⟩ := hP
  have hx := Bd.exec
  have hby := Bd.bytes
  have hml : c.maxLocals = 7 := hml0
  have hown : s.vm.findClass "com/example/innesco/innesco/database/TriggerEventOfPinLaw" = some m.cls := findClass_of_methodNamed Bd.named
  have hnm := (name_of_methodNamed Bd.named Bd.method).1
  have X0 : Stand p l e room_1 s m #[(.int p1), (.int p2)] below meth c s₁ [] 0 0 := Stand.of_body Bd
  have e0 : s₁.heap = h0 := by rw [← hh, Bd.state]; rfl
  have N0 := Fr.nil n0
  have pre0 : ∀ t, Steps p.tables e below (s₁.setTop (mkF m 0 #[.val (.int p1), .val (.int p2), .unset, .unset, .unset, .unset, .unset] [])) t → Steps p.tables e below (s₁.setTop (entryFrame m #[(.int p1), (.int p2)] maxLocals)) t := fun t k => castTop (ef_50 m p1 p2) k
  obtain ⟨_, _, ⟨T1, L1, k1, n1⟩, -, X1, ⟨Lc1, hQ1, l1, y1, z1⟩, st1⟩ := Jvm.LawKit.callS X0 hx (y := (⟨"com/example/innesco/innesco/database/TriggerEventOfPinLaw", "writeOf", "(I)Lcom/example/innesco/innesco/database/Write;"⟩ : MethodName)) hown (mvT hZ (hw _ (List.mem_of_getElem? (i := 0) rfl))) (mvT hZ (hw _ (List.mem_of_getElem? (i := 1) rfl))) (mvT hZ (hw _ (List.mem_of_getElem? (i := 2) rfl))) (mvT hZ (hw _ (List.mem_of_getElem? (i := 3) rfl))) (by decide) (backOf (W := 0) (wof_2 l Z a0 hw [] u2 h0 n0 Z0 Su2) hZ (hw _ (List.mem_of_getElem? (i := 3) rfl)) (hw _ (List.mem_of_getElem? (i := 2) rfl)) (by decide) (by decide)) (g := (mkF m 17 #[.val (.int p1), .val (.int p2), .val (.int (2 : Int32)), .val (.int (1 : Int32)), .unset, .unset, .unset] [(.int (2 : Int32))])) rfl (by rw [hml]; rfl) (argsL := [(.int (2 : Int32))]) (rest := []) (lenOf pd_47 rfl) rfl (by show 2 * 0 + _ ≤ _; exact Nat.le_of_eq rfl) (hb hby at_17) (fun _ _ => ⟨rfl, e0, (by decide : 0 + 0 ≤ _), (by decide : 0 + 0 ≤ _)⟩)
  dsimp only [Pt.U, Pt.locs, Pt.cells, Pt.slots] at X1 l1 y1 z1 st1 hQ1
  subst l1 y1 z1
  obtain ⟨rfl, N1q, e1⟩ := hQ1
  have N1 := Fr.app N0 N1q
  obtain ⟨_, _, ⟨T2, L2, k2, n2⟩, -, X2, ⟨Lc2, hQ2, l2, y2, z2⟩, st2⟩ := Jvm.LawKit.callS X1 hx (y := (⟨"com/example/innesco/innesco/database/TriggerEventOfPinLaw", "expectedOf", "(IZ)Lcom/example/innesco/innesco/database/TriggerEvent;"⟩ : MethodName)) hown (mvT hZ (hw _ (List.mem_of_getElem? (i := 7) rfl))) (mvT hZ (hw _ (List.mem_of_getElem? (i := 8) rfl))) (mvT hZ (hw _ (List.mem_of_getElem? (i := 2) rfl))) (mvT hZ (hw _ (List.mem_of_getElem? (i := 9) rfl))) (by decide) (backOf (W := 0) (eof_2_1 l Z a0 hw [] b4 h0 n0 Z0 Sb4) hZ (hw _ (List.mem_of_getElem? (i := 9) rfl)) (hw _ (List.mem_of_getElem? (i := 2) rfl)) (by decide) (by decide)) (g := (mkF m 24 #[.val (.int p1), .val (.int p2), .val (.int (2 : Int32)), .val (.int (1 : Int32)), .val (.ref u2), .unset, .unset] [(.int (1 : Int32)), (.int (2 : Int32))])) rfl (by rw [hml]; rfl) (argsL := [(.int (2 : Int32)), (.int (1 : Int32))]) (rest := []) (lenOf pd_48 rfl) rfl (by show 2 * 0 + _ ≤ _; exact Nat.le_of_eq rfl) (hb hby at_24) (fun _ _ => ⟨rfl, e1, (by decide : 0 + 0 ≤ _), (by decide : 0 + 0 ≤ _)⟩)
  dsimp only [Pt.U, Pt.locs, Pt.cells, Pt.slots] at X2 l2 y2 z2 st2 hQ2
  subst l2 y2 z2
  obtain ⟨rfl, N2q, e2⟩ := hQ2
  have N2 := Fr.app N1 N2q
  obtain ⟨_, _, ⟨T3, L3, k3, n3⟩, -, X3, ⟨Lc3, hQ3, l3, y3, z3⟩, st3⟩ := Jvm.LawKit.callS X2 hx (y := (⟨"com/example/innesco/innesco/database/TriggerEvent", "of", "(Lcom/example/innesco/innesco/database/Write;Z)Lcom/example/innesco/innesco/database/TriggerEvent;"⟩ : MethodName)) hown (mvT hZ (hw _ (List.mem_of_getElem? (i := 13) rfl))) (mvT hZ (hw _ (List.mem_of_getElem? (i := 14) rfl))) (mvT hZ (hw _ (List.mem_of_getElem? (i := 11) rfl))) (mvT hZ (hw _ (List.mem_of_getElem? (i := 15) rfl))) (by decide) (backOf (W := 0) (of_2_1 l Z a0 hw [] aV kV b0 b1 b2 b3 b4 b5 b6 u0 u1 u2 u3 h0 n0 Z0 SaV VaV EaV Fw0 Fw1 Fw2 Fw3 Fw4 Fw5 Fw6 Fb0 Fb1 Fb2 Fb3 Fb4 Fb5 Fb6 ne01 ne02 ne03 ne12 ne13 ne23) hZ (hw _ (List.mem_of_getElem? (i := 15) rfl)) (hw _ (List.mem_of_getElem? (i := 11) rfl)) (by decide) (by decide)) (g := (mkF m 32 #[.val (.int p1), .val (.int p2), .val (.int (2 : Int32)), .val (.int (1 : Int32)), .val (.ref u2), .val (.ref b4), .unset] [(.int (1 : Int32)), (.ref u2)])) rfl (by rw [hml]; rfl) (argsL := [(.ref u2), (.int (1 : Int32))]) (rest := []) (lenOf pd_49 rfl) rfl (by show 2 * 0 + _ ≤ _; exact Nat.le_of_eq rfl) (hb hby at_32) (fun _ _ => ⟨rfl, e2, (by decide : 0 + 1 ≤ _), (by decide : 0 + 7 ≤ _)⟩)
  dsimp only [Pt.U, Pt.locs, Pt.cells, Pt.slots] at X3 l3 y3 z3 st3 hQ3
  subst l3 y3 z3
  obtain ⟨rfl, N3q, Ex3⟩ := hQ3
  have N3 := Fr.app N2 N3q
  obtain ⟨fs, hr, hrun, hended, hW, hsame⟩ := X3.leave (v := some (.int (1 : Int32))) (fun h => by rw [Bd.returns] at h; cases h)
  refine ⟨_, _, pre0 _ ?_, hrun, hended, _, _, rfl, ?_, ⟨_, rfl⟩, hW, hsame.mono (by decide) (by decide)⟩
  · show Steps p.tables e below (s₁.setTop (mkF m 0 #[.val (.int p1), .val (.int p2), .unset, .unset, .unset, .unset, .unset] [])) _
    refine XS.iloadN X0.here hx rfl (hb hby at_0) rfl ?_
    show Steps p.tables e below (s₁.setTop (mkF m 1 #[.val (.int p1), .val (.int p2), .unset, .unset, .unset, .unset, .unset] [(.int p1)])) _
    refine XT.iconstV X0.here hx rfl (3 : Int32) (hb hby at_1) (by decide) ?_
    show Steps p.tables e below (s₁.setTop (mkF m 2 #[.val (.int p1), .val (.int p2), .unset, .unset, .unset, .unset, .unset] [(.int (3 : Int32)), (.int p1)])) _
    refine XS.iand X0.here hx rfl (hb hby at_2) rfl ?_
    show Steps p.tables e below (s₁.setTop (mkF m 3 #[.val (.int p1), .val (.int p2), .unset, .unset, .unset, .unset, .unset] [(.int (p1 &&& (3 : Int32)))])) _
    rw [hk0]
    show Steps p.tables e below (s₁.setTop (mkF m 3 #[.val (.int p1), .val (.int p2), .unset, .unset, .unset, .unset, .unset] [(.int (2 : Int32))])) _
    refine XS.istoreN X0.here hx rfl (hb hby at_3) rfl (l' := #[.val (.int p1), .val (.int p2), .val (.int (2 : Int32)), .unset, .unset, .unset, .unset]) rfl ?_
    show Steps p.tables e below (s₁.setTop (mkF m 4 #[.val (.int p1), .val (.int p2), .val (.int (2 : Int32)), .unset, .unset, .unset, .unset] [])) _
    refine XS.iloadN X0.here hx rfl (hb hby at_4) rfl ?_
    show Steps p.tables e below (s₁.setTop (mkF m 5 #[.val (.int p1), .val (.int p2), .val (.int (2 : Int32)), .unset, .unset, .unset, .unset] [(.int p2)])) _
    refine XT.iconstV X0.here hx rfl (1 : Int32) (hb hby at_5) (by decide) ?_
    show Steps p.tables e below (s₁.setTop (mkF m 6 #[.val (.int p1), .val (.int p2), .val (.int (2 : Int32)), .unset, .unset, .unset, .unset] [(.int (1 : Int32)), (.int p2)])) _
    refine XS.iand X0.here hx rfl (hb hby at_6) rfl ?_
    show Steps p.tables e below (s₁.setTop (mkF m 7 #[.val (.int p1), .val (.int p2), .val (.int (2 : Int32)), .unset, .unset, .unset, .unset] [(.int (p2 &&& (1 : Int32)))])) _
    rw [hb0]
    show Steps p.tables e below (s₁.setTop (mkF m 7 #[.val (.int p1), .val (.int p2), .val (.int (2 : Int32)), .unset, .unset, .unset, .unset] [(.int (1 : Int32))])) _
    refine XS.ifNo X0.here hx rfl (hb hby at_7) rfl (by decide) ?_
    show Steps p.tables e below (s₁.setTop (mkF m 10 #[.val (.int p1), .val (.int p2), .val (.int (2 : Int32)), .unset, .unset, .unset, .unset] [])) _
    refine XT.iconstV X0.here hx rfl (1 : Int32) (hb hby at_10) (by decide) ?_
    show Steps p.tables e below (s₁.setTop (mkF m 11 #[.val (.int p1), .val (.int p2), .val (.int (2 : Int32)), .unset, .unset, .unset, .unset] [(.int (1 : Int32))])) _
    refine XS.goto X0.here hx rfl (pc0 := 11) (pc' := 15) rfl (hb hby at_11) (by decide) (by decide) ?_
    show Steps p.tables e below (s₁.setTop (mkF m 15 #[.val (.int p1), .val (.int p2), .val (.int (2 : Int32)), .unset, .unset, .unset, .unset] [(.int (1 : Int32))])) _
    refine XS.istoreN X0.here hx rfl (hb hby at_15) rfl (l' := #[.val (.int p1), .val (.int p2), .val (.int (2 : Int32)), .val (.int (1 : Int32)), .unset, .unset, .unset]) rfl ?_
    show Steps p.tables e below (s₁.setTop (mkF m 16 #[.val (.int p1), .val (.int p2), .val (.int (2 : Int32)), .val (.int (1 : Int32)), .unset, .unset, .unset] [])) _
    refine XS.iloadN X0.here hx rfl (hb hby at_16) rfl ?_
    show Steps p.tables e below (s₁.setTop (mkF m 17 #[.val (.int p1), .val (.int p2), .val (.int (2 : Int32)), .val (.int (1 : Int32)), .unset, .unset, .unset] [(.int (2 : Int32))])) _
    refine st1 _ ?_
    show Steps p.tables e below (T1.setTop (mkF m 20 #[.val (.int p1), .val (.int p2), .val (.int (2 : Int32)), .val (.int (1 : Int32)), .unset, .unset, .unset] [(.ref u2)])) _
    refine XS.astore X1.here hx rfl (hb hby at_20) rfl rfl (l' := #[.val (.int p1), .val (.int p2), .val (.int (2 : Int32)), .val (.int (1 : Int32)), .val (.ref u2), .unset, .unset]) rfl ?_
    show Steps p.tables e below (T1.setTop (mkF m 22 #[.val (.int p1), .val (.int p2), .val (.int (2 : Int32)), .val (.int (1 : Int32)), .val (.ref u2), .unset, .unset] [])) _
    refine XS.iloadN X1.here hx rfl (hb hby at_22) rfl ?_
    show Steps p.tables e below (T1.setTop (mkF m 23 #[.val (.int p1), .val (.int p2), .val (.int (2 : Int32)), .val (.int (1 : Int32)), .val (.ref u2), .unset, .unset] [(.int (2 : Int32))])) _
    refine XS.iloadN X1.here hx rfl (hb hby at_23) rfl ?_
    show Steps p.tables e below (T1.setTop (mkF m 24 #[.val (.int p1), .val (.int p2), .val (.int (2 : Int32)), .val (.int (1 : Int32)), .val (.ref u2), .unset, .unset] [(.int (1 : Int32)), (.int (2 : Int32))])) _
    refine st2 _ ?_
    show Steps p.tables e below (T2.setTop (mkF m 27 #[.val (.int p1), .val (.int p2), .val (.int (2 : Int32)), .val (.int (1 : Int32)), .val (.ref u2), .unset, .unset] [(.ref b4)])) _
    refine XS.astore X2.here hx rfl (hb hby at_27) rfl rfl (l' := #[.val (.int p1), .val (.int p2), .val (.int (2 : Int32)), .val (.int (1 : Int32)), .val (.ref u2), .val (.ref b4), .unset]) rfl ?_
    show Steps p.tables e below (T2.setTop (mkF m 29 #[.val (.int p1), .val (.int p2), .val (.int (2 : Int32)), .val (.int (1 : Int32)), .val (.ref u2), .val (.ref b4), .unset] [])) _
    refine XS.aload X2.here hx rfl (hb hby at_29) rfl rfl ?_
    show Steps p.tables e below (T2.setTop (mkF m 31 #[.val (.int p1), .val (.int p2), .val (.int (2 : Int32)), .val (.int (1 : Int32)), .val (.ref u2), .val (.ref b4), .unset] [(.ref u2)])) _
    refine XS.iloadN X2.here hx rfl (hb hby at_31) rfl ?_
    show Steps p.tables e below (T2.setTop (mkF m 32 #[.val (.int p1), .val (.int p2), .val (.int (2 : Int32)), .val (.int (1 : Int32)), .val (.ref u2), .val (.ref b4), .unset] [(.int (1 : Int32)), (.ref u2)])) _
    refine st3 _ ?_
    show Steps p.tables e below (T3.setTop (mkF m 35 #[.val (.int p1), .val (.int p2), .val (.int (2 : Int32)), .val (.int (1 : Int32)), .val (.ref u2), .val (.ref b4), .unset] [(.ref b4)])) _
    refine XS.astore X3.here hx rfl (hb hby at_35) rfl rfl (l' := #[.val (.int p1), .val (.int p2), .val (.int (2 : Int32)), .val (.int (1 : Int32)), .val (.ref u2), .val (.ref b4), .val (.ref b4)]) rfl ?_
    show Steps p.tables e below (T3.setTop (mkF m 37 #[.val (.int p1), .val (.int p2), .val (.int (2 : Int32)), .val (.int (1 : Int32)), .val (.ref u2), .val (.ref b4), .val (.ref b4)] [])) _
    refine XS.aload X3.here hx rfl (hb hby at_37) rfl rfl ?_
    show Steps p.tables e below (T3.setTop (mkF m 39 #[.val (.int p1), .val (.int p2), .val (.int (2 : Int32)), .val (.int (1 : Int32)), .val (.ref u2), .val (.ref b4), .val (.ref b4)] [(.ref b4)])) _
    refine XS.aload X3.here hx rfl (hb hby at_39) rfl rfl ?_
    show Steps p.tables e below (T3.setTop (mkF m 41 #[.val (.int p1), .val (.int p2), .val (.int (2 : Int32)), .val (.int (1 : Int32)), .val (.ref u2), .val (.ref b4), .val (.ref b4)] [(.ref b4), (.ref b4)])) _
    refine acmp X3 hx rfl rfl rfl (pc0 := 41) (pc' := 44) (same := true) rfl (hb hby at_41) rfl (decide_eq_true rfl) (by decide) (by decide) ?_
    show Steps p.tables e below (T3.setTop (mkF m 44 #[.val (.int p1), .val (.int p2), .val (.int (2 : Int32)), .val (.int (1 : Int32)), .val (.ref u2), .val (.ref b4), .val (.ref b4)] [])) _
    refine XT.iconstV X3.here hx rfl (1 : Int32) (hb hby at_44) (by decide) ?_
    show Steps p.tables e below (T3.setTop (mkF m 45 #[.val (.int p1), .val (.int p2), .val (.int (2 : Int32)), .val (.int (1 : Int32)), .val (.ref u2), .val (.ref b4), .val (.ref b4)] [(.int (1 : Int32))])) _
    refine XS.goto X3.here hx rfl (pc0 := 45) (pc' := 49) rfl (hb hby at_45) (by decide) (by decide) ?_
    show Steps p.tables e below (T3.setTop (mkF m 49 #[.val (.int p1), .val (.int p2), .val (.int (2 : Int32)), .val (.int (1 : Int32)), .val (.ref u2), .val (.ref b4), .val (.ref b4)] [(.int (1 : Int32))])) _
    exact retN X3 hx (t := .boolean) Bd.returns (by simp) (hb hby at_49) hr
  · exact ⟨rfl, N3, trivial⟩
theorem d_method_2_code_26 : decode method_2_code 26 = .ok (.getstatic 19, 3) := by decide +kernel
theorem d_method_2_code_29 : decode method_2_code 29 = .ok (.areturn, 1) := by decide +kernel
def Q_wof_3 (Z : State) (u3 : Addr) (h0 : Heap) (n0 : Nat) (v : Option Value) (h : Heap) (L : List Loc) : Prop := v = some (.ref u3) ∧ Fr n0 L ∧ h = h0
set_option maxRecDepth 65536 in
set_option maxHeartbeats 40000000 in
theorem wof_3 (l : Launch) (Z : State) (a0 : Array Value) (hw : ∀ d ∈ tables_1, d.before a0 Z = true) (ws : List Jvm.Cond) (u3 : Addr) (h0 : Heap) (n0 : Nat) (Z0 : n0 ≤ h0.size) (Su3 : Sta Z h0 "com/example/innesco/innesco/database/Write" "UNDELETE" "Lcom/example/innesco/innesco/database/Write;" (.ref u3)) :
    MetFree l (⟨"com/example/innesco/innesco/database/TriggerEventOfPinLaw", "writeOf", "(I)Lcom/example/innesco/innesco/database/Write;"⟩ : MethodName) (head1 (Jvm.Cond.code (⟨"com/example/innesco/innesco/database/TriggerEventOfPinLaw", "writeOf", "(I)Lcom/example/innesco/innesco/database/Write;"⟩ : MethodName) method_2_code 1 (Option.some (Jvm.ClassFile.FieldType.object "com/example/innesco/innesco/database/Write")) :: ws) ({ frames := 0, cells := 0, slots := 0, locals := 0 } : Room)) (fun a U => a = #[(.int (3 : Int32))] ∧ Z.Warmed39 U.vm ∧ U.heap = h0) (fun _ _ _ _ _ => True) (fun _ U o U' => ∃ v L, o = .returned v ∧ Q_wof_3 Z u3 h0 n0 v U'.heap L ∧ FrameEnd U o U' L ({ frames := 0, cells := 0, slots := 0, locals := 0 } : Room).cells ({ frames := 0, cells := 0, slots := 0, locals := 0 } : Room).slots) := by
  refine MetFree.of_bodySF (plainFor_of_name pn_11) hisR ?_
  intro p e s m args below meth c s₁ Bd hml0 hP hK
  obtain ⟨rfl, hZ, hh⟩ := hP
  have hx := Bd.exec
  have hby := Bd.bytes
  have hml : c.maxLocals = 1 := hml0
  have hown : s.vm.findClass "com/example/innesco/innesco/database/TriggerEventOfPinLaw" = some m.cls := findClass_of_methodNamed Bd.named
  have hnm := (name_of_methodNamed Bd.named Bd.method).1
  have X0 : Stand p l e ({ frames := 0, cells := 0, slots := 0, locals := 0 } : Room) s m #[(.int (3 : Int32))] below meth c s₁ [] 0 0 := Stand.of_body Bd
  have e0 : s₁.heap = h0 := by rw [← hh, Bd.state]; rfl
  have N0 := Fr.nil n0
  have pre0 : ∀ t, Steps p.tables e below (s₁.setTop (mkF m 0 #[.val (.int (3 : Int32))] [])) t → Steps p.tables e below (s₁.setTop (entryFrame m #[(.int (3 : Int32))] 1)) t := fun t k => castTop (ef_10 m (3 : Int32)) k
  obtain ⟨T1, X1, e1, st1⟩ := getS X0 hx hZ (host := "") hown (hw _ (List.mem_of_getElem? (i := 49) rfl)) Via.refl e0 Su3 (g := (mkF m 26 #[.val (.int (3 : Int32))] [])) rfl (hb hby d_method_2_code_26)
  obtain ⟨fs, hr, hrun, hended, hW, hsame⟩ := X1.leave (v := some (.ref u3)) (fun h => by rw [Bd.returns] at h; cases h)
  refine ⟨_, _, pre0 _ ?_, hrun, hended, _, _, rfl, ?_, ⟨_, rfl⟩, hW, hsame.mono (by decide) (by decide)⟩
  · show Steps p.tables e below (s₁.setTop (mkF m 0 #[.val (.int (3 : Int32))] [])) _
    refine XS.iloadN X0.here hx rfl (hb hby d_method_2_code_0) rfl ?_
    show Steps p.tables e below (s₁.setTop (mkF m 1 #[.val (.int (3 : Int32))] [(.int (3 : Int32))])) _
    refine XS.ifYes X0.here hx rfl (pc0 := 1) (pc' := 8) rfl (hb hby d_method_2_code_1) rfl (by decide) (by decide) (by decide) ?_
    show Steps p.tables e below (s₁.setTop (mkF m 8 #[.val (.int (3 : Int32))] [])) _
    refine XS.iloadN X0.here hx rfl (hb hby d_method_2_code_8) rfl ?_
    show Steps p.tables e below (s₁.setTop (mkF m 9 #[.val (.int (3 : Int32))] [(.int (3 : Int32))])) _
    refine XT.iconstV X0.here hx rfl (1 : Int32) (hb hby d_method_2_code_9) (by decide) ?_
    show Steps p.tables e below (s₁.setTop (mkF m 10 #[.val (.int (3 : Int32))] [(.int (1 : Int32)), (.int (3 : Int32))])) _
    refine XS.icmpYes X0.here hx rfl (pc0 := 10) (pc' := 17) rfl (hb hby d_method_2_code_10) rfl (by decide) (by decide) (by decide) ?_
    show Steps p.tables e below (s₁.setTop (mkF m 17 #[.val (.int (3 : Int32))] [])) _
    refine XS.iloadN X0.here hx rfl (hb hby d_method_2_code_17) rfl ?_
    show Steps p.tables e below (s₁.setTop (mkF m 18 #[.val (.int (3 : Int32))] [(.int (3 : Int32))])) _
    refine XT.iconstV X0.here hx rfl (2 : Int32) (hb hby d_method_2_code_18) (by decide) ?_
    show Steps p.tables e below (s₁.setTop (mkF m 19 #[.val (.int (3 : Int32))] [(.int (2 : Int32)), (.int (3 : Int32))])) _
    refine XS.icmpYes X0.here hx rfl (pc0 := 19) (pc' := 26) rfl (hb hby d_method_2_code_19) rfl (by decide) (by decide) (by decide) ?_
    show Steps p.tables e below (s₁.setTop (mkF m 26 #[.val (.int (3 : Int32))] [])) _
    refine st1 _ ?_
    show Steps p.tables e below (T1.setTop (mkF m 29 #[.val (.int (3 : Int32))] [(.ref u3)])) _
    exact retOut X1 hx Bd.returns rfl (Or.inr (Or.inr (Or.inr (Or.inr ⟨rfl, rfl, rfl⟩)))) (hb hby d_method_2_code_29) hr
  · exact ⟨rfl, N0, e1⟩
def Q_of_3_0 (Z : State) (aV : Addr) (kV : ClassId) (b0 b1 b2 b3 b4 b5 b6 : Addr) (u0 u1 u2 u3 : Addr) (h0 : Heap) (n0 : Nat) (v : Option Value) (h : Heap) (L : List Loc) : Prop := v = some (.ref b6) ∧ Fr n0 L ∧ Ext h0 h
set_option maxRecDepth 65536 in
set_option maxHeartbeats 40000000 in
theorem of_3_0 (l : Launch) (Z : State) (a0 : Array Value) (hw : ∀ d ∈ tables_1, d.before a0 Z = true) (ws : List Jvm.Cond) (aV : Addr) (kV : ClassId) (b0 b1 b2 b3 b4 b5 b6 : Addr) (u0 u1 u2 u3 : Addr) (h0 : Heap) (n0 : Nat) (Z0 : n0 ≤ h0.size) (SaV : Sta Z h0 "com/example/innesco/innesco/database/TriggerEvent" "$VALUES" "[Lcom/example/innesco/innesco/database/TriggerEvent;" (.ref aV)) (VaV : Arv Z h0 aV kV (.object "com/example/innesco/innesco/database/TriggerEvent") (7 : Int32) [(.ref b0), (.ref b1), (.ref b2), (.ref b3), (.ref b4), (.ref b5), (.ref b6)] .null) (EaV : Exa Z h0 aV "[Lcom/example/innesco/innesco/database/TriggerEvent;")(Fw0 : Fld Z h0 b0 "com/example/innesco/innesco/database/TriggerEvent" "write" "Lcom/example/innesco/innesco/database/Write;" (.ref u0))(Fw1 : Fld Z h0 b1 "com/example/innesco/innesco/database/TriggerEvent" "write" "Lcom/example/innesco/innesco/database/Write;" (.ref u0))(Fw2 : Fld Z h0 b2 "com/example/innesco/innesco/database/TriggerEvent" "write" "Lcom/example/innesco/innesco/database/Write;" (.ref u1))(Fw3 : Fld Z h0 b3 "com/example/innesco/innesco/database/TriggerEvent" "write" "Lcom/example/innesco/innesco/database/Write;" (.ref u1))(Fw4 : Fld Z h0 b4 "com/example/innesco/innesco/database/TriggerEvent" "write" "Lcom/example/innesco/innesco/database/Write;" (.ref u2))(Fw5 : Fld Z h0 b5 "com/example/innesco/innesco/database/TriggerEvent" "write" "Lcom/example/innesco/innesco/database/Write;" (.ref u2))(Fw6 : Fld Z h0 b6 "com/example/innesco/innesco/database/TriggerEvent" "write" "Lcom/example/innesco/innesco/database/Write;" (.ref u3))(Fb0 : Fld Z h0 b0 "com/example/innesco/innesco/database/TriggerEvent" "before" "Z" (.int (1 : Int32)))(Fb1 : Fld Z h0 b1 "com/example/innesco/innesco/database/TriggerEvent" "before" "Z" (.int (0 : Int32)))(Fb2 : Fld Z h0 b2 "com/example/innesco/innesco/database/TriggerEvent" "before" "Z" (.int (1 : Int32)))(Fb3 : Fld Z h0 b3 "com/example/innesco/innesco/database/TriggerEvent" "before" "Z" (.int (0 : Int32)))(Fb4 : Fld Z h0 b4 "com/example/innesco/innesco/database/TriggerEvent" "before" "Z" (.int (1 : Int32)))(Fb5 : Fld Z h0 b5 "com/example/innesco/innesco/database/TriggerEvent" "before" "Z" (.int (0 : Int32)))(Fb6 : Fld Z h0 b6 "com/example/innesco/innesco/database/TriggerEvent" "before" "Z" (.int (0 : Int32)))(ne01 : u0 ≠ u1)(ne02 : u0 ≠ u2)(ne03 : u0 ≠ u3)(ne12 : u1 ≠ u2)(ne13 : u1 ≠ u3)(ne23 : u2 ≠ u3) :
    MetFree l (⟨"com/example/innesco/innesco/database/TriggerEvent", "of", "(Lcom/example/innesco/innesco/database/Write;Z)Lcom/example/innesco/innesco/database/TriggerEvent;"⟩ : MethodName) (head1 (Jvm.Cond.code (⟨"com/example/innesco/innesco/database/TriggerEvent", "of", "(Lcom/example/innesco/innesco/database/Write;Z)Lcom/example/innesco/innesco/database/TriggerEvent;"⟩ : MethodName) prog_14_method_6_code 6 (Option.some (Jvm.ClassFile.FieldType.object "com/example/innesco/innesco/database/TriggerEvent")) :: ws) ({ frames := 2, cells := 1, slots := 7, locals := 25 } : Room)) (fun a U => a = #[(.ref u3), (.int (0 : Int32))] ∧ Z.Warmed39 U.vm ∧ U.heap = h0) (fun _ _ _ _ _ => True) (fun _ U o U' => ∃ v L, o = .returned v ∧ Q_of_3_0 Z aV kV b0 b1 b2 b3 b4 b5 b6 u0 u1 u2 u3 h0 n0 v U'.heap L ∧ FrameEnd U o U' L ({ frames := 2, cells := 1, slots := 7, locals := 25 } : Room).cells ({ frames := 2, cells := 1, slots := 7, locals := 25 } : Room).slots) := by
  refine MetFree.of_bodySF (plainFor_of_name pn_5) hisR ?_
  intro p e s m args below meth c s₁ Bd hml0 hP hK
  obtain ⟨rfl, hZ, hh⟩ := hP
  have hx := Bd.exec
  have hby := Bd.bytes
  have hml : c.maxLocals = 6 := hml0
  have hown : s.vm.findClass "com/example/innesco/innesco/database/TriggerEvent" = some m.cls := findClass_of_methodNamed Bd.named
  have hnm := (name_of_methodNamed Bd.named Bd.method).1
  have X0 : Stand p l e ({ frames := 2, cells := 1, slots := 7, locals := 25 } : Room) s m #[(.ref u3), (.int (0 : Int32))] below meth c s₁ [] 0 0 := Stand.of_body Bd
  have e0 : s₁.heap = h0 := by rw [← hh, Bd.state]; rfl
  have N0 := Fr.nil n0
  have pre0 : ∀ t, Steps p.tables e below (s₁.setTop (mkF m 0 #[.val (.ref u3), .val (.int (0 : Int32)), .unset, .unset, .unset, .unset] [])) t → Steps p.tables e below (s₁.setTop (entryFrame m #[(.ref u3), (.int (0 : Int32))] 6)) t := fun t k => castTop (ef_39 m u3 (0 : Int32)) k
  obtain ⟨_, _, ⟨T1, L1, k1, n1⟩, -, X1, ⟨Lc1, hQ1, l1, y1, z1⟩, st1⟩ := Jvm.LawKit.callS X0 hx (y := (⟨"com/example/innesco/innesco/database/TriggerEvent", "values", "()[Lcom/example/innesco/innesco/database/TriggerEvent;"⟩ : MethodName)) hown (mvT hZ (hw _ (List.mem_of_getElem? (i := 16) rfl))) (mvT hZ (hw _ (List.mem_of_getElem? (i := 17) rfl))) (mvT hZ (hw _ (List.mem_of_getElem? (i := 11) rfl))) (mvT hZ (hw _ (List.mem_of_getElem? (i := 18) rfl))) (by decide) (backOf (W := 0) (values_0 l Z a0 hw [] aV kV b0 b1 b2 b3 b4 b5 b6 h0 n0 Z0 SaV VaV EaV) hZ (hw _ (List.mem_of_getElem? (i := 18) rfl)) (hw _ (List.mem_of_getElem? (i := 11) rfl)) (by decide) (by decide)) (g := (mkF m 0 #[.val (.ref u3), .val (.int (0 : Int32)), .unset, .unset, .unset, .unset] [])) rfl (by rw [hml]; rfl) (argsL := []) (rest := []) (lenOf pd_13 rfl) rfl (by show 2 * 0 + _ ≤ _; exact Nat.le_of_eq rfl) (hb hby d_prog_14_method_6_code_0) (fun _ _ => ⟨rfl, e0, (by decide : 0 + 1 ≤ _), (by decide : 0 + 7 ≤ _)⟩)
  dsimp only [Pt.U, Pt.locs, Pt.cells, Pt.slots] at X1 l1 y1 z1 st1 hQ1
  subst l1 y1 z1
  obtain ⟨rfl, N1q, Ex1, V1⟩ := hQ1
  have N1 := Fr.app N0 N1q
  obtain ⟨cl, Ar, -, Sz, Ng, Hs, -⟩ := V1
  have hlen : cl.slots.size.toInt32 = (7 : Int32) := len_of Sz Ng
  obtain ⟨T2, X2, e2, st2⟩ := getF X1 hx hZ hown (host := "") (Or.inl (hw _ (List.mem_of_getElem? (i := 37) rfl))) Via.refl rfl (Fw0.ext Ex1) (g := (mkF m 24 #[.val (.ref u3), .val (.int (0 : Int32)), .val (.ref h0.size), .val (.int (7 : Int32)), .val (.int (0 : Int32)), .val (.ref b0)] [(.ref b0)])) rfl rfl (hb hby d_prog_14_method_6_code_24)
  obtain ⟨T3, X3, e3, st3⟩ := getF X2 hx hZ hown (host := "") (Or.inl (hw _ (List.mem_of_getElem? (i := 37) rfl))) Via.refl e2 (Fw1.ext Ex1) (g := (mkF m 24 #[.val (.ref u3), .val (.int (0 : Int32)), .val (.ref h0.size), .val (.int (7 : Int32)), .val (.int (1 : Int32)), .val (.ref b1)] [(.ref b1)])) rfl rfl (hb hby d_prog_14_method_6_code_24)
  obtain ⟨T4, X4, e4, st4⟩ := getF X3 hx hZ hown (host := "") (Or.inl (hw _ (List.mem_of_getElem? (i := 37) rfl))) Via.refl e3 (Fw2.ext Ex1) (g := (mkF m 24 #[.val (.ref u3), .val (.int (0 : Int32)), .val (.ref h0.size), .val (.int (7 : Int32)), .val (.int (2 : Int32)), .val (.ref b2)] [(.ref b2)])) rfl rfl (hb hby d_prog_14_method_6_code_24)
  obtain ⟨T5, X5, e5, st5⟩ := getF X4 hx hZ hown (host := "") (Or.inl (hw _ (List.mem_of_getElem? (i := 37) rfl))) Via.refl e4 (Fw3.ext Ex1) (g := (mkF m 24 #[.val (.ref u3), .val (.int (0 : Int32)), .val (.ref h0.size), .val (.int (7 : Int32)), .val (.int (3 : Int32)), .val (.ref b3)] [(.ref b3)])) rfl rfl (hb hby d_prog_14_method_6_code_24)
  obtain ⟨T6, X6, e6, st6⟩ := getF X5 hx hZ hown (host := "") (Or.inl (hw _ (List.mem_of_getElem? (i := 37) rfl))) Via.refl e5 (Fw4.ext Ex1) (g := (mkF m 24 #[.val (.ref u3), .val (.int (0 : Int32)), .val (.ref h0.size), .val (.int (7 : Int32)), .val (.int (4 : Int32)), .val (.ref b4)] [(.ref b4)])) rfl rfl (hb hby d_prog_14_method_6_code_24)
  obtain ⟨T7, X7, e7, st7⟩ := getF X6 hx hZ hown (host := "") (Or.inl (hw _ (List.mem_of_getElem? (i := 37) rfl))) Via.refl e6 (Fw5.ext Ex1) (g := (mkF m 24 #[.val (.ref u3), .val (.int (0 : Int32)), .val (.ref h0.size), .val (.int (7 : Int32)), .val (.int (5 : Int32)), .val (.ref b5)] [(.ref b5)])) rfl rfl (hb hby d_prog_14_method_6_code_24)
  obtain ⟨T8, X8, e8, st8⟩ := getF X7 hx hZ hown (host := "") (Or.inl (hw _ (List.mem_of_getElem? (i := 37) rfl))) Via.refl e7 (Fw6.ext Ex1) (g := (mkF m 24 #[.val (.ref u3), .val (.int (0 : Int32)), .val (.ref h0.size), .val (.int (7 : Int32)), .val (.int (6 : Int32)), .val (.ref b6)] [(.ref b6)])) rfl rfl (hb hby d_prog_14_method_6_code_24)
  obtain ⟨T9, X9, e9, st9⟩ := getF X8 hx hZ hown (host := "") (Or.inl (hw _ (List.mem_of_getElem? (i := 39) rfl))) Via.refl e8 (Fb6.ext Ex1) (g := (mkF m 33 #[.val (.ref u3), .val (.int (0 : Int32)), .val (.ref h0.size), .val (.int (7 : Int32)), .val (.int (6 : Int32)), .val (.ref b6)] [(.ref b6)])) rfl rfl (hb hby d_prog_14_method_6_code_33)
  obtain ⟨fs, hr, hrun, hended, hW, hsame⟩ := X9.leave (v := some (.ref b6)) (fun h => by rw [Bd.returns] at h; cases h)
  refine ⟨_, _, pre0 _ ?_, hrun, hended, _, _, rfl, ?_, ⟨_, rfl⟩, hW, hsame.mono (by decide) (by decide)⟩
  · show Steps p.tables e below (s₁.setTop (mkF m 0 #[.val (.ref u3), .val (.int (0 : Int32)), .unset, .unset, .unset, .unset] [])) _
    refine st1 _ ?_
    show Steps p.tables e below (T1.setTop (mkF m 3 #[.val (.ref u3), .val (.int (0 : Int32)), .unset, .unset, .unset, .unset] [(.ref h0.size)])) _
    refine XS.astoreN X1.here hx rfl (hb hby d_prog_14_method_6_code_3) rfl rfl (l' := #[.val (.ref u3), .val (.int (0 : Int32)), .val (.ref h0.size), .unset, .unset, .unset]) rfl ?_
    show Steps p.tables e below (T1.setTop (mkF m 4 #[.val (.ref u3), .val (.int (0 : Int32)), .val (.ref h0.size), .unset, .unset, .unset] [])) _
    refine XS.aloadN X1.here hx rfl (hb hby d_prog_14_method_6_code_4) rfl rfl ?_
    show Steps p.tables e below (T1.setTop (mkF m 5 #[.val (.ref u3), .val (.int (0 : Int32)), .val (.ref h0.size), .unset, .unset, .unset] [(.ref h0.size)])) _
    refine X1.arraylength hx (by first | exact Ar.1 | (rw [rfl]; exact Ar.1)) (State.isArrayOf_alike hZ.alike Ar.2.1) (g := (mkF m 5 #[.val (.ref u3), .val (.int (0 : Int32)), .val (.ref h0.size), .unset, .unset, .unset] [(.ref h0.size)])) rfl rfl (hb hby d_prog_14_method_6_code_5) _ ?_
    show Steps p.tables e below (T1.setTop (mkF m 6 #[.val (.ref u3), .val (.int (0 : Int32)), .val (.ref h0.size), .unset, .unset, .unset] [(.int cl.slots.size.toInt32)])) _
    rw [hlen]
    show Steps p.tables e below (T1.setTop (mkF m 6 #[.val (.ref u3), .val (.int (0 : Int32)), .val (.ref h0.size), .unset, .unset, .unset] [(.int (7 : Int32))])) _
    refine XS.istoreN X1.here hx rfl (hb hby d_prog_14_method_6_code_6) rfl (l' := #[.val (.ref u3), .val (.int (0 : Int32)), .val (.ref h0.size), .val (.int (7 : Int32)), .unset, .unset]) rfl ?_
    show Steps p.tables e below (T1.setTop (mkF m 7 #[.val (.ref u3), .val (.int (0 : Int32)), .val (.ref h0.size), .val (.int (7 : Int32)), .unset, .unset] [])) _
    refine XT.iconstV X1.here hx rfl (0 : Int32) (hb hby d_prog_14_method_6_code_7) (by decide) ?_
    show Steps p.tables e below (T1.setTop (mkF m 8 #[.val (.ref u3), .val (.int (0 : Int32)), .val (.ref h0.size), .val (.int (7 : Int32)), .unset, .unset] [(.int (0 : Int32))])) _
    refine XS.istore X1.here hx rfl (hb hby d_prog_14_method_6_code_8) rfl (l' := #[.val (.ref u3), .val (.int (0 : Int32)), .val (.ref h0.size), .val (.int (7 : Int32)), .val (.int (0 : Int32)), .unset]) rfl ?_
    show Steps p.tables e below (T1.setTop (mkF m 10 #[.val (.ref u3), .val (.int (0 : Int32)), .val (.ref h0.size), .val (.int (7 : Int32)), .val (.int (0 : Int32)), .unset] [])) _
    refine XS.iload X1.here hx rfl (hb hby d_prog_14_method_6_code_10) rfl ?_
    show Steps p.tables e below (T1.setTop (mkF m 12 #[.val (.ref u3), .val (.int (0 : Int32)), .val (.ref h0.size), .val (.int (7 : Int32)), .val (.int (0 : Int32)), .unset] [(.int (0 : Int32))])) _
    refine XS.iloadN X1.here hx rfl (hb hby d_prog_14_method_6_code_12) rfl ?_
    show Steps p.tables e below (T1.setTop (mkF m 13 #[.val (.ref u3), .val (.int (0 : Int32)), .val (.ref h0.size), .val (.int (7 : Int32)), .val (.int (0 : Int32)), .unset] [(.int (7 : Int32)), (.int (0 : Int32))])) _
    refine XS.icmpNo X1.here hx rfl (hb hby d_prog_14_method_6_code_13) rfl (by decide) ?_
    show Steps p.tables e below (T1.setTop (mkF m 16 #[.val (.ref u3), .val (.int (0 : Int32)), .val (.ref h0.size), .val (.int (7 : Int32)), .val (.int (0 : Int32)), .unset] [])) _
    refine XS.aloadN X1.here hx rfl (hb hby d_prog_14_method_6_code_16) rfl rfl ?_
    show Steps p.tables e below (T1.setTop (mkF m 17 #[.val (.ref u3), .val (.int (0 : Int32)), .val (.ref h0.size), .val (.int (7 : Int32)), .val (.int (0 : Int32)), .unset] [(.ref h0.size)])) _
    refine XS.iload X1.here hx rfl (hb hby d_prog_14_method_6_code_17) rfl ?_
    show Steps p.tables e below (T1.setTop (mkF m 19 #[.val (.ref u3), .val (.int (0 : Int32)), .val (.ref h0.size), .val (.int (7 : Int32)), .val (.int (0 : Int32)), .unset] [(.int (0 : Int32)), (.ref h0.size)])) _
    refine X1.aaload hx (j := (0 : Int32)) (v := (.ref b0)) (by first | exact Ar.1 | (rw [rfl]; exact Ar.1)) (State.isArrayOf_alike hZ.alike Ar.2.1) rfl Ar.2.2 (inb_of Sz ⟨by decide, by decide⟩) (Hs.at (inb_of Sz ⟨by decide, by decide⟩) rfl) (g := (mkF m 19 #[.val (.ref u3), .val (.int (0 : Int32)), .val (.ref h0.size), .val (.int (7 : Int32)), .val (.int (0 : Int32)), .unset] [(.int (0 : Int32)), (.ref h0.size)])) rfl rfl (hb hby d_prog_14_method_6_code_19) _ ?_
    show Steps p.tables e below (T1.setTop (mkF m 20 #[.val (.ref u3), .val (.int (0 : Int32)), .val (.ref h0.size), .val (.int (7 : Int32)), .val (.int (0 : Int32)), .unset] [(.ref b0)])) _
    refine XS.astore X1.here hx rfl (hb hby d_prog_14_method_6_code_20) rfl rfl (l' := #[.val (.ref u3), .val (.int (0 : Int32)), .val (.ref h0.size), .val (.int (7 : Int32)), .val (.int (0 : Int32)), .val (.ref b0)]) rfl ?_
    show Steps p.tables e below (T1.setTop (mkF m 22 #[.val (.ref u3), .val (.int (0 : Int32)), .val (.ref h0.size), .val (.int (7 : Int32)), .val (.int (0 : Int32)), .val (.ref b0)] [])) _
    refine XS.aload X1.here hx rfl (hb hby d_prog_14_method_6_code_22) rfl rfl ?_
    show Steps p.tables e below (T1.setTop (mkF m 24 #[.val (.ref u3), .val (.int (0 : Int32)), .val (.ref h0.size), .val (.int (7 : Int32)), .val (.int (0 : Int32)), .val (.ref b0)] [(.ref b0)])) _
    refine st2 _ ?_
    show Steps p.tables e below (T2.setTop (mkF m 27 #[.val (.ref u3), .val (.int (0 : Int32)), .val (.ref h0.size), .val (.int (7 : Int32)), .val (.int (0 : Int32)), .val (.ref b0)] [(.ref u0)])) _
    refine XS.aloadN X2.here hx rfl (hb hby d_prog_14_method_6_code_27) rfl rfl ?_
    show Steps p.tables e below (T2.setTop (mkF m 28 #[.val (.ref u3), .val (.int (0 : Int32)), .val (.ref h0.size), .val (.int (7 : Int32)), .val (.int (0 : Int32)), .val (.ref b0)] [(.ref u3), (.ref u0)])) _
    refine acmp X2 hx rfl rfl rfl (pc0 := 28) (pc' := 43) (same := false) rfl (hb hby d_prog_14_method_6_code_28) rfl (decide_eq_false fun q => ne03 (Value.ref.inj q)) (by decide) (by decide) ?_
    show Steps p.tables e below (T2.setTop (mkF m 43 #[.val (.ref u3), .val (.int (0 : Int32)), .val (.ref h0.size), .val (.int (7 : Int32)), .val (.int (0 : Int32)), .val (.ref b0)] [])) _
    refine XT.iincV X2.here hx rfl (1 : Int32) (hb hby d_prog_14_method_6_code_43) (by decide) rfl (l' := #[.val (.ref u3), .val (.int (0 : Int32)), .val (.ref h0.size), .val (.int (7 : Int32)), .val (.int (1 : Int32)), .val (.ref b0)]) rfl ?_
    show Steps p.tables e below (T2.setTop (mkF m 46 #[.val (.ref u3), .val (.int (0 : Int32)), .val (.ref h0.size), .val (.int (7 : Int32)), .val (.int (1 : Int32)), .val (.ref b0)] [])) _
    refine XS.goto X2.here hx rfl (pc0 := 46) (pc' := 10) rfl (hb hby d_prog_14_method_6_code_46) (by decide) (by decide) ?_
    show Steps p.tables e below (T2.setTop (mkF m 10 #[.val (.ref u3), .val (.int (0 : Int32)), .val (.ref h0.size), .val (.int (7 : Int32)), .val (.int (1 : Int32)), .val (.ref b0)] [])) _
    refine XS.iload X2.here hx rfl (hb hby d_prog_14_method_6_code_10) rfl ?_
    show Steps p.tables e below (T2.setTop (mkF m 12 #[.val (.ref u3), .val (.int (0 : Int32)), .val (.ref h0.size), .val (.int (7 : Int32)), .val (.int (1 : Int32)), .val (.ref b0)] [(.int (1 : Int32))])) _
    refine XS.iloadN X2.here hx rfl (hb hby d_prog_14_method_6_code_12) rfl ?_
    show Steps p.tables e below (T2.setTop (mkF m 13 #[.val (.ref u3), .val (.int (0 : Int32)), .val (.ref h0.size), .val (.int (7 : Int32)), .val (.int (1 : Int32)), .val (.ref b0)] [(.int (7 : Int32)), (.int (1 : Int32))])) _
    refine XS.icmpNo X2.here hx rfl (hb hby d_prog_14_method_6_code_13) rfl (by decide) ?_
    show Steps p.tables e below (T2.setTop (mkF m 16 #[.val (.ref u3), .val (.int (0 : Int32)), .val (.ref h0.size), .val (.int (7 : Int32)), .val (.int (1 : Int32)), .val (.ref b0)] [])) _
    refine XS.aloadN X2.here hx rfl (hb hby d_prog_14_method_6_code_16) rfl rfl ?_
    show Steps p.tables e below (T2.setTop (mkF m 17 #[.val (.ref u3), .val (.int (0 : Int32)), .val (.ref h0.size), .val (.int (7 : Int32)), .val (.int (1 : Int32)), .val (.ref b0)] [(.ref h0.size)])) _
    refine XS.iload X2.here hx rfl (hb hby d_prog_14_method_6_code_17) rfl ?_
    show Steps p.tables e below (T2.setTop (mkF m 19 #[.val (.ref u3), .val (.int (0 : Int32)), .val (.ref h0.size), .val (.int (7 : Int32)), .val (.int (1 : Int32)), .val (.ref b0)] [(.int (1 : Int32)), (.ref h0.size)])) _
    refine X2.aaload hx (j := (1 : Int32)) (v := (.ref b1)) (by first | exact Ar.1 | (rw [e2]; exact Ar.1)) (State.isArrayOf_alike hZ.alike Ar.2.1) rfl Ar.2.2 (inb_of Sz ⟨by decide, by decide⟩) (Hs.at (inb_of Sz ⟨by decide, by decide⟩) rfl) (g := (mkF m 19 #[.val (.ref u3), .val (.int (0 : Int32)), .val (.ref h0.size), .val (.int (7 : Int32)), .val (.int (1 : Int32)), .val (.ref b0)] [(.int (1 : Int32)), (.ref h0.size)])) rfl rfl (hb hby d_prog_14_method_6_code_19) _ ?_
    show Steps p.tables e below (T2.setTop (mkF m 20 #[.val (.ref u3), .val (.int (0 : Int32)), .val (.ref h0.size), .val (.int (7 : Int32)), .val (.int (1 : Int32)), .val (.ref b0)] [(.ref b1)])) _
    refine XS.astore X2.here hx rfl (hb hby d_prog_14_method_6_code_20) rfl rfl (l' := #[.val (.ref u3), .val (.int (0 : Int32)), .val (.ref h0.size), .val (.int (7 : Int32)), .val (.int (1 : Int32)), .val (.ref b1)]) rfl ?_
    show Steps p.tables e below (T2.setTop (mkF m 22 #[.val (.ref u3), .val (.int (0 : Int32)), .val (.ref h0.size), .val (.int (7 : Int32)), .val (.int (1 : Int32)), .val (.ref b1)] [])) _
    refine XS.aload X2.here hx rfl (hb hby d_prog_14_method_6_code_22) rfl rfl ?_
    show Steps p.tables e below (T2.setTop (mkF m 24 #[.val (.ref u3), .val (.int (0 : Int32)), .val (.ref h0.size), .val (.int (7 : Int32)), .val (.int (1 : Int32)), .val (.ref b1)] [(.ref b1)])) _
    refine st3 _ ?_
    show Steps p.tables e below (T3.setTop (mkF m 27 #[.val (.ref u3), .val (.int (0 : Int32)), .val (.ref h0.size), .val (.int (7 : Int32)), .val (.int (1 : Int32)), .val (.ref b1)] [(.ref u0)])) _
    refine XS.aloadN X3.here hx rfl (hb hby d_prog_14_method_6_code_27) rfl rfl ?_
    show Steps p.tables e below (T3.setTop (mkF m 28 #[.val (.ref u3), .val (.int (0 : Int32)), .val (.ref h0.size), .val (.int (7 : Int32)), .val (.int (1 : Int32)), .val (.ref b1)] [(.ref u3), (.ref u0)])) _
    refine acmp X3 hx rfl rfl rfl (pc0 := 28) (pc' := 43) (same := false) rfl (hb hby d_prog_14_method_6_code_28) rfl (decide_eq_false fun q => ne03 (Value.ref.inj q)) (by decide) (by decide) ?_
    show Steps p.tables e below (T3.setTop (mkF m 43 #[.val (.ref u3), .val (.int (0 : Int32)), .val (.ref h0.size), .val (.int (7 : Int32)), .val (.int (1 : Int32)), .val (.ref b1)] [])) _
    refine XT.iincV X3.here hx rfl (1 : Int32) (hb hby d_prog_14_method_6_code_43) (by decide) rfl (l' := #[.val (.ref u3), .val (.int (0 : Int32)), .val (.ref h0.size), .val (.int (7 : Int32)), .val (.int (2 : Int32)), .val (.ref b1)]) rfl ?_
    show Steps p.tables e below (T3.setTop (mkF m 46 #[.val (.ref u3), .val (.int (0 : Int32)), .val (.ref h0.size), .val (.int (7 : Int32)), .val (.int (2 : Int32)), .val (.ref b1)] [])) _
    refine XS.goto X3.here hx rfl (pc0 := 46) (pc' := 10) rfl (hb hby d_prog_14_method_6_code_46) (by decide) (by decide) ?_
    show Steps p.tables e below (T3.setTop (mkF m 10 #[.val (.ref u3), .val (.int (0 : Int32)), .val (.ref h0.size), .val (.int (7 : Int32)), .val (.int (2 : Int32)), .val (.ref b1)] [])) _
    refine XS.iload X3.here hx rfl (hb hby d_prog_14_method_6_code_10) rfl ?_
    show Steps p.tables e below (T3.setTop (mkF m 12 #[.val (.ref u3), .val (.int (0 : Int32)), .val (.ref h0.size), .val (.int (7 : Int32)), .val (.int (2 : Int32)), .val (.ref b1)] [(.int (2 : Int32))])) _
    refine XS.iloadN X3.here hx rfl (hb hby d_prog_14_method_6_code_12) rfl ?_
    show Steps p.tables e below (T3.setTop (mkF m 13 #[.val (.ref u3), .val (.int (0 : Int32)), .val (.ref h0.size), .val (.int (7 : Int32)), .val (.int (2 : Int32)), .val (.ref b1)] [(.int (7 : Int32)), (.int (2 : Int32))])) _
    refine XS.icmpNo X3.here hx rfl (hb hby d_prog_14_method_6_code_13) rfl (by decide) ?_
    show Steps p.tables e below (T3.setTop (mkF m 16 #[.val (.ref u3), .val (.int (0 : Int32)), .val (.ref h0.size), .val (.int (7 : Int32)), .val (.int (2 : Int32)), .val (.ref b1)] [])) _
    refine XS.aloadN X3.here hx rfl (hb hby d_prog_14_method_6_code_16) rfl rfl ?_
    show Steps p.tables e below (T3.setTop (mkF m 17 #[.val (.ref u3), .val (.int (0 : Int32)), .val (.ref h0.size), .val (.int (7 : Int32)), .val (.int (2 : Int32)), .val (.ref b1)] [(.ref h0.size)])) _
    refine XS.iload X3.here hx rfl (hb hby d_prog_14_method_6_code_17) rfl ?_
    show Steps p.tables e below (T3.setTop (mkF m 19 #[.val (.ref u3), .val (.int (0 : Int32)), .val (.ref h0.size), .val (.int (7 : Int32)), .val (.int (2 : Int32)), .val (.ref b1)] [(.int (2 : Int32)), (.ref h0.size)])) _
    refine X3.aaload hx (j := (2 : Int32)) (v := (.ref b2)) (by first | exact Ar.1 | (rw [e3]; exact Ar.1)) (State.isArrayOf_alike hZ.alike Ar.2.1) rfl Ar.2.2 (inb_of Sz ⟨by decide, by decide⟩) (Hs.at (inb_of Sz ⟨by decide, by decide⟩) rfl) (g := (mkF m 19 #[.val (.ref u3), .val (.int (0 : Int32)), .val (.ref h0.size), .val (.int (7 : Int32)), .val (.int (2 : Int32)), .val (.ref b1)] [(.int (2 : Int32)), (.ref h0.size)])) rfl rfl (hb hby d_prog_14_method_6_code_19) _ ?_
    show Steps p.tables e below (T3.setTop (mkF m 20 #[.val (.ref u3), .val (.int (0 : Int32)), .val (.ref h0.size), .val (.int (7 : Int32)), .val (.int (2 : Int32)), .val (.ref b1)] [(.ref b2)])) _
    refine XS.astore X3.here hx rfl (hb hby d_prog_14_method_6_code_20) rfl rfl (l' := #[.val (.ref u3), .val (.int (0 : Int32)), .val (.ref h0.size), .val (.int (7 : Int32)), .val (.int (2 : Int32)), .val (.ref b2)]) rfl ?_
    show Steps p.tables e below (T3.setTop (mkF m 22 #[.val (.ref u3), .val (.int (0 : Int32)), .val (.ref h0.size), .val (.int (7 : Int32)), .val (.int (2 : Int32)), .val (.ref b2)] [])) _
    refine XS.aload X3.here hx rfl (hb hby d_prog_14_method_6_code_22) rfl rfl ?_
    show Steps p.tables e below (T3.setTop (mkF m 24 #[.val (.ref u3), .val (.int (0 : Int32)), .val (.ref h0.size), .val (.int (7 : Int32)), .val (.int (2 : Int32)), .val (.ref b2)] [(.ref b2)])) _
    refine st4 _ ?_
    show Steps p.tables e below (T4.setTop (mkF m 27 #[.val (.ref u3), .val (.int (0 : Int32)), .val (.ref h0.size), .val (.int (7 : Int32)), .val (.int (2 : Int32)), .val (.ref b2)] [(.ref u1)])) _
    refine XS.aloadN X4.here hx rfl (hb hby d_prog_14_method_6_code_27) rfl rfl ?_
    show Steps p.tables e below (T4.setTop (mkF m 28 #[.val (.ref u3), .val (.int (0 : Int32)), .val (.ref h0.size), .val (.int (7 : Int32)), .val (.int (2 : Int32)), .val (.ref b2)] [(.ref u3), (.ref u1)])) _
    refine acmp X4 hx rfl rfl rfl (pc0 := 28) (pc' := 43) (same := false) rfl (hb hby d_prog_14_method_6_code_28) rfl (decide_eq_false fun q => ne13 (Value.ref.inj q)) (by decide) (by decide) ?_
    show Steps p.tables e below (T4.setTop (mkF m 43 #[.val (.ref u3), .val (.int (0 : Int32)), .val (.ref h0.size), .val (.int (7 : Int32)), .val (.int (2 : Int32)), .val (.ref b2)] [])) _
    refine XT.iincV X4.here hx rfl (1 : Int32) (hb hby d_prog_14_method_6_code_43) (by decide) rfl (l' := #[.val (.ref u3), .val (.int (0 : Int32)), .val (.ref h0.size), .val (.int (7 : Int32)), .val (.int (3 : Int32)), .val (.ref b2)]) rfl ?_
    show Steps p.tables e below (T4.setTop (mkF m 46 #[.val (.ref u3), .val (.int (0 : Int32)), .val (.ref h0.size), .val (.int (7 : Int32)), .val (.int (3 : Int32)), .val (.ref b2)] [])) _
    refine XS.goto X4.here hx rfl (pc0 := 46) (pc' := 10) rfl (hb hby d_prog_14_method_6_code_46) (by decide) (by decide) ?_
    show Steps p.tables e below (T4.setTop (mkF m 10 #[.val (.ref u3), .val (.int (0 : Int32)), .val (.ref h0.size), .val (.int (7 : Int32)), .val (.int (3 : Int32)), .val (.ref b2)] [])) _
    refine XS.iload X4.here hx rfl (hb hby d_prog_14_method_6_code_10) rfl ?_
    show Steps p.tables e below (T4.setTop (mkF m 12 #[.val (.ref u3), .val (.int (0 : Int32)), .val (.ref h0.size), .val (.int (7 : Int32)), .val (.int (3 : Int32)), .val (.ref b2)] [(.int (3 : Int32))])) _
    refine XS.iloadN X4.here hx rfl (hb hby d_prog_14_method_6_code_12) rfl ?_
    show Steps p.tables e below (T4.setTop (mkF m 13 #[.val (.ref u3), .val (.int (0 : Int32)), .val (.ref h0.size), .val (.int (7 : Int32)), .val (.int (3 : Int32)), .val (.ref b2)] [(.int (7 : Int32)), (.int (3 : Int32))])) _
    refine XS.icmpNo X4.here hx rfl (hb hby d_prog_14_method_6_code_13) rfl (by decide) ?_
    show Steps p.tables e below (T4.setTop (mkF m 16 #[.val (.ref u3), .val (.int (0 : Int32)), .val (.ref h0.size), .val (.int (7 : Int32)), .val (.int (3 : Int32)), .val (.ref b2)] [])) _
    refine XS.aloadN X4.here hx rfl (hb hby d_prog_14_method_6_code_16) rfl rfl ?_
    show Steps p.tables e below (T4.setTop (mkF m 17 #[.val (.ref u3), .val (.int (0 : Int32)), .val (.ref h0.size), .val (.int (7 : Int32)), .val (.int (3 : Int32)), .val (.ref b2)] [(.ref h0.size)])) _
    refine XS.iload X4.here hx rfl (hb hby d_prog_14_method_6_code_17) rfl ?_
    show Steps p.tables e below (T4.setTop (mkF m 19 #[.val (.ref u3), .val (.int (0 : Int32)), .val (.ref h0.size), .val (.int (7 : Int32)), .val (.int (3 : Int32)), .val (.ref b2)] [(.int (3 : Int32)), (.ref h0.size)])) _
    refine X4.aaload hx (j := (3 : Int32)) (v := (.ref b3)) (by first | exact Ar.1 | (rw [e4]; exact Ar.1)) (State.isArrayOf_alike hZ.alike Ar.2.1) rfl Ar.2.2 (inb_of Sz ⟨by decide, by decide⟩) (Hs.at (inb_of Sz ⟨by decide, by decide⟩) rfl) (g := (mkF m 19 #[.val (.ref u3), .val (.int (0 : Int32)), .val (.ref h0.size), .val (.int (7 : Int32)), .val (.int (3 : Int32)), .val (.ref b2)] [(.int (3 : Int32)), (.ref h0.size)])) rfl rfl (hb hby d_prog_14_method_6_code_19) _ ?_
    show Steps p.tables e below (T4.setTop (mkF m 20 #[.val (.ref u3), .val (.int (0 : Int32)), .val (.ref h0.size), .val (.int (7 : Int32)), .val (.int (3 : Int32)), .val (.ref b2)] [(.ref b3)])) _
    refine XS.astore X4.here hx rfl (hb hby d_prog_14_method_6_code_20) rfl rfl (l' := #[.val (.ref u3), .val (.int (0 : Int32)), .val (.ref h0.size), .val (.int (7 : Int32)), .val (.int (3 : Int32)), .val (.ref b3)]) rfl ?_
    show Steps p.tables e below (T4.setTop (mkF m 22 #[.val (.ref u3), .val (.int (0 : Int32)), .val (.ref h0.size), .val (.int (7 : Int32)), .val (.int (3 : Int32)), .val (.ref b3)] [])) _
    refine XS.aload X4.here hx rfl (hb hby d_prog_14_method_6_code_22) rfl rfl ?_
    show Steps p.tables e below (T4.setTop (mkF m 24 #[.val (.ref u3), .val (.int (0 : Int32)), .val (.ref h0.size), .val (.int (7 : Int32)), .val (.int (3 : Int32)), .val (.ref b3)] [(.ref b3)])) _
    refine st5 _ ?_
    show Steps p.tables e below (T5.setTop (mkF m 27 #[.val (.ref u3), .val (.int (0 : Int32)), .val (.ref h0.size), .val (.int (7 : Int32)), .val (.int (3 : Int32)), .val (.ref b3)] [(.ref u1)])) _
    refine XS.aloadN X5.here hx rfl (hb hby d_prog_14_method_6_code_27) rfl rfl ?_
    show Steps p.tables e below (T5.setTop (mkF m 28 #[.val (.ref u3), .val (.int (0 : Int32)), .val (.ref h0.size), .val (.int (7 : Int32)), .val (.int (3 : Int32)), .val (.ref b3)] [(.ref u3), (.ref u1)])) _
    refine acmp X5 hx rfl rfl rfl (pc0 := 28) (pc' := 43) (same := false) rfl (hb hby d_prog_14_method_6_code_28) rfl (decide_eq_false fun q => ne13 (Value.ref.inj q)) (by decide) (by decide) ?_
    show Steps p.tables e below (T5.setTop (mkF m 43 #[.val (.ref u3), .val (.int (0 : Int32)), .val (.ref h0.size), .val (.int (7 : Int32)), .val (.int (3 : Int32)), .val (.ref b3)] [])) _
    refine XT.iincV X5.here hx rfl (1 : Int32) (hb hby d_prog_14_method_6_code_43) (by decide) rfl (l' := #[.val (.ref u3), .val (.int (0 : Int32)), .val (.ref h0.size), .val (.int (7 : Int32)), .val (.int (4 : Int32)), .val (.ref b3)]) rfl ?_
    show Steps p.tables e below (T5.setTop (mkF m 46 #[.val (.ref u3), .val (.int (0 : Int32)), .val (.ref h0.size), .val (.int (7 : Int32)), .val (.int (4 : Int32)), .val (.ref b3)] [])) _
    refine XS.goto X5.here hx rfl (pc0 := 46) (pc' := 10) rfl (hb hby d_prog_14_method_6_code_46) (by decide) (by decide) ?_
    show Steps p.tables e below (T5.setTop (mkF m 10 #[.val (.ref u3), .val (.int (0 : Int32)), .val (.ref h0.size), .val (.int (7 : Int32)), .val (.int (4 : Int32)), .val (.ref b3)] [])) _
    refine XS.iload X5.here hx rfl (hb hby d_prog_14_method_6_code_10) rfl ?_
    show Steps p.tables e below (T5.setTop (mkF m 12 #[.val (.ref u3), .val (.int (0 : Int32)), .val (.ref h0.size), .val (.int (7 : Int32)), .val (.int (4 : Int32)), .val (.ref b3)] [(.int (4 : Int32))])) _
    refine XS.iloadN X5.here hx rfl (hb hby d_prog_14_method_6_code_12) rfl ?_
    show Steps p.tables e below (T5.setTop (mkF m 13 #[.val (.ref u3), .val (.int (0 : Int32)), .val (.ref h0.size), .val (.int (7 : Int32)), .val (.int (4 : Int32)), .val (.ref b3)] [(.int (7 : Int32)), (.int (4 : Int32))])) _
    refine XS.icmpNo X5.here hx rfl (hb hby d_prog_14_method_6_code_13) rfl (by decide) ?_
    show Steps p.tables e below (T5.setTop (mkF m 16 #[.val (.ref u3), .val (.int (0 : Int32)), .val (.ref h0.size), .val (.int (7 : Int32)), .val (.int (4 : Int32)), .val (.ref b3)] [])) _
    refine XS.aloadN X5.here hx rfl (hb hby d_prog_14_method_6_code_16) rfl rfl ?_
    show Steps p.tables e below (T5.setTop (mkF m 17 #[.val (.ref u3), .val (.int (0 : Int32)), .val (.ref h0.size), .val (.int (7 : Int32)), .val (.int (4 : Int32)), .val (.ref b3)] [(.ref h0.size)])) _
    refine XS.iload X5.here hx rfl (hb hby d_prog_14_method_6_code_17) rfl ?_
    show Steps p.tables e below (T5.setTop (mkF m 19 #[.val (.ref u3), .val (.int (0 : Int32)), .val (.ref h0.size), .val (.int (7 : Int32)), .val (.int (4 : Int32)), .val (.ref b3)] [(.int (4 : Int32)), (.ref h0.size)])) _
    refine X5.aaload hx (j := (4 : Int32)) (v := (.ref b4)) (by first | exact Ar.1 | (rw [e5]; exact Ar.1)) (State.isArrayOf_alike hZ.alike Ar.2.1) rfl Ar.2.2 (inb_of Sz ⟨by decide, by decide⟩) (Hs.at (inb_of Sz ⟨by decide, by decide⟩) rfl) (g := (mkF m 19 #[.val (.ref u3), .val (.int (0 : Int32)), .val (.ref h0.size), .val (.int (7 : Int32)), .val (.int (4 : Int32)), .val (.ref b3)] [(.int (4 : Int32)), (.ref h0.size)])) rfl rfl (hb hby d_prog_14_method_6_code_19) _ ?_
    show Steps p.tables e below (T5.setTop (mkF m 20 #[.val (.ref u3), .val (.int (0 : Int32)), .val (.ref h0.size), .val (.int (7 : Int32)), .val (.int (4 : Int32)), .val (.ref b3)] [(.ref b4)])) _
    refine XS.astore X5.here hx rfl (hb hby d_prog_14_method_6_code_20) rfl rfl (l' := #[.val (.ref u3), .val (.int (0 : Int32)), .val (.ref h0.size), .val (.int (7 : Int32)), .val (.int (4 : Int32)), .val (.ref b4)]) rfl ?_
    show Steps p.tables e below (T5.setTop (mkF m 22 #[.val (.ref u3), .val (.int (0 : Int32)), .val (.ref h0.size), .val (.int (7 : Int32)), .val (.int (4 : Int32)), .val (.ref b4)] [])) _
    refine XS.aload X5.here hx rfl (hb hby d_prog_14_method_6_code_22) rfl rfl ?_
    show Steps p.tables e below (T5.setTop (mkF m 24 #[.val (.ref u3), .val (.int (0 : Int32)), .val (.ref h0.size), .val (.int (7 : Int32)), .val (.int (4 : Int32)), .val (.ref b4)] [(.ref b4)])) _
    refine st6 _ ?_
    show Steps p.tables e below (T6.setTop (mkF m 27 #[.val (.ref u3), .val (.int (0 : Int32)), .val (.ref h0.size), .val (.int (7 : Int32)), .val (.int (4 : Int32)), .val (.ref b4)] [(.ref u2)])) _
    refine XS.aloadN X6.here hx rfl (hb hby d_prog_14_method_6_code_27) rfl rfl ?_
    show Steps p.tables e below (T6.setTop (mkF m 28 #[.val (.ref u3), .val (.int (0 : Int32)), .val (.ref h0.size), .val (.int (7 : Int32)), .val (.int (4 : Int32)), .val (.ref b4)] [(.ref u3), (.ref u2)])) _
    refine acmp X6 hx rfl rfl rfl (pc0 := 28) (pc' := 43) (same := false) rfl (hb hby d_prog_14_method_6_code_28) rfl (decide_eq_false fun q => ne23 (Value.ref.inj q)) (by decide) (by decide) ?_
    show Steps p.tables e below (T6.setTop (mkF m 43 #[.val (.ref u3), .val (.int (0 : Int32)), .val (.ref h0.size), .val (.int (7 : Int32)), .val (.int (4 : Int32)), .val (.ref b4)] [])) _
    refine XT.iincV X6.here hx rfl (1 : Int32) (hb hby d_prog_14_method_6_code_43) (by decide) rfl (l' := #[.val (.ref u3), .val (.int (0 : Int32)), .val (.ref h0.size), .val (.int (7 : Int32)), .val (.int (5 : Int32)), .val (.ref b4)]) rfl ?_
    show Steps p.tables e below (T6.setTop (mkF m 46 #[.val (.ref u3), .val (.int (0 : Int32)), .val (.ref h0.size), .val (.int (7 : Int32)), .val (.int (5 : Int32)), .val (.ref b4)] [])) _
    refine XS.goto X6.here hx rfl (pc0 := 46) (pc' := 10) rfl (hb hby d_prog_14_method_6_code_46) (by decide) (by decide) ?_
    show Steps p.tables e below (T6.setTop (mkF m 10 #[.val (.ref u3), .val (.int (0 : Int32)), .val (.ref h0.size), .val (.int (7 : Int32)), .val (.int (5 : Int32)), .val (.ref b4)] [])) _
    refine XS.iload X6.here hx rfl (hb hby d_prog_14_method_6_code_10) rfl ?_
    show Steps p.tables e below (T6.setTop (mkF m 12 #[.val (.ref u3), .val (.int (0 : Int32)), .val (.ref h0.size), .val (.int (7 : Int32)), .val (.int (5 : Int32)), .val (.ref b4)] [(.int (5 : Int32))])) _
    refine XS.iloadN X6.here hx rfl (hb hby d_prog_14_method_6_code_12) rfl ?_
    show Steps p.tables e below (T6.setTop (mkF m 13 #[.val (.ref u3), .val (.int (0 : Int32)), .val (.ref h0.size), .val (.int (7 : Int32)), .val (.int (5 : Int32)), .val (.ref b4)] [(.int (7 : Int32)), (.int (5 : Int32))])) _
    refine XS.icmpNo X6.here hx rfl (hb hby d_prog_14_method_6_code_13) rfl (by decide) ?_
    show Steps p.tables e below (T6.setTop (mkF m 16 #[.val (.ref u3), .val (.int (0 : Int32)), .val (.ref h0.size), .val (.int (7 : Int32)), .val (.int (5 : Int32)), .val (.ref b4)] [])) _
    refine XS.aloadN X6.here hx rfl (hb hby d_prog_14_method_6_code_16) rfl rfl ?_
    show Steps p.tables e below (T6.setTop (mkF m 17 #[.val (.ref u3), .val (.int (0 : Int32)), .val (.ref h0.size), .val (.int (7 : Int32)), .val (.int (5 : Int32)), .val (.ref b4)] [(.ref h0.size)])) _
    refine XS.iload X6.here hx rfl (hb hby d_prog_14_method_6_code_17) rfl ?_
    show Steps p.tables e below (T6.setTop (mkF m 19 #[.val (.ref u3), .val (.int (0 : Int32)), .val (.ref h0.size), .val (.int (7 : Int32)), .val (.int (5 : Int32)), .val (.ref b4)] [(.int (5 : Int32)), (.ref h0.size)])) _
    refine X6.aaload hx (j := (5 : Int32)) (v := (.ref b5)) (by first | exact Ar.1 | (rw [e6]; exact Ar.1)) (State.isArrayOf_alike hZ.alike Ar.2.1) rfl Ar.2.2 (inb_of Sz ⟨by decide, by decide⟩) (Hs.at (inb_of Sz ⟨by decide, by decide⟩) rfl) (g := (mkF m 19 #[.val (.ref u3), .val (.int (0 : Int32)), .val (.ref h0.size), .val (.int (7 : Int32)), .val (.int (5 : Int32)), .val (.ref b4)] [(.int (5 : Int32)), (.ref h0.size)])) rfl rfl (hb hby d_prog_14_method_6_code_19) _ ?_
    show Steps p.tables e below (T6.setTop (mkF m 20 #[.val (.ref u3), .val (.int (0 : Int32)), .val (.ref h0.size), .val (.int (7 : Int32)), .val (.int (5 : Int32)), .val (.ref b4)] [(.ref b5)])) _
    refine XS.astore X6.here hx rfl (hb hby d_prog_14_method_6_code_20) rfl rfl (l' := #[.val (.ref u3), .val (.int (0 : Int32)), .val (.ref h0.size), .val (.int (7 : Int32)), .val (.int (5 : Int32)), .val (.ref b5)]) rfl ?_
    show Steps p.tables e below (T6.setTop (mkF m 22 #[.val (.ref u3), .val (.int (0 : Int32)), .val (.ref h0.size), .val (.int (7 : Int32)), .val (.int (5 : Int32)), .val (.ref b5)] [])) _
    refine XS.aload X6.here hx rfl (hb hby d_prog_14_method_6_code_22) rfl rfl ?_
    show Steps p.tables e below (T6.setTop (mkF m 24 #[.val (.ref u3), .val (.int (0 : Int32)), .val (.ref h0.size), .val (.int (7 : Int32)), .val (.int (5 : Int32)), .val (.ref b5)] [(.ref b5)])) _
    refine st7 _ ?_
    show Steps p.tables e below (T7.setTop (mkF m 27 #[.val (.ref u3), .val (.int (0 : Int32)), .val (.ref h0.size), .val (.int (7 : Int32)), .val (.int (5 : Int32)), .val (.ref b5)] [(.ref u2)])) _
    refine XS.aloadN X7.here hx rfl (hb hby d_prog_14_method_6_code_27) rfl rfl ?_
    show Steps p.tables e below (T7.setTop (mkF m 28 #[.val (.ref u3), .val (.int (0 : Int32)), .val (.ref h0.size), .val (.int (7 : Int32)), .val (.int (5 : Int32)), .val (.ref b5)] [(.ref u3), (.ref u2)])) _
    refine acmp X7 hx rfl rfl rfl (pc0 := 28) (pc' := 43) (same := false) rfl (hb hby d_prog_14_method_6_code_28) rfl (decide_eq_false fun q => ne23 (Value.ref.inj q)) (by decide) (by decide) ?_
    show Steps p.tables e below (T7.setTop (mkF m 43 #[.val (.ref u3), .val (.int (0 : Int32)), .val (.ref h0.size), .val (.int (7 : Int32)), .val (.int (5 : Int32)), .val (.ref b5)] [])) _
    refine XT.iincV X7.here hx rfl (1 : Int32) (hb hby d_prog_14_method_6_code_43) (by decide) rfl (l' := #[.val (.ref u3), .val (.int (0 : Int32)), .val (.ref h0.size), .val (.int (7 : Int32)), .val (.int (6 : Int32)), .val (.ref b5)]) rfl ?_
    show Steps p.tables e below (T7.setTop (mkF m 46 #[.val (.ref u3), .val (.int (0 : Int32)), .val (.ref h0.size), .val (.int (7 : Int32)), .val (.int (6 : Int32)), .val (.ref b5)] [])) _
    refine XS.goto X7.here hx rfl (pc0 := 46) (pc' := 10) rfl (hb hby d_prog_14_method_6_code_46) (by decide) (by decide) ?_
    show Steps p.tables e below (T7.setTop (mkF m 10 #[.val (.ref u3), .val (.int (0 : Int32)), .val (.ref h0.size), .val (.int (7 : Int32)), .val (.int (6 : Int32)), .val (.ref b5)] [])) _
    refine XS.iload X7.here hx rfl (hb hby d_prog_14_method_6_code_10) rfl ?_
    show Steps p.tables e below (T7.setTop (mkF m 12 #[.val (.ref u3), .val (.int (0 : Int32)), .val (.ref h0.size), .val (.int (7 : Int32)), .val (.int (6 : Int32)), .val (.ref b5)] [(.int (6 : Int32))])) _
    refine XS.iloadN X7.here hx rfl (hb hby d_prog_14_method_6_code_12) rfl ?_
    show Steps p.tables e below (T7.setTop (mkF m 13 #[.val (.ref u3), .val (.int (0 : Int32)), .val (.ref h0.size), .val (.int (7 : Int32)), .val (.int (6 : Int32)), .val (.ref b5)] [(.int (7 : Int32)), (.int (6 : Int32))])) _
    refine XS.icmpNo X7.here hx rfl (hb hby d_prog_14_method_6_code_13) rfl (by decide) ?_
    show Steps p.tables e below (T7.setTop (mkF m 16 #[.val (.ref u3), .val (.int (0 : Int32)), .val (.ref h0.size), .val (.int (7 : Int32)), .val (.int (6 : Int32)), .val (.ref b5)] [])) _
    refine XS.aloadN X7.here hx rfl (hb hby d_prog_14_method_6_code_16) rfl rfl ?_
    show Steps p.tables e below (T7.setTop (mkF m 17 #[.val (.ref u3), .val (.int (0 : Int32)), .val (.ref h0.size), .val (.int (7 : Int32)), .val (.int (6 : Int32)), .val (.ref b5)] [(.ref h0.size)])) _
    refine XS.iload X7.here hx rfl (hb hby d_prog_14_method_6_code_17) rfl ?_
    show Steps p.tables e below (T7.setTop (mkF m 19 #[.val (.ref u3), .val (.int (0 : Int32)), .val (.ref h0.size), .val (.int (7 : Int32)), .val (.int (6 : Int32)), .val (.ref b5)] [(.int (6 : Int32)), (.ref h0.size)])) _
    refine X7.aaload hx (j := (6 : Int32)) (v := (.ref b6)) (by first | exact Ar.1 | (rw [e7]; exact Ar.1)) (State.isArrayOf_alike hZ.alike Ar.2.1) rfl Ar.2.2 (inb_of Sz ⟨by decide, by decide⟩) (Hs.at (inb_of Sz ⟨by decide, by decide⟩) rfl) (g := (mkF m 19 #[.val (.ref u3), .val (.int (0 : Int32)), .val (.ref h0.size), .val (.int (7 : Int32)), .val (.int (6 : Int32)), .val (.ref b5)] [(.int (6 : Int32)), (.ref h0.size)])) rfl rfl (hb hby d_prog_14_method_6_code_19) _ ?_
    show Steps p.tables e below (T7.setTop (mkF m 20 #[.val (.ref u3), .val (.int (0 : Int32)), .val (.ref h0.size), .val (.int (7 : Int32)), .val (.int (6 : Int32)), .val (.ref b5)] [(.ref b6)])) _
    refine XS.astore X7.here hx rfl (hb hby d_prog_14_method_6_code_20) rfl rfl (l' := #[.val (.ref u3), .val (.int (0 : Int32)), .val (.ref h0.size), .val (.int (7 : Int32)), .val (.int (6 : Int32)), .val (.ref b6)]) rfl ?_
    show Steps p.tables e below (T7.setTop (mkF m 22 #[.val (.ref u3), .val (.int (0 : Int32)), .val (.ref h0.size), .val (.int (7 : Int32)), .val (.int (6 : Int32)), .val (.ref b6)] [])) _
    refine XS.aload X7.here hx rfl (hb hby d_prog_14_method_6_code_22) rfl rfl ?_
    show Steps p.tables e below (T7.setTop (mkF m 24 #[.val (.ref u3), .val (.int (0 : Int32)), .val (.ref h0.size), .val (.int (7 : Int32)), .val (.int (6 : Int32)), .val (.ref b6)] [(.ref b6)])) _
    refine st8 _ ?_
    show Steps p.tables e below (T8.setTop (mkF m 27 #[.val (.ref u3), .val (.int (0 : Int32)), .val (.ref h0.size), .val (.int (7 : Int32)), .val (.int (6 : Int32)), .val (.ref b6)] [(.ref u3)])) _
    refine XS.aloadN X8.here hx rfl (hb hby d_prog_14_method_6_code_27) rfl rfl ?_
    show Steps p.tables e below (T8.setTop (mkF m 28 #[.val (.ref u3), .val (.int (0 : Int32)), .val (.ref h0.size), .val (.int (7 : Int32)), .val (.int (6 : Int32)), .val (.ref b6)] [(.ref u3), (.ref u3)])) _
    refine acmp X8 hx rfl rfl rfl (pc0 := 28) (pc' := 31) (same := true) rfl (hb hby d_prog_14_method_6_code_28) rfl (decide_eq_true rfl) (by decide) (by decide) ?_
    show Steps p.tables e below (T8.setTop (mkF m 31 #[.val (.ref u3), .val (.int (0 : Int32)), .val (.ref h0.size), .val (.int (7 : Int32)), .val (.int (6 : Int32)), .val (.ref b6)] [])) _
    refine XS.aload X8.here hx rfl (hb hby d_prog_14_method_6_code_31) rfl rfl ?_
    show Steps p.tables e below (T8.setTop (mkF m 33 #[.val (.ref u3), .val (.int (0 : Int32)), .val (.ref h0.size), .val (.int (7 : Int32)), .val (.int (6 : Int32)), .val (.ref b6)] [(.ref b6)])) _
    refine st9 _ ?_
    show Steps p.tables e below (T9.setTop (mkF m 36 #[.val (.ref u3), .val (.int (0 : Int32)), .val (.ref h0.size), .val (.int (7 : Int32)), .val (.int (6 : Int32)), .val (.ref b6)] [(.int (0 : Int32))])) _
    refine XS.iloadN X9.here hx rfl (hb hby d_prog_14_method_6_code_36) rfl ?_
    show Steps p.tables e below (T9.setTop (mkF m 37 #[.val (.ref u3), .val (.int (0 : Int32)), .val (.ref h0.size), .val (.int (7 : Int32)), .val (.int (6 : Int32)), .val (.ref b6)] [(.int (0 : Int32)), (.int (0 : Int32))])) _
    refine XS.icmpNo X9.here hx rfl (hb hby d_prog_14_method_6_code_37) rfl (by decide) ?_
    show Steps p.tables e below (T9.setTop (mkF m 40 #[.val (.ref u3), .val (.int (0 : Int32)), .val (.ref h0.size), .val (.int (7 : Int32)), .val (.int (6 : Int32)), .val (.ref b6)] [])) _
    refine XS.aload X9.here hx rfl (hb hby d_prog_14_method_6_code_40) rfl rfl ?_
    show Steps p.tables e below (T9.setTop (mkF m 42 #[.val (.ref u3), .val (.int (0 : Int32)), .val (.ref h0.size), .val (.int (7 : Int32)), .val (.int (6 : Int32)), .val (.ref b6)] [(.ref b6)])) _
    exact retOut X9 hx Bd.returns rfl (Or.inr (Or.inr (Or.inr (Or.inr ⟨rfl, rfl, rfl⟩)))) (hb hby d_prog_14_method_6_code_42) hr
  · exact ⟨rfl, N1, by show Ext h0 T9.heap; rw [e9]; exact Ex1⟩
theorem d_method_3_code_56 : decode method_3_code 56 = .ok (.iload_n 1, 1) := by decide +kernel
theorem d_method_3_code_57 : decode method_3_code 57 = .ok (.ifCond .eq 7, 3) := by decide +kernel
theorem d_method_3_code_64 : decode method_3_code 64 = .ok (.getstatic 43, 3) := by decide +kernel
theorem d_method_3_code_67 : decode method_3_code 67 = .ok (.areturn, 1) := by decide +kernel
def Q_eof_3_0 (Z : State) (b6 : Addr) (h0 : Heap) (n0 : Nat) (v : Option Value) (h : Heap) (L : List Loc) : Prop := v = some (.ref b6) ∧ Fr n0 L ∧ h = h0
set_option maxRecDepth 65536 in
set_option maxHeartbeats 40000000 in
theorem eof_3_0 (l : Launch) (Z : State) (a0 : Array Value) (hw : ∀ d ∈ tables_1, d.before a0 Z = true) (ws : List Jvm.Cond) (b6 : Addr) (h0 : Heap) (n0 : Nat) (Z0 : n0 ≤ h0.size) (Sb6 : Sta Z h0 "com/example/innesco/innesco/database/TriggerEvent" "AFTER_UNDELETE" "Lcom/example/innesco/innesco/database/TriggerEvent;" (.ref b6)) :
    MetFree l (⟨"com/example/innesco/innesco/database/TriggerEventOfPinLaw", "expectedOf", "(IZ)Lcom/example/innesco/innesco/database/TriggerEvent;"⟩ : MethodName) (head1 (Jvm.Cond.code (⟨"com/example/innesco/innesco/database/TriggerEventOfPinLaw", "expectedOf", "(IZ)Lcom/example/innesco/innesco/database/TriggerEvent;"⟩ : MethodName) method_3_code 2 (Option.some (Jvm.ClassFile.FieldType.object "com/example/innesco/innesco/database/TriggerEvent")) :: ws) ({ frames := 0, cells := 0, slots := 0, locals := 0 } : Room)) (fun a U => a = #[(.int (3 : Int32)), (.int (0 : Int32))] ∧ Z.Warmed39 U.vm ∧ U.heap = h0) (fun _ _ _ _ _ => True) (fun _ U o U' => ∃ v L, o = .returned v ∧ Q_eof_3_0 Z b6 h0 n0 v U'.heap L ∧ FrameEnd U o U' L ({ frames := 0, cells := 0, slots := 0, locals := 0 } : Room).cells ({ frames := 0, cells := 0, slots := 0, locals := 0 } : Room).slots) := by
  refine MetFree.of_bodySF (plainFor_of_name pn_11) hisR ?_
  intro p e s m args below meth c s₁ Bd hml0 hP hK
  obtain ⟨rfl, hZ, hh⟩ := hP
  have hx := Bd.exec
  have hby := Bd.bytes
  have hml : c.maxLocals = 2 := hml0
  have hown : s.vm.findClass "com/example/innesco/innesco/database/TriggerEventOfPinLaw" = some m.cls := findClass_of_methodNamed Bd.named
  have hnm := (name_of_methodNamed Bd.named Bd.method).1
  have X0 : Stand p l e ({ frames := 0, cells := 0, slots := 0, locals := 0 } : Room) s m #[(.int (3 : Int32)), (.int (0 : Int32))] below meth c s₁ [] 0 0 := Stand.of_body Bd
  have e0 : s₁.heap = h0 := by rw [← hh, Bd.state]; rfl
  have N0 := Fr.nil n0
  have pre0 : ∀ t, Steps p.tables e below (s₁.setTop (mkF m 0 #[.val (.int (3 : Int32)), .val (.int (0 : Int32))] [])) t → Steps p.tables e below (s₁.setTop (entryFrame m #[(.int (3 : Int32)), (.int (0 : Int32))] 2)) t := fun t k => castTop (ef_46 m (3 : Int32) (0 : Int32)) k
  obtain ⟨T1, X1, e1, st1⟩ := getS X0 hx hZ (host := "") hown (hw _ (List.mem_of_getElem? (i := 51) rfl)) Via.refl e0 Sb6 (g := (mkF m 64 #[.val (.int (3 : Int32)), .val (.int (0 : Int32))] [])) rfl (hb hby d_method_3_code_64)
  obtain ⟨fs, hr, hrun, hended, hW, hsame⟩ := X1.leave (v := some (.ref b6)) (fun h => by rw [Bd.returns] at h; cases h)
  refine ⟨_, _, pre0 _ ?_, hrun, hended, _, _, rfl, ?_, ⟨_, rfl⟩, hW, hsame.mono (by decide) (by decide)⟩
  · show Steps p.tables e below (s₁.setTop (mkF m 0 #[.val (.int (3 : Int32)), .val (.int (0 : Int32))] [])) _
    refine XS.iloadN X0.here hx rfl (hb hby d_method_3_code_0) rfl ?_
    show Steps p.tables e below (s₁.setTop (mkF m 1 #[.val (.int (3 : Int32)), .val (.int (0 : Int32))] [(.int (3 : Int32))])) _
    refine XS.ifYes X0.here hx rfl (pc0 := 1) (pc' := 18) rfl (hb hby d_method_3_code_1) rfl (by decide) (by decide) (by decide) ?_
    show Steps p.tables e below (s₁.setTop (mkF m 18 #[.val (.int (3 : Int32)), .val (.int (0 : Int32))] [])) _
    refine XS.iloadN X0.here hx rfl (hb hby d_method_3_code_18) rfl ?_
    show Steps p.tables e below (s₁.setTop (mkF m 19 #[.val (.int (3 : Int32)), .val (.int (0 : Int32))] [(.int (3 : Int32))])) _
    refine XT.iconstV X0.here hx rfl (1 : Int32) (hb hby d_method_3_code_19) (by decide) ?_
    show Steps p.tables e below (s₁.setTop (mkF m 20 #[.val (.int (3 : Int32)), .val (.int (0 : Int32))] [(.int (1 : Int32)), (.int (3 : Int32))])) _
    refine XS.icmpYes X0.here hx rfl (pc0 := 20) (pc' := 37) rfl (hb hby d_method_3_code_20) rfl (by decide) (by decide) (by decide) ?_
    show Steps p.tables e below (s₁.setTop (mkF m 37 #[.val (.int (3 : Int32)), .val (.int (0 : Int32))] [])) _
    refine XS.iloadN X0.here hx rfl (hb hby d_method_3_code_37) rfl ?_
    show Steps p.tables e below (s₁.setTop (mkF m 38 #[.val (.int (3 : Int32)), .val (.int (0 : Int32))] [(.int (3 : Int32))])) _
    refine XT.iconstV X0.here hx rfl (2 : Int32) (hb hby d_method_3_code_38) (by decide) ?_
    show Steps p.tables e below (s₁.setTop (mkF m 39 #[.val (.int (3 : Int32)), .val (.int (0 : Int32))] [(.int (2 : Int32)), (.int (3 : Int32))])) _
    refine XS.icmpYes X0.here hx rfl (pc0 := 39) (pc' := 56) rfl (hb hby d_method_3_code_39) rfl (by decide) (by decide) (by decide) ?_
    show Steps p.tables e below (s₁.setTop (mkF m 56 #[.val (.int (3 : Int32)), .val (.int (0 : Int32))] [])) _
    refine XS.iloadN X0.here hx rfl (hb hby d_method_3_code_56) rfl ?_
    show Steps p.tables e below (s₁.setTop (mkF m 57 #[.val (.int (3 : Int32)), .val (.int (0 : Int32))] [(.int (0 : Int32))])) _
    refine XS.ifYes X0.here hx rfl (pc0 := 57) (pc' := 64) rfl (hb hby d_method_3_code_57) rfl (by decide) (by decide) (by decide) ?_
    show Steps p.tables e below (s₁.setTop (mkF m 64 #[.val (.int (3 : Int32)), .val (.int (0 : Int32))] [])) _
    refine st1 _ ?_
    show Steps p.tables e below (T1.setTop (mkF m 67 #[.val (.int (3 : Int32)), .val (.int (0 : Int32))] [(.ref b6)])) _
    exact retOut X1 hx Bd.returns rfl (Or.inr (Or.inr (Or.inr (Or.inr ⟨rfl, rfl, rfl⟩)))) (hb hby d_method_3_code_67) hr
  · exact ⟨rfl, N0, e1⟩
def Q_law_3_0 (Z : State) (p1 p2 : Int32) (aV : Addr) (kV : ClassId) (b0 b1 b2 b3 b4 b5 b6 : Addr) (u0 u1 u2 u3 : Addr) (h0 : Heap) (n0 : Nat) (v : Option Value) (h : Heap) (L : List Loc) : Prop := v = some (.int 1) ∧ Fr n0 L ∧ True
set_option maxRecDepth 65536 in
set_option maxHeartbeats 40000000 in
theorem law_3_0 (l : Launch) (Z : State) (a0 : Array Value) (hw : ∀ d ∈ tables_1, d.before a0 Z = true) (ws : List Jvm.Cond) (p1 p2 : Int32) (aV : Addr) (kV : ClassId) (b0 b1 b2 b3 b4 b5 b6 : Addr) (u0 u1 u2 u3 : Addr) (h0 : Heap) (n0 : Nat) (Z0 : n0 ≤ h0.size) (SaV : Sta Z h0 "com/example/innesco/innesco/database/TriggerEvent" "$VALUES" "[Lcom/example/innesco/innesco/database/TriggerEvent;" (.ref aV)) (VaV : Arv Z h0 aV kV (.object "com/example/innesco/innesco/database/TriggerEvent") (7 : Int32) [(.ref b0), (.ref b1), (.ref b2), (.ref b3), (.ref b4), (.ref b5), (.ref b6)] .null) (EaV : Exa Z h0 aV "[Lcom/example/innesco/innesco/database/TriggerEvent;")(Fw0 : Fld Z h0 b0 "com/example/innesco/innesco/database/TriggerEvent" "write" "Lcom/example/innesco/innesco/database/Write;" (.ref u0))(Fw1 : Fld Z h0 b1 "com/example/innesco/innesco/database/TriggerEvent" "write" "Lcom/example/innesco/innesco/database/Write;" (.ref u0))(Fw2 : Fld Z h0 b2 "com/example/innesco/innesco/database/TriggerEvent" "write" "Lcom/example/innesco/innesco/database/Write;" (.ref u1))(Fw3 : Fld Z h0 b3 "com/example/innesco/innesco/database/TriggerEvent" "write" "Lcom/example/innesco/innesco/database/Write;" (.ref u1))(Fw4 : Fld Z h0 b4 "com/example/innesco/innesco/database/TriggerEvent" "write" "Lcom/example/innesco/innesco/database/Write;" (.ref u2))(Fw5 : Fld Z h0 b5 "com/example/innesco/innesco/database/TriggerEvent" "write" "Lcom/example/innesco/innesco/database/Write;" (.ref u2))(Fw6 : Fld Z h0 b6 "com/example/innesco/innesco/database/TriggerEvent" "write" "Lcom/example/innesco/innesco/database/Write;" (.ref u3))(Fb0 : Fld Z h0 b0 "com/example/innesco/innesco/database/TriggerEvent" "before" "Z" (.int (1 : Int32)))(Fb1 : Fld Z h0 b1 "com/example/innesco/innesco/database/TriggerEvent" "before" "Z" (.int (0 : Int32)))(Fb2 : Fld Z h0 b2 "com/example/innesco/innesco/database/TriggerEvent" "before" "Z" (.int (1 : Int32)))(Fb3 : Fld Z h0 b3 "com/example/innesco/innesco/database/TriggerEvent" "before" "Z" (.int (0 : Int32)))(Fb4 : Fld Z h0 b4 "com/example/innesco/innesco/database/TriggerEvent" "before" "Z" (.int (1 : Int32)))(Fb5 : Fld Z h0 b5 "com/example/innesco/innesco/database/TriggerEvent" "before" "Z" (.int (0 : Int32)))(Fb6 : Fld Z h0 b6 "com/example/innesco/innesco/database/TriggerEvent" "before" "Z" (.int (0 : Int32)))(ne01 : u0 ≠ u1)(ne02 : u0 ≠ u2)(ne03 : u0 ≠ u3)(ne12 : u1 ≠ u2)(ne13 : u1 ≠ u3)(ne23 : u2 ≠ u3)(Su3 : Sta Z h0 "com/example/innesco/innesco/database/Write" "UNDELETE" "Lcom/example/innesco/innesco/database/Write;" (.ref u3))(Sb6 : Sta Z h0 "com/example/innesco/innesco/database/TriggerEvent" "AFTER_UNDELETE" "Lcom/example/innesco/innesco/database/TriggerEvent;" (.ref b6))(hk0 : p1 &&& (3 : Int32) = (3 : Int32)) (hb0 : p2 &&& (1 : Int32) = (0 : Int32)) :
    MetFree l x (head1 (Jvm.Cond.code x code maxLocals ret :: ws) room_1) (fun a U => a = #[(.int p1), (.int p2)] ∧ Z.Warmed39 U.vm ∧ U.heap = h0) (fun _ _ _ _ _ => True) (fun _ U o U' => ∃ v L, o = .returned v ∧ Q_law_3_0 Z p1 p2 aV kV b0 b1 b2 b3 b4 b5 b6 u0 u1 u2 u3 h0 n0 v U'.heap L ∧ FrameEnd U o U' L 16 128) := by
  refine MetFree.of_bodySF (plainFor_of_name pn_11) hisR ?_
  intro p e s m args below meth c s₁ Bd hml0 hP hK
  obtain ⟨rfl, hZ, hh⟩ := hP
  have hx := Bd.exec
  have hby := Bd.bytes
  have hml : c.maxLocals = 7 := hml0
  have hown : s.vm.findClass "com/example/innesco/innesco/database/TriggerEventOfPinLaw" = some m.cls := findClass_of_methodNamed Bd.named
  have hnm := (name_of_methodNamed Bd.named Bd.method).1
  have X0 : Stand p l e room_1 s m #[(.int p1), (.int p2)] below meth c s₁ [] 0 0 := Stand.of_body Bd
  have e0 : s₁.heap = h0 := by rw [← hh, Bd.state]; rfl
  have N0 := Fr.nil n0
  have pre0 : ∀ t, Steps p.tables e below (s₁.setTop (mkF m 0 #[.val (.int p1), .val (.int p2), .unset, .unset, .unset, .unset, .unset] [])) t → Steps p.tables e below (s₁.setTop (entryFrame m #[(.int p1), (.int p2)] maxLocals)) t := fun t k => castTop (ef_50 m p1 p2) k
  obtain ⟨_, _, ⟨T1, L1, k1, n1⟩, -, X1, ⟨Lc1, hQ1, l1, y1, z1⟩, st1⟩ := Jvm.LawKit.callS X0 hx (y := (⟨"com/example/innesco/innesco/database/TriggerEventOfPinLaw", "writeOf", "(I)Lcom/example/innesco/innesco/database/Write;"⟩ : MethodName)) hown (mvT hZ (hw _ (List.mem_of_getElem? (i := 0) rfl))) (mvT hZ (hw _ (List.mem_of_getElem? (i := 1) rfl))) (mvT hZ (hw _ (List.mem_of_getElem? (i := 2) rfl))) (mvT hZ (hw _ (List.mem_of_getElem? (i := 3) rfl))) (by decide) (backOf (W := 0) (wof_3 l Z a0 hw [] u3 h0 n0 Z0 Su3) hZ (hw _ (List.mem_of_getElem? (i := 3) rfl)) (hw _ (List.mem_of_getElem? (i := 2) rfl)) (by decide) (by decide)) (g := (mkF m 17 #[.val (.int p1), .val (.int p2), .val (.int (3 : Int32)), .val (.int (0 : Int32)), .unset, .unset, .unset] [(.int (3 : Int32))])) rfl (by rw [hml]; rfl) (argsL := [(.int (3 : Int32))]) (rest := []) (lenOf pd_47 rfl) rfl (by show 2 * 0 + _ ≤ _; exact Nat.le_of_eq rfl) (hb hby at_17) (fun _ _ => ⟨rfl, e0, (by decide : 0 + 0 ≤ _), (by decide : 0 + 0 ≤ _)⟩)
  dsimp only [Pt.U, Pt.locs, Pt.cells, Pt.slots] at X1 l1 y1 z1 st1 hQ1
  subst l1 y1 z1
  obtain ⟨rfl, N1q, e1⟩ := hQ1
  have N1 := Fr.app N0 N1q
  obtain ⟨_, _, ⟨T2, L2, k2, n2⟩, -, X2, ⟨Lc2, hQ2, l2, y2, z2⟩, st2⟩ := Jvm.LawKit.callS X1 hx (y := (⟨"com/example/innesco/innesco/database/TriggerEventOfPinLaw", "expectedOf", "(IZ)Lcom/example/innesco/innesco/database/TriggerEvent;"⟩ : MethodName)) hown (mvT hZ (hw _ (List.mem_of_getElem? (i := 7) rfl))) (mvT hZ (hw _ (List.mem_of_getElem? (i := 8) rfl))) (mvT hZ (hw _ (List.mem_of_getElem? (i := 2) rfl))) (mvT hZ (hw _ (List.mem_of_getElem? (i := 9) rfl))) (by decide) (backOf (W := 0) (eof_3_0 l Z a0 hw [] b6 h0 n0 Z0 Sb6) hZ (hw _ (List.mem_of_getElem? (i := 9) rfl)) (hw _ (List.mem_of_getElem? (i := 2) rfl)) (by decide) (by decide)) (g := (mkF m 24 #[.val (.int p1), .val (.int p2), .val (.int (3 : Int32)), .val (.int (0 : Int32)), .val (.ref u3), .unset, .unset] [(.int (0 : Int32)), (.int (3 : Int32))])) rfl (by rw [hml]; rfl) (argsL := [(.int (3 : Int32)), (.int (0 : Int32))]) (rest := []) (lenOf pd_48 rfl) rfl (by show 2 * 0 + _ ≤ _; exact Nat.le_of_eq rfl) (hb hby at_24) (fun _ _ => ⟨rfl, e1, (by decide : 0 + 0 ≤ _), (by decide : 0 + 0 ≤ _)⟩)
  dsimp only [Pt.U, Pt.locs, Pt.cells, Pt.slots] at X2 l2 y2 z2 st2 hQ2
  subst l2 y2 z2
  obtain ⟨rfl, N2q, e2⟩ := hQ2
  have N2 := Fr.app N1 N2q
  obtain ⟨_, _, ⟨T3, L3, k3, n3⟩, -, X3, ⟨Lc3, hQ3, l3, y3, z3⟩, st3⟩ := Jvm.LawKit.callS X2 hx (y := (⟨"com/example/innesco/innesco/database/TriggerEvent", "of", "(Lcom/example/innesco/innesco/database/Write;Z)Lcom/example/innesco/innesco/database/TriggerEvent;"⟩ : MethodName)) hown (mvT hZ (hw _ (List.mem_of_getElem? (i := 13) rfl))) (mvT hZ (hw _ (List.mem_of_getElem? (i := 14) rfl))) (mvT hZ (hw _ (List.mem_of_getElem? (i := 11) rfl))) (mvT hZ (hw _ (List.mem_of_getElem? (i := 15) rfl))) (by decide) (backOf (W := 0) (of_3_0 l Z a0 hw [] aV kV b0 b1 b2 b3 b4 b5 b6 u0 u1 u2 u3 h0 n0 Z0 SaV VaV EaV Fw0 Fw1 Fw2 Fw3 Fw4 Fw5 Fw6 Fb0 Fb1 Fb2 Fb3 Fb4 Fb5 Fb6 ne01 ne02 ne03 ne12 ne13 ne23) hZ (hw _ (List.mem_of_getElem? (i := 15) rfl)) (hw _ (List.mem_of_getElem? (i := 11) rfl)) (by decide) (by decide)) (g := (mkF m 32 #[.val (.int p1), .val (.int p2), .val (.int (3 : Int32)), .val (.int (0 : Int32)), .val (.ref u3), .val (.ref b6), .unset] [(.int (0 : Int32)), (.ref u3)])) rfl (by rw [hml]; rfl) (argsL := [(.ref u3), (.int (0 : Int32))]) (rest := []) (lenOf pd_49 rfl) rfl (by show 2 * 0 + _ ≤ _; exact Nat.le_of_eq rfl) (hb hby at_32) (fun _ _ => ⟨rfl, e2, (by decide : 0 + 1 ≤ _), (by decide : 0 + 7 ≤ _)⟩)
  dsimp only [Pt.U, Pt.locs, Pt.cells, Pt.slots] at X3 l3 y3 z3 st3 hQ3
  subst l3 y3 z3
  obtain ⟨rfl, N3q, Ex3⟩ := hQ3
  have N3 := Fr.app N2 N3q
  obtain ⟨fs, hr, hrun, hended, hW, hsame⟩ := X3.leave (v := some (.int (1 : Int32))) (fun h => by rw [Bd.returns] at h; cases h)
  refine ⟨_, _, pre0 _ ?_, hrun, hended, _, _, rfl, ?_, ⟨_, rfl⟩, hW, hsame.mono (by decide) (by decide)⟩
  · show Steps p.tables e below (s₁.setTop (mkF m 0 #[.val (.int p1), .val (.int p2), .unset, .unset, .unset, .unset, .unset] [])) _
    refine XS.iloadN X0.here hx rfl (hb hby at_0) rfl ?_
    show Steps p.tables e below (s₁.setTop (mkF m 1 #[.val (.int p1), .val (.int p2), .unset, .unset, .unset, .unset, .unset] [(.int p1)])) _
    refine XT.iconstV X0.here hx rfl (3 : Int32) (hb hby at_1) (by decide) ?_
    show Steps p.tables e below (s₁.setTop (mkF m 2 #[.val (.int p1), .val (.int p2), .unset, .unset, .unset, .unset, .unset] [(.int (3 : Int32)), (.int p1)])) _
    refine XS.iand X0.here hx rfl (hb hby at_2) rfl ?_
    show Steps p.tables e below (s₁.setTop (mkF m 3 #[.val (.int p1), .val (.int p2), .unset, .unset, .unset, .unset, .unset] [(.int (p1 &&& (3 : Int32)))])) _
    rw [hk0]
    show Steps p.tables e below (s₁.setTop (mkF m 3 #[.val (.int p1), .val (.int p2), .unset, .unset, .unset, .unset, .unset] [(.int (3 : Int32))])) _
    refine XS.istoreN X0.here hx rfl (hb hby at_3) rfl (l' := #[.val (.int p1), .val (.int p2), .val (.int (3 : Int32)), .unset, .unset, .unset, .unset]) rfl ?_
    show Steps p.tables e below (s₁.setTop (mkF m 4 #[.val (.int p1), .val (.int p2), .val (.int (3 : Int32)), .unset, .unset, .unset, .unset] [])) _
    refine XS.iloadN X0.here hx rfl (hb hby at_4) rfl ?_
    show Steps p.tables e below (s₁.setTop (mkF m 5 #[.val (.int p1), .val (.int p2), .val (.int (3 : Int32)), .unset, .unset, .unset, .unset] [(.int p2)])) _
    refine XT.iconstV X0.here hx rfl (1 : Int32) (hb hby at_5) (by decide) ?_
    show Steps p.tables e below (s₁.setTop (mkF m 6 #[.val (.int p1), .val (.int p2), .val (.int (3 : Int32)), .unset, .unset, .unset, .unset] [(.int (1 : Int32)), (.int p2)])) _
    refine XS.iand X0.here hx rfl (hb hby at_6) rfl ?_
    show Steps p.tables e below (s₁.setTop (mkF m 7 #[.val (.int p1), .val (.int p2), .val (.int (3 : Int32)), .unset, .unset, .unset, .unset] [(.int (p2 &&& (1 : Int32)))])) _
    rw [hb0]
    show Steps p.tables e below (s₁.setTop (mkF m 7 #[.val (.int p1), .val (.int p2), .val (.int (3 : Int32)), .unset, .unset, .unset, .unset] [(.int (0 : Int32))])) _
    refine XS.ifYes X0.here hx rfl (pc0 := 7) (pc' := 14) rfl (hb hby at_7) rfl (by decide) (by decide) (by decide) ?_
    show Steps p.tables e below (s₁.setTop (mkF m 14 #[.val (.int p1), .val (.int p2), .val (.int (3 : Int32)), .unset, .unset, .unset, .unset] [])) _
    refine XT.iconstV X0.here hx rfl (0 : Int32) (hb hby at_14) (by decide) ?_
    show Steps p.tables e below (s₁.setTop (mkF m 15 #[.val (.int p1), .val (.int p2), .val (.int (3 : Int32)), .unset, .unset, .unset, .unset] [(.int (0 : Int32))])) _
    refine XS.istoreN X0.here hx rfl (hb hby at_15) rfl (l' := #[.val (.int p1), .val (.int p2), .val (.int (3 : Int32)), .val (.int (0 : Int32)), .unset, .unset, .unset]) rfl ?_
    show Steps p.tables e below (s₁.setTop (mkF m 16 #[.val (.int p1), .val (.int p2), .val (.int (3 : Int32)), .val (.int (0 : Int32)), .unset, .unset, .unset] [])) _
    refine XS.iloadN X0.here hx rfl (hb hby at_16) rfl ?_
    show Steps p.tables e below (s₁.setTop (mkF m 17 #[.val (.int p1), .val (.int p2), .val (.int (3 : Int32)), .val (.int (0 : Int32)), .unset, .unset, .unset] [(.int (3 : Int32))])) _
    refine st1 _ ?_
    show Steps p.tables e below (T1.setTop (mkF m 20 #[.val (.int p1), .val (.int p2), .val (.int (3 : Int32)), .val (.int (0 : Int32)), .unset, .unset, .unset] [(.ref u3)])) _
    refine XS.astore X1.here hx rfl (hb hby at_20) rfl rfl (l' := #[.val (.int p1), .val (.int p2), .val (.int (3 : Int32)), .val (.int (0 : Int32)), .val (.ref u3), .unset, .unset]) rfl ?_
    show Steps p.tables e below (T1.setTop (mkF m 22 #[.val (.int p1), .val (.int p2), .val (.int (3 : Int32)), .val (.int (0 : Int32)), .val (.ref u3), .unset, .unset] [])) _
    refine XS.iloadN X1.here hx rfl (hb hby at_22) rfl ?_
    show Steps p.tables e below (T1.setTop (mkF m 23 #[.val (.int p1), .val (.int p2), .val (.int (3 : Int32)), .val (.int (0 : Int32)), .val (.ref u3), .unset, .unset] [(.int (3 : Int32))])) _
    refine XS.iloadN X1.here hx rfl (hb hby at_23) rfl ?_
    show Steps p.tables e below (T1.setTop (mkF m 24 #[.val (.int p1), .val (.int p2), .val (.int (3 : Int32)), .val (.int (0 : Int32)), .val (.ref u3), .unset, .unset] [(.int (0 : Int32)), (.int (3 : Int32))])) _
    refine st2 _ ?_
    show Steps p.tables e below (T2.setTop (mkF m 27 #[.val (.int p1), .val (.int p2), .val (.int (3 : Int32)), .val (.int (0 : Int32)), .val (.ref u3), .unset, .unset] [(.ref b6)])) _
    refine XS.astore X2.here hx rfl (hb hby at_27) rfl rfl (l' := #[.val (.int p1), .val (.int p2), .val (.int (3 : Int32)), .val (.int (0 : Int32)), .val (.ref u3), .val (.ref b6), .unset]) rfl ?_
    show Steps p.tables e below (T2.setTop (mkF m 29 #[.val (.int p1), .val (.int p2), .val (.int (3 : Int32)), .val (.int (0 : Int32)), .val (.ref u3), .val (.ref b6), .unset] [])) _
    refine XS.aload X2.here hx rfl (hb hby at_29) rfl rfl ?_
    show Steps p.tables e below (T2.setTop (mkF m 31 #[.val (.int p1), .val (.int p2), .val (.int (3 : Int32)), .val (.int (0 : Int32)), .val (.ref u3), .val (.ref b6), .unset] [(.ref u3)])) _
    refine XS.iloadN X2.here hx rfl (hb hby at_31) rfl ?_
    show Steps p.tables e below (T2.setTop (mkF m 32 #[.val (.int p1), .val (.int p2), .val (.int (3 : Int32)), .val (.int (0 : Int32)), .val (.ref u3), .val (.ref b6), .unset] [(.int (0 : Int32)), (.ref u3)])) _
    refine st3 _ ?_
    show Steps p.tables e below (T3.setTop (mkF m 35 #[.val (.int p1), .val (.int p2), .val (.int (3 : Int32)), .val (.int (0 : Int32)), .val (.ref u3), .val (.ref b6), .unset] [(.ref b6)])) _
    refine XS.astore X3.here hx rfl (hb hby at_35) rfl rfl (l' := #[.val (.int p1), .val (.int p2), .val (.int (3 : Int32)), .val (.int (0 : Int32)), .val (.ref u3), .val (.ref b6), .val (.ref b6)]) rfl ?_
    show Steps p.tables e below (T3.setTop (mkF m 37 #[.val (.int p1), .val (.int p2), .val (.int (3 : Int32)), .val (.int (0 : Int32)), .val (.ref u3), .val (.ref b6), .val (.ref b6)] [])) _
    refine XS.aload X3.here hx rfl (hb hby at_37) rfl rfl ?_
    show Steps p.tables e below (T3.setTop (mkF m 39 #[.val (.int p1), .val (.int p2), .val (.int (3 : Int32)), .val (.int (0 : Int32)), .val (.ref u3), .val (.ref b6), .val (.ref b6)] [(.ref b6)])) _
    refine XS.aload X3.here hx rfl (hb hby at_39) rfl rfl ?_
    show Steps p.tables e below (T3.setTop (mkF m 41 #[.val (.int p1), .val (.int p2), .val (.int (3 : Int32)), .val (.int (0 : Int32)), .val (.ref u3), .val (.ref b6), .val (.ref b6)] [(.ref b6), (.ref b6)])) _
    refine acmp X3 hx rfl rfl rfl (pc0 := 41) (pc' := 44) (same := true) rfl (hb hby at_41) rfl (decide_eq_true rfl) (by decide) (by decide) ?_
    show Steps p.tables e below (T3.setTop (mkF m 44 #[.val (.int p1), .val (.int p2), .val (.int (3 : Int32)), .val (.int (0 : Int32)), .val (.ref u3), .val (.ref b6), .val (.ref b6)] [])) _
    refine XT.iconstV X3.here hx rfl (1 : Int32) (hb hby at_44) (by decide) ?_
    show Steps p.tables e below (T3.setTop (mkF m 45 #[.val (.int p1), .val (.int p2), .val (.int (3 : Int32)), .val (.int (0 : Int32)), .val (.ref u3), .val (.ref b6), .val (.ref b6)] [(.int (1 : Int32))])) _
    refine XS.goto X3.here hx rfl (pc0 := 45) (pc' := 49) rfl (hb hby at_45) (by decide) (by decide) ?_
    show Steps p.tables e below (T3.setTop (mkF m 49 #[.val (.int p1), .val (.int p2), .val (.int (3 : Int32)), .val (.int (0 : Int32)), .val (.ref u3), .val (.ref b6), .val (.ref b6)] [(.int (1 : Int32))])) _
    exact retN X3 hx (t := .boolean) Bd.returns (by simp) (hb hby at_49) hr
  · exact ⟨rfl, N3, trivial⟩
theorem d_prog_14_method_6_code_49 : decode prog_14_method_6_code 49 = .ok (.aconst_null, 1) := by decide +kernel
theorem d_prog_14_method_6_code_50 : decode prog_14_method_6_code 50 = .ok (.areturn, 1) := by decide +kernel
def Q_of_3_1 (Z : State) (aV : Addr) (kV : ClassId) (b0 b1 b2 b3 b4 b5 b6 : Addr) (u0 u1 u2 u3 : Addr) (h0 : Heap) (n0 : Nat) (v : Option Value) (h : Heap) (L : List Loc) : Prop := v = some .null ∧ Fr n0 L ∧ Ext h0 h
set_option maxRecDepth 65536 in
set_option maxHeartbeats 40000000 in
theorem of_3_1 (l : Launch) (Z : State) (a0 : Array Value) (hw : ∀ d ∈ tables_1, d.before a0 Z = true) (ws : List Jvm.Cond) (aV : Addr) (kV : ClassId) (b0 b1 b2 b3 b4 b5 b6 : Addr) (u0 u1 u2 u3 : Addr) (h0 : Heap) (n0 : Nat) (Z0 : n0 ≤ h0.size) (SaV : Sta Z h0 "com/example/innesco/innesco/database/TriggerEvent" "$VALUES" "[Lcom/example/innesco/innesco/database/TriggerEvent;" (.ref aV)) (VaV : Arv Z h0 aV kV (.object "com/example/innesco/innesco/database/TriggerEvent") (7 : Int32) [(.ref b0), (.ref b1), (.ref b2), (.ref b3), (.ref b4), (.ref b5), (.ref b6)] .null) (EaV : Exa Z h0 aV "[Lcom/example/innesco/innesco/database/TriggerEvent;")(Fw0 : Fld Z h0 b0 "com/example/innesco/innesco/database/TriggerEvent" "write" "Lcom/example/innesco/innesco/database/Write;" (.ref u0))(Fw1 : Fld Z h0 b1 "com/example/innesco/innesco/database/TriggerEvent" "write" "Lcom/example/innesco/innesco/database/Write;" (.ref u0))(Fw2 : Fld Z h0 b2 "com/example/innesco/innesco/database/TriggerEvent" "write" "Lcom/example/innesco/innesco/database/Write;" (.ref u1))(Fw3 : Fld Z h0 b3 "com/example/innesco/innesco/database/TriggerEvent" "write" "Lcom/example/innesco/innesco/database/Write;" (.ref u1))(Fw4 : Fld Z h0 b4 "com/example/innesco/innesco/database/TriggerEvent" "write" "Lcom/example/innesco/innesco/database/Write;" (.ref u2))(Fw5 : Fld Z h0 b5 "com/example/innesco/innesco/database/TriggerEvent" "write" "Lcom/example/innesco/innesco/database/Write;" (.ref u2))(Fw6 : Fld Z h0 b6 "com/example/innesco/innesco/database/TriggerEvent" "write" "Lcom/example/innesco/innesco/database/Write;" (.ref u3))(Fb0 : Fld Z h0 b0 "com/example/innesco/innesco/database/TriggerEvent" "before" "Z" (.int (1 : Int32)))(Fb1 : Fld Z h0 b1 "com/example/innesco/innesco/database/TriggerEvent" "before" "Z" (.int (0 : Int32)))(Fb2 : Fld Z h0 b2 "com/example/innesco/innesco/database/TriggerEvent" "before" "Z" (.int (1 : Int32)))(Fb3 : Fld Z h0 b3 "com/example/innesco/innesco/database/TriggerEvent" "before" "Z" (.int (0 : Int32)))(Fb4 : Fld Z h0 b4 "com/example/innesco/innesco/database/TriggerEvent" "before" "Z" (.int (1 : Int32)))(Fb5 : Fld Z h0 b5 "com/example/innesco/innesco/database/TriggerEvent" "before" "Z" (.int (0 : Int32)))(Fb6 : Fld Z h0 b6 "com/example/innesco/innesco/database/TriggerEvent" "before" "Z" (.int (0 : Int32)))(ne01 : u0 ≠ u1)(ne02 : u0 ≠ u2)(ne03 : u0 ≠ u3)(ne12 : u1 ≠ u2)(ne13 : u1 ≠ u3)(ne23 : u2 ≠ u3) :
    MetFree l (⟨"com/example/innesco/innesco/database/TriggerEvent", "of", "(Lcom/example/innesco/innesco/database/Write;Z)Lcom/example/innesco/innesco/database/TriggerEvent;"⟩ : MethodName) (head1 (Jvm.Cond.code (⟨"com/example/innesco/innesco/database/TriggerEvent", "of", "(Lcom/example/innesco/innesco/database/Write;Z)Lcom/example/innesco/innesco/database/TriggerEvent;"⟩ : MethodName) prog_14_method_6_code 6 (Option.some (Jvm.ClassFile.FieldType.object "com/example/innesco/innesco/database/TriggerEvent")) :: ws) ({ frames := 2, cells := 1, slots := 7, locals := 25 } : Room)) (fun a U => a = #[(.ref u3), (.int (1 : Int32))] ∧ Z.Warmed39 U.vm ∧ U.heap = h0) (fun _ _ _ _ _ => True) (fun _ U o U' => ∃ v L, o = .returned v ∧ Q_of_3_1 Z aV kV b0 b1 b2 b3 b4 b5 b6 u0 u1 u2 u3 h0 n0 v U'.heap L ∧ FrameEnd U o U' L ({ frames := 2, cells := 1, slots := 7, locals := 25 } : Room).cells ({ frames := 2, cells := 1, slots := 7, locals := 25 } : Room).slots) := by
  refine MetFree.of_bodySF (plainFor_of_name pn_5) hisR ?_
  intro p e s m args below meth c s₁ Bd hml0 hP hK
  obtain ⟨rfl, hZ, hh⟩ := hP
  have hx := Bd.exec
  have hby := Bd.bytes
  have hml : c.maxLocals = 6 := hml0
  have hown : s.vm.findClass "com/example/innesco/innesco/database/TriggerEvent" = some m.cls := findClass_of_methodNamed Bd.named
  have hnm := (name_of_methodNamed Bd.named Bd.method).1
  have X0 : Stand p l e ({ frames := 2, cells := 1, slots := 7, locals := 25 } : Room) s m #[(.ref u3), (.int (1 : Int32))] below meth c s₁ [] 0 0 := Stand.of_body Bd
  have e0 : s₁.heap = h0 := by rw [← hh, Bd.state]; rfl
  have N0 := Fr.nil n0
  have pre0 : ∀ t, Steps p.tables e below (s₁.setTop (mkF m 0 #[.val (.ref u3), .val (.int (1 : Int32)), .unset, .unset, .unset, .unset] [])) t → Steps p.tables e below (s₁.setTop (entryFrame m #[(.ref u3), (.int (1 : Int32))] 6)) t := fun t k => castTop (ef_39 m u3 (1 : Int32)) k
  obtain ⟨_, _, ⟨T1, L1, k1, n1⟩, -, X1, ⟨Lc1, hQ1, l1, y1, z1⟩, st1⟩ := Jvm.LawKit.callS X0 hx (y := (⟨"com/example/innesco/innesco/database/TriggerEvent", "values", "()[Lcom/example/innesco/innesco/database/TriggerEvent;"⟩ : MethodName)) hown (mvT hZ (hw _ (List.mem_of_getElem? (i := 16) rfl))) (mvT hZ (hw _ (List.mem_of_getElem? (i := 17) rfl))) (mvT hZ (hw _ (List.mem_of_getElem? (i := 11) rfl))) (mvT hZ (hw _ (List.mem_of_getElem? (i := 18) rfl))) (by decide) (backOf (W := 0) (values_0 l Z a0 hw [] aV kV b0 b1 b2 b3 b4 b5 b6 h0 n0 Z0 SaV VaV EaV) hZ (hw _ (List.mem_of_getElem? (i := 18) rfl)) (hw _ (List.mem_of_getElem? (i := 11) rfl)) (by decide) (by decide)) (g := (mkF m 0 #[.val (.ref u3), .val (.int (1 : Int32)), .unset, .unset, .unset, .unset] [])) rfl (by rw [hml]; rfl) (argsL := []) (rest := []) (lenOf pd_13 rfl) rfl (by show 2 * 0 + _ ≤ _; exact Nat.le_of_eq rfl) (hb hby d_prog_14_method_6_code_0) (fun _ _ => ⟨rfl, e0, (by decide : 0 + 1 ≤ _), (by decide : 0 + 7 ≤ _)⟩)
  dsimp only [Pt.U, Pt.locs, Pt.cells, Pt.slots] at X1 l1 y1 z1 st1 hQ1
  subst l1 y1 z1
  obtain ⟨rfl, N1q, Ex1, V1⟩ := hQ1
  have N1 := Fr.app N0 N1q
  obtain ⟨cl, Ar, -, Sz, Ng, Hs, -⟩ := V1
  have hlen : cl.slots.size.toInt32 = (7 : Int32) := len_of Sz Ng
  obtain ⟨T2, X2, e2, st2⟩ := getF X1 hx hZ hown (host := "") (Or.inl (hw _ (List.mem_of_getElem? (i := 37) rfl))) Via.refl rfl (Fw0.ext Ex1) (g := (mkF m 24 #[.val (.ref u3), .val (.int (1 : Int32)), .val (.ref h0.size), .val (.int (7 : Int32)), .val (.int (0 : Int32)), .val (.ref b0)] [(.ref b0)])) rfl rfl (hb hby d_prog_14_method_6_code_24)
  obtain ⟨T3, X3, e3, st3⟩ := getF X2 hx hZ hown (host := "") (Or.inl (hw _ (List.mem_of_getElem? (i := 37) rfl))) Via.refl e2 (Fw1.ext Ex1) (g := (mkF m 24 #[.val (.ref u3), .val (.int (1 : Int32)), .val (.ref h0.size), .val (.int (7 : Int32)), .val (.int (1 : Int32)), .val (.ref b1)] [(.ref b1)])) rfl rfl (hb hby d_prog_14_method_6_code_24)
  obtain ⟨T4, X4, e4, st4⟩ := getF X3 hx hZ hown (host := "") (Or.inl (hw _ (List.mem_of_getElem? (i := 37) rfl))) Via.refl e3 (Fw2.ext Ex1) (g := (mkF m 24 #[.val (.ref u3), .val (.int (1 : Int32)), .val (.ref h0.size), .val (.int (7 : Int32)), .val (.int (2 : Int32)), .val (.ref b2)] [(.ref b2)])) rfl rfl (hb hby d_prog_14_method_6_code_24)
  obtain ⟨T5, X5, e5, st5⟩ := getF X4 hx hZ hown (host := "") (Or.inl (hw _ (List.mem_of_getElem? (i := 37) rfl))) Via.refl e4 (Fw3.ext Ex1) (g := (mkF m 24 #[.val (.ref u3), .val (.int (1 : Int32)), .val (.ref h0.size), .val (.int (7 : Int32)), .val (.int (3 : Int32)), .val (.ref b3)] [(.ref b3)])) rfl rfl (hb hby d_prog_14_method_6_code_24)
  obtain ⟨T6, X6, e6, st6⟩ := getF X5 hx hZ hown (host := "") (Or.inl (hw _ (List.mem_of_getElem? (i := 37) rfl))) Via.refl e5 (Fw4.ext Ex1) (g := (mkF m 24 #[.val (.ref u3), .val (.int (1 : Int32)), .val (.ref h0.size), .val (.int (7 : Int32)), .val (.int (4 : Int32)), .val (.ref b4)] [(.ref b4)])) rfl rfl (hb hby d_prog_14_method_6_code_24)
  obtain ⟨T7, X7, e7, st7⟩ := getF X6 hx hZ hown (host := "") (Or.inl (hw _ (List.mem_of_getElem? (i := 37) rfl))) Via.refl e6 (Fw5.ext Ex1) (g := (mkF m 24 #[.val (.ref u3), .val (.int (1 : Int32)), .val (.ref h0.size), .val (.int (7 : Int32)), .val (.int (5 : Int32)), .val (.ref b5)] [(.ref b5)])) rfl rfl (hb hby d_prog_14_method_6_code_24)
  obtain ⟨T8, X8, e8, st8⟩ := getF X7 hx hZ hown (host := "") (Or.inl (hw _ (List.mem_of_getElem? (i := 37) rfl))) Via.refl e7 (Fw6.ext Ex1) (g := (mkF m 24 #[.val (.ref u3), .val (.int (1 : Int32)), .val (.ref h0.size), .val (.int (7 : Int32)), .val (.int (6 : Int32)), .val (.ref b6)] [(.ref b6)])) rfl rfl (hb hby d_prog_14_method_6_code_24)
  obtain ⟨T9, X9, e9, st9⟩ := getF X8 hx hZ hown (host := "") (Or.inl (hw _ (List.mem_of_getElem? (i := 39) rfl))) Via.refl e8 (Fb6.ext Ex1) (g := (mkF m 33 #[.val (.ref u3), .val (.int (1 : Int32)), .val (.ref h0.size), .val (.int (7 : Int32)), .val (.int (6 : Int32)), .val (.ref b6)] [(.ref b6)])) rfl rfl (hb hby d_prog_14_method_6_code_33)
  obtain ⟨fs, hr, hrun, hended, hW, hsame⟩ := X9.leave (v := some .null) (fun h => by rw [Bd.returns] at h; cases h)
  refine ⟨_, _, pre0 _ ?_, hrun, hended, _, _, rfl, ?_, ⟨_, rfl⟩, hW, hsame.mono (by decide) (by decide)⟩
  · show Steps p.tables e below (s₁.setTop (mkF m 0 #[.val (.ref u3), .val (.int (1 : Int32)), .unset, .unset, .unset, .unset] [])) _
    refine st1 _ ?_
    show Steps p.tables e below (T1.setTop (mkF m 3 #[.val (.ref u3), .val (.int (1 : Int32)), .unset, .unset, .unset, .unset] [(.ref h0.size)])) _
    refine XS.astoreN X1.here hx rfl (hb hby d_prog_14_method_6_code_3) rfl rfl (l' := #[.val (.ref u3), .val (.int (1 : Int32)), .val (.ref h0.size), .unset, .unset, .unset]) rfl ?_
    show Steps p.tables e below (T1.setTop (mkF m 4 #[.val (.ref u3), .val (.int (1 : Int32)), .val (.ref h0.size), .unset, .unset, .unset] [])) _
    refine XS.aloadN X1.here hx rfl (hb hby d_prog_14_method_6_code_4) rfl rfl ?_
    show Steps p.tables e below (T1.setTop (mkF m 5 #[.val (.ref u3), .val (.int (1 : Int32)), .val (.ref h0.size), .unset, .unset, .unset] [(.ref h0.size)])) _
    refine X1.arraylength hx (by first | exact Ar.1 | (rw [rfl]; exact Ar.1)) (State.isArrayOf_alike hZ.alike Ar.2.1) (g := (mkF m 5 #[.val (.ref u3), .val (.int (1 : Int32)), .val (.ref h0.size), .unset, .unset, .unset] [(.ref h0.size)])) rfl rfl (hb hby d_prog_14_method_6_code_5) _ ?_
    show Steps p.tables e below (T1.setTop (mkF m 6 #[.val (.ref u3), .val (.int (1 : Int32)), .val (.ref h0.size), .unset, .unset, .unset] [(.int cl.slots.size.toInt32)])) _
    rw [hlen]
    show Steps p.tables e below (T1.setTop (mkF m 6 #[.val (.ref u3), .val (.int (1 : Int32)), .val (.ref h0.size), .unset, .unset, .unset] [(.int (7 : Int32))])) _
    refine XS.istoreN X1.here hx rfl (hb hby d_prog_14_method_6_code_6) rfl (l' := #[.val (.ref u3), .val (.int (1 : Int32)), .val (.ref h0.size), .val (.int (7 : Int32)), .unset, .unset]) rfl ?_
    show Steps p.tables e below (T1.setTop (mkF m 7 #[.val (.ref u3), .val (.int (1 : Int32)), .val (.ref h0.size), .val (.int (7 : Int32)), .unset, .unset] [])) _
    refine XT.iconstV X1.here hx rfl (0 : Int32) (hb hby d_prog_14_method_6_code_7) (by decide) ?_
    show Steps p.tables e below (T1.setTop (mkF m 8 #[.val (.ref u3), .val (.int (1 : Int32)), .val (.ref h0.size), .val (.int (7 : Int32)), .unset, .unset] [(.int (0 : Int32))])) _
    refine XS.istore X1.here hx rfl (hb hby d_prog_14_method_6_code_8) rfl (l' := #[.val (.ref u3), .val (.int (1 : Int32)), .val (.ref h0.size), .val (.int (7 : Int32)), .val (.int (0 : Int32)), .unset]) rfl ?_
    show Steps p.tables e below (T1.setTop (mkF m 10 #[.val (.ref u3), .val (.int (1 : Int32)), .val (.ref h0.size), .val (.int (7 : Int32)), .val (.int (0 : Int32)), .unset] [])) _
    refine XS.iload X1.here hx rfl (hb hby d_prog_14_method_6_code_10) rfl ?_
    show Steps p.tables e below (T1.setTop (mkF m 12 #[.val (.ref u3), .val (.int (1 : Int32)), .val (.ref h0.size), .val (.int (7 : Int32)), .val (.int (0 : Int32)), .unset] [(.int (0 : Int32))])) _
    refine XS.iloadN X1.here hx rfl (hb hby d_prog_14_method_6_code_12) rfl ?_
    show Steps p.tables e below (T1.setTop (mkF m 13 #[.val (.ref u3), .val (.int (1 : Int32)), .val (.ref h0.size), .val (.int (7 : Int32)), .val (.int (0 : Int32)), .unset] [(.int (7 : Int32)), (.int (0 : Int32))])) _
    refine XS.icmpNo X1.here hx rfl (hb hby d_prog_14_method_6_code_13) rfl (by decide) ?_
    show Steps p.tables e below (T1.setTop (mkF m 16 #[.val (.ref u3), .val (.int (1 : Int32)), .val (.ref h0.size), .val (.int (7 : Int32)), .val (.int (0 : Int32)), .unset] [])) _
    refine XS.aloadN X1.here hx rfl (hb hby d_prog_14_method_6_code_16) rfl rfl ?_
    show Steps p.tables e below (T1.setTop (mkF m 17 #[.val (.ref u3), .val (.int (1 : Int32)), .val (.ref h0.size), .val (.int (7 : Int32)), .val (.int (0 : Int32)), .unset] [(.ref h0.size)])) _
    refine XS.iload X1.here hx rfl (hb hby d_prog_14_method_6_code_17) rfl ?_
    show Steps p.tables e below (T1.setTop (mkF m 19 #[.val (.ref u3), .val (.int (1 : Int32)), .val (.ref h0.size), .val (.int (7 : Int32)), .val (.int (0 : Int32)), .unset] [(.int (0 : Int32)), (.ref h0.size)])) _
    refine X1.aaload hx (j := (0 : Int32)) (v := (.ref b0)) (by first | exact Ar.1 | (rw [rfl]; exact Ar.1)) (State.isArrayOf_alike hZ.alike Ar.2.1) rfl Ar.2.2 (inb_of Sz ⟨by decide, by decide⟩) (Hs.at (inb_of Sz ⟨by decide, by decide⟩) rfl) (g := (mkF m 19 #[.val (.ref u3), .val (.int (1 : Int32)), .val (.ref h0.size), .val (.int (7 : Int32)), .val (.int (0 : Int32)), .unset] [(.int (0 : Int32)), (.ref h0.size)])) rfl rfl (hb hby d_prog_14_method_6_code_19) _ ?_
    show Steps p.tables e below (T1.setTop (mkF m 20 #[.val (.ref u3), .val (.int (1 : Int32)), .val (.ref h0.size), .val (.int (7 : Int32)), .val (.int (0 : Int32)), .unset] [(.ref b0)])) _
    refine XS.astore X1.here hx rfl (hb hby d_prog_14_method_6_code_20) rfl rfl (l' := #[.val (.ref u3), .val (.int (1 : Int32)), .val (.ref h0.size), .val (.int (7 : Int32)), .val (.int (0 : Int32)), .val (.ref b0)]) rfl ?_
    show Steps p.tables e below (T1.setTop (mkF m 22 #[.val (.ref u3), .val (.int (1 : Int32)), .val (.ref h0.size), .val (.int (7 : Int32)), .val (.int (0 : Int32)), .val (.ref b0)] [])) _
    refine XS.aload X1.here hx rfl (hb hby d_prog_14_method_6_code_22) rfl rfl ?_
    show Steps p.tables e below (T1.setTop (mkF m 24 #[.val (.ref u3), .val (.int (1 : Int32)), .val (.ref h0.size), .val (.int (7 : Int32)), .val (.int (0 : Int32)), .val (.ref b0)] [(.ref b0)])) _
    refine st2 _ ?_
    show Steps p.tables e below (T2.setTop (mkF m 27 #[.val (.ref u3), .val (.int (1 : Int32)), .val (.ref h0.size), .val (.int (7 : Int32)), .val (.int (0 : Int32)), .val (.ref b0)] [(.ref u0)])) _
    refine XS.aloadN X2.here hx rfl (hb hby d_prog_14_method_6_code_27) rfl rfl ?_
    show Steps p.tables e below (T2.setTop (mkF m 28 #[.val (.ref u3), .val (.int (1 : Int32)), .val (.ref h0.size), .val (.int (7 : Int32)), .val (.int (0 : Int32)), .val (.ref b0)] [(.ref u3), (.ref u0)])) _
    refine acmp X2 hx rfl rfl rfl (pc0 := 28) (pc' := 43) (same := false) rfl (hb hby d_prog_14_method_6_code_28) rfl (decide_eq_false fun q => ne03 (Value.ref.inj q)) (by decide) (by decide) ?_
    show Steps p.tables e below (T2.setTop (mkF m 43 #[.val (.ref u3), .val (.int (1 : Int32)), .val (.ref h0.size), .val (.int (7 : Int32)), .val (.int (0 : Int32)), .val (.ref b0)] [])) _
    refine XT.iincV X2.here hx rfl (1 : Int32) (hb hby d_prog_14_method_6_code_43) (by decide) rfl (l' := #[.val (.ref u3), .val (.int (1 : Int32)), .val (.ref h0.size), .val (.int (7 : Int32)), .val (.int (1 : Int32)), .val (.ref b0)]) rfl ?_
    show Steps p.tables e below (T2.setTop (mkF m 46 #[.val (.ref u3), .val (.int (1 : Int32)), .val (.ref h0.size), .val (.int (7 : Int32)), .val (.int (1 : Int32)), .val (.ref b0)] [])) _
    refine XS.goto X2.here hx rfl (pc0 := 46) (pc' := 10) rfl (hb hby d_prog_14_method_6_code_46) (by decide) (by decide) ?_
    show Steps p.tables e below (T2.setTop (mkF m 10 #[.val (.ref u3), .val (.int (1 : Int32)), .val (.ref h0.size), .val (.int (7 : Int32)), .val (.int (1 : Int32)), .val (.ref b0)] [])) _
    refine XS.iload X2.here hx rfl (hb hby d_prog_14_method_6_code_10) rfl ?_
    show Steps p.tables e below (T2.setTop (mkF m 12 #[.val (.ref u3), .val (.int (1 : Int32)), .val (.ref h0.size), .val (.int (7 : Int32)), .val (.int (1 : Int32)), .val (.ref b0)] [(.int (1 : Int32))])) _
    refine XS.iloadN X2.here hx rfl (hb hby d_prog_14_method_6_code_12) rfl ?_
    show Steps p.tables e below (T2.setTop (mkF m 13 #[.val (.ref u3), .val (.int (1 : Int32)), .val (.ref h0.size), .val (.int (7 : Int32)), .val (.int (1 : Int32)), .val (.ref b0)] [(.int (7 : Int32)), (.int (1 : Int32))])) _
    refine XS.icmpNo X2.here hx rfl (hb hby d_prog_14_method_6_code_13) rfl (by decide) ?_
    show Steps p.tables e below (T2.setTop (mkF m 16 #[.val (.ref u3), .val (.int (1 : Int32)), .val (.ref h0.size), .val (.int (7 : Int32)), .val (.int (1 : Int32)), .val (.ref b0)] [])) _
    refine XS.aloadN X2.here hx rfl (hb hby d_prog_14_method_6_code_16) rfl rfl ?_
    show Steps p.tables e below (T2.setTop (mkF m 17 #[.val (.ref u3), .val (.int (1 : Int32)), .val (.ref h0.size), .val (.int (7 : Int32)), .val (.int (1 : Int32)), .val (.ref b0)] [(.ref h0.size)])) _
    refine XS.iload X2.here hx rfl (hb hby d_prog_14_method_6_code_17) rfl ?_
    show Steps p.tables e below (T2.setTop (mkF m 19 #[.val (.ref u3), .val (.int (1 : Int32)), .val (.ref h0.size), .val (.int (7 : Int32)), .val (.int (1 : Int32)), .val (.ref b0)] [(.int (1 : Int32)), (.ref h0.size)])) _
    refine X2.aaload hx (j := (1 : Int32)) (v := (.ref b1)) (by first | exact Ar.1 | (rw [e2]; exact Ar.1)) (State.isArrayOf_alike hZ.alike Ar.2.1) rfl Ar.2.2 (inb_of Sz ⟨by decide, by decide⟩) (Hs.at (inb_of Sz ⟨by decide, by decide⟩) rfl) (g := (mkF m 19 #[.val (.ref u3), .val (.int (1 : Int32)), .val (.ref h0.size), .val (.int (7 : Int32)), .val (.int (1 : Int32)), .val (.ref b0)] [(.int (1 : Int32)), (.ref h0.size)])) rfl rfl (hb hby d_prog_14_method_6_code_19) _ ?_
    show Steps p.tables e below (T2.setTop (mkF m 20 #[.val (.ref u3), .val (.int (1 : Int32)), .val (.ref h0.size), .val (.int (7 : Int32)), .val (.int (1 : Int32)), .val (.ref b0)] [(.ref b1)])) _
    refine XS.astore X2.here hx rfl (hb hby d_prog_14_method_6_code_20) rfl rfl (l' := #[.val (.ref u3), .val (.int (1 : Int32)), .val (.ref h0.size), .val (.int (7 : Int32)), .val (.int (1 : Int32)), .val (.ref b1)]) rfl ?_
    show Steps p.tables e below (T2.setTop (mkF m 22 #[.val (.ref u3), .val (.int (1 : Int32)), .val (.ref h0.size), .val (.int (7 : Int32)), .val (.int (1 : Int32)), .val (.ref b1)] [])) _
    refine XS.aload X2.here hx rfl (hb hby d_prog_14_method_6_code_22) rfl rfl ?_
    show Steps p.tables e below (T2.setTop (mkF m 24 #[.val (.ref u3), .val (.int (1 : Int32)), .val (.ref h0.size), .val (.int (7 : Int32)), .val (.int (1 : Int32)), .val (.ref b1)] [(.ref b1)])) _
    refine st3 _ ?_
    show Steps p.tables e below (T3.setTop (mkF m 27 #[.val (.ref u3), .val (.int (1 : Int32)), .val (.ref h0.size), .val (.int (7 : Int32)), .val (.int (1 : Int32)), .val (.ref b1)] [(.ref u0)])) _
    refine XS.aloadN X3.here hx rfl (hb hby d_prog_14_method_6_code_27) rfl rfl ?_
    show Steps p.tables e below (T3.setTop (mkF m 28 #[.val (.ref u3), .val (.int (1 : Int32)), .val (.ref h0.size), .val (.int (7 : Int32)), .val (.int (1 : Int32)), .val (.ref b1)] [(.ref u3), (.ref u0)])) _
    refine acmp X3 hx rfl rfl rfl (pc0 := 28) (pc' := 43) (same := false) rfl (hb hby d_prog_14_method_6_code_28) rfl (decide_eq_false fun q => ne03 (Value.ref.inj q)) (by decide) (by decide) ?_
    show Steps p.tables e below (T3.setTop (mkF m 43 #[.val (.ref u3), .val (.int (1 : Int32)), .val (.ref h0.size), .val (.int (7 : Int32)), .val (.int (1 : Int32)), .val (.ref b1)] [])) _
    refine XT.iincV X3.here hx rfl (1 : Int32) (hb hby d_prog_14_method_6_code_43) (by decide) rfl (l' := #[.val (.ref u3), .val (.int (1 : Int32)), .val (.ref h0.size), .val (.int (7 : Int32)), .val (.int (2 : Int32)), .val (.ref b1)]) rfl ?_
    show Steps p.tables e below (T3.setTop (mkF m 46 #[.val (.ref u3), .val (.int (1 : Int32)), .val (.ref h0.size), .val (.int (7 : Int32)), .val (.int (2 : Int32)), .val (.ref b1)] [])) _
    refine XS.goto X3.here hx rfl (pc0 := 46) (pc' := 10) rfl (hb hby d_prog_14_method_6_code_46) (by decide) (by decide) ?_
    show Steps p.tables e below (T3.setTop (mkF m 10 #[.val (.ref u3), .val (.int (1 : Int32)), .val (.ref h0.size), .val (.int (7 : Int32)), .val (.int (2 : Int32)), .val (.ref b1)] [])) _
    refine XS.iload X3.here hx rfl (hb hby d_prog_14_method_6_code_10) rfl ?_
    show Steps p.tables e below (T3.setTop (mkF m 12 #[.val (.ref u3), .val (.int (1 : Int32)), .val (.ref h0.size), .val (.int (7 : Int32)), .val (.int (2 : Int32)), .val (.ref b1)] [(.int (2 : Int32))])) _
    refine XS.iloadN X3.here hx rfl (hb hby d_prog_14_method_6_code_12) rfl ?_
    show Steps p.tables e below (T3.setTop (mkF m 13 #[.val (.ref u3), .val (.int (1 : Int32)), .val (.ref h0.size), .val (.int (7 : Int32)), .val (.int (2 : Int32)), .val (.ref b1)] [(.int (7 : Int32)), (.int (2 : Int32))])) _
    refine XS.icmpNo X3.here hx rfl (hb hby d_prog_14_method_6_code_13) rfl (by decide) ?_
    show Steps p.tables e below (T3.setTop (mkF m 16 #[.val (.ref u3), .val (.int (1 : Int32)), .val (.ref h0.size), .val (.int (7 : Int32)), .val (.int (2 : Int32)), .val (.ref b1)] [])) _
    refine XS.aloadN X3.here hx rfl (hb hby d_prog_14_method_6_code_16) rfl rfl ?_
    show Steps p.tables e below (T3.setTop (mkF m 17 #[.val (.ref u3), .val (.int (1 : Int32)), .val (.ref h0.size), .val (.int (7 : Int32)), .val (.int (2 : Int32)), .val (.ref b1)] [(.ref h0.size)])) _
    refine XS.iload X3.here hx rfl (hb hby d_prog_14_method_6_code_17) rfl ?_
    show Steps p.tables e below (T3.setTop (mkF m 19 #[.val (.ref u3), .val (.int (1 : Int32)), .val (.ref h0.size), .val (.int (7 : Int32)), .val (.int (2 : Int32)), .val (.ref b1)] [(.int (2 : Int32)), (.ref h0.size)])) _
    refine X3.aaload hx (j := (2 : Int32)) (v := (.ref b2)) (by first | exact Ar.1 | (rw [e3]; exact Ar.1)) (State.isArrayOf_alike hZ.alike Ar.2.1) rfl Ar.2.2 (inb_of Sz ⟨by decide, by decide⟩) (Hs.at (inb_of Sz ⟨by decide, by decide⟩) rfl) (g := (mkF m 19 #[.val (.ref u3), .val (.int (1 : Int32)), .val (.ref h0.size), .val (.int (7 : Int32)), .val (.int (2 : Int32)), .val (.ref b1)] [(.int (2 : Int32)), (.ref h0.size)])) rfl rfl (hb hby d_prog_14_method_6_code_19) _ ?_
    show Steps p.tables e below (T3.setTop (mkF m 20 #[.val (.ref u3), .val (.int (1 : Int32)), .val (.ref h0.size), .val (.int (7 : Int32)), .val (.int (2 : Int32)), .val (.ref b1)] [(.ref b2)])) _
    refine XS.astore X3.here hx rfl (hb hby d_prog_14_method_6_code_20) rfl rfl (l' := #[.val (.ref u3), .val (.int (1 : Int32)), .val (.ref h0.size), .val (.int (7 : Int32)), .val (.int (2 : Int32)), .val (.ref b2)]) rfl ?_
    show Steps p.tables e below (T3.setTop (mkF m 22 #[.val (.ref u3), .val (.int (1 : Int32)), .val (.ref h0.size), .val (.int (7 : Int32)), .val (.int (2 : Int32)), .val (.ref b2)] [])) _
    refine XS.aload X3.here hx rfl (hb hby d_prog_14_method_6_code_22) rfl rfl ?_
    show Steps p.tables e below (T3.setTop (mkF m 24 #[.val (.ref u3), .val (.int (1 : Int32)), .val (.ref h0.size), .val (.int (7 : Int32)), .val (.int (2 : Int32)), .val (.ref b2)] [(.ref b2)])) _
    refine st4 _ ?_
    show Steps p.tables e below (T4.setTop (mkF m 27 #[.val (.ref u3), .val (.int (1 : Int32)), .val (.ref h0.size), .val (.int (7 : Int32)), .val (.int (2 : Int32)), .val (.ref b2)] [(.ref u1)])) _
    refine XS.aloadN X4.here hx rfl (hb hby d_prog_14_method_6_code_27) rfl rfl ?_
    show Steps p.tables e below (T4.setTop (mkF m 28 #[.val (.ref u3), .val (.int (1 : Int32)), .val (.ref h0.size), .val (.int (7 : Int32)), .val (.int (2 : Int32)), .val (.ref b2)] [(.ref u3), (.ref u1)])) _
    refine acmp X4 hx rfl rfl rfl (pc0 := 28) (pc' := 43) (same := false) rfl (hb hby d_prog_14_method_6_code_28) rfl (decide_eq_false fun q => ne13 (Value.ref.inj q)) (by decide) (by decide) ?_
    show Steps p.tables e below (T4.setTop (mkF m 43 #[.val (.ref u3), .val (.int (1 : Int32)), .val (.ref h0.size), .val (.int (7 : Int32)), .val (.int (2 : Int32)), .val (.ref b2)] [])) _
    refine XT.iincV X4.here hx rfl (1 : Int32) (hb hby d_prog_14_method_6_code_43) (by decide) rfl (l' := #[.val (.ref u3), .val (.int (1 : Int32)), .val (.ref h0.size), .val (.int (7 : Int32)), .val (.int (3 : Int32)), .val (.ref b2)]) rfl ?_
    show Steps p.tables e below (T4.setTop (mkF m 46 #[.val (.ref u3), .val (.int (1 : Int32)), .val (.ref h0.size), .val (.int (7 : Int32)), .val (.int (3 : Int32)), .val (.ref b2)] [])) _
    refine XS.goto X4.here hx rfl (pc0 := 46) (pc' := 10) rfl (hb hby d_prog_14_method_6_code_46) (by decide) (by decide) ?_
    show Steps p.tables e below (T4.setTop (mkF m 10 #[.val (.ref u3), .val (.int (1 : Int32)), .val (.ref h0.size), .val (.int (7 : Int32)), .val (.int (3 : Int32)), .val (.ref b2)] [])) _
    refine XS.iload X4.here hx rfl (hb hby d_prog_14_method_6_code_10) rfl ?_
    show Steps p.tables e below (T4.setTop (mkF m 12 #[.val (.ref u3), .val (.int (1 : Int32)), .val (.ref h0.size), .val (.int (7 : Int32)), .val (.int (3 : Int32)), .val (.ref b2)] [(.int (3 : Int32))])) _
    refine XS.iloadN X4.here hx rfl (hb hby d_prog_14_method_6_code_12) rfl ?_
    show Steps p.tables e below (T4.setTop (mkF m 13 #[.val (.ref u3), .val (.int (1 : Int32)), .val (.ref h0.size), .val (.int (7 : Int32)), .val (.int (3 : Int32)), .val (.ref b2)] [(.int (7 : Int32)), (.int (3 : Int32))])) _
    refine XS.icmpNo X4.here hx rfl (hb hby d_prog_14_method_6_code_13) rfl (by decide) ?_
    show Steps p.tables e below (T4.setTop (mkF m 16 #[.val (.ref u3), .val (.int (1 : Int32)), .val (.ref h0.size), .val (.int (7 : Int32)), .val (.int (3 : Int32)), .val (.ref b2)] [])) _
    refine XS.aloadN X4.here hx rfl (hb hby d_prog_14_method_6_code_16) rfl rfl ?_
    show Steps p.tables e below (T4.setTop (mkF m 17 #[.val (.ref u3), .val (.int (1 : Int32)), .val (.ref h0.size), .val (.int (7 : Int32)), .val (.int (3 : Int32)), .val (.ref b2)] [(.ref h0.size)])) _
    refine XS.iload X4.here hx rfl (hb hby d_prog_14_method_6_code_17) rfl ?_
    show Steps p.tables e below (T4.setTop (mkF m 19 #[.val (.ref u3), .val (.int (1 : Int32)), .val (.ref h0.size), .val (.int (7 : Int32)), .val (.int (3 : Int32)), .val (.ref b2)] [(.int (3 : Int32)), (.ref h0.size)])) _
    refine X4.aaload hx (j := (3 : Int32)) (v := (.ref b3)) (by first | exact Ar.1 | (rw [e4]; exact Ar.1)) (State.isArrayOf_alike hZ.alike Ar.2.1) rfl Ar.2.2 (inb_of Sz ⟨by decide, by decide⟩) (Hs.at (inb_of Sz ⟨by decide, by decide⟩) rfl) (g := (mkF m 19 #[.val (.ref u3), .val (.int (1 : Int32)), .val (.ref h0.size), .val (.int (7 : Int32)), .val (.int (3 : Int32)), .val (.ref b2)] [(.int (3 : Int32)), (.ref h0.size)])) rfl rfl (hb hby d_prog_14_method_6_code_19) _ ?_
    show Steps p.tables e below (T4.setTop (mkF m 20 #[.val (.ref u3), .val (.int (1 : Int32)), .val (.ref h0.size), .val (.int (7 : Int32)), .val (.int (3 : Int32)), .val (.ref b2)] [(.ref b3)])) _
    refine XS.astore X4.here hx rfl (hb hby d_prog_14_method_6_code_20) rfl rfl (l' := #[.val (.ref u3), .val (.int (1 : Int32)), .val (.ref h0.size), .val (.int (7 : Int32)), .val (.int (3 : Int32)), .val (.ref b3)]) rfl ?_
    show Steps p.tables e below (T4.setTop (mkF m 22 #[.val (.ref u3), .val (.int (1 : Int32)), .val (.ref h0.size), .val (.int (7 : Int32)), .val (.int (3 : Int32)), .val (.ref b3)] [])) _
    refine XS.aload X4.here hx rfl (hb hby d_prog_14_method_6_code_22) rfl rfl ?_
    show Steps p.tables e below (T4.setTop (mkF m 24 #[.val (.ref u3), .val (.int (1 : Int32)), .val (.ref h0.size), .val (.int (7 : Int32)), .val (.int (3 : Int32)), .val (.ref b3)] [(.ref b3)])) _
    refine st5 _ ?_
    show Steps p.tables e below (T5.setTop (mkF m 27 #[.val (.ref u3), .val (.int (1 : Int32)), .val (.ref h0.size), .val (.int (7 : Int32)), .val (.int (3 : Int32)), .val (.ref b3)] [(.ref u1)])) _
    refine XS.aloadN X5.here hx rfl (hb hby d_prog_14_method_6_code_27) rfl rfl ?_
    show Steps p.tables e below (T5.setTop (mkF m 28 #[.val (.ref u3), .val (.int (1 : Int32)), .val (.ref h0.size), .val (.int (7 : Int32)), .val (.int (3 : Int32)), .val (.ref b3)] [(.ref u3), (.ref u1)])) _
    refine acmp X5 hx rfl rfl rfl (pc0 := 28) (pc' := 43) (same := false) rfl (hb hby d_prog_14_method_6_code_28) rfl (decide_eq_false fun q => ne13 (Value.ref.inj q)) (by decide) (by decide) ?_
    show Steps p.tables e below (T5.setTop (mkF m 43 #[.val (.ref u3), .val (.int (1 : Int32)), .val (.ref h0.size), .val (.int (7 : Int32)), .val (.int (3 : Int32)), .val (.ref b3)] [])) _
    refine XT.iincV X5.here hx rfl (1 : Int32) (hb hby d_prog_14_method_6_code_43) (by decide) rfl (l' := #[.val (.ref u3), .val (.int (1 : Int32)), .val (.ref h0.size), .val (.int (7 : Int32)), .val (.int (4 : Int32)), .val (.ref b3)]) rfl ?_
    show Steps p.tables e below (T5.setTop (mkF m 46 #[.val (.ref u3), .val (.int (1 : Int32)), .val (.ref h0.size), .val (.int (7 : Int32)), .val (.int (4 : Int32)), .val (.ref b3)] [])) _
    refine XS.goto X5.here hx rfl (pc0 := 46) (pc' := 10) rfl (hb hby d_prog_14_method_6_code_46) (by decide) (by decide) ?_
    show Steps p.tables e below (T5.setTop (mkF m 10 #[.val (.ref u3), .val (.int (1 : Int32)), .val (.ref h0.size), .val (.int (7 : Int32)), .val (.int (4 : Int32)), .val (.ref b3)] [])) _
    refine XS.iload X5.here hx rfl (hb hby d_prog_14_method_6_code_10) rfl ?_
    show Steps p.tables e below (T5.setTop (mkF m 12 #[.val (.ref u3), .val (.int (1 : Int32)), .val (.ref h0.size), .val (.int (7 : Int32)), .val (.int (4 : Int32)), .val (.ref b3)] [(.int (4 : Int32))])) _
    refine XS.iloadN X5.here hx rfl (hb hby d_prog_14_method_6_code_12) rfl ?_
    show Steps p.tables e below (T5.setTop (mkF m 13 #[.val (.ref u3), .val (.int (1 : Int32)), .val (.ref h0.size), .val (.int (7 : Int32)), .val (.int (4 : Int32)), .val (.ref b3)] [(.int (7 : Int32)), (.int (4 : Int32))])) _
    refine XS.icmpNo X5.here hx rfl (hb hby d_prog_14_method_6_code_13) rfl (by decide) ?_
    show Steps p.tables e below (T5.setTop (mkF m 16 #[.val (.ref u3), .val (.int (1 : Int32)), .val (.ref h0.size), .val (.int (7 : Int32)), .val (.int (4 : Int32)), .val (.ref b3)] [])) _
    refine XS.aloadN X5.here hx rfl (hb hby d_prog_14_method_6_code_16) rfl rfl ?_
    show Steps p.tables e below (T5.setTop (mkF m 17 #[.val (.ref u3), .val (.int (1 : Int32)), .val (.ref h0.size), .val (.int (7 : Int32)), .val (.int (4 : Int32)), .val (.ref b3)] [(.ref h0.size)])) _
    refine XS.iload X5.here hx rfl (hb hby d_prog_14_method_6_code_17) rfl ?_
    show Steps p.tables e below (T5.setTop (mkF m 19 #[.val (.ref u3), .val (.int (1 : Int32)), .val (.ref h0.size), .val (.int (7 : Int32)), .val (.int (4 : Int32)), .val (.ref b3)] [(.int (4 : Int32)), (.ref h0.size)])) _
    refine X5.aaload hx (j := (4 : Int32)) (v := (.ref b4)) (by first | exact Ar.1 | (rw [e5]; exact Ar.1)) (State.isArrayOf_alike hZ.alike Ar.2.1) rfl Ar.2.2 (inb_of Sz ⟨by decide, by decide⟩) (Hs.at (inb_of Sz ⟨by decide, by decide⟩) rfl) (g := (mkF m 19 #[.val (.ref u3), .val (.int (1 : Int32)), .val (.ref h0.size), .val (.int (7 : Int32)), .val (.int (4 : Int32)), .val (.ref b3)] [(.int (4 : Int32)), (.ref h0.size)])) rfl rfl (hb hby d_prog_14_method_6_code_19) _ ?_
    show Steps p.tables e below (T5.setTop (mkF m 20 #[.val (.ref u3), .val (.int (1 : Int32)), .val (.ref h0.size), .val (.int (7 : Int32)), .val (.int (4 : Int32)), .val (.ref b3)] [(.ref b4)])) _
    refine XS.astore X5.here hx rfl (hb hby d_prog_14_method_6_code_20) rfl rfl (l' := #[.val (.ref u3), .val (.int (1 : Int32)), .val (.ref h0.size), .val (.int (7 : Int32)), .val (.int (4 : Int32)), .val (.ref b4)]) rfl ?_
    show Steps p.tables e below (T5.setTop (mkF m 22 #[.val (.ref u3), .val (.int (1 : Int32)), .val (.ref h0.size), .val (.int (7 : Int32)), .val (.int (4 : Int32)), .val (.ref b4)] [])) _
    refine XS.aload X5.here hx rfl (hb hby d_prog_14_method_6_code_22) rfl rfl ?_
    show Steps p.tables e below (T5.setTop (mkF m 24 #[.val (.ref u3), .val (.int (1 : Int32)), .val (.ref h0.size), .val (.int (7 : Int32)), .val (.int (4 : Int32)), .val (.ref b4)] [(.ref b4)])) _
    refine st6 _ ?_
    show Steps p.tables e below (T6.setTop (mkF m 27 #[.val (.ref u3), .val (.int (1 : Int32)), .val (.ref h0.size), .val (.int (7 : Int32)), .val (.int (4 : Int32)), .val (.ref b4)] [(.ref u2)])) _
    refine XS.aloadN X6.here hx rfl (hb hby d_prog_14_method_6_code_27) rfl rfl ?_
    show Steps p.tables e below (T6.setTop (mkF m 28 #[.val (.ref u3), .val (.int (1 : Int32)), .val (.ref h0.size), .val (.int (7 : Int32)), .val (.int (4 : Int32)), .val (.ref b4)] [(.ref u3), (.ref u2)])) _
    refine acmp X6 hx rfl rfl rfl (pc0 := 28) (pc' := 43) (same := false) rfl (hb hby d_prog_14_method_6_code_28) rfl (decide_eq_false fun q => ne23 (Value.ref.inj q)) (by decide) (by decide) ?_
    show Steps p.tables e below (T6.setTop (mkF m 43 #[.val (.ref u3), .val (.int (1 : Int32)), .val (.ref h0.size), .val (.int (7 : Int32)), .val (.int (4 : Int32)), .val (.ref b4)] [])) _
    refine XT.iincV X6.here hx rfl (1 : Int32) (hb hby d_prog_14_method_6_code_43) (by decide) rfl (l' := #[.val (.ref u3), .val (.int (1 : Int32)), .val (.ref h0.size), .val (.int (7 : Int32)), .val (.int (5 : Int32)), .val (.ref b4)]) rfl ?_
    show Steps p.tables e below (T6.setTop (mkF m 46 #[.val (.ref u3), .val (.int (1 : Int32)), .val (.ref h0.size), .val (.int (7 : Int32)), .val (.int (5 : Int32)), .val (.ref b4)] [])) _
    refine XS.goto X6.here hx rfl (pc0 := 46) (pc' := 10) rfl (hb hby d_prog_14_method_6_code_46) (by decide) (by decide) ?_
    show Steps p.tables e below (T6.setTop (mkF m 10 #[.val (.ref u3), .val (.int (1 : Int32)), .val (.ref h0.size), .val (.int (7 : Int32)), .val (.int (5 : Int32)), .val (.ref b4)] [])) _
    refine XS.iload X6.here hx rfl (hb hby d_prog_14_method_6_code_10) rfl ?_
    show Steps p.tables e below (T6.setTop (mkF m 12 #[.val (.ref u3), .val (.int (1 : Int32)), .val (.ref h0.size), .val (.int (7 : Int32)), .val (.int (5 : Int32)), .val (.ref b4)] [(.int (5 : Int32))])) _
    refine XS.iloadN X6.here hx rfl (hb hby d_prog_14_method_6_code_12) rfl ?_
    show Steps p.tables e below (T6.setTop (mkF m 13 #[.val (.ref u3), .val (.int (1 : Int32)), .val (.ref h0.size), .val (.int (7 : Int32)), .val (.int (5 : Int32)), .val (.ref b4)] [(.int (7 : Int32)), (.int (5 : Int32))])) _
    refine XS.icmpNo X6.here hx rfl (hb hby d_prog_14_method_6_code_13) rfl (by decide) ?_
    show Steps p.tables e below (T6.setTop (mkF m 16 #[.val (.ref u3), .val (.int (1 : Int32)), .val (.ref h0.size), .val (.int (7 : Int32)), .val (.int (5 : Int32)), .val (.ref b4)] [])) _
    refine XS.aloadN X6.here hx rfl (hb hby d_prog_14_method_6_code_16) rfl rfl ?_
    show Steps p.tables e below (T6.setTop (mkF m 17 #[.val (.ref u3), .val (.int (1 : Int32)), .val (.ref h0.size), .val (.int (7 : Int32)), .val (.int (5 : Int32)), .val (.ref b4)] [(.ref h0.size)])) _
    refine XS.iload X6.here hx rfl (hb hby d_prog_14_method_6_code_17) rfl ?_
    show Steps p.tables e below (T6.setTop (mkF m 19 #[.val (.ref u3), .val (.int (1 : Int32)), .val (.ref h0.size), .val (.int (7 : Int32)), .val (.int (5 : Int32)), .val (.ref b4)] [(.int (5 : Int32)), (.ref h0.size)])) _
    refine X6.aaload hx (j := (5 : Int32)) (v := (.ref b5)) (by first | exact Ar.1 | (rw [e6]; exact Ar.1)) (State.isArrayOf_alike hZ.alike Ar.2.1) rfl Ar.2.2 (inb_of Sz ⟨by decide, by decide⟩) (Hs.at (inb_of Sz ⟨by decide, by decide⟩) rfl) (g := (mkF m 19 #[.val (.ref u3), .val (.int (1 : Int32)), .val (.ref h0.size), .val (.int (7 : Int32)), .val (.int (5 : Int32)), .val (.ref b4)] [(.int (5 : Int32)), (.ref h0.size)])) rfl rfl (hb hby d_prog_14_method_6_code_19) _ ?_
    show Steps p.tables e below (T6.setTop (mkF m 20 #[.val (.ref u3), .val (.int (1 : Int32)), .val (.ref h0.size), .val (.int (7 : Int32)), .val (.int (5 : Int32)), .val (.ref b4)] [(.ref b5)])) _
    refine XS.astore X6.here hx rfl (hb hby d_prog_14_method_6_code_20) rfl rfl (l' := #[.val (.ref u3), .val (.int (1 : Int32)), .val (.ref h0.size), .val (.int (7 : Int32)), .val (.int (5 : Int32)), .val (.ref b5)]) rfl ?_
    show Steps p.tables e below (T6.setTop (mkF m 22 #[.val (.ref u3), .val (.int (1 : Int32)), .val (.ref h0.size), .val (.int (7 : Int32)), .val (.int (5 : Int32)), .val (.ref b5)] [])) _
    refine XS.aload X6.here hx rfl (hb hby d_prog_14_method_6_code_22) rfl rfl ?_
    show Steps p.tables e below (T6.setTop (mkF m 24 #[.val (.ref u3), .val (.int (1 : Int32)), .val (.ref h0.size), .val (.int (7 : Int32)), .val (.int (5 : Int32)), .val (.ref b5)] [(.ref b5)])) _
    refine st7 _ ?_
    show Steps p.tables e below (T7.setTop (mkF m 27 #[.val (.ref u3), .val (.int (1 : Int32)), .val (.ref h0.size), .val (.int (7 : Int32)), .val (.int (5 : Int32)), .val (.ref b5)] [(.ref u2)])) _
    refine XS.aloadN X7.here hx rfl (hb hby d_prog_14_method_6_code_27) rfl rfl ?_
    show Steps p.tables e below (T7.setTop (mkF m 28 #[.val (.ref u3), .val (.int (1 : Int32)), .val (.ref h0.size), .val (.int (7 : Int32)), .val (.int (5 : Int32)), .val (.ref b5)] [(.ref u3), (.ref u2)])) _
    refine acmp X7 hx rfl rfl rfl (pc0 := 28) (pc' := 43) (same := false) rfl (hb hby d_prog_14_method_6_code_28) rfl (decide_eq_false fun q => ne23 (Value.ref.inj q)) (by decide) (by decide) ?_
    show Steps p.tables e below (T7.setTop (mkF m 43 #[.val (.ref u3), .val (.int (1 : Int32)), .val (.ref h0.size), .val (.int (7 : Int32)), .val (.int (5 : Int32)), .val (.ref b5)] [])) _
    refine XT.iincV X7.here hx rfl (1 : Int32) (hb hby d_prog_14_method_6_code_43) (by decide) rfl (l' := #[.val (.ref u3), .val (.int (1 : Int32)), .val (.ref h0.size), .val (.int (7 : Int32)), .val (.int (6 : Int32)), .val (.ref b5)]) rfl ?_
    show Steps p.tables e below (T7.setTop (mkF m 46 #[.val (.ref u3), .val (.int (1 : Int32)), .val (.ref h0.size), .val (.int (7 : Int32)), .val (.int (6 : Int32)), .val (.ref b5)] [])) _
    refine XS.goto X7.here hx rfl (pc0 := 46) (pc' := 10) rfl (hb hby d_prog_14_method_6_code_46) (by decide) (by decide) ?_
    show Steps p.tables e below (T7.setTop (mkF m 10 #[.val (.ref u3), .val (.int (1 : Int32)), .val (.ref h0.size), .val (.int (7 : Int32)), .val (.int (6 : Int32)), .val (.ref b5)] [])) _
    refine XS.iload X7.here hx rfl (hb hby d_prog_14_method_6_code_10) rfl ?_
    show Steps p.tables e below (T7.setTop (mkF m 12 #[.val (.ref u3), .val (.int (1 : Int32)), .val (.ref h0.size), .val (.int (7 : Int32)), .val (.int (6 : Int32)), .val (.ref b5)] [(.int (6 : Int32))])) _
    refine XS.iloadN X7.here hx rfl (hb hby d_prog_14_method_6_code_12) rfl ?_
    show Steps p.tables e below (T7.setTop (mkF m 13 #[.val (.ref u3), .val (.int (1 : Int32)), .val (.ref h0.size), .val (.int (7 : Int32)), .val (.int (6 : Int32)), .val (.ref b5)] [(.int (7 : Int32)), (.int (6 : Int32))])) _
    refine XS.icmpNo X7.here hx rfl (hb hby d_prog_14_method_6_code_13) rfl (by decide) ?_
    show Steps p.tables e below (T7.setTop (mkF m 16 #[.val (.ref u3), .val (.int (1 : Int32)), .val (.ref h0.size), .val (.int (7 : Int32)), .val (.int (6 : Int32)), .val (.ref b5)] [])) _
    refine XS.aloadN X7.here hx rfl (hb hby d_prog_14_method_6_code_16) rfl rfl ?_
    show Steps p.tables e below (T7.setTop (mkF m 17 #[.val (.ref u3), .val (.int (1 : Int32)), .val (.ref h0.size), .val (.int (7 : Int32)), .val (.int (6 : Int32)), .val (.ref b5)] [(.ref h0.size)])) _
    refine XS.iload X7.here hx rfl (hb hby d_prog_14_method_6_code_17) rfl ?_
    show Steps p.tables e below (T7.setTop (mkF m 19 #[.val (.ref u3), .val (.int (1 : Int32)), .val (.ref h0.size), .val (.int (7 : Int32)), .val (.int (6 : Int32)), .val (.ref b5)] [(.int (6 : Int32)), (.ref h0.size)])) _
    refine X7.aaload hx (j := (6 : Int32)) (v := (.ref b6)) (by first | exact Ar.1 | (rw [e7]; exact Ar.1)) (State.isArrayOf_alike hZ.alike Ar.2.1) rfl Ar.2.2 (inb_of Sz ⟨by decide, by decide⟩) (Hs.at (inb_of Sz ⟨by decide, by decide⟩) rfl) (g := (mkF m 19 #[.val (.ref u3), .val (.int (1 : Int32)), .val (.ref h0.size), .val (.int (7 : Int32)), .val (.int (6 : Int32)), .val (.ref b5)] [(.int (6 : Int32)), (.ref h0.size)])) rfl rfl (hb hby d_prog_14_method_6_code_19) _ ?_
    show Steps p.tables e below (T7.setTop (mkF m 20 #[.val (.ref u3), .val (.int (1 : Int32)), .val (.ref h0.size), .val (.int (7 : Int32)), .val (.int (6 : Int32)), .val (.ref b5)] [(.ref b6)])) _
    refine XS.astore X7.here hx rfl (hb hby d_prog_14_method_6_code_20) rfl rfl (l' := #[.val (.ref u3), .val (.int (1 : Int32)), .val (.ref h0.size), .val (.int (7 : Int32)), .val (.int (6 : Int32)), .val (.ref b6)]) rfl ?_
    show Steps p.tables e below (T7.setTop (mkF m 22 #[.val (.ref u3), .val (.int (1 : Int32)), .val (.ref h0.size), .val (.int (7 : Int32)), .val (.int (6 : Int32)), .val (.ref b6)] [])) _
    refine XS.aload X7.here hx rfl (hb hby d_prog_14_method_6_code_22) rfl rfl ?_
    show Steps p.tables e below (T7.setTop (mkF m 24 #[.val (.ref u3), .val (.int (1 : Int32)), .val (.ref h0.size), .val (.int (7 : Int32)), .val (.int (6 : Int32)), .val (.ref b6)] [(.ref b6)])) _
    refine st8 _ ?_
    show Steps p.tables e below (T8.setTop (mkF m 27 #[.val (.ref u3), .val (.int (1 : Int32)), .val (.ref h0.size), .val (.int (7 : Int32)), .val (.int (6 : Int32)), .val (.ref b6)] [(.ref u3)])) _
    refine XS.aloadN X8.here hx rfl (hb hby d_prog_14_method_6_code_27) rfl rfl ?_
    show Steps p.tables e below (T8.setTop (mkF m 28 #[.val (.ref u3), .val (.int (1 : Int32)), .val (.ref h0.size), .val (.int (7 : Int32)), .val (.int (6 : Int32)), .val (.ref b6)] [(.ref u3), (.ref u3)])) _
    refine acmp X8 hx rfl rfl rfl (pc0 := 28) (pc' := 31) (same := true) rfl (hb hby d_prog_14_method_6_code_28) rfl (decide_eq_true rfl) (by decide) (by decide) ?_
    show Steps p.tables e below (T8.setTop (mkF m 31 #[.val (.ref u3), .val (.int (1 : Int32)), .val (.ref h0.size), .val (.int (7 : Int32)), .val (.int (6 : Int32)), .val (.ref b6)] [])) _
    refine XS.aload X8.here hx rfl (hb hby d_prog_14_method_6_code_31) rfl rfl ?_
    show Steps p.tables e below (T8.setTop (mkF m 33 #[.val (.ref u3), .val (.int (1 : Int32)), .val (.ref h0.size), .val (.int (7 : Int32)), .val (.int (6 : Int32)), .val (.ref b6)] [(.ref b6)])) _
    refine st9 _ ?_
    show Steps p.tables e below (T9.setTop (mkF m 36 #[.val (.ref u3), .val (.int (1 : Int32)), .val (.ref h0.size), .val (.int (7 : Int32)), .val (.int (6 : Int32)), .val (.ref b6)] [(.int (0 : Int32))])) _
    refine XS.iloadN X9.here hx rfl (hb hby d_prog_14_method_6_code_36) rfl ?_
    show Steps p.tables e below (T9.setTop (mkF m 37 #[.val (.ref u3), .val (.int (1 : Int32)), .val (.ref h0.size), .val (.int (7 : Int32)), .val (.int (6 : Int32)), .val (.ref b6)] [(.int (1 : Int32)), (.int (0 : Int32))])) _
    refine XS.icmpYes X9.here hx rfl (pc0 := 37) (pc' := 43) rfl (hb hby d_prog_14_method_6_code_37) rfl (by decide) (by decide) (by decide) ?_
    show Steps p.tables e below (T9.setTop (mkF m 43 #[.val (.ref u3), .val (.int (1 : Int32)), .val (.ref h0.size), .val (.int (7 : Int32)), .val (.int (6 : Int32)), .val (.ref b6)] [])) _
    refine XT.iincV X9.here hx rfl (1 : Int32) (hb hby d_prog_14_method_6_code_43) (by decide) rfl (l' := #[.val (.ref u3), .val (.int (1 : Int32)), .val (.ref h0.size), .val (.int (7 : Int32)), .val (.int (7 : Int32)), .val (.ref b6)]) rfl ?_
    show Steps p.tables e below (T9.setTop (mkF m 46 #[.val (.ref u3), .val (.int (1 : Int32)), .val (.ref h0.size), .val (.int (7 : Int32)), .val (.int (7 : Int32)), .val (.ref b6)] [])) _
    refine XS.goto X9.here hx rfl (pc0 := 46) (pc' := 10) rfl (hb hby d_prog_14_method_6_code_46) (by decide) (by decide) ?_
    show Steps p.tables e below (T9.setTop (mkF m 10 #[.val (.ref u3), .val (.int (1 : Int32)), .val (.ref h0.size), .val (.int (7 : Int32)), .val (.int (7 : Int32)), .val (.ref b6)] [])) _
    refine XS.iload X9.here hx rfl (hb hby d_prog_14_method_6_code_10) rfl ?_
    show Steps p.tables e below (T9.setTop (mkF m 12 #[.val (.ref u3), .val (.int (1 : Int32)), .val (.ref h0.size), .val (.int (7 : Int32)), .val (.int (7 : Int32)), .val (.ref b6)] [(.int (7 : Int32))])) _
    refine XS.iloadN X9.here hx rfl (hb hby d_prog_14_method_6_code_12) rfl ?_
    show Steps p.tables e below (T9.setTop (mkF m 13 #[.val (.ref u3), .val (.int (1 : Int32)), .val (.ref h0.size), .val (.int (7 : Int32)), .val (.int (7 : Int32)), .val (.ref b6)] [(.int (7 : Int32)), (.int (7 : Int32))])) _
    refine XS.icmpYes X9.here hx rfl (pc0 := 13) (pc' := 49) rfl (hb hby d_prog_14_method_6_code_13) rfl (by decide) (by decide) (by decide) ?_
    show Steps p.tables e below (T9.setTop (mkF m 49 #[.val (.ref u3), .val (.int (1 : Int32)), .val (.ref h0.size), .val (.int (7 : Int32)), .val (.int (7 : Int32)), .val (.ref b6)] [])) _
    refine XS.aconstNull X9.here hx rfl (hb hby d_prog_14_method_6_code_49) ?_
    show Steps p.tables e below (T9.setTop (mkF m 50 #[.val (.ref u3), .val (.int (1 : Int32)), .val (.ref h0.size), .val (.int (7 : Int32)), .val (.int (7 : Int32)), .val (.ref b6)] [.null])) _
    exact retOut X9 hx Bd.returns rfl (Or.inr (Or.inr (Or.inr (Or.inr ⟨rfl, rfl, rfl⟩)))) (hb hby d_prog_14_method_6_code_50) hr
  · exact ⟨rfl, N1, by show Ext h0 T9.heap; rw [e9]; exact Ex1⟩
theorem d_method_3_code_60 : decode method_3_code 60 = .ok (.aconst_null, 1) := by decide +kernel
theorem d_method_3_code_61 : decode method_3_code 61 = .ok (.goto 6, 3) := by decide +kernel
def Q_eof_3_1 (Z : State)  (h0 : Heap) (n0 : Nat) (v : Option Value) (h : Heap) (L : List Loc) : Prop := v = some .null ∧ Fr n0 L ∧ h = h0
set_option maxRecDepth 65536 in
set_option maxHeartbeats 40000000 in
theorem eof_3_1 (l : Launch) (Z : State) (a0 : Array Value) (hw : ∀ d ∈ tables_1, d.before a0 Z = true) (ws : List Jvm.Cond)  (h0 : Heap) (n0 : Nat) (Z0 : n0 ≤ h0.size)  :
    MetFree l (⟨"com/example/innesco/innesco/database/TriggerEventOfPinLaw", "expectedOf", "(IZ)Lcom/example/innesco/innesco/database/TriggerEvent;"⟩ : MethodName) (head1 (Jvm.Cond.code (⟨"com/example/innesco/innesco/database/TriggerEventOfPinLaw", "expectedOf", "(IZ)Lcom/example/innesco/innesco/database/TriggerEvent;"⟩ : MethodName) method_3_code 2 (Option.some (Jvm.ClassFile.FieldType.object "com/example/innesco/innesco/database/TriggerEvent")) :: ws) ({ frames := 0, cells := 0, slots := 0, locals := 0 } : Room)) (fun a U => a = #[(.int (3 : Int32)), (.int (1 : Int32))] ∧ Z.Warmed39 U.vm ∧ U.heap = h0) (fun _ _ _ _ _ => True) (fun _ U o U' => ∃ v L, o = .returned v ∧ Q_eof_3_1 Z  h0 n0 v U'.heap L ∧ FrameEnd U o U' L ({ frames := 0, cells := 0, slots := 0, locals := 0 } : Room).cells ({ frames := 0, cells := 0, slots := 0, locals := 0 } : Room).slots) := by
  refine MetFree.of_bodySF (plainFor_of_name pn_11) hisR ?_
  intro p e s m args below meth c s₁ Bd hml0 hP hK
  obtain ⟨rfl, hZ, hh⟩ := hP
  have hx := Bd.exec
  have hby := Bd.bytes
  have hml : c.maxLocals = 2 := hml0
  have hown : s.vm.findClass "com/example/innesco/innesco/database/TriggerEventOfPinLaw" = some m.cls := findClass_of_methodNamed Bd.named
  have hnm := (name_of_methodNamed Bd.named Bd.method).1
  have X0 : Stand p l e ({ frames := 0, cells := 0, slots := 0, locals := 0 } : Room) s m #[(.int (3 : Int32)), (.int (1 : Int32))] below meth c s₁ [] 0 0 := Stand.of_body Bd
  have e0 : s₁.heap = h0 := by rw [← hh, Bd.state]; rfl
  have N0 := Fr.nil n0
  have pre0 : ∀ t, Steps p.tables e below (s₁.setTop (mkF m 0 #[.val (.int (3 : Int32)), .val (.int (1 : Int32))] [])) t → Steps p.tables e below (s₁.setTop (entryFrame m #[(.int (3 : Int32)), (.int (1 : Int32))] 2)) t := fun t k => castTop (ef_46 m (3 : Int32) (1 : Int32)) k
  obtain ⟨fs, hr, hrun, hended, hW, hsame⟩ := X0.leave (v := some .null) (fun h => by rw [Bd.returns] at h; cases h)
  refine ⟨_, _, pre0 _ ?_, hrun, hended, _, _, rfl, ?_, ⟨_, rfl⟩, hW, hsame.mono (by decide) (by decide)⟩
  · show Steps p.tables e below (s₁.setTop (mkF m 0 #[.val (.int (3 : Int32)), .val (.int (1 : Int32))] [])) _
    refine XS.iloadN X0.here hx rfl (hb hby d_method_3_code_0) rfl ?_
    show Steps p.tables e below (s₁.setTop (mkF m 1 #[.val (.int (3 : Int32)), .val (.int (1 : Int32))] [(.int (3 : Int32))])) _
    refine XS.ifYes X0.here hx rfl (pc0 := 1) (pc' := 18) rfl (hb hby d_method_3_code_1) rfl (by decide) (by decide) (by decide) ?_
    show Steps p.tables e below (s₁.setTop (mkF m 18 #[.val (.int (3 : Int32)), .val (.int (1 : Int32))] [])) _
    refine XS.iloadN X0.here hx rfl (hb hby d_method_3_code_18) rfl ?_
    show Steps p.tables e below (s₁.setTop (mkF m 19 #[.val (.int (3 : Int32)), .val (.int (1 : Int32))] [(.int (3 : Int32))])) _
    refine XT.iconstV X0.here hx rfl (1 : Int32) (hb hby d_method_3_code_19) (by decide) ?_
    show Steps p.tables e below (s₁.setTop (mkF m 20 #[.val (.int (3 : Int32)), .val (.int (1 : Int32))] [(.int (1 : Int32)), (.int (3 : Int32))])) _
    refine XS.icmpYes X0.here hx rfl (pc0 := 20) (pc' := 37) rfl (hb hby d_method_3_code_20) rfl (by decide) (by decide) (by decide) ?_
    show Steps p.tables e below (s₁.setTop (mkF m 37 #[.val (.int (3 : Int32)), .val (.int (1 : Int32))] [])) _
    refine XS.iloadN X0.here hx rfl (hb hby d_method_3_code_37) rfl ?_
    show Steps p.tables e below (s₁.setTop (mkF m 38 #[.val (.int (3 : Int32)), .val (.int (1 : Int32))] [(.int (3 : Int32))])) _
    refine XT.iconstV X0.here hx rfl (2 : Int32) (hb hby d_method_3_code_38) (by decide) ?_
    show Steps p.tables e below (s₁.setTop (mkF m 39 #[.val (.int (3 : Int32)), .val (.int (1 : Int32))] [(.int (2 : Int32)), (.int (3 : Int32))])) _
    refine XS.icmpYes X0.here hx rfl (pc0 := 39) (pc' := 56) rfl (hb hby d_method_3_code_39) rfl (by decide) (by decide) (by decide) ?_
    show Steps p.tables e below (s₁.setTop (mkF m 56 #[.val (.int (3 : Int32)), .val (.int (1 : Int32))] [])) _
    refine XS.iloadN X0.here hx rfl (hb hby d_method_3_code_56) rfl ?_
    show Steps p.tables e below (s₁.setTop (mkF m 57 #[.val (.int (3 : Int32)), .val (.int (1 : Int32))] [(.int (1 : Int32))])) _
    refine XS.ifNo X0.here hx rfl (hb hby d_method_3_code_57) rfl (by decide) ?_
    show Steps p.tables e below (s₁.setTop (mkF m 60 #[.val (.int (3 : Int32)), .val (.int (1 : Int32))] [])) _
    refine XS.aconstNull X0.here hx rfl (hb hby d_method_3_code_60) ?_
    show Steps p.tables e below (s₁.setTop (mkF m 61 #[.val (.int (3 : Int32)), .val (.int (1 : Int32))] [.null])) _
    refine XS.goto X0.here hx rfl (pc0 := 61) (pc' := 67) rfl (hb hby d_method_3_code_61) (by decide) (by decide) ?_
    show Steps p.tables e below (s₁.setTop (mkF m 67 #[.val (.int (3 : Int32)), .val (.int (1 : Int32))] [.null])) _
    exact retOut X0 hx Bd.returns rfl (Or.inr (Or.inr (Or.inr (Or.inr ⟨rfl, rfl, rfl⟩)))) (hb hby d_method_3_code_67) hr
  · exact ⟨rfl, N0, e0⟩
def Q_law_3_1 (Z : State) (p1 p2 : Int32) (aV : Addr) (kV : ClassId) (b0 b1 b2 b3 b4 b5 b6 : Addr) (u0 u1 u2 u3 : Addr) (h0 : Heap) (n0 : Nat) (v : Option Value) (h : Heap) (L : List Loc) : Prop := v = some (.int 1) ∧ Fr n0 L ∧ True
set_option maxRecDepth 65536 in
set_option maxHeartbeats 40000000 in
theorem law_3_1 (l : Launch) (Z : State) (a0 : Array Value) (hw : ∀ d ∈ tables_1, d.before a0 Z = true) (ws : List Jvm.Cond) (p1 p2 : Int32) (aV : Addr) (kV : ClassId) (b0 b1 b2 b3 b4 b5 b6 : Addr) (u0 u1 u2 u3 : Addr) (h0 : Heap) (n0 : Nat) (Z0 : n0 ≤ h0.size) (SaV : Sta Z h0 "com/example/innesco/innesco/database/TriggerEvent" "$VALUES" "[Lcom/example/innesco/innesco/database/TriggerEvent;" (.ref aV)) (VaV : Arv Z h0 aV kV (.object "com/example/innesco/innesco/database/TriggerEvent") (7 : Int32) [(.ref b0), (.ref b1), (.ref b2), (.ref b3), (.ref b4), (.ref b5), (.ref b6)] .null) (EaV : Exa Z h0 aV "[Lcom/example/innesco/innesco/database/TriggerEvent;")(Fw0 : Fld Z h0 b0 "com/example/innesco/innesco/database/TriggerEvent" "write" "Lcom/example/innesco/innesco/database/Write;" (.ref u0))(Fw1 : Fld Z h0 b1 "com/example/innesco/innesco/database/TriggerEvent" "write" "Lcom/example/innesco/innesco/database/Write;" (.ref u0))(Fw2 : Fld Z h0 b2 "com/example/innesco/innesco/database/TriggerEvent" "write" "Lcom/example/innesco/innesco/database/Write;" (.ref u1))(Fw3 : Fld Z h0 b3 "com/example/innesco/innesco/database/TriggerEvent" "write" "Lcom/example/innesco/innesco/database/Write;" (.ref u1))(Fw4 : Fld Z h0 b4 "com/example/innesco/innesco/database/TriggerEvent" "write" "Lcom/example/innesco/innesco/database/Write;" (.ref u2))(Fw5 : Fld Z h0 b5 "com/example/innesco/innesco/database/TriggerEvent" "write" "Lcom/example/innesco/innesco/database/Write;" (.ref u2))(Fw6 : Fld Z h0 b6 "com/example/innesco/innesco/database/TriggerEvent" "write" "Lcom/example/innesco/innesco/database/Write;" (.ref u3))(Fb0 : Fld Z h0 b0 "com/example/innesco/innesco/database/TriggerEvent" "before" "Z" (.int (1 : Int32)))(Fb1 : Fld Z h0 b1 "com/example/innesco/innesco/database/TriggerEvent" "before" "Z" (.int (0 : Int32)))(Fb2 : Fld Z h0 b2 "com/example/innesco/innesco/database/TriggerEvent" "before" "Z" (.int (1 : Int32)))(Fb3 : Fld Z h0 b3 "com/example/innesco/innesco/database/TriggerEvent" "before" "Z" (.int (0 : Int32)))(Fb4 : Fld Z h0 b4 "com/example/innesco/innesco/database/TriggerEvent" "before" "Z" (.int (1 : Int32)))(Fb5 : Fld Z h0 b5 "com/example/innesco/innesco/database/TriggerEvent" "before" "Z" (.int (0 : Int32)))(Fb6 : Fld Z h0 b6 "com/example/innesco/innesco/database/TriggerEvent" "before" "Z" (.int (0 : Int32)))(ne01 : u0 ≠ u1)(ne02 : u0 ≠ u2)(ne03 : u0 ≠ u3)(ne12 : u1 ≠ u2)(ne13 : u1 ≠ u3)(ne23 : u2 ≠ u3)(Su3 : Sta Z h0 "com/example/innesco/innesco/database/Write" "UNDELETE" "Lcom/example/innesco/innesco/database/Write;" (.ref u3))(hk0 : p1 &&& (3 : Int32) = (3 : Int32)) (hb0 : p2 &&& (1 : Int32) = (1 : Int32)) :
    MetFree l x (head1 (Jvm.Cond.code x code maxLocals ret :: ws) room_1) (fun a U => a = #[(.int p1), (.int p2)] ∧ Z.Warmed39 U.vm ∧ U.heap = h0) (fun _ _ _ _ _ => True) (fun _ U o U' => ∃ v L, o = .returned v ∧ Q_law_3_1 Z p1 p2 aV kV b0 b1 b2 b3 b4 b5 b6 u0 u1 u2 u3 h0 n0 v U'.heap L ∧ FrameEnd U o U' L 16 128) := by
  refine MetFree.of_bodySF (plainFor_of_name pn_11) hisR ?_
  intro p e s m args below meth c s₁ Bd hml0 hP hK
  obtain ⟨rfl, hZ, hh⟩ := hP
  have hx := Bd.exec
  have hby := Bd.bytes
  have hml : c.maxLocals = 7 := hml0
  have hown : s.vm.findClass "com/example/innesco/innesco/database/TriggerEventOfPinLaw" = some m.cls := findClass_of_methodNamed Bd.named
  have hnm := (name_of_methodNamed Bd.named Bd.method).1
  have X0 : Stand p l e room_1 s m #[(.int p1), (.int p2)] below meth c s₁ [] 0 0 := Stand.of_body Bd
  have e0 : s₁.heap = h0 := by rw [← hh, Bd.state]; rfl
  have N0 := Fr.nil n0
  have pre0 : ∀ t, Steps p.tables e below (s₁.setTop (mkF m 0 #[.val (.int p1), .val (.int p2), .unset, .unset, .unset, .unset, .unset] [])) t → Steps p.tables e below (s₁.setTop (entryFrame m #[(.int p1), (.int p2)] maxLocals)) t := fun t k => castTop (ef_50 m p1 p2) k
  obtain ⟨_, _, ⟨T1, L1, k1, n1⟩, -, X1, ⟨Lc1, hQ1, l1, y1, z1⟩, st1⟩ := Jvm.LawKit.callS X0 hx (y := (⟨"com/example/innesco/innesco/database/TriggerEventOfPinLaw", "writeOf", "(I)Lcom/example/innesco/innesco/database/Write;"⟩ : MethodName)) hown (mvT hZ (hw _ (List.mem_of_getElem? (i := 0) rfl))) (mvT hZ (hw _ (List.mem_of_getElem? (i := 1) rfl))) (mvT hZ (hw _ (List.mem_of_getElem? (i := 2) rfl))) (mvT hZ (hw _ (List.mem_of_getElem? (i := 3) rfl))) (by decide) (backOf (W := 0) (wof_3 l Z a0 hw [] u3 h0 n0 Z0 Su3) hZ (hw _ (List.mem_of_getElem? (i := 3) rfl)) (hw _ (List.mem_of_getElem? (i := 2) rfl)) (by decide) (by decide)) (g := (mkF m 17 #[.val (.int p1), .val (.int p2), .val (.int (3 : Int32)), .val (.int (1 : Int32)), .unset, .unset, .unset] [(.int (3 : Int32))])) rfl (by rw [hml]; rfl) (argsL := [(.int (3 : Int32))]) (rest := []) (lenOf pd_47 rfl) rfl (by show 2 * 0 + _ ≤ _; exact Nat.le_of_eq rfl) (hb hby at_17) (fun _ _ => ⟨rfl, e0, (by decide : 0 + 0 ≤ _), (by decide : 0 + 0 ≤ _)⟩)
  dsimp only [Pt.U, Pt.locs, Pt.cells, Pt.slots] at X1 l1 y1 z1 st1 hQ1
  subst l1 y1 z1
  obtain ⟨rfl, N1q, e1⟩ := hQ1
  have N1 := Fr.app N0 N1q
  obtain ⟨_, _, ⟨T2, L2, k2, n2⟩, -, X2, ⟨Lc2, hQ2, l2, y2, z2⟩, st2⟩ := Jvm.LawKit.callS X1 hx (y := (⟨"com/example/innesco/innesco/database/TriggerEventOfPinLaw", "expectedOf", "(IZ)Lcom/example/innesco/innesco/database/TriggerEvent;"⟩ : MethodName)) hown (mvT hZ (hw _ (List.mem_of_getElem? (i := 7) rfl))) (mvT hZ (hw _ (List.mem_of_getElem? (i := 8) rfl))) (mvT hZ (hw _ (List.mem_of_getElem? (i := 2) rfl))) (mvT hZ (hw _ (List.mem_of_getElem? (i := 9) rfl))) (by decide) (backOf (W := 0) (eof_3_1 l Z a0 hw [] h0 n0 Z0) hZ (hw _ (List.mem_of_getElem? (i := 9) rfl)) (hw _ (List.mem_of_getElem? (i := 2) rfl)) (by decide) (by decide)) (g := (mkF m 24 #[.val (.int p1), .val (.int p2), .val (.int (3 : Int32)), .val (.int (1 : Int32)), .val (.ref u3), .unset, .unset] [(.int (1 : Int32)), (.int (3 : Int32))])) rfl (by rw [hml]; rfl) (argsL := [(.int (3 : Int32)), (.int (1 : Int32))]) (rest := []) (lenOf pd_48 rfl) rfl (by show 2 * 0 + _ ≤ _; exact Nat.le_of_eq rfl) (hb hby at_24) (fun _ _ => ⟨rfl, e1, (by decide : 0 + 0 ≤ _), (by decide : 0 + 0 ≤ _)⟩)
  dsimp only [Pt.U, Pt.locs, Pt.cells, Pt.slots] at X2 l2 y2 z2 st2 hQ2
  subst l2 y2 z2
  obtain ⟨rfl, N2q, e2⟩ := hQ2
  have N2 := Fr.app N1 N2q
  obtain ⟨_, _, ⟨T3, L3, k3, n3⟩, -, X3, ⟨Lc3, hQ3, l3, y3, z3⟩, st3⟩ := Jvm.LawKit.callS X2 hx (y := (⟨"com/example/innesco/innesco/database/TriggerEvent", "of", "(Lcom/example/innesco/innesco/database/Write;Z)Lcom/example/innesco/innesco/database/TriggerEvent;"⟩ : MethodName)) hown (mvT hZ (hw _ (List.mem_of_getElem? (i := 13) rfl))) (mvT hZ (hw _ (List.mem_of_getElem? (i := 14) rfl))) (mvT hZ (hw _ (List.mem_of_getElem? (i := 11) rfl))) (mvT hZ (hw _ (List.mem_of_getElem? (i := 15) rfl))) (by decide) (backOf (W := 0) (of_3_1 l Z a0 hw [] aV kV b0 b1 b2 b3 b4 b5 b6 u0 u1 u2 u3 h0 n0 Z0 SaV VaV EaV Fw0 Fw1 Fw2 Fw3 Fw4 Fw5 Fw6 Fb0 Fb1 Fb2 Fb3 Fb4 Fb5 Fb6 ne01 ne02 ne03 ne12 ne13 ne23) hZ (hw _ (List.mem_of_getElem? (i := 15) rfl)) (hw _ (List.mem_of_getElem? (i := 11) rfl)) (by decide) (by decide)) (g := (mkF m 32 #[.val (.int p1), .val (.int p2), .val (.int (3 : Int32)), .val (.int (1 : Int32)), .val (.ref u3), .val .null, .unset] [(.int (1 : Int32)), (.ref u3)])) rfl (by rw [hml]; rfl) (argsL := [(.ref u3), (.int (1 : Int32))]) (rest := []) (lenOf pd_49 rfl) rfl (by show 2 * 0 + _ ≤ _; exact Nat.le_of_eq rfl) (hb hby at_32) (fun _ _ => ⟨rfl, e2, (by decide : 0 + 1 ≤ _), (by decide : 0 + 7 ≤ _)⟩)
  dsimp only [Pt.U, Pt.locs, Pt.cells, Pt.slots] at X3 l3 y3 z3 st3 hQ3
  subst l3 y3 z3
  obtain ⟨rfl, N3q, Ex3⟩ := hQ3
  have N3 := Fr.app N2 N3q
  obtain ⟨fs, hr, hrun, hended, hW, hsame⟩ := X3.leave (v := some (.int (1 : Int32))) (fun h => by rw [Bd.returns] at h; cases h)
  refine ⟨_, _, pre0 _ ?_, hrun, hended, _, _, rfl, ?_, ⟨_, rfl⟩, hW, hsame.mono (by decide) (by decide)⟩
  · show Steps p.tables e below (s₁.setTop (mkF m 0 #[.val (.int p1), .val (.int p2), .unset, .unset, .unset, .unset, .unset] [])) _
    refine XS.iloadN X0.here hx rfl (hb hby at_0) rfl ?_
    show Steps p.tables e below (s₁.setTop (mkF m 1 #[.val (.int p1), .val (.int p2), .unset, .unset, .unset, .unset, .unset] [(.int p1)])) _
    refine XT.iconstV X0.here hx rfl (3 : Int32) (hb hby at_1) (by decide) ?_
    show Steps p.tables e below (s₁.setTop (mkF m 2 #[.val (.int p1), .val (.int p2), .unset, .unset, .unset, .unset, .unset] [(.int (3 : Int32)), (.int p1)])) _
    refine XS.iand X0.here hx rfl (hb hby at_2) rfl ?_
    show Steps p.tables e below (s₁.setTop (mkF m 3 #[.val (.int p1), .val (.int p2), .unset, .unset, .unset, .unset, .unset] [(.int (p1 &&& (3 : Int32)))])) _
    rw [hk0]
    show Steps p.tables e below (s₁.setTop (mkF m 3 #[.val (.int p1), .val (.int p2), .unset, .unset, .unset, .unset, .unset] [(.int (3 : Int32))])) _
    refine XS.istoreN X0.here hx rfl (hb hby at_3) rfl (l' := #[.val (.int p1), .val (.int p2), .val (.int (3 : Int32)), .unset, .unset, .unset, .unset]) rfl ?_
    show Steps p.tables e below (s₁.setTop (mkF m 4 #[.val (.int p1), .val (.int p2), .val (.int (3 : Int32)), .unset, .unset, .unset, .unset] [])) _
    refine XS.iloadN X0.here hx rfl (hb hby at_4) rfl ?_
    show Steps p.tables e below (s₁.setTop (mkF m 5 #[.val (.int p1), .val (.int p2), .val (.int (3 : Int32)), .unset, .unset, .unset, .unset] [(.int p2)])) _
    refine XT.iconstV X0.here hx rfl (1 : Int32) (hb hby at_5) (by decide) ?_
    show Steps p.tables e below (s₁.setTop (mkF m 6 #[.val (.int p1), .val (.int p2), .val (.int (3 : Int32)), .unset, .unset, .unset, .unset] [(.int (1 : Int32)), (.int p2)])) _
    refine XS.iand X0.here hx rfl (hb hby at_6) rfl ?_
    show Steps p.tables e below (s₁.setTop (mkF m 7 #[.val (.int p1), .val (.int p2), .val (.int (3 : Int32)), .unset, .unset, .unset, .unset] [(.int (p2 &&& (1 : Int32)))])) _
    rw [hb0]
    show Steps p.tables e below (s₁.setTop (mkF m 7 #[.val (.int p1), .val (.int p2), .val (.int (3 : Int32)), .unset, .unset, .unset, .unset] [(.int (1 : Int32))])) _
    refine XS.ifNo X0.here hx rfl (hb hby at_7) rfl (by decide) ?_
    show Steps p.tables e below (s₁.setTop (mkF m 10 #[.val (.int p1), .val (.int p2), .val (.int (3 : Int32)), .unset, .unset, .unset, .unset] [])) _
    refine XT.iconstV X0.here hx rfl (1 : Int32) (hb hby at_10) (by decide) ?_
    show Steps p.tables e below (s₁.setTop (mkF m 11 #[.val (.int p1), .val (.int p2), .val (.int (3 : Int32)), .unset, .unset, .unset, .unset] [(.int (1 : Int32))])) _
    refine XS.goto X0.here hx rfl (pc0 := 11) (pc' := 15) rfl (hb hby at_11) (by decide) (by decide) ?_
    show Steps p.tables e below (s₁.setTop (mkF m 15 #[.val (.int p1), .val (.int p2), .val (.int (3 : Int32)), .unset, .unset, .unset, .unset] [(.int (1 : Int32))])) _
    refine XS.istoreN X0.here hx rfl (hb hby at_15) rfl (l' := #[.val (.int p1), .val (.int p2), .val (.int (3 : Int32)), .val (.int (1 : Int32)), .unset, .unset, .unset]) rfl ?_
    show Steps p.tables e below (s₁.setTop (mkF m 16 #[.val (.int p1), .val (.int p2), .val (.int (3 : Int32)), .val (.int (1 : Int32)), .unset, .unset, .unset] [])) _
    refine XS.iloadN X0.here hx rfl (hb hby at_16) rfl ?_
    show Steps p.tables e below (s₁.setTop (mkF m 17 #[.val (.int p1), .val (.int p2), .val (.int (3 : Int32)), .val (.int (1 : Int32)), .unset, .unset, .unset] [(.int (3 : Int32))])) _
    refine st1 _ ?_
    show Steps p.tables e below (T1.setTop (mkF m 20 #[.val (.int p1), .val (.int p2), .val (.int (3 : Int32)), .val (.int (1 : Int32)), .unset, .unset, .unset] [(.ref u3)])) _
    refine XS.astore X1.here hx rfl (hb hby at_20) rfl rfl (l' := #[.val (.int p1), .val (.int p2), .val (.int (3 : Int32)), .val (.int (1 : Int32)), .val (.ref u3), .unset, .unset]) rfl ?_
    show Steps p.tables e below (T1.setTop (mkF m 22 #[.val (.int p1), .val (.int p2), .val (.int (3 : Int32)), .val (.int (1 : Int32)), .val (.ref u3), .unset, .unset] [])) _
    refine XS.iloadN X1.here hx rfl (hb hby at_22) rfl ?_
    show Steps p.tables e below (T1.setTop (mkF m 23 #[.val (.int p1), .val (.int p2), .val (.int (3 : Int32)), .val (.int (1 : Int32)), .val (.ref u3), .unset, .unset] [(.int (3 : Int32))])) _
    refine XS.iloadN X1.here hx rfl (hb hby at_23) rfl ?_
    show Steps p.tables e below (T1.setTop (mkF m 24 #[.val (.int p1), .val (.int p2), .val (.int (3 : Int32)), .val (.int (1 : Int32)), .val (.ref u3), .unset, .unset] [(.int (1 : Int32)), (.int (3 : Int32))])) _
    refine st2 _ ?_
    show Steps p.tables e below (T2.setTop (mkF m 27 #[.val (.int p1), .val (.int p2), .val (.int (3 : Int32)), .val (.int (1 : Int32)), .val (.ref u3), .unset, .unset] [.null])) _
    refine XS.astore X2.here hx rfl (hb hby at_27) rfl rfl (l' := #[.val (.int p1), .val (.int p2), .val (.int (3 : Int32)), .val (.int (1 : Int32)), .val (.ref u3), .val .null, .unset]) rfl ?_
    show Steps p.tables e below (T2.setTop (mkF m 29 #[.val (.int p1), .val (.int p2), .val (.int (3 : Int32)), .val (.int (1 : Int32)), .val (.ref u3), .val .null, .unset] [])) _
    refine XS.aload X2.here hx rfl (hb hby at_29) rfl rfl ?_
    show Steps p.tables e below (T2.setTop (mkF m 31 #[.val (.int p1), .val (.int p2), .val (.int (3 : Int32)), .val (.int (1 : Int32)), .val (.ref u3), .val .null, .unset] [(.ref u3)])) _
    refine XS.iloadN X2.here hx rfl (hb hby at_31) rfl ?_
    show Steps p.tables e below (T2.setTop (mkF m 32 #[.val (.int p1), .val (.int p2), .val (.int (3 : Int32)), .val (.int (1 : Int32)), .val (.ref u3), .val .null, .unset] [(.int (1 : Int32)), (.ref u3)])) _
    refine st3 _ ?_
    show Steps p.tables e below (T3.setTop (mkF m 35 #[.val (.int p1), .val (.int p2), .val (.int (3 : Int32)), .val (.int (1 : Int32)), .val (.ref u3), .val .null, .unset] [.null])) _
    refine XS.astore X3.here hx rfl (hb hby at_35) rfl rfl (l' := #[.val (.int p1), .val (.int p2), .val (.int (3 : Int32)), .val (.int (1 : Int32)), .val (.ref u3), .val .null, .val .null]) rfl ?_
    show Steps p.tables e below (T3.setTop (mkF m 37 #[.val (.int p1), .val (.int p2), .val (.int (3 : Int32)), .val (.int (1 : Int32)), .val (.ref u3), .val .null, .val .null] [])) _
    refine XS.aload X3.here hx rfl (hb hby at_37) rfl rfl ?_
    show Steps p.tables e below (T3.setTop (mkF m 39 #[.val (.int p1), .val (.int p2), .val (.int (3 : Int32)), .val (.int (1 : Int32)), .val (.ref u3), .val .null, .val .null] [.null])) _
    refine XS.aload X3.here hx rfl (hb hby at_39) rfl rfl ?_
    show Steps p.tables e below (T3.setTop (mkF m 41 #[.val (.int p1), .val (.int p2), .val (.int (3 : Int32)), .val (.int (1 : Int32)), .val (.ref u3), .val .null, .val .null] [.null, .null])) _
    refine acmp X3 hx rfl rfl rfl (pc0 := 41) (pc' := 44) (same := true) rfl (hb hby at_41) rfl (decide_eq_true rfl) (by decide) (by decide) ?_
    show Steps p.tables e below (T3.setTop (mkF m 44 #[.val (.int p1), .val (.int p2), .val (.int (3 : Int32)), .val (.int (1 : Int32)), .val (.ref u3), .val .null, .val .null] [])) _
    refine XT.iconstV X3.here hx rfl (1 : Int32) (hb hby at_44) (by decide) ?_
    show Steps p.tables e below (T3.setTop (mkF m 45 #[.val (.int p1), .val (.int p2), .val (.int (3 : Int32)), .val (.int (1 : Int32)), .val (.ref u3), .val .null, .val .null] [(.int (1 : Int32))])) _
    refine XS.goto X3.here hx rfl (pc0 := 45) (pc' := 49) rfl (hb hby at_45) (by decide) (by decide) ?_
    show Steps p.tables e below (T3.setTop (mkF m 49 #[.val (.int p1), .val (.int p2), .val (.int (3 : Int32)), .val (.int (1 : Int32)), .val (.ref u3), .val .null, .val .null] [(.int (1 : Int32))])) _
    exact retN X3 hx (t := .boolean) Bd.returns (by simp) (hb hby at_49) hr
  · exact ⟨rfl, N3, trivial⟩
set_option maxRecDepth 65536 in
set_option maxHeartbeats 40000000 in
theorem comes_1 {Post : Tables → Env → Array Value → State → Outcome → State → Prop} (hpost : ∀ tb e args s v u, (limb_1_1.after args s (.returned v) u = true ∧ limb_1_2.after args s (.returned v) u = true ∧ True) → FrameEnd s (.returned v) u (Jvm.fieldLocs frame_1_writes args s ++ Jvm.arrayLocs frame_1_arrays args s ++ Jvm.staticLocs frame_1_statics s) 16 128 → Post tb e args s (.returned v) u) :
    ArmFor flags0 classFile x code maxLocals ret World_1 tables_1 room_1 Calls_1 rest_1 Pre_1 Post := by
  intro l hfl _ _ p e ha hc hk s m args below hf hA hF happ hP
  obtain ⟨hcalls, hrest, hpre⟩ := hP
  obtain ⟨-, -, -, hnamed, -, -, -, hat⟩ := (Spec.applies_iff hf).mp happ
  obtain ⟨hg, hn⟩ := and_e (Cond.before_iff.mp (show (Jvm.Cond.and given_1 narrow_1).before args s = true from hpre))
  obtain ⟨hg1, hg2⟩ := and_e hg
  obtain ⟨w0, w1, rfl⟩ : ∃ w0 w1 : Value, args = #[w0, w1] := by
    have hs : args.size = 2 := by simpa [Cond.value, given_1] using hg1
    obtain ⟨L⟩ := args
    match L, hs with
    | [w0, w1], _ => exact ⟨w0, w1, rfl⟩
  have hw := fun d (hd : d ∈ tables_1) => atoms_spec (ws := Jvm.Cond.code x code maxLocals ret :: tables_1) hat d (List.mem_cons_of_mem _ hd)
  have hfit : Fit s := fun {y c} hc i hi => by
    obtain ⟨ha, rfl⟩ := Array.getElem?_eq_some_iff.mp hc
    have q := List.all_eq_true.mp ((Array.all_eq_true_iff_forall_mem.mp hF) _ (Array.getElem_mem ha)) i (List.mem_range.mpr hi)
    simpa [Array.getElem?_eq_getElem hi] using q
  obtain ⟨ga0, gr0⟩ := and_e hg2
  obtain ⟨i0, ev0⟩ := is_v ga0
  obtain rfl : w0 = (.int i0) := Option.some.inj ev0
  obtain ⟨i1, ev1⟩ := is_v gr0
  obtain rfl : w1 = (.int i1) := Option.some.inj ev1
  obtain ⟨c0, r0⟩ := and_e hn
  obtain ⟨c1, r1⟩ := and_e r0
  obtain ⟨c2, r2⟩ := and_e r1
  obtain ⟨c3, r3⟩ := and_e r2
  obtain ⟨c4, r4⟩ := and_e r3
  obtain ⟨c5, r5⟩ := and_e r4
  obtain ⟨c6, r6⟩ := and_e r5
  obtain ⟨c7, r7⟩ := and_e r6
  obtain ⟨c8, r8⟩ := and_e r7
  obtain ⟨c9, r9⟩ := and_e r8
  obtain ⟨c10, r10⟩ := and_e r9
  obtain ⟨c11, r11⟩ := and_e r10
  obtain ⟨c12, r12⟩ := and_e r11
  obtain ⟨c13, r13⟩ := and_e r12
  obtain ⟨c14, r14⟩ := and_e r13
  obtain ⟨c15, r15⟩ := and_e r14
  obtain ⟨c16, r16⟩ := and_e r15
  obtain ⟨c17, r17⟩ := and_e r16
  obtain ⟨c18, r18⟩ := and_e r17
  obtain ⟨c19, r19⟩ := and_e r18
  obtain ⟨c20, r20⟩ := and_e r19
  obtain ⟨c21, r21⟩ := and_e r20
  obtain ⟨c22, r22⟩ := and_e r21
  obtain ⟨c23, r23⟩ := and_e r22
  obtain ⟨c24, r24⟩ := and_e r23
  obtain ⟨c25, r25⟩ := and_e r24
  obtain ⟨c26, r26⟩ := and_e r25
  obtain ⟨c27, r27⟩ := and_e r26
  obtain ⟨c28, r28⟩ := and_e r27
  obtain ⟨c29, r29⟩ := and_e r28
  obtain ⟨c30, r30⟩ := and_e r29
  obtain ⟨c31, r31⟩ := and_e r30
  obtain ⟨c32, r32⟩ := and_e r31
  obtain ⟨c33, r33⟩ := and_e r32
  obtain ⟨c34, r34⟩ := and_e r33
  obtain ⟨c35, r35⟩ := and_e r34
  obtain ⟨c36, r36⟩ := and_e r35
  obtain ⟨c37, r37⟩ := and_e r36
  obtain ⟨b0, evb0, Sb0, Eb0⟩ := own_pin c1 (hw _ (List.mem_of_getElem? (i := 11) rfl)) (hw _ (List.mem_of_getElem? (i := 12) rfl))
  obtain ⟨b1, evb1, Sb1, Eb1⟩ := own_pin c6 (hw _ (List.mem_of_getElem? (i := 11) rfl)) (hw _ (List.mem_of_getElem? (i := 28) rfl))
  obtain ⟨b2, evb2, Sb2, Eb2⟩ := own_pin c8 (hw _ (List.mem_of_getElem? (i := 11) rfl)) (hw _ (List.mem_of_getElem? (i := 29) rfl))
  obtain ⟨b3, evb3, Sb3, Eb3⟩ := own_pin c10 (hw _ (List.mem_of_getElem? (i := 11) rfl)) (hw _ (List.mem_of_getElem? (i := 30) rfl))
  obtain ⟨b4, evb4, Sb4, Eb4⟩ := own_pin c12 (hw _ (List.mem_of_getElem? (i := 11) rfl)) (hw _ (List.mem_of_getElem? (i := 31) rfl))
  obtain ⟨b5, evb5, Sb5, Eb5⟩ := own_pin c14 (hw _ (List.mem_of_getElem? (i := 11) rfl)) (hw _ (List.mem_of_getElem? (i := 32) rfl))
  obtain ⟨b6, evb6, Sb6, Eb6⟩ := own_pin c16 (hw _ (List.mem_of_getElem? (i := 11) rfl)) (hw _ (List.mem_of_getElem? (i := 33) rfl))
  obtain ⟨u0, evu0, Su0, Eu0⟩ := own_pin c0 (hw _ (List.mem_of_getElem? (i := 5) rfl)) (hw _ (List.mem_of_getElem? (i := 6) rfl))
  have Ou0 := own_fld evu0 c21
  obtain ⟨u1, evu1, Su1, Eu1⟩ := own_pin c24 (hw _ (List.mem_of_getElem? (i := 5) rfl)) (hw _ (List.mem_of_getElem? (i := 44) rfl))
  have Ou1 := own_fld evu1 c26
  obtain ⟨u2, evu2, Su2, Eu2⟩ := own_pin c20 (hw _ (List.mem_of_getElem? (i := 5) rfl)) (hw _ (List.mem_of_getElem? (i := 42) rfl))
  have Ou2 := own_fld evu2 c22
  obtain ⟨u3, evu3, Su3, Eu3⟩ := own_pin c34 (hw _ (List.mem_of_getElem? (i := 5) rfl)) (hw _ (List.mem_of_getElem? (i := 50) rfl))
  have Ou3 := own_fld evu3 c35
  obtain ⟨aV, evV⟩ := exa_v c3
  have EaV := Exa.start evV c3
  have SaV := Sta.start evV (Or.inr ⟨(hw _ (List.mem_of_getElem? (i := 11) rfl)), (hw _ (List.mem_of_getElem? (i := 20) rfl))⟩)
  obtain ⟨clV, ArV⟩ := Arr.start evV c2
  obtain ⟨ltV, lenV⟩ := own_len evV ArV c4
  have hb0 := own_elem evV ArV.1 evb0 c5
  have Fw0 := own_fldR evb0 evu0 c18
  have Fb0 := own_fld evb0 c19
  have hb1 := own_elem evV ArV.1 evb1 c7
  have Fw1 := own_fldR evb1 evu0 c23
  have Fb1 := own_fld evb1 c30
  have hb2 := own_elem evV ArV.1 evb2 c9
  have Fw2 := own_fldR evb2 evu1 c25
  have Fb2 := own_fld evb2 c31
  have hb3 := own_elem evV ArV.1 evb3 c11
  have Fw3 := own_fldR evb3 evu1 c27
  have Fb3 := own_fld evb3 r37
  have hb4 := own_elem evV ArV.1 evb4 c13
  have Fw4 := own_fldR evb4 evu2 c28
  have Fb4 := own_fld evb4 c29
  have hb5 := own_elem evV ArV.1 evb5 c15
  have Fw5 := own_fldR evb5 evu2 c32
  have Fb5 := own_fld evb5 c33
  have hb6 := own_elem evV ArV.1 evb6 c17
  have Fw6 := own_fldR evb6 evu3 c36
  have Fb6 := own_fld evb6 c37
  have VaV : Arv s s.heap aV clV.cls (.object "com/example/innesco/innesco/database/TriggerEvent") (7 : Int32) [(.ref b0), (.ref b1), (.ref b2), (.ref b3), (.ref b4), (.ref b5), (.ref b6)] .null := Arv.start hfit ArV ltV lenV (by decide) rfl ⟨hb0, hb1, hb2, hb3, hb4, hb5, hb6, trivial⟩
  have ne01 := Ou0.ne Ou1 (by decide)
  have ne02 := Ou0.ne Ou2 (by decide)
  have ne03 := Ou0.ne Ou3 (by decide)
  have ne12 := Ou1.ne Ou2 (by decide)
  have ne13 := Ou1.ne Ou3 (by decide)
  have ne23 := Ou2.ne Ou3 (by decide)
  have run : MetFree l x (head1 (Jvm.Cond.code x code maxLocals ret :: tables_1) room_1) (fun a U => a = #[.int i0, .int i1] ∧ s.Warmed39 U.vm ∧ U.heap = s.heap) (fun _ _ _ _ _ => True) (fun _ U o U' => ∃ v L, o = .returned v ∧ (fun (v : Option Value) (h : Heap) (L : List Loc) => v = some (.int 1) ∧ Fr s.heap.size L ∧ True) v U'.heap L ∧ FrameEnd U o U' L 16 128) := by
    rcases own_and3 i0 with hk0 | hk0 | hk0 | hk0 <;> rcases and_one i1 with hb0 | hb0
    · exact law_0_0 l s _ hw tables_1 i0 i1 aV clV.cls b0 b1 b2 b3 b4 b5 b6 u0 u1 u2 u3 s.heap s.heap.size (Nat.le_refl _) SaV VaV EaV Fw0 Fw1 Fw2 Fw3 Fw4 Fw5 Fw6 Fb0 Fb1 Fb2 Fb3 Fb4 Fb5 Fb6 ne01 ne02 ne03 ne12 ne13 ne23 Su0 Sb1 hk0 hb0
    · exact law_0_1 l s _ hw tables_1 i0 i1 aV clV.cls b0 b1 b2 b3 b4 b5 b6 u0 u1 u2 u3 s.heap s.heap.size (Nat.le_refl _) SaV VaV EaV Fw0 Fw1 Fw2 Fw3 Fw4 Fw5 Fw6 Fb0 Fb1 Fb2 Fb3 Fb4 Fb5 Fb6 ne01 ne02 ne03 ne12 ne13 ne23 Su0 Sb0 hk0 hb0
    · exact law_1_0 l s _ hw tables_1 i0 i1 aV clV.cls b0 b1 b2 b3 b4 b5 b6 u0 u1 u2 u3 s.heap s.heap.size (Nat.le_refl _) SaV VaV EaV Fw0 Fw1 Fw2 Fw3 Fw4 Fw5 Fw6 Fb0 Fb1 Fb2 Fb3 Fb4 Fb5 Fb6 ne01 ne02 ne03 ne12 ne13 ne23 Su1 Sb3 hk0 hb0
    · exact law_1_1 l s _ hw tables_1 i0 i1 aV clV.cls b0 b1 b2 b3 b4 b5 b6 u0 u1 u2 u3 s.heap s.heap.size (Nat.le_refl _) SaV VaV EaV Fw0 Fw1 Fw2 Fw3 Fw4 Fw5 Fw6 Fb0 Fb1 Fb2 Fb3 Fb4 Fb5 Fb6 ne01 ne02 ne03 ne12 ne13 ne23 Su1 Sb2 hk0 hb0
    · exact law_2_0 l s _ hw tables_1 i0 i1 aV clV.cls b0 b1 b2 b3 b4 b5 b6 u0 u1 u2 u3 s.heap s.heap.size (Nat.le_refl _) SaV VaV EaV Fw0 Fw1 Fw2 Fw3 Fw4 Fw5 Fw6 Fb0 Fb1 Fb2 Fb3 Fb4 Fb5 Fb6 ne01 ne02 ne03 ne12 ne13 ne23 Su2 Sb5 hk0 hb0
    · exact law_2_1 l s _ hw tables_1 i0 i1 aV clV.cls b0 b1 b2 b3 b4 b5 b6 u0 u1 u2 u3 s.heap s.heap.size (Nat.le_refl _) SaV VaV EaV Fw0 Fw1 Fw2 Fw3 Fw4 Fw5 Fw6 Fb0 Fb1 Fb2 Fb3 Fb4 Fb5 Fb6 ne01 ne02 ne03 ne12 ne13 ne23 Su2 Sb4 hk0 hb0
    · exact law_3_0 l s _ hw tables_1 i0 i1 aV clV.cls b0 b1 b2 b3 b4 b5 b6 u0 u1 u2 u3 s.heap s.heap.size (Nat.le_refl _) SaV VaV EaV Fw0 Fw1 Fw2 Fw3 Fw4 Fw5 Fw6 Fb0 Fb1 Fb2 Fb3 Fb4 Fb5 Fb6 ne01 ne02 ne03 ne12 ne13 ne23 Su3 Sb6 hk0 hb0
    · exact law_3_1 l s _ hw tables_1 i0 i1 aV clV.cls b0 b1 b2 b3 b4 b5 b6 u0 u1 u2 u3 s.heap s.heap.size (Nat.le_refl _) SaV VaV EaV Fw0 Fw1 Fw2 Fw3 Fw4 Fw5 Fw6 Fb0 Fb1 Fb2 Fb3 Fb4 Fb5 Fb6 ne01 ne02 ne03 ne12 ne13 ne23 Su3  hk0 hb0
  obtain ⟨n, o, h1, h2, h3, _, L, rfl, ⟨rfl, N, -⟩, hq⟩ := run p e ha hc hk s m _ below hf ((Spec.applies_iff_loose hf).mp happ).1 ⟨rfl, State.Warmed39.refl s, rfl⟩ trivial
  refine ⟨n, _, h1, h2, h3, hpost _ _ _ _ _ _ ⟨Cond.after_iff.mpr rfl, Cond.after_iff.mpr (eq_i res_at (Term.int_eval (1)) rfl), trivial⟩ ⟨hq.1, hq.2.1, (hq.2.2.sift fun y hy => Or.inr (N y hy)).mono (by decide) (by decide)⟩⟩
theorem main_1_1 : Claimed_1_1 := comes_1 fun _ _ _ _ _ _ h hF => ⟨h.1, hF⟩
theorem main_1_2 : Claimed_1_2 := comes_1 fun _ _ _ _ _ _ h hF => ⟨h.2.1, hF⟩
end Jvm.Pilot.@@N@@
namespace Jvm.Pilot.@@N@@
open Jvm Jvm.ClassFile Sem Op Lib Jvm.Free Jvm.Stand Jvm.Pilot.@@N@@.Jvm.D
/-! MADE BY PROGRAM (witnessworld.py) out of the Statement's table words and the real class files: 14 classes; the members and pool entries that the words name. The judged class is class 1, her method 3. -/
namespace start1
open Jvm.ClassFile
def u (s : String) : CpInfo := .utf8 (stringToUtf16 s)
/-- a pool by its gaps: so many unusable entries, then the entry; so many at the end -/
def gap : Nat → List CpInfo → List CpInfo
  | 0, r => r
  | n + 1, r => .unusable :: gap n r
def poolList (es : List (Nat × CpInfo)) (last : Nat) : List CpInfo := es.foldr (fun e r => gap e.1 (e.2 :: r)) (gap last [])
def pool (es : List (Nat × CpInfo)) (last : Nat) : Array CpInfo := ⟨poolList es last⟩
def fileOf (pool : Array CpInfo) (this : Nat) (attrs : Array Attribute := #[]) (ms : Array MethodInfo := #[]) (fl : Nat := 33) (sup : Nat := 0) (ifs : Array Nat := #[]) (fds : Array FieldInfo := #[]) : ClassFile where
  minorVersion := 0
  majorVersion := 65
  constantPool := pool
  accessFlags := fl
  thisClass := this
  superClass := sup
  interfaces := ifs
  fields := fds
  methods := ms
  attributes := attrs
def plain (name : String) (sup : Option ClassId) : Class where
  name := name
  kind := .ordinary
  loader := none
  accessFlags := 33
  super := sup
  interfaces := #[]
  cf := none
  fields := #[]
  methods := #[]
  instanceTypes := #[]
  staticTypes := #[]
  resolved := #[]
  callSites := []
  init := .initialized
  statics := none
  mirror := none

def pool0 : Array CpInfo := pool [(5, u "<init>"), (0, u "()V"), (1, .class_ 10), (1, u "java/lang/Object"), (85, u "clone"), (0, u "()Ljava/lang/Object;")] 26

def k0m0 : Method := { name := "<init>", desc := "()V", sig := { parameters := [], returnType := none }, accessFlags := 1, code := none }
def k0m1 : Method := { name := "clone", desc := "()Ljava/lang/Object;", sig := { parameters := [], returnType := some (.object "java/lang/Object") }, accessFlags := 260, code := none }
/-- java/lang/Object -/
def k0 : Class := { plain "java/lang/Object" none with
  accessFlags := 33
  interfaces := #[]
  cf := some (fileOf pool0 8 #[] #[{ accessFlags := 1, nameIndex := 5, descriptorIndex := 6, attributes := #[] }, { accessFlags := 260, nameIndex := 96, descriptorIndex := 97, attributes := #[] }] 33 0 #[] #[])
  fields := #[]
  methods := #[k0m0, k0m1]
  instanceTypes := #[]
  staticTypes := #[]
  resolved := Array.replicate 124 none
  statics := none }

def pool1 : Array CpInfo := pool [(2, .class_ 4), (1, u "java/lang/Object"), (0, u "<init>"), (0, u "()V"), (0, .fieldref 8 9), (0, .class_ 10), (0, .nameAndType 11 12), (0, u "com/example/innesco/innesco/database/Write"), (0, u "INSERT"), (0, u "Lcom/example/innesco/innesco/database/Write;"), (0, .fieldref 8 14), (0, .nameAndType 15 12), (0, u "UPDATE"), (0, .fieldref 8 17), (0, .nameAndType 18 12), (0, u "DELETE"), (0, .fieldref 8 20), (0, .nameAndType 21 12), (0, u "UNDELETE"), (0, .fieldref 23 24), (0, .class_ 25), (0, .nameAndType 26 27), (0, u "com/example/innesco/innesco/database/TriggerEvent"), (0, u "BEFORE_INSERT"), (0, u "Lcom/example/innesco/innesco/database/TriggerEvent;"), (0, .fieldref 23 29), (0, .nameAndType 30 27), (0, u "AFTER_INSERT"), (0, .fieldref 23 32), (0, .nameAndType 33 27), (0, u "BEFORE_UPDATE"), (0, .fieldref 23 35), (0, .nameAndType 36 27), (0, u "AFTER_UPDATE"), (0, .fieldref 23 38), (0, .nameAndType 39 27), (0, u "BEFORE_DELETE"), (0, .fieldref 23 41), (0, .nameAndType 42 27), (0, u "AFTER_DELETE"), (0, .fieldref 23 44), (0, .nameAndType 45 27), (0, u "AFTER_UNDELETE"), (0, .methodref 47 48), (0, .class_ 49), (0, .nameAndType 50 51), (0, u "com/example/innesco/innesco/database/TriggerEventOfPinLaw"), (0, u "writeOf"), (0, u "(I)Lcom/example/innesco/innesco/database/Write;"), (0, .methodref 47 53), (0, .nameAndType 54 55), (0, u "expectedOf"), (0, u "(IZ)Lcom/example/innesco/innesco/database/TriggerEvent;"), (0, .methodref 23 57), (0, .nameAndType 58 59), (0, u "of"), (0, u "(Lcom/example/innesco/innesco/database/Write;Z)Lcom/example/innesco/innesco/database/TriggerEvent;"), (3, u "law"), (0, u "(II)Z")] 2

def k1m0 : Method := { name := "<init>", desc := "()V", sig := { parameters := [], returnType := none }, accessFlags := 1, code := none }
def k1c1 : Code := { maxStack := 2, maxLocals := 1, code := method_2_code, exceptionTable := #[], attributes := #[] }
def k1m1 : Method := { name := "writeOf", desc := "(I)Lcom/example/innesco/innesco/database/Write;", sig := { parameters := [.int], returnType := some (.object "com/example/innesco/innesco/database/Write") }, accessFlags := 10, code := some k1c1 }
def k1c2 : Code := { maxStack := 2, maxLocals := 2, code := method_3_code, exceptionTable := #[], attributes := #[] }
def k1m2 : Method := { name := "expectedOf", desc := "(IZ)Lcom/example/innesco/innesco/database/TriggerEvent;", sig := { parameters := [.int, .boolean], returnType := some (.object "com/example/innesco/innesco/database/TriggerEvent") }, accessFlags := 10, code := some k1c2 }
def k1c3 : Code := { maxStack := 2, maxLocals := 7, code := code, exceptionTable := #[], attributes := #[] }
def k1m3 : Method := { name := "law", desc := "(II)Z", sig := { parameters := [.int, .int], returnType := some .boolean }, accessFlags := 9, code := some k1c3 }
/-- com/example/innesco/innesco/database/TriggerEventOfPinLaw -/
def k1 : Class := { plain "com/example/innesco/innesco/database/TriggerEventOfPinLaw" (some 0) with
  accessFlags := 49
  interfaces := #[]
  cf := some (fileOf pool1 47 #[] #[{ accessFlags := 1, nameIndex := 5, descriptorIndex := 6, attributes := #[] }, { accessFlags := 10, nameIndex := 50, descriptorIndex := 51, attributes := #[] }, { accessFlags := 10, nameIndex := 54, descriptorIndex := 55, attributes := #[] }, { accessFlags := 9, nameIndex := 63, descriptorIndex := 64, attributes := #[] }] 49 2 #[] #[])
  fields := #[]
  methods := #[k1m0, k1m1, k1m2, k1m3]
  instanceTypes := #[]
  staticTypes := #[]
  resolved := Array.replicate 67 none
  statics := none }

def pool2 : Array CpInfo := pool [(1, .class_ 2), (0, u "java/lang/constant/Constable"), (0, .class_ 4), (0, u "java/lang/Object")] 6

/-- java/lang/constant/Constable -/
def k2 : Class := { plain "java/lang/constant/Constable" (some 0) with
  accessFlags := 1537
  interfaces := #[]
  cf := some (fileOf pool2 1 #[] #[] 1537 3 #[] #[])
  fields := #[]
  methods := #[]
  instanceTypes := #[]
  staticTypes := #[]
  resolved := Array.replicate 11 none
  statics := none }

def pool3 : Array CpInfo := pool [(1, .class_ 2), (0, u "java/lang/Comparable"), (0, .class_ 4), (0, u "java/lang/Object")] 7

/-- java/lang/Comparable -/
def k3 : Class := { plain "java/lang/Comparable" (some 0) with
  accessFlags := 1537
  interfaces := #[]
  cf := some (fileOf pool3 1 #[] #[] 1537 3 #[] #[])
  fields := #[]
  methods := #[]
  instanceTypes := #[]
  staticTypes := #[]
  resolved := Array.replicate 12 none
  statics := none }

def pool4 : Array CpInfo := pool [(1, .class_ 2), (0, u "java/io/Serializable"), (0, .class_ 4), (0, u "java/lang/Object")] 2

/-- java/io/Serializable -/
def k4 : Class := { plain "java/io/Serializable" (some 0) with
  accessFlags := 1537
  interfaces := #[]
  cf := some (fileOf pool4 1 #[] #[] 1537 3 #[] #[])
  fields := #[]
  methods := #[]
  instanceTypes := #[]
  staticTypes := #[]
  resolved := Array.replicate 7 none
  statics := none }

def pool5 : Array CpInfo := pool [(2, .class_ 4), (1, u "java/lang/Enum"), (0, u "name"), (0, u "Ljava/lang/String;"), (2, u "ordinal"), (0, u "I"), (1, .class_ 14), (1, u "java/lang/Object"), (4, u "hash"), (86, .class_ 108), (1, u "java/lang/Enum$EnumDesc"), (2, .class_ 112), (0, u "java/lang/constant/Constable"), (0, .class_ 114), (0, u "java/lang/Comparable"), (0, .class_ 116), (0, u "java/io/Serializable")] 87

/-- java/lang/Enum -/
def k5 : Class := { plain "java/lang/Enum" (some 0) with
  accessFlags := 1057
  interfaces := #[2, 3, 4]
  cf := some (fileOf pool5 2 #[.nestMembers #[106]] #[] 1057 12 #[111, 113, 115] #[{ accessFlags := 18, nameIndex := 5, descriptorIndex := 6, attributes := #[] }, { accessFlags := 18, nameIndex := 9, descriptorIndex := 10, attributes := #[] }, { accessFlags := 2, nameIndex := 19, descriptorIndex := 10, attributes := #[] }])
  fields := #[{ name := "name", type := (.object "java/lang/String"), accessFlags := 18, slot := 0, constantValue := 0 }, { name := "ordinal", type := .int, accessFlags := 18, slot := 1, constantValue := 0 }, { name := "hash", type := .int, accessFlags := 2, slot := 2, constantValue := 0 }]
  methods := #[]
  instanceTypes := #[(.object "java/lang/String"), .int, .int]
  staticTypes := #[]
  resolved := Array.replicate 204 none
  statics := none }

def pool6 : Array CpInfo := pool [(1, .class_ 2), (0, u "com/example/innesco/innesco/database/Write"), (2, u "INSERT"), (0, u "Lcom/example/innesco/innesco/database/Write;"), (2, u "UPDATE"), (2, u "DELETE"), (2, u "UNDELETE"), (2, u "$VALUES"), (0, u "[Lcom/example/innesco/innesco/database/Write;"), (6, .class_ 28), (1, u "java/lang/Enum"), (8, u "call"), (0, u "Ljava/lang/String;"), (2, u "done")] 40

/-- com/example/innesco/innesco/database/Write -/
def k6 : Class := { plain "com/example/innesco/innesco/database/Write" (some 5) with
  accessFlags := 16433
  interfaces := #[]
  cf := some (fileOf pool6 1 #[] #[] 16433 26 #[] #[{ accessFlags := 16409, nameIndex := 5, descriptorIndex := 6, attributes := #[] }, { accessFlags := 16409, nameIndex := 9, descriptorIndex := 6, attributes := #[] }, { accessFlags := 16409, nameIndex := 12, descriptorIndex := 6, attributes := #[] }, { accessFlags := 16409, nameIndex := 15, descriptorIndex := 6, attributes := #[] }, { accessFlags := 18, nameIndex := 37, descriptorIndex := 38, attributes := #[] }, { accessFlags := 18, nameIndex := 41, descriptorIndex := 38, attributes := #[] }, { accessFlags := 4122, nameIndex := 18, descriptorIndex := 19, attributes := #[] }])
  fields := #[{ name := "INSERT", type := (.object "com/example/innesco/innesco/database/Write"), accessFlags := 16409, slot := 0, constantValue := 0 }, { name := "UPDATE", type := (.object "com/example/innesco/innesco/database/Write"), accessFlags := 16409, slot := 1, constantValue := 0 }, { name := "DELETE", type := (.object "com/example/innesco/innesco/database/Write"), accessFlags := 16409, slot := 2, constantValue := 0 }, { name := "UNDELETE", type := (.object "com/example/innesco/innesco/database/Write"), accessFlags := 16409, slot := 3, constantValue := 0 }, { name := "call", type := (.object "java/lang/String"), accessFlags := 18, slot := 3, constantValue := 0 }, { name := "done", type := (.object "java/lang/String"), accessFlags := 18, slot := 4, constantValue := 0 }, { name := "$VALUES", type := (.array (.object "com/example/innesco/innesco/database/Write")), accessFlags := 4122, slot := 4, constantValue := 0 }]
  methods := #[]
  instanceTypes := #[(.object "java/lang/String"), .int, .int, (.object "java/lang/String"), (.object "java/lang/String")]
  staticTypes := #[(.object "com/example/innesco/innesco/database/Write"), (.object "com/example/innesco/innesco/database/Write"), (.object "com/example/innesco/innesco/database/Write"), (.object "com/example/innesco/innesco/database/Write"), (.array (.object "com/example/innesco/innesco/database/Write"))]
  resolved := Array.replicate 82 none
  statics := some 0 }

def pool7 : Array CpInfo := pool [(1, .class_ 2), (0, u "com/example/innesco/innesco/database/TriggerEvent"), (2, u "BEFORE_INSERT"), (0, u "Lcom/example/innesco/innesco/database/TriggerEvent;"), (2, u "AFTER_INSERT"), (2, u "BEFORE_UPDATE"), (2, u "AFTER_UPDATE"), (2, u "BEFORE_DELETE"), (2, u "AFTER_DELETE"), (2, u "AFTER_UNDELETE"), (0, .fieldref 1 26), (0, .nameAndType 27 28), (0, u "$VALUES"), (0, u "[Lcom/example/innesco/innesco/database/TriggerEvent;"), (0, .methodref 30 31), (0, .class_ 28), (0, .nameAndType 32 33), (0, u "clone"), (0, u "()Ljava/lang/Object;"), (1, .class_ 37), (1, u "java/lang/Enum"), (6, .fieldref 1 45), (0, .nameAndType 46 47), (0, u "write"), (0, u "Lcom/example/innesco/innesco/database/Write;"), (0, .fieldref 1 49), (0, .nameAndType 50 51), (0, u "before"), (0, u "Z"), (0, .methodref 1 53), (0, .nameAndType 54 55), (0, u "values"), (0, u "()[Lcom/example/innesco/innesco/database/TriggerEvent;"), (36, u "of"), (0, u "(Lcom/example/innesco/innesco/database/Write;Z)Lcom/example/innesco/innesco/database/TriggerEvent;")] 6

def k7c0 : Code := { maxStack := 1, maxLocals := 0, code := prog_14_method_1_code, exceptionTable := #[], attributes := #[] }
def k7m0 : Method := { name := "values", desc := "()[Lcom/example/innesco/innesco/database/TriggerEvent;", sig := { parameters := [], returnType := some (.array (.object "com/example/innesco/innesco/database/TriggerEvent")) }, accessFlags := 9, code := some k7c0 }
def k7c1 : Code := { maxStack := 2, maxLocals := 6, code := prog_14_method_6_code, exceptionTable := #[], attributes := #[] }
def k7m1 : Method := { name := "of", desc := "(Lcom/example/innesco/innesco/database/Write;Z)Lcom/example/innesco/innesco/database/TriggerEvent;", sig := { parameters := [(.object "com/example/innesco/innesco/database/Write"), .boolean], returnType := some (.object "com/example/innesco/innesco/database/TriggerEvent") }, accessFlags := 9, code := some k7c1 }
/-- com/example/innesco/innesco/database/TriggerEvent -/
def k7 : Class := { plain "com/example/innesco/innesco/database/TriggerEvent" (some 5) with
  accessFlags := 16433
  interfaces := #[]
  cf := some (fileOf pool7 1 #[] #[{ accessFlags := 9, nameIndex := 54, descriptorIndex := 55, attributes := #[] }, { accessFlags := 9, nameIndex := 92, descriptorIndex := 93, attributes := #[] }] 16433 35 #[] #[{ accessFlags := 16409, nameIndex := 5, descriptorIndex := 6, attributes := #[] }, { accessFlags := 16409, nameIndex := 9, descriptorIndex := 6, attributes := #[] }, { accessFlags := 16409, nameIndex := 12, descriptorIndex := 6, attributes := #[] }, { accessFlags := 16409, nameIndex := 15, descriptorIndex := 6, attributes := #[] }, { accessFlags := 16409, nameIndex := 18, descriptorIndex := 6, attributes := #[] }, { accessFlags := 16409, nameIndex := 21, descriptorIndex := 6, attributes := #[] }, { accessFlags := 16409, nameIndex := 24, descriptorIndex := 6, attributes := #[] }, { accessFlags := 18, nameIndex := 46, descriptorIndex := 47, attributes := #[] }, { accessFlags := 18, nameIndex := 50, descriptorIndex := 51, attributes := #[] }, { accessFlags := 4122, nameIndex := 27, descriptorIndex := 28, attributes := #[] }])
  fields := #[{ name := "BEFORE_INSERT", type := (.object "com/example/innesco/innesco/database/TriggerEvent"), accessFlags := 16409, slot := 0, constantValue := 0 }, { name := "AFTER_INSERT", type := (.object "com/example/innesco/innesco/database/TriggerEvent"), accessFlags := 16409, slot := 1, constantValue := 0 }, { name := "BEFORE_UPDATE", type := (.object "com/example/innesco/innesco/database/TriggerEvent"), accessFlags := 16409, slot := 2, constantValue := 0 }, { name := "AFTER_UPDATE", type := (.object "com/example/innesco/innesco/database/TriggerEvent"), accessFlags := 16409, slot := 3, constantValue := 0 }, { name := "BEFORE_DELETE", type := (.object "com/example/innesco/innesco/database/TriggerEvent"), accessFlags := 16409, slot := 4, constantValue := 0 }, { name := "AFTER_DELETE", type := (.object "com/example/innesco/innesco/database/TriggerEvent"), accessFlags := 16409, slot := 5, constantValue := 0 }, { name := "AFTER_UNDELETE", type := (.object "com/example/innesco/innesco/database/TriggerEvent"), accessFlags := 16409, slot := 6, constantValue := 0 }, { name := "write", type := (.object "com/example/innesco/innesco/database/Write"), accessFlags := 18, slot := 3, constantValue := 0 }, { name := "before", type := .boolean, accessFlags := 18, slot := 4, constantValue := 0 }, { name := "$VALUES", type := (.array (.object "com/example/innesco/innesco/database/TriggerEvent")), accessFlags := 4122, slot := 7, constantValue := 0 }]
  methods := #[k7m0, k7m1]
  instanceTypes := #[(.object "java/lang/String"), .int, .int, (.object "com/example/innesco/innesco/database/Write"), .boolean]
  staticTypes := #[(.object "com/example/innesco/innesco/database/TriggerEvent"), (.object "com/example/innesco/innesco/database/TriggerEvent"), (.object "com/example/innesco/innesco/database/TriggerEvent"), (.object "com/example/innesco/innesco/database/TriggerEvent"), (.object "com/example/innesco/innesco/database/TriggerEvent"), (.object "com/example/innesco/innesco/database/TriggerEvent"), (.object "com/example/innesco/innesco/database/TriggerEvent"), (.array (.object "com/example/innesco/innesco/database/TriggerEvent"))]
  resolved := Array.replicate 100 none
  statics := some 1 }

def pool8 : Array CpInfo := pool [(1, .class_ 2), (0, u "java/lang/Cloneable"), (0, .class_ 4), (0, u "java/lang/Object")] 2

/-- java/lang/Cloneable -/
def k8 : Class := { plain "java/lang/Cloneable" (some 0) with
  accessFlags := 1537
  interfaces := #[]
  cf := some (fileOf pool8 1 #[] #[] 1537 3 #[] #[])
  fields := #[]
  methods := #[]
  instanceTypes := #[]
  staticTypes := #[]
  resolved := Array.replicate 7 none
  statics := none }

/-- the primitive byte -/
def k9 : Class := { plain "byte" none with kind := .primitive 'B', accessFlags := 0x411 }
/-- [B -/
def k10 : Class := { plain "[B" (some 0) with kind := .array 9 .byte, interfaces := #[8, 4], accessFlags := 1041 }

/-- the primitive int -/
def k11 : Class := { plain "int" none with kind := .primitive 'I', accessFlags := 0x411 }
/-- [I -/
def k12 : Class := { plain "[I" (some 0) with kind := .array 11 .int, interfaces := #[8, 4], accessFlags := 1041 }

/-- [Lcom/example/innesco/innesco/database/TriggerEvent; -/
def k13 : Class := { plain "[Lcom/example/innesco/innesco/database/TriggerEvent;" (some 0) with kind := .array 7 (.object "com/example/innesco/innesco/database/TriggerEvent"), interfaces := #[8, 4], accessFlags := 1041 }

def heap : Heap := #[{ cls := 6, slots := #[.ref 10, .ref 11, .ref 12, .ref 13, .null], vm := .statics 6 },
  { cls := 7, slots := #[.ref 3, .ref 4, .ref 5, .ref 6, .ref 7, .ref 8, .ref 9, .ref 2], vm := .statics 7 },
  { cls := 13, slots := #[.ref 3, .ref 4, .ref 5, .ref 6, .ref 7, .ref 8, .ref 9], vm := .none },
  { cls := 7, slots := #[.null, .int 0, .int 0, .ref 10, .int 1], vm := .none },
  { cls := 7, slots := #[.null, .int 1, .int 0, .ref 10, .int 0], vm := .none },
  { cls := 7, slots := #[.null, .int 2, .int 0, .ref 11, .int 1], vm := .none },
  { cls := 7, slots := #[.null, .int 3, .int 0, .ref 11, .int 0], vm := .none },
  { cls := 7, slots := #[.null, .int 4, .int 0, .ref 12, .int 1], vm := .none },
  { cls := 7, slots := #[.null, .int 5, .int 0, .ref 12, .int 0], vm := .none },
  { cls := 7, slots := #[.null, .int 6, .int 0, .ref 13, .int 0], vm := .none },
  { cls := 6, slots := #[.null, .int 0, .int 0, .null, .null], vm := .none },
  { cls := 6, slots := #[.null, .int 1, .int 0, .null, .null], vm := .none },
  { cls := 6, slots := #[.null, .int 2, .int 0, .null, .null], vm := .none },
  { cls := 6, slots := #[.null, .int 3, .int 0, .null, .null], vm := .none }]
def classes : Array Class := #[k0, k1, k2, k3, k4, k5, k6, k7, k8, k9, k10, k11, k12, k13]
def interned : List (Array UInt16 × Addr) := []
def slotsUsed : Nat := 75
def theMethod : MethodId := ⟨1, 3⟩
def args0 : Array Value := #[.int 5, .int 3]
def aboutOver (below : List Frame) : State where
  vm := { classes := classes, interned := interned.toArray }
  heap := heap
  slotsUsed := slotsUsed
  threads := #[{ frames := .invoking theMethod args0 :: below }]
def below0 : List Frame := [.native { method := ⟨0, 0⟩, args := #[] }]
def about1 : State := aboutOver below0
def p0 : Program := .bare "" "" ""
def e0 : Env := launch0.env 0 0 0
theorem w_frames : about1.frames = Frame.invoking theMethod args0 :: below0 := rfl
set_option maxRecDepth 65536 in
theorem w_args : argsFit about1.vm theMethod args0 = true := by decide +kernel
set_option maxRecDepth 65536 in
theorem w_heap : heapFits about1 = true := by decide +kernel
set_option maxRecDepth 65536 in
theorem w_runnable : about1.curStatus? = some .runnable := by decide +kernel
set_option maxRecDepth 65536 in
theorem w_alone : about1.alone = true := by decide +kernel
set_option maxRecDepth 65536 in
theorem w_named : about1.methodNamed? x = some theMethod := by decide +kernel
set_option maxRecDepth 65536 in
theorem w_hears : about1.hears theMethod below0 = true := by decide +kernel
set_option maxRecDepth 65536 in
theorem w_ripe : about1.ripe theMethod args0 below0 = true := by decide +kernel
theorem w_running : about1.status = .running := rfl
set_option maxRecDepth 65536 in
theorem w_room : about1.hasRoom e0.platform room_1 = true :=
  launch0.hasRoom_least _ room_1 (by decide +kernel) (by decide +kernel) (by decide +kernel) (by decide +kernel) (by decide +kernel) (by decide +kernel)
theorem allAtoms_all (ts : List Jvm.Cond) (a : Array Jvm.Value) (st : Jvm.State) : (allAtoms ts).before a st = ts.all (fun c => c.before a st) := by
  induction ts with
  | nil => rfl
  | cons c t ih =>
    show (Jvm.Cond.and c (allAtoms t)).before a st = _
    rw [Jvm.Cond.before_and, ih, List.all_cons]
def words1 : List Jvm.Cond := Jvm.Cond.code x code maxLocals ret :: tables_1
/-- a 'code' word, met by the world's own term for the bytes: nothing is compared byte by byte -/
theorem code_word {y : MethodName} {bytes : ByteArray} {mx : Nat} {rt : Option FieldType} {a : Array Value} {s : State} {m : MethodId} {meth : Method} {c : Code} (h1 : s.methodNamed? y = some m) (h2 : s.vm.method? m = some meth) (h3 : meth.code = some c) (h4 : c.code = bytes)
    (h5 : (c.maxLocals == mx && c.exceptionTable.isEmpty && decide (c.maxStack ≤ mostOperands) && decide (meth.sig.returnType = rt) && !meth.locks && decide (parseMethodDescriptor y.desc = some meth.sig)) = true) : (Jvm.Cond.code y bytes mx rt).before a s = true := by
  simp only [Bool.and_eq_true, beq_iff_eq, Bool.not_eq_true', decide_eq_true_eq] at h5
  obtain ⟨⟨⟨⟨⟨g1, g2⟩, g3⟩, g4⟩, g5⟩, g6⟩ := h5
  simp [Cond.before, Cond.holds, Cond.value, h1, h2, h3, h4, g1, g2, g3, g4, g5, g6]
def isCode : Jvm.Cond → Bool
  | .code _ _ _ _ => true
  | _ => false
theorem all_split {L : List Jvm.Cond} {P : Jvm.Cond → Bool} (h1 : L.all (fun c => isCode c || P c) = true) (h2 : ∀ c ∈ L.filter isCode, P c = true) : L.all P = true := by
  refine List.all_eq_true.mpr fun c hc => ?_
  have h := List.all_eq_true.mp h1 c hc
  rcases Bool.eq_false_or_eq_true (isCode c) with hi | hi
  · exact h2 c (List.mem_filter.mpr ⟨hc, hi⟩)
  · simpa [hi] using h
set_option maxRecDepth 65536 in
theorem w_c0 : (Jvm.Cond.code x code maxLocals ret).before args0 about1 = true := code_word (m := ⟨1, 3⟩) (meth := k1m3) (c := k1c3) (by decide +kernel) rfl rfl rfl (by decide +kernel)
set_option maxRecDepth 65536 in
theorem w_c1 : (Jvm.Cond.code ({ cls := "com/example/innesco/innesco/database/TriggerEventOfPinLaw", name := "writeOf", desc := "(I)Lcom/example/innesco/innesco/database/Write;" } : Jvm.MethodName) method_2_code (1 : Nat) (Option.some (Jvm.ClassFile.FieldType.object "com/example/innesco/innesco/database/Write"))).before args0 about1 = true := code_word (m := ⟨1, 1⟩) (meth := k1m1) (c := k1c1) (by decide +kernel) rfl rfl rfl (by decide +kernel)
set_option maxRecDepth 65536 in
theorem w_c2 : (Jvm.Cond.code ({ cls := "com/example/innesco/innesco/database/TriggerEventOfPinLaw", name := "expectedOf", desc := "(IZ)Lcom/example/innesco/innesco/database/TriggerEvent;" } : Jvm.MethodName) method_3_code (2 : Nat) (Option.some (Jvm.ClassFile.FieldType.object "com/example/innesco/innesco/database/TriggerEvent"))).before args0 about1 = true := code_word (m := ⟨1, 2⟩) (meth := k1m2) (c := k1c2) (by decide +kernel) rfl rfl rfl (by decide +kernel)
set_option maxRecDepth 65536 in
theorem w_c3 : (Jvm.Cond.code ({ cls := "com/example/innesco/innesco/database/TriggerEvent", name := "of", desc := "(Lcom/example/innesco/innesco/database/Write;Z)Lcom/example/innesco/innesco/database/TriggerEvent;" } : Jvm.MethodName) prog_14_method_6_code (6 : Nat) (Option.some (Jvm.ClassFile.FieldType.object "com/example/innesco/innesco/database/TriggerEvent"))).before args0 about1 = true := code_word (m := ⟨7, 1⟩) (meth := k7m1) (c := k7c1) (by decide +kernel) rfl rfl rfl (by decide +kernel)
set_option maxRecDepth 65536 in
theorem w_c4 : (Jvm.Cond.code ({ cls := "com/example/innesco/innesco/database/TriggerEvent", name := "values", desc := "()[Lcom/example/innesco/innesco/database/TriggerEvent;" } : Jvm.MethodName) prog_14_method_1_code (0 : Nat) (Option.some (Jvm.ClassFile.FieldType.array (Jvm.ClassFile.FieldType.object "com/example/innesco/innesco/database/TriggerEvent")))).before args0 about1 = true := code_word (m := ⟨7, 0⟩) (meth := k7m0) (c := k7c0) (by decide +kernel) rfl rfl rfl (by decide +kernel)
def codes1 : List Jvm.Cond := [Jvm.Cond.code x code maxLocals ret, Jvm.Cond.code ({ cls := "com/example/innesco/innesco/database/TriggerEventOfPinLaw", name := "writeOf", desc := "(I)Lcom/example/innesco/innesco/database/Write;" } : Jvm.MethodName) method_2_code (1 : Nat) (Option.some (Jvm.ClassFile.FieldType.object "com/example/innesco/innesco/database/Write")), Jvm.Cond.code ({ cls := "com/example/innesco/innesco/database/TriggerEventOfPinLaw", name := "expectedOf", desc := "(IZ)Lcom/example/innesco/innesco/database/TriggerEvent;" } : Jvm.MethodName) method_3_code (2 : Nat) (Option.some (Jvm.ClassFile.FieldType.object "com/example/innesco/innesco/database/TriggerEvent")), Jvm.Cond.code ({ cls := "com/example/innesco/innesco/database/TriggerEvent", name := "of", desc := "(Lcom/example/innesco/innesco/database/Write;Z)Lcom/example/innesco/innesco/database/TriggerEvent;" } : Jvm.MethodName) prog_14_method_6_code (6 : Nat) (Option.some (Jvm.ClassFile.FieldType.object "com/example/innesco/innesco/database/TriggerEvent")), Jvm.Cond.code ({ cls := "com/example/innesco/innesco/database/TriggerEvent", name := "values", desc := "()[Lcom/example/innesco/innesco/database/TriggerEvent;" } : Jvm.MethodName) prog_14_method_1_code (0 : Nat) (Option.some (Jvm.ClassFile.FieldType.array (Jvm.ClassFile.FieldType.object "com/example/innesco/innesco/database/TriggerEvent")))]
set_option maxRecDepth 65536 in
theorem codes_eq : words1.filter isCode = codes1 := rfl
theorem w_codes : ∀ c ∈ words1.filter isCode, c.before args0 about1 = true := by
  rw [codes_eq]
  intro c hc
  simp only [codes1, List.mem_cons, List.not_mem_nil, or_false] at hc
  rcases hc with rfl | rfl | rfl | rfl | rfl
  · exact w_c0
  · exact w_c1
  · exact w_c2
  · exact w_c3
  · exact w_c4
set_option maxRecDepth 65536 in
theorem w_t1 : (words1.take 24).all (fun c => isCode c || c.before args0 about1) = true := by decide +kernel
set_option maxRecDepth 65536 in
theorem w_t2 : ((words1.drop 24).take 24).all (fun c => isCode c || c.before args0 about1) = true := by decide +kernel
set_option maxRecDepth 65536 in
theorem w_t3 : ((words1.drop 24).drop 24).all (fun c => isCode c || c.before args0 about1) = true := by decide +kernel
theorem w_tables : (allAtoms (Jvm.Cond.code x code maxLocals ret :: tables_1)).before args0 about1 = true := by
  rw [allAtoms_all]
  show words1.all (fun c => c.before args0 about1) = true
  refine all_split ?_ w_codes
  rw [← List.take_append_drop 24 words1, List.all_append, w_t1, ← List.take_append_drop 24 (words1.drop 24), List.all_append, w_t2, w_t3]
  rfl
set_option maxRecDepth 65536 in
theorem w_case : (Jvm.Cond.and given_1 narrow_1).before args0 about1 = true := by decide +kernel
theorem w_applies : (headSpec (Jvm.Cond.code x code maxLocals ret :: tables_1) room_1).applies x e0.platform about1 = true :=
  (Spec.applies_iff w_frames).mpr ⟨w_running, w_runnable, w_alone, w_named, w_hears, w_ripe, w_room, w_tables⟩
theorem atStart : AtStart classFile x code maxLocals ret World_1 tables_1 room_1 Calls_1 rest_1 Pre_1 launch0 p0 e0 about1 theMethod args0 below0 :=
  ⟨lists_1, trivial, launch0.admits_env _ _ _, launch0.least_env, fairChoices_fair.cas, fairChoices_fair.clock, w_frames, w_args, w_heap, w_applies, trivial, trivial, w_case⟩
end start1
theorem witness_1 : WitnessClaimed_1 := ⟨start1.p0, start1.e0, start1.about1, start1.theMethod, start1.args0, start1.below0, start1.atStart⟩
end Jvm.Pilot.@@N@@
