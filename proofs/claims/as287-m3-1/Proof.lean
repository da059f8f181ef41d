import JvmDerived
import JvmDerived.Pilot.@@N@@Statement
import JvmDerived.Pilot.@@N@@Code
set_option linter.unusedVariables false
set_option linter.unusedSimpArgs false
namespace Jvm.RoadKit
open Sem ClassFile Op Lib Jvm.Stand Jvm.Free Jvm.LawKit
section New
variable {p : Program} {l : Launch} {e : Env} {R : Room} {s : State} {m : MethodId} {args : Array Value} {below : List Frame} {meth : Method} {c : Code} {T : State} {locs : List Loc} {cells slots : Nat}
theorem retI (X : Stand p l e R s m args below meth c T locs cells slots) (hx : p.tables.exec = Jvm.exec) {pc : Nat} {Ls : Array Slot} {z : Int32} {rest : List Value} (hret : meth.sig.returnType = some .int) (hd : decode c.code pc = .ok (.ireturn, 1)) {fs : List Frame}
    (hl : ∀ (f : JFrame) (acts : List Action), f.method = m → f.locked = none → f.entered = [] → (doReturn e (T.setTop f) acts (some (.int z))).1 = T.setFrames fs) : Steps p.tables e below (T.setTop (mkF m pc Ls (.int z :: rest))) (T.setFrames fs) :=
  retOut X hx hret rfl (Or.inl ⟨rfl, Or.inl rfl, z, rfl⟩) hd hl
end New
end Jvm.RoadKit
namespace Jvm.Pilot.@@N@@
open Jvm Jvm.ClassFile Sem Op Lib Jvm.Free Jvm.Stand Jvm.LawKit Jvm.RoadKit Bundle Jvm.Pilot.@@N@@.Jvm.D
theorem own_pin {Z : State} {args : Array Value} {C n d K : String} (h : (Jvm.Cond.exactly (.static C n d) K).value args Z none Z [] = some true) (hi : (Jvm.Cond.initialized C).before args Z = true) (hl : (Jvm.Cond.laysStatic C n d).before args Z = true) :
    ∃ a, (Term.static C n d).eval args Z none [] Z = some (.ref a) ∧ Sta Z Z.heap C n d (.ref a) ∧ Exa Z Z.heap a K := by
  obtain ⟨a, ev⟩ := exa_v h
  exact ⟨a, ev, Sta.start ev (Or.inr ⟨hi, hl⟩), Exa.start ev h⟩
theorem own_fld {Z : State} {args : Array Value} {t : Term} {a : Addr} {C n d : String} {k : Int32} (ev : t.eval args Z none [] Z = some (.ref a)) (h : (Jvm.Cond.eq (.field t C n d) (.int k)).value args Z none Z [] = some true) : Fld Z Z.heap a C n d (.int k) := by
  obtain ⟨x, y, e1, e2, -, K⟩ := cmp_v (Or.inl h)
  have e2' : (Term.int k).eval args Z none [] Z = some (.int k) := Term.int_eval k
  cases e2.symm.trans e2'
  obtain ⟨z, rfl⟩ := K
  have q : z = k := gotT (Cond.eq_ints e1 e2) h
  subst q
  exact Fld.start ((fld_at ev).symm.trans e1)
theorem own_elem {Z : State} {args : Array Value} {t u : Term} {a b : Addr} {cl : Cell} {j : Int32} (ev : t.eval args Z none [] Z = some (.ref a)) (hc : Z.heap[a]? = some cl) (eb : u.eval args Z none [] Z = some (.ref b)) (h : (Jvm.Cond.eq (.elem t (.int j)) u).value args Z none Z [] = some true) : cl.slots[j.toNatClampNeg]? = some (.ref b) := by
  obtain ⟨x, y, e1, e2, -, K⟩ := cmp_v (Or.inl h)
  cases e2.symm.trans eb
  have q : x = .ref b := gotT (eq_R e1 e2 K.2 rfl) h
  subst q
  exact (elem_in e1 ev (Term.int_eval j) hc).2
theorem own_len {Z : State} {args : Array Value} {t : Term} {a : Addr} {cl : Cell} {ty : FieldType} {k : Int32} (ev : t.eval args Z none [] Z = some (.ref a)) (A : Arr Z Z.heap a cl ty) (h : (Jvm.Cond.eq (.length t) (.int k)).value args Z none Z [] = some true) : cl.slots.size < 2 ^ 31 ∧ cl.slots.size.toInt32 = k := by
  obtain ⟨x, y, e1, e2, -, -⟩ := cmp_v (Or.inl h)
  have ha : Z.arrayAt? a = some cl := A.fin (Vm.Alike.refl _)
  have hlt : cl.slots.size < 2 ^ 31 := by
    refine Classical.byContradiction fun q => ?_
    simp [Term.eval, ev, ha, q] at e1
  exact ⟨hlt, gotT (Cond.eq_ints (len_f ev ha hlt) (Term.int_eval k)) h⟩
theorem own_tags (tg : Int32) : tg = 96 ∨ tg = 66 ∨ tg = 99 ∨ tg = 102 ∨ tg = 104 ∨ tg = 74 ∨ tg = 108 ∨ tg = 110 ∨ tg = 80 ∨ tg = 119 ∨ (¬ tg = 96 ∧ ¬ tg = 66 ∧ ¬ tg = 99 ∧ ¬ tg = 102 ∧ ¬ tg = 104 ∧ ¬ tg = 74 ∧ ¬ tg = 108 ∧ ¬ tg = 110 ∧ ¬ tg = 80 ∧ ¬ tg = 119) := by
  by_cases h0 : tg = 96
  · exact Or.inl h0
  by_cases h1 : tg = 66
  · exact Or.inr (Or.inl h1)
  by_cases h2 : tg = 99
  · exact Or.inr (Or.inr (Or.inl h2))
  by_cases h3 : tg = 102
  · exact Or.inr (Or.inr (Or.inr (Or.inl h3)))
  by_cases h4 : tg = 104
  · exact Or.inr (Or.inr (Or.inr (Or.inr (Or.inl h4))))
  by_cases h5 : tg = 74
  · exact Or.inr (Or.inr (Or.inr (Or.inr (Or.inr (Or.inl h5)))))
  by_cases h6 : tg = 108
  · exact Or.inr (Or.inr (Or.inr (Or.inr (Or.inr (Or.inr (Or.inl h6))))))
  by_cases h7 : tg = 110
  · exact Or.inr (Or.inr (Or.inr (Or.inr (Or.inr (Or.inr (Or.inr (Or.inl h7)))))))
  by_cases h8 : tg = 80
  · exact Or.inr (Or.inr (Or.inr (Or.inr (Or.inr (Or.inr (Or.inr (Or.inr (Or.inl h8))))))))
  by_cases h9 : tg = 119
  · exact Or.inr (Or.inr (Or.inr (Or.inr (Or.inr (Or.inr (Or.inr (Or.inr (Or.inr (Or.inl h9)))))))))
  exact Or.inr (Or.inr (Or.inr (Or.inr (Or.inr (Or.inr (Or.inr (Or.inr (Or.inr (Or.inr (⟨h0, h1, h2, h3, h4, h5, h6, h7, h8, h9⟩))))))))))
theorem own_sta_keep {Z : State} {h h' : Heap} {C n d : String} {v : Value} (F : Sta Z h C n d v) (K : Keep h h' []) : Sta Z h' C n d v := by
  obtain ⟨cf, i, k, f, st, cell, h1, h2, h3, h4, h5, r⟩ := F
  exact ⟨cf, i, k, f, st, cell, h1, h2, h3, h4, K.2.1 _ _ h5 nin0, r⟩
theorem d_prog_16_method_1_code_0 : decode prog_16_method_1_code 0 = .ok (.getstatic 34, 3) := by decide +kernel
theorem d_prog_16_method_1_code_3 : decode prog_16_method_1_code 3 = .ok (.invokevirtual 38, 3) := by decide +kernel
theorem d_prog_16_method_1_code_6 : decode prog_16_method_1_code 6 = .ok (.checkcast 39, 3) := by decide +kernel
theorem d_prog_16_method_1_code_9 : decode prog_16_method_1_code 9 = .ok (.areturn, 1) := by decide +kernel
theorem ef_4 (m : MethodId)  : entryFrame m #[] 0 = mkF m 0 #[] [] := by first | (simp [entryFrame, mkF, argsToLocals, Value.category]; done) | rfl
theorem pn_5 : plainName "com/example/keyward/keyward/LdapOperation" = true := by first | (simp [plainName, overriddenIn]; done) | decide +kernel
def Q_values_0 (Z : State) (aV : Addr) (kV : ClassId) (b0 b1 b2 b3 b4 b5 b6 b7 b8 b9 : Addr) (h0 : Heap) (n0 : Nat) (v : Option Value) (h : Heap) (L : List Loc) : Prop := v = some (.ref h0.size) ∧ Fr n0 L ∧ Ext h0 h ∧ Arv Z h h0.size kV (.object "com/example/keyward/keyward/LdapOperation") (10 : Int32) [(.ref b0), (.ref b1), (.ref b2), (.ref b3), (.ref b4), (.ref b5), (.ref b6), (.ref b7), (.ref b8), (.ref b9)] .null
set_option maxRecDepth 65536 in
set_option maxHeartbeats 40000000 in
theorem values_0 (l : Launch) (Z : State) (a0 : Array Value) (hw : ∀ d ∈ tables_1, d.before a0 Z = true) (ws : List Jvm.Cond) (aV : Addr) (kV : ClassId) (b0 b1 b2 b3 b4 b5 b6 b7 b8 b9 : Addr) (h0 : Heap) (n0 : Nat) (Z0 : n0 ≤ h0.size) (SaV : Sta Z h0 "com/example/keyward/keyward/LdapOperation" "$VALUES" "[Lcom/example/keyward/keyward/LdapOperation;" (.ref aV)) (VaV : Arv Z h0 aV kV (.object "com/example/keyward/keyward/LdapOperation") (10 : Int32) [(.ref b0), (.ref b1), (.ref b2), (.ref b3), (.ref b4), (.ref b5), (.ref b6), (.ref b7), (.ref b8), (.ref b9)] .null) (EaV : Exa Z h0 aV "[Lcom/example/keyward/keyward/LdapOperation;") :
    MetFree l (⟨"com/example/keyward/keyward/LdapOperation", "values", "()[Lcom/example/keyward/keyward/LdapOperation;"⟩ : MethodName) (head1 (Jvm.Cond.code (⟨"com/example/keyward/keyward/LdapOperation", "values", "()[Lcom/example/keyward/keyward/LdapOperation;"⟩ : MethodName) prog_16_method_1_code 0 (Option.some (Jvm.ClassFile.FieldType.array (Jvm.ClassFile.FieldType.object "com/example/keyward/keyward/LdapOperation"))) :: ws) ({ frames := 1, cells := 1, slots := 10, locals := 14 } : Room)) (fun a U => a = #[] ∧ Z.Warmed39 U.vm ∧ U.heap = h0) (fun _ _ _ _ _ => True) (fun _ U o U' => ∃ v L, o = .returned v ∧ Q_values_0 Z aV kV b0 b1 b2 b3 b4 b5 b6 b7 b8 b9 h0 n0 v U'.heap L ∧ FrameEnd U o U' L ({ frames := 1, cells := 1, slots := 10, locals := 14 } : Room).cells ({ frames := 1, cells := 1, slots := 10, locals := 14 } : Room).slots) := by
  refine MetFree.of_bodySF (plainFor_of_name pn_5) hisR ?_
  intro p e s m args below meth c s₁ Bd hml0 hP hK
  obtain ⟨rfl, hZ, hh⟩ := hP
  have hx := Bd.exec
  have hby := Bd.bytes
  have hml : c.maxLocals = 0 := hml0
  have hown : s.vm.findClass "com/example/keyward/keyward/LdapOperation" = some m.cls := findClass_of_methodNamed Bd.named
  have hnm := (name_of_methodNamed Bd.named Bd.method).1
  have X0 : Stand p l e ({ frames := 1, cells := 1, slots := 10, locals := 14 } : Room) s m #[] below meth c s₁ [] 0 0 := Stand.of_body Bd
  have e0 : s₁.heap = h0 := by rw [← hh, Bd.state]; rfl
  have N0 := Fr.nil n0
  have pre0 : ∀ t, Steps p.tables e below (s₁.setTop (mkF m 0 #[] [])) t → Steps p.tables e below (s₁.setTop (entryFrame m #[] 0)) t := fun t k => castTop (ef_4 m ) k
  obtain ⟨T1, X1, e1, st1⟩ := getS X0 hx hZ (host := "") hown (hw _ (List.mem_of_getElem? (i := 8) rfl)) Via.refl e0 SaV (g := (mkF m 0 #[] [])) rfl (hb hby d_prog_16_method_1_code_0)
  obtain ⟨T2, h2, X2, e2, Ex2, Vn2, En2, st2⟩ := cloneH X1 hx hZ hown (hw _ (List.mem_of_getElem? (i := 10) rfl)) (hw _ (List.mem_of_getElem? (i := 11) rfl)) (hw _ (List.mem_of_getElem? (i := 15) rfl)) (hw _ (List.mem_of_getElem? (i := 13) rfl)) (hw _ (List.mem_of_getElem? (i := 14) rfl)) (hw _ (List.mem_of_getElem? (i := 16) rfl)) e1 VaV.arh EaV (g := (mkF m 3 #[] [(.ref aV)])) rfl (by rw [hml]; rfl) rfl (hb hby d_prog_16_method_1_code_3) (by decide) (W := 0) (cap := 10) (by show 2 * 0 + _ ≤ _; exact Nat.le_of_eq rfl) (by decide) (by decide) (by decide) (by decide)
  obtain ⟨T3, X3, e3, st3⟩ := castY X2 hx hZ hown (hw _ (List.mem_of_getElem? (i := 28) rfl)) e2 (Ins.of_exa En2 (hw _ (List.mem_of_getElem? (i := 29) rfl))) (g := (mkF m 6 #[] [(.ref h0.size)])) rfl rfl (hb hby d_prog_16_method_1_code_6)
  obtain ⟨fs, hr, hrun, hended, hW, hsame⟩ := X3.leave (v := some (.ref h0.size)) (fun h => by rw [Bd.returns] at h; cases h)
  refine ⟨_, _, pre0 _ ?_, hrun, hended, _, _, rfl, ?_, ⟨_, rfl⟩, hW, hsame.mono (by decide) (by decide)⟩
  · show Steps p.tables e below (s₁.setTop (mkF m 0 #[] [])) _
    refine st1 _ ?_
    show Steps p.tables e below (T1.setTop (mkF m 3 #[] [(.ref aV)])) _
    refine st2 _ ?_
    show Steps p.tables e below (T2.setTop (mkF m 6 #[] [(.ref h0.size)])) _
    refine st3 _ ?_
    show Steps p.tables e below (T3.setTop (mkF m 9 #[] [(.ref h0.size)])) _
    exact retOut X3 hx Bd.returns rfl (Or.inr (Or.inr (Or.inr (Or.inr ⟨rfl, rfl, rfl⟩)))) (hb hby d_prog_16_method_1_code_9) hr
  · refine ⟨rfl, N0, ?_, ?_⟩
    · show Ext h0 T3.heap; rw [e3]; exact Ex2
    · show Arv Z T3.heap _ _ _ _ _ _; rw [e3]; exact Vn2
theorem d_prog_16_method_4_code_0 : decode prog_16_method_4_code 0 = .ok (.invokestatic 64, 3) := by decide +kernel
theorem pd_7 : parseMethodDescriptor "()[Lcom/example/keyward/keyward/LdapOperation;" = some ⟨[], some (.array (.object "com/example/keyward/keyward/LdapOperation"))⟩ := by decide +kernel
theorem d_prog_16_method_4_code_3 : decode prog_16_method_4_code 3 = .ok (.astore_n 1, 1) := by decide +kernel
theorem d_prog_16_method_4_code_4 : decode prog_16_method_4_code 4 = .ok (.aload_n 1, 1) := by decide +kernel
theorem d_prog_16_method_4_code_5 : decode prog_16_method_4_code 5 = .ok (.arraylength, 1) := by decide +kernel
theorem d_prog_16_method_4_code_6 : decode prog_16_method_4_code 6 = .ok (.istore_n 2, 1) := by decide +kernel
theorem d_prog_16_method_4_code_7 : decode prog_16_method_4_code 7 = .ok (.iconst 0, 1) := by decide +kernel
theorem d_prog_16_method_4_code_8 : decode prog_16_method_4_code 8 = .ok (.istore_n 3, 1) := by decide +kernel
theorem d_prog_16_method_4_code_9 : decode prog_16_method_4_code 9 = .ok (.iload_n 3, 1) := by decide +kernel
theorem d_prog_16_method_4_code_10 : decode prog_16_method_4_code 10 = .ok (.iload_n 2, 1) := by decide +kernel
theorem d_prog_16_method_4_code_11 : decode prog_16_method_4_code 11 = .ok (.if_icmp .ge 26, 3) := by decide +kernel
theorem d_prog_16_method_4_code_14 : decode prog_16_method_4_code 14 = .ok (.aload_n 1, 1) := by decide +kernel
theorem d_prog_16_method_4_code_15 : decode prog_16_method_4_code 15 = .ok (.iload_n 3, 1) := by decide +kernel
theorem d_prog_16_method_4_code_16 : decode prog_16_method_4_code 16 = .ok (.aaload, 1) := by decide +kernel
theorem d_prog_16_method_4_code_17 : decode prog_16_method_4_code 17 = .ok (.astore 4, 2) := by decide +kernel
theorem d_prog_16_method_4_code_19 : decode prog_16_method_4_code 19 = .ok (.aload 4, 2) := by decide +kernel
theorem d_prog_16_method_4_code_21 : decode prog_16_method_4_code 21 = .ok (.getfield 57, 3) := by decide +kernel
theorem d_prog_16_method_4_code_24 : decode prog_16_method_4_code 24 = .ok (.iload_n 0, 1) := by decide +kernel
theorem d_prog_16_method_4_code_25 : decode prog_16_method_4_code 25 = .ok (.if_icmp .ne 6, 3) := by decide +kernel
theorem d_prog_16_method_4_code_28 : decode prog_16_method_4_code 28 = .ok (.aload 4, 2) := by decide +kernel
theorem d_prog_16_method_4_code_30 : decode prog_16_method_4_code 30 = .ok (.areturn, 1) := by decide +kernel
theorem ef_27 (m : MethodId) (x0 : Int32) : entryFrame m #[(.int x0)] 5 = mkF m 0 #[.val (.int x0), .unset, .unset, .unset, .unset] [] := by first | (simp [entryFrame, mkF, argsToLocals, Value.category]; done) | rfl
def Q_find_0 (Z : State) (aV : Addr) (kV : ClassId) (b0 b1 b2 b3 b4 b5 b6 b7 b8 b9 : Addr) (h0 : Heap) (n0 : Nat) (v : Option Value) (h : Heap) (L : List Loc) : Prop := v = some (.ref b0) ∧ Fr n0 L ∧ Ext h0 h
set_option maxRecDepth 65536 in
set_option maxHeartbeats 40000000 in
theorem find_0 (l : Launch) (Z : State) (a0 : Array Value) (hw : ∀ d ∈ tables_1, d.before a0 Z = true) (ws : List Jvm.Cond) (aV : Addr) (kV : ClassId) (b0 b1 b2 b3 b4 b5 b6 b7 b8 b9 : Addr) (h0 : Heap) (n0 : Nat) (Z0 : n0 ≤ h0.size) (SaV : Sta Z h0 "com/example/keyward/keyward/LdapOperation" "$VALUES" "[Lcom/example/keyward/keyward/LdapOperation;" (.ref aV)) (VaV : Arv Z h0 aV kV (.object "com/example/keyward/keyward/LdapOperation") (10 : Int32) [(.ref b0), (.ref b1), (.ref b2), (.ref b3), (.ref b4), (.ref b5), (.ref b6), (.ref b7), (.ref b8), (.ref b9)] .null) (EaV : Exa Z h0 aV "[Lcom/example/keyward/keyward/LdapOperation;")(Fb0 : Fld Z h0 b0 "com/example/keyward/keyward/LdapOperation" "requestTag" "I" (.int (96 : Int32)))(Fb1 : Fld Z h0 b1 "com/example/keyward/keyward/LdapOperation" "requestTag" "I" (.int (66 : Int32)))(Fb2 : Fld Z h0 b2 "com/example/keyward/keyward/LdapOperation" "requestTag" "I" (.int (99 : Int32)))(Fb3 : Fld Z h0 b3 "com/example/keyward/keyward/LdapOperation" "requestTag" "I" (.int (102 : Int32)))(Fb4 : Fld Z h0 b4 "com/example/keyward/keyward/LdapOperation" "requestTag" "I" (.int (104 : Int32)))(Fb5 : Fld Z h0 b5 "com/example/keyward/keyward/LdapOperation" "requestTag" "I" (.int (74 : Int32)))(Fb6 : Fld Z h0 b6 "com/example/keyward/keyward/LdapOperation" "requestTag" "I" (.int (108 : Int32)))(Fb7 : Fld Z h0 b7 "com/example/keyward/keyward/LdapOperation" "requestTag" "I" (.int (110 : Int32)))(Fb8 : Fld Z h0 b8 "com/example/keyward/keyward/LdapOperation" "requestTag" "I" (.int (80 : Int32)))(Fb9 : Fld Z h0 b9 "com/example/keyward/keyward/LdapOperation" "requestTag" "I" (.int (119 : Int32))) :
    MetFree l (⟨"com/example/keyward/keyward/LdapOperation", "forRequestTag", "(I)Lcom/example/keyward/keyward/LdapOperation;"⟩ : MethodName) (head1 (Jvm.Cond.code (⟨"com/example/keyward/keyward/LdapOperation", "forRequestTag", "(I)Lcom/example/keyward/keyward/LdapOperation;"⟩ : MethodName) prog_16_method_4_code 5 (Option.some (Jvm.ClassFile.FieldType.object "com/example/keyward/keyward/LdapOperation")) :: ws) ({ frames := 2, cells := 1, slots := 10, locals := 25 } : Room)) (fun a U => a = #[(.int (96 : Int32))] ∧ Z.Warmed39 U.vm ∧ U.heap = h0) (fun _ _ _ _ _ => True) (fun _ U o U' => ∃ v L, o = .returned v ∧ Q_find_0 Z aV kV b0 b1 b2 b3 b4 b5 b6 b7 b8 b9 h0 n0 v U'.heap L ∧ FrameEnd U o U' L ({ frames := 2, cells := 1, slots := 10, locals := 25 } : Room).cells ({ frames := 2, cells := 1, slots := 10, locals := 25 } : Room).slots) := by
  refine MetFree.of_bodySF (plainFor_of_name pn_5) hisR ?_
  intro p e s m args below meth c s₁ Bd hml0 hP hK
  obtain ⟨rfl, hZ, hh⟩ := hP
  have hx := Bd.exec
  have hby := Bd.bytes
  have hml : c.maxLocals = 5 := hml0
  have hown : s.vm.findClass "com/example/keyward/keyward/LdapOperation" = some m.cls := findClass_of_methodNamed Bd.named
  have hnm := (name_of_methodNamed Bd.named Bd.method).1
  have X0 : Stand p l e ({ frames := 2, cells := 1, slots := 10, locals := 25 } : Room) s m #[(.int (96 : Int32))] below meth c s₁ [] 0 0 := Stand.of_body Bd
  have e0 : s₁.heap = h0 := by rw [← hh, Bd.state]; rfl
  have N0 := Fr.nil n0
  have pre0 : ∀ t, Steps p.tables e below (s₁.setTop (mkF m 0 #[.val (.int (96 : Int32)), .unset, .unset, .unset, .unset] [])) t → Steps p.tables e below (s₁.setTop (entryFrame m #[(.int (96 : Int32))] 5)) t := fun t k => castTop (ef_27 m (96 : Int32)) k
  obtain ⟨_, _, ⟨T1, L1, k1, n1⟩, -, X1, ⟨Lc1, hQ1, l1, y1, z1⟩, st1⟩ := Jvm.LawKit.callS X0 hx (y := (⟨"com/example/keyward/keyward/LdapOperation", "values", "()[Lcom/example/keyward/keyward/LdapOperation;"⟩ : MethodName)) hown (mvT hZ (hw _ (List.mem_of_getElem? (i := 5) rfl))) (mvT hZ (hw _ (List.mem_of_getElem? (i := 6) rfl))) (mvT hZ (hw _ (List.mem_of_getElem? (i := 3) rfl))) (mvT hZ (hw _ (List.mem_of_getElem? (i := 7) rfl))) (by decide) (backOf (W := 0) (values_0 l Z a0 hw [] aV kV b0 b1 b2 b3 b4 b5 b6 b7 b8 b9 h0 n0 Z0 SaV VaV EaV) hZ (hw _ (List.mem_of_getElem? (i := 7) rfl)) (hw _ (List.mem_of_getElem? (i := 3) rfl)) (by decide) (by decide)) (g := (mkF m 0 #[.val (.int (96 : Int32)), .unset, .unset, .unset, .unset] [])) rfl (by rw [hml]; rfl) (argsL := []) (rest := []) (lenOf pd_7 rfl) rfl (by show 2 * 0 + _ ≤ _; exact Nat.le_of_eq rfl) (hb hby d_prog_16_method_4_code_0) (fun _ _ => ⟨rfl, e0, (by decide : 0 + 1 ≤ _), (by decide : 0 + 10 ≤ _)⟩)
  dsimp only [Pt.U, Pt.locs, Pt.cells, Pt.slots] at X1 l1 y1 z1 st1 hQ1
  subst l1 y1 z1
  obtain ⟨rfl, N1q, Ex1, V1⟩ := hQ1
  have N1 := Fr.app N0 N1q
  obtain ⟨cl, Ar, -, Sz, Ng, Hs, -⟩ := V1
  have hlen : cl.slots.size.toInt32 = (10 : Int32) := len_of Sz Ng
  obtain ⟨T2, X2, e2, st2⟩ := getF X1 hx hZ hown (host := "") (Or.inl (hw _ (List.mem_of_getElem? (i := 30) rfl))) Via.refl rfl (Fb0.ext Ex1) (g := (mkF m 21 #[.val (.int (96 : Int32)), .val (.ref h0.size), .val (.int (10 : Int32)), .val (.int (0 : Int32)), .val (.ref b0)] [(.ref b0)])) rfl rfl (hb hby d_prog_16_method_4_code_21)
  obtain ⟨fs, hr, hrun, hended, hW, hsame⟩ := X2.leave (v := some (.ref b0)) (fun h => by rw [Bd.returns] at h; cases h)
  refine ⟨_, _, pre0 _ ?_, hrun, hended, _, _, rfl, ?_, ⟨_, rfl⟩, hW, hsame.mono (by decide) (by decide)⟩
  · show Steps p.tables e below (s₁.setTop (mkF m 0 #[.val (.int (96 : Int32)), .unset, .unset, .unset, .unset] [])) _
    refine st1 _ ?_
    show Steps p.tables e below (T1.setTop (mkF m 3 #[.val (.int (96 : Int32)), .unset, .unset, .unset, .unset] [(.ref h0.size)])) _
    refine XS.astoreN X1.here hx rfl (hb hby d_prog_16_method_4_code_3) rfl rfl (l' := #[.val (.int (96 : Int32)), .val (.ref h0.size), .unset, .unset, .unset]) rfl ?_
    show Steps p.tables e below (T1.setTop (mkF m 4 #[.val (.int (96 : Int32)), .val (.ref h0.size), .unset, .unset, .unset] [])) _
    refine XS.aloadN X1.here hx rfl (hb hby d_prog_16_method_4_code_4) rfl rfl ?_
    show Steps p.tables e below (T1.setTop (mkF m 5 #[.val (.int (96 : Int32)), .val (.ref h0.size), .unset, .unset, .unset] [(.ref h0.size)])) _
    refine X1.arraylength hx (by first | exact Ar.1 | (rw [rfl]; exact Ar.1)) (State.isArrayOf_alike hZ.alike Ar.2.1) (g := (mkF m 5 #[.val (.int (96 : Int32)), .val (.ref h0.size), .unset, .unset, .unset] [(.ref h0.size)])) rfl rfl (hb hby d_prog_16_method_4_code_5) _ ?_
    show Steps p.tables e below (T1.setTop (mkF m 6 #[.val (.int (96 : Int32)), .val (.ref h0.size), .unset, .unset, .unset] [(.int cl.slots.size.toInt32)])) _
    rw [hlen]
    show Steps p.tables e below (T1.setTop (mkF m 6 #[.val (.int (96 : Int32)), .val (.ref h0.size), .unset, .unset, .unset] [(.int (10 : Int32))])) _
    refine XS.istoreN X1.here hx rfl (hb hby d_prog_16_method_4_code_6) rfl (l' := #[.val (.int (96 : Int32)), .val (.ref h0.size), .val (.int (10 : Int32)), .unset, .unset]) rfl ?_
    show Steps p.tables e below (T1.setTop (mkF m 7 #[.val (.int (96 : Int32)), .val (.ref h0.size), .val (.int (10 : Int32)), .unset, .unset] [])) _
    refine XT.iconstV X1.here hx rfl (0 : Int32) (hb hby d_prog_16_method_4_code_7) (by decide) ?_
    show Steps p.tables e below (T1.setTop (mkF m 8 #[.val (.int (96 : Int32)), .val (.ref h0.size), .val (.int (10 : Int32)), .unset, .unset] [(.int (0 : Int32))])) _
    refine XS.istoreN X1.here hx rfl (hb hby d_prog_16_method_4_code_8) rfl (l' := #[.val (.int (96 : Int32)), .val (.ref h0.size), .val (.int (10 : Int32)), .val (.int (0 : Int32)), .unset]) rfl ?_
    show Steps p.tables e below (T1.setTop (mkF m 9 #[.val (.int (96 : Int32)), .val (.ref h0.size), .val (.int (10 : Int32)), .val (.int (0 : Int32)), .unset] [])) _
    refine XS.iloadN X1.here hx rfl (hb hby d_prog_16_method_4_code_9) rfl ?_
    show Steps p.tables e below (T1.setTop (mkF m 10 #[.val (.int (96 : Int32)), .val (.ref h0.size), .val (.int (10 : Int32)), .val (.int (0 : Int32)), .unset] [(.int (0 : Int32))])) _
    refine XS.iloadN X1.here hx rfl (hb hby d_prog_16_method_4_code_10) rfl ?_
    show Steps p.tables e below (T1.setTop (mkF m 11 #[.val (.int (96 : Int32)), .val (.ref h0.size), .val (.int (10 : Int32)), .val (.int (0 : Int32)), .unset] [(.int (10 : Int32)), (.int (0 : Int32))])) _
    refine XS.icmpNo X1.here hx rfl (hb hby d_prog_16_method_4_code_11) rfl (by decide) ?_
    show Steps p.tables e below (T1.setTop (mkF m 14 #[.val (.int (96 : Int32)), .val (.ref h0.size), .val (.int (10 : Int32)), .val (.int (0 : Int32)), .unset] [])) _
    refine XS.aloadN X1.here hx rfl (hb hby d_prog_16_method_4_code_14) rfl rfl ?_
    show Steps p.tables e below (T1.setTop (mkF m 15 #[.val (.int (96 : Int32)), .val (.ref h0.size), .val (.int (10 : Int32)), .val (.int (0 : Int32)), .unset] [(.ref h0.size)])) _
    refine XS.iloadN X1.here hx rfl (hb hby d_prog_16_method_4_code_15) rfl ?_
    show Steps p.tables e below (T1.setTop (mkF m 16 #[.val (.int (96 : Int32)), .val (.ref h0.size), .val (.int (10 : Int32)), .val (.int (0 : Int32)), .unset] [(.int (0 : Int32)), (.ref h0.size)])) _
    refine X1.aaload hx (j := (0 : Int32)) (v := (.ref b0)) (by first | exact Ar.1 | (rw [rfl]; exact Ar.1)) (State.isArrayOf_alike hZ.alike Ar.2.1) rfl Ar.2.2 (inb_of Sz ⟨by decide, by decide⟩) (Hs.at (inb_of Sz ⟨by decide, by decide⟩) rfl) (g := (mkF m 16 #[.val (.int (96 : Int32)), .val (.ref h0.size), .val (.int (10 : Int32)), .val (.int (0 : Int32)), .unset] [(.int (0 : Int32)), (.ref h0.size)])) rfl rfl (hb hby d_prog_16_method_4_code_16) _ ?_
    show Steps p.tables e below (T1.setTop (mkF m 17 #[.val (.int (96 : Int32)), .val (.ref h0.size), .val (.int (10 : Int32)), .val (.int (0 : Int32)), .unset] [(.ref b0)])) _
    refine XS.astore X1.here hx rfl (hb hby d_prog_16_method_4_code_17) rfl rfl (l' := #[.val (.int (96 : Int32)), .val (.ref h0.size), .val (.int (10 : Int32)), .val (.int (0 : Int32)), .val (.ref b0)]) rfl ?_
    show Steps p.tables e below (T1.setTop (mkF m 19 #[.val (.int (96 : Int32)), .val (.ref h0.size), .val (.int (10 : Int32)), .val (.int (0 : Int32)), .val (.ref b0)] [])) _
    refine XS.aload X1.here hx rfl (hb hby d_prog_16_method_4_code_19) rfl rfl ?_
    show Steps p.tables e below (T1.setTop (mkF m 21 #[.val (.int (96 : Int32)), .val (.ref h0.size), .val (.int (10 : Int32)), .val (.int (0 : Int32)), .val (.ref b0)] [(.ref b0)])) _
    refine st2 _ ?_
    show Steps p.tables e below (T2.setTop (mkF m 24 #[.val (.int (96 : Int32)), .val (.ref h0.size), .val (.int (10 : Int32)), .val (.int (0 : Int32)), .val (.ref b0)] [(.int (96 : Int32))])) _
    refine XS.iloadN X2.here hx rfl (hb hby d_prog_16_method_4_code_24) rfl ?_
    show Steps p.tables e below (T2.setTop (mkF m 25 #[.val (.int (96 : Int32)), .val (.ref h0.size), .val (.int (10 : Int32)), .val (.int (0 : Int32)), .val (.ref b0)] [(.int (96 : Int32)), (.int (96 : Int32))])) _
    refine XS.icmpNo X2.here hx rfl (hb hby d_prog_16_method_4_code_25) rfl (by decide) ?_
    show Steps p.tables e below (T2.setTop (mkF m 28 #[.val (.int (96 : Int32)), .val (.ref h0.size), .val (.int (10 : Int32)), .val (.int (0 : Int32)), .val (.ref b0)] [])) _
    refine XS.aload X2.here hx rfl (hb hby d_prog_16_method_4_code_28) rfl rfl ?_
    show Steps p.tables e below (T2.setTop (mkF m 30 #[.val (.int (96 : Int32)), .val (.ref h0.size), .val (.int (10 : Int32)), .val (.int (0 : Int32)), .val (.ref b0)] [(.ref b0)])) _
    exact retOut X2 hx Bd.returns rfl (Or.inr (Or.inr (Or.inr (Or.inr ⟨rfl, rfl, rfl⟩)))) (hb hby d_prog_16_method_4_code_30) hr
  · exact ⟨rfl, N1, by show Ext h0 T2.heap; rw [e2]; exact Ex1⟩
theorem d_method_2_code_0 : decode method_2_code 0 = .ok (.iload_n 0, 1) := by decide +kernel
theorem d_method_2_code_1 : decode method_2_code 1 = .ok (.bipush 96, 2) := by decide +kernel
theorem d_method_2_code_3 : decode method_2_code 3 = .ok (.if_icmp .ne 7, 3) := by decide +kernel
theorem d_method_2_code_6 : decode method_2_code 6 = .ok (.getstatic 7, 3) := by decide +kernel
theorem d_method_2_code_9 : decode method_2_code 9 = .ok (.areturn, 1) := by decide +kernel
theorem ef_33 (m : MethodId) (x0 : Int32) : entryFrame m #[(.int x0)] 1 = mkF m 0 #[.val (.int x0)] [] := by first | (simp [entryFrame, mkF, argsToLocals, Value.category]; done) | rfl
theorem pn_34 : plainName "com/example/keyward/keyward/LdapOperationForRequestTagPinLaw" = true := by first | (simp [plainName, overriddenIn]; done) | decide +kernel
def Q_exp_0 (Z : State) (b0 : Addr) (h0 : Heap) (n0 : Nat) (v : Option Value) (h : Heap) (L : List Loc) : Prop := v = some (.ref b0) ∧ Fr n0 L ∧ h = h0
set_option maxRecDepth 65536 in
set_option maxHeartbeats 40000000 in
theorem exp_0 (l : Launch) (Z : State) (a0 : Array Value) (hw : ∀ d ∈ tables_1, d.before a0 Z = true) (ws : List Jvm.Cond) (b0 : Addr) (h0 : Heap) (n0 : Nat) (Z0 : n0 ≤ h0.size) (Sb0 : Sta Z h0 "com/example/keyward/keyward/LdapOperation" "BIND" "Lcom/example/keyward/keyward/LdapOperation;" (.ref b0)) :
    MetFree l (⟨"com/example/keyward/keyward/LdapOperationForRequestTagPinLaw", "expected", "(I)Lcom/example/keyward/keyward/LdapOperation;"⟩ : MethodName) (head1 (Jvm.Cond.code (⟨"com/example/keyward/keyward/LdapOperationForRequestTagPinLaw", "expected", "(I)Lcom/example/keyward/keyward/LdapOperation;"⟩ : MethodName) method_2_code 1 (Option.some (Jvm.ClassFile.FieldType.object "com/example/keyward/keyward/LdapOperation")) :: ws) ({ frames := 0, cells := 0, slots := 0, locals := 0 } : Room)) (fun a U => a = #[(.int (96 : Int32))] ∧ Z.Warmed39 U.vm ∧ U.heap = h0) (fun _ _ _ _ _ => True) (fun _ U o U' => ∃ v L, o = .returned v ∧ Q_exp_0 Z b0 h0 n0 v U'.heap L ∧ FrameEnd U o U' L ({ frames := 0, cells := 0, slots := 0, locals := 0 } : Room).cells ({ frames := 0, cells := 0, slots := 0, locals := 0 } : Room).slots) := by
  refine MetFree.of_bodySF (plainFor_of_name pn_34) hisR ?_
  intro p e s m args below meth c s₁ Bd hml0 hP hK
  obtain ⟨rfl, hZ, hh⟩ := hP
  have hx := Bd.exec
  have hby := Bd.bytes
  have hml : c.maxLocals = 1 := hml0
  have hown : s.vm.findClass "com/example/keyward/keyward/LdapOperationForRequestTagPinLaw" = some m.cls := findClass_of_methodNamed Bd.named
  have hnm := (name_of_methodNamed Bd.named Bd.method).1
  have X0 : Stand p l e ({ frames := 0, cells := 0, slots := 0, locals := 0 } : Room) s m #[(.int (96 : Int32))] below meth c s₁ [] 0 0 := Stand.of_body Bd
  have e0 : s₁.heap = h0 := by rw [← hh, Bd.state]; rfl
  have N0 := Fr.nil n0
  have pre0 : ∀ t, Steps p.tables e below (s₁.setTop (mkF m 0 #[.val (.int (96 : Int32))] [])) t → Steps p.tables e below (s₁.setTop (entryFrame m #[(.int (96 : Int32))] 1)) t := fun t k => castTop (ef_33 m (96 : Int32)) k
  obtain ⟨T1, X1, e1, st1⟩ := getS X0 hx hZ (host := "") hown (hw _ (List.mem_of_getElem? (i := 39) rfl)) Via.refl e0 Sb0 (g := (mkF m 6 #[.val (.int (96 : Int32))] [])) rfl (hb hby d_method_2_code_6)
  obtain ⟨fs, hr, hrun, hended, hW, hsame⟩ := X1.leave (v := some (.ref b0)) (fun h => by rw [Bd.returns] at h; cases h)
  refine ⟨_, _, pre0 _ ?_, hrun, hended, _, _, rfl, ?_, ⟨_, rfl⟩, hW, hsame.mono (by decide) (by decide)⟩
  · show Steps p.tables e below (s₁.setTop (mkF m 0 #[.val (.int (96 : Int32))] [])) _
    refine XS.iloadN X0.here hx rfl (hb hby d_method_2_code_0) rfl ?_
    show Steps p.tables e below (s₁.setTop (mkF m 1 #[.val (.int (96 : Int32))] [(.int (96 : Int32))])) _
    refine XT.bipushV X0.here hx rfl (96 : Int32) (hb hby d_method_2_code_1) (by decide) ?_
    show Steps p.tables e below (s₁.setTop (mkF m 3 #[.val (.int (96 : Int32))] [(.int (96 : Int32)), (.int (96 : Int32))])) _
    refine XS.icmpNo X0.here hx rfl (hb hby d_method_2_code_3) rfl (by decide) ?_
    show Steps p.tables e below (s₁.setTop (mkF m 6 #[.val (.int (96 : Int32))] [])) _
    refine st1 _ ?_
    show Steps p.tables e below (T1.setTop (mkF m 9 #[.val (.int (96 : Int32))] [(.ref b0)])) _
    exact retOut X1 hx Bd.returns rfl (Or.inr (Or.inr (Or.inr (Or.inr ⟨rfl, rfl, rfl⟩)))) (hb hby d_method_2_code_9) hr
  · exact ⟨rfl, N0, e1⟩
theorem d_prog_16_method_4_code_31 : decode prog_16_method_4_code 31 = .ok (.iinc 3 1, 3) := by decide +kernel
theorem d_prog_16_method_4_code_34 : decode prog_16_method_4_code 34 = .ok (.goto (-25), 3) := by decide +kernel
def Q_find_1 (Z : State) (aV : Addr) (kV : ClassId) (b0 b1 b2 b3 b4 b5 b6 b7 b8 b9 : Addr) (h0 : Heap) (n0 : Nat) (v : Option Value) (h : Heap) (L : List Loc) : Prop := v = some (.ref b1) ∧ Fr n0 L ∧ Ext h0 h
set_option maxRecDepth 65536 in
set_option maxHeartbeats 40000000 in
theorem find_1 (l : Launch) (Z : State) (a0 : Array Value) (hw : ∀ d ∈ tables_1, d.before a0 Z = true) (ws : List Jvm.Cond) (aV : Addr) (kV : ClassId) (b0 b1 b2 b3 b4 b5 b6 b7 b8 b9 : Addr) (h0 : Heap) (n0 : Nat) (Z0 : n0 ≤ h0.size) (SaV : Sta Z h0 "com/example/keyward/keyward/LdapOperation" "$VALUES" "[Lcom/example/keyward/keyward/LdapOperation;" (.ref aV)) (VaV : Arv Z h0 aV kV (.object "com/example/keyward/keyward/LdapOperation") (10 : Int32) [(.ref b0), (.ref b1), (.ref b2), (.ref b3), (.ref b4), (.ref b5), (.ref b6), (.ref b7), (.ref b8), (.ref b9)] .null) (EaV : Exa Z h0 aV "[Lcom/example/keyward/keyward/LdapOperation;")(Fb0 : Fld Z h0 b0 "com/example/keyward/keyward/LdapOperation" "requestTag" "I" (.int (96 : Int32)))(Fb1 : Fld Z h0 b1 "com/example/keyward/keyward/LdapOperation" "requestTag" "I" (.int (66 : Int32)))(Fb2 : Fld Z h0 b2 "com/example/keyward/keyward/LdapOperation" "requestTag" "I" (.int (99 : Int32)))(Fb3 : Fld Z h0 b3 "com/example/keyward/keyward/LdapOperation" "requestTag" "I" (.int (102 : Int32)))(Fb4 : Fld Z h0 b4 "com/example/keyward/keyward/LdapOperation" "requestTag" "I" (.int (104 : Int32)))(Fb5 : Fld Z h0 b5 "com/example/keyward/keyward/LdapOperation" "requestTag" "I" (.int (74 : Int32)))(Fb6 : Fld Z h0 b6 "com/example/keyward/keyward/LdapOperation" "requestTag" "I" (.int (108 : Int32)))(Fb7 : Fld Z h0 b7 "com/example/keyward/keyward/LdapOperation" "requestTag" "I" (.int (110 : Int32)))(Fb8 : Fld Z h0 b8 "com/example/keyward/keyward/LdapOperation" "requestTag" "I" (.int (80 : Int32)))(Fb9 : Fld Z h0 b9 "com/example/keyward/keyward/LdapOperation" "requestTag" "I" (.int (119 : Int32))) :
    MetFree l (⟨"com/example/keyward/keyward/LdapOperation", "forRequestTag", "(I)Lcom/example/keyward/keyward/LdapOperation;"⟩ : MethodName) (head1 (Jvm.Cond.code (⟨"com/example/keyward/keyward/LdapOperation", "forRequestTag", "(I)Lcom/example/keyward/keyward/LdapOperation;"⟩ : MethodName) prog_16_method_4_code 5 (Option.some (Jvm.ClassFile.FieldType.object "com/example/keyward/keyward/LdapOperation")) :: ws) ({ frames := 2, cells := 1, slots := 10, locals := 25 } : Room)) (fun a U => a = #[(.int (66 : Int32))] ∧ Z.Warmed39 U.vm ∧ U.heap = h0) (fun _ _ _ _ _ => True) (fun _ U o U' => ∃ v L, o = .returned v ∧ Q_find_1 Z aV kV b0 b1 b2 b3 b4 b5 b6 b7 b8 b9 h0 n0 v U'.heap L ∧ FrameEnd U o U' L ({ frames := 2, cells := 1, slots := 10, locals := 25 } : Room).cells ({ frames := 2, cells := 1, slots := 10, locals := 25 } : Room).slots) := by
  refine MetFree.of_bodySF (plainFor_of_name pn_5) hisR ?_
  intro p e s m args below meth c s₁ Bd hml0 hP hK
  obtain ⟨rfl, hZ, hh⟩ := hP
  have hx := Bd.exec
  have hby := Bd.bytes
  have hml : c.maxLocals = 5 := hml0
  have hown : s.vm.findClass "com/example/keyward/keyward/LdapOperation" = some m.cls := findClass_of_methodNamed Bd.named
  have hnm := (name_of_methodNamed Bd.named Bd.method).1
  have X0 : Stand p l e ({ frames := 2, cells := 1, slots := 10, locals := 25 } : Room) s m #[(.int (66 : Int32))] below meth c s₁ [] 0 0 := Stand.of_body Bd
  have e0 : s₁.heap = h0 := by rw [← hh, Bd.state]; rfl
  have N0 := Fr.nil n0
  have pre0 : ∀ t, Steps p.tables e below (s₁.setTop (mkF m 0 #[.val (.int (66 : Int32)), .unset, .unset, .unset, .unset] [])) t → Steps p.tables e below (s₁.setTop (entryFrame m #[(.int (66 : Int32))] 5)) t := fun t k => castTop (ef_27 m (66 : Int32)) k
  obtain ⟨_, _, ⟨T1, L1, k1, n1⟩, -, X1, ⟨Lc1, hQ1, l1, y1, z1⟩, st1⟩ := Jvm.LawKit.callS X0 hx (y := (⟨"com/example/keyward/keyward/LdapOperation", "values", "()[Lcom/example/keyward/keyward/LdapOperation;"⟩ : MethodName)) hown (mvT hZ (hw _ (List.mem_of_getElem? (i := 5) rfl))) (mvT hZ (hw _ (List.mem_of_getElem? (i := 6) rfl))) (mvT hZ (hw _ (List.mem_of_getElem? (i := 3) rfl))) (mvT hZ (hw _ (List.mem_of_getElem? (i := 7) rfl))) (by decide) (backOf (W := 0) (values_0 l Z a0 hw [] aV kV b0 b1 b2 b3 b4 b5 b6 b7 b8 b9 h0 n0 Z0 SaV VaV EaV) hZ (hw _ (List.mem_of_getElem? (i := 7) rfl)) (hw _ (List.mem_of_getElem? (i := 3) rfl)) (by decide) (by decide)) (g := (mkF m 0 #[.val (.int (66 : Int32)), .unset, .unset, .unset, .unset] [])) rfl (by rw [hml]; rfl) (argsL := []) (rest := []) (lenOf pd_7 rfl) rfl (by show 2 * 0 + _ ≤ _; exact Nat.le_of_eq rfl) (hb hby d_prog_16_method_4_code_0) (fun _ _ => ⟨rfl, e0, (by decide : 0 + 1 ≤ _), (by decide : 0 + 10 ≤ _)⟩)
  dsimp only [Pt.U, Pt.locs, Pt.cells, Pt.slots] at X1 l1 y1 z1 st1 hQ1
  subst l1 y1 z1
  obtain ⟨rfl, N1q, Ex1, V1⟩ := hQ1
  have N1 := Fr.app N0 N1q
  obtain ⟨cl, Ar, -, Sz, Ng, Hs, -⟩ := V1
  have hlen : cl.slots.size.toInt32 = (10 : Int32) := len_of Sz Ng
  obtain ⟨T2, X2, e2, st2⟩ := getF X1 hx hZ hown (host := "") (Or.inl (hw _ (List.mem_of_getElem? (i := 30) rfl))) Via.refl rfl (Fb0.ext Ex1) (g := (mkF m 21 #[.val (.int (66 : Int32)), .val (.ref h0.size), .val (.int (10 : Int32)), .val (.int (0 : Int32)), .val (.ref b0)] [(.ref b0)])) rfl rfl (hb hby d_prog_16_method_4_code_21)
  obtain ⟨T3, X3, e3, st3⟩ := getF X2 hx hZ hown (host := "") (Or.inl (hw _ (List.mem_of_getElem? (i := 30) rfl))) Via.refl e2 (Fb1.ext Ex1) (g := (mkF m 21 #[.val (.int (66 : Int32)), .val (.ref h0.size), .val (.int (10 : Int32)), .val (.int (1 : Int32)), .val (.ref b1)] [(.ref b1)])) rfl rfl (hb hby d_prog_16_method_4_code_21)
  obtain ⟨fs, hr, hrun, hended, hW, hsame⟩ := X3.leave (v := some (.ref b1)) (fun h => by rw [Bd.returns] at h; cases h)
  refine ⟨_, _, pre0 _ ?_, hrun, hended, _, _, rfl, ?_, ⟨_, rfl⟩, hW, hsame.mono (by decide) (by decide)⟩
  · show Steps p.tables e below (s₁.setTop (mkF m 0 #[.val (.int (66 : Int32)), .unset, .unset, .unset, .unset] [])) _
    refine st1 _ ?_
    show Steps p.tables e below (T1.setTop (mkF m 3 #[.val (.int (66 : Int32)), .unset, .unset, .unset, .unset] [(.ref h0.size)])) _
    refine XS.astoreN X1.here hx rfl (hb hby d_prog_16_method_4_code_3) rfl rfl (l' := #[.val (.int (66 : Int32)), .val (.ref h0.size), .unset, .unset, .unset]) rfl ?_
    show Steps p.tables e below (T1.setTop (mkF m 4 #[.val (.int (66 : Int32)), .val (.ref h0.size), .unset, .unset, .unset] [])) _
    refine XS.aloadN X1.here hx rfl (hb hby d_prog_16_method_4_code_4) rfl rfl ?_
    show Steps p.tables e below (T1.setTop (mkF m 5 #[.val (.int (66 : Int32)), .val (.ref h0.size), .unset, .unset, .unset] [(.ref h0.size)])) _
    refine X1.arraylength hx (by first | exact Ar.1 | (rw [rfl]; exact Ar.1)) (State.isArrayOf_alike hZ.alike Ar.2.1) (g := (mkF m 5 #[.val (.int (66 : Int32)), .val (.ref h0.size), .unset, .unset, .unset] [(.ref h0.size)])) rfl rfl (hb hby d_prog_16_method_4_code_5) _ ?_
    show Steps p.tables e below (T1.setTop (mkF m 6 #[.val (.int (66 : Int32)), .val (.ref h0.size), .unset, .unset, .unset] [(.int cl.slots.size.toInt32)])) _
    rw [hlen]
    show Steps p.tables e below (T1.setTop (mkF m 6 #[.val (.int (66 : Int32)), .val (.ref h0.size), .unset, .unset, .unset] [(.int (10 : Int32))])) _
    refine XS.istoreN X1.here hx rfl (hb hby d_prog_16_method_4_code_6) rfl (l' := #[.val (.int (66 : Int32)), .val (.ref h0.size), .val (.int (10 : Int32)), .unset, .unset]) rfl ?_
    show Steps p.tables e below (T1.setTop (mkF m 7 #[.val (.int (66 : Int32)), .val (.ref h0.size), .val (.int (10 : Int32)), .unset, .unset] [])) _
    refine XT.iconstV X1.here hx rfl (0 : Int32) (hb hby d_prog_16_method_4_code_7) (by decide) ?_
    show Steps p.tables e below (T1.setTop (mkF m 8 #[.val (.int (66 : Int32)), .val (.ref h0.size), .val (.int (10 : Int32)), .unset, .unset] [(.int (0 : Int32))])) _
    refine XS.istoreN X1.here hx rfl (hb hby d_prog_16_method_4_code_8) rfl (l' := #[.val (.int (66 : Int32)), .val (.ref h0.size), .val (.int (10 : Int32)), .val (.int (0 : Int32)), .unset]) rfl ?_
    show Steps p.tables e below (T1.setTop (mkF m 9 #[.val (.int (66 : Int32)), .val (.ref h0.size), .val (.int (10 : Int32)), .val (.int (0 : Int32)), .unset] [])) _
    refine XS.iloadN X1.here hx rfl (hb hby d_prog_16_method_4_code_9) rfl ?_
    show Steps p.tables e below (T1.setTop (mkF m 10 #[.val (.int (66 : Int32)), .val (.ref h0.size), .val (.int (10 : Int32)), .val (.int (0 : Int32)), .unset] [(.int (0 : Int32))])) _
    refine XS.iloadN X1.here hx rfl (hb hby d_prog_16_method_4_code_10) rfl ?_
    show Steps p.tables e below (T1.setTop (mkF m 11 #[.val (.int (66 : Int32)), .val (.ref h0.size), .val (.int (10 : Int32)), .val (.int (0 : Int32)), .unset] [(.int (10 : Int32)), (.int (0 : Int32))])) _
    refine XS.icmpNo X1.here hx rfl (hb hby d_prog_16_method_4_code_11) rfl (by decide) ?_
    show Steps p.tables e below (T1.setTop (mkF m 14 #[.val (.int (66 : Int32)), .val (.ref h0.size), .val (.int (10 : Int32)), .val (.int (0 : Int32)), .unset] [])) _
    refine XS.aloadN X1.here hx rfl (hb hby d_prog_16_method_4_code_14) rfl rfl ?_
    show Steps p.tables e below (T1.setTop (mkF m 15 #[.val (.int (66 : Int32)), .val (.ref h0.size), .val (.int (10 : Int32)), .val (.int (0 : Int32)), .unset] [(.ref h0.size)])) _
    refine XS.iloadN X1.here hx rfl (hb hby d_prog_16_method_4_code_15) rfl ?_
    show Steps p.tables e below (T1.setTop (mkF m 16 #[.val (.int (66 : Int32)), .val (.ref h0.size), .val (.int (10 : Int32)), .val (.int (0 : Int32)), .unset] [(.int (0 : Int32)), (.ref h0.size)])) _
    refine X1.aaload hx (j := (0 : Int32)) (v := (.ref b0)) (by first | exact Ar.1 | (rw [rfl]; exact Ar.1)) (State.isArrayOf_alike hZ.alike Ar.2.1) rfl Ar.2.2 (inb_of Sz ⟨by decide, by decide⟩) (Hs.at (inb_of Sz ⟨by decide, by decide⟩) rfl) (g := (mkF m 16 #[.val (.int (66 : Int32)), .val (.ref h0.size), .val (.int (10 : Int32)), .val (.int (0 : Int32)), .unset] [(.int (0 : Int32)), (.ref h0.size)])) rfl rfl (hb hby d_prog_16_method_4_code_16) _ ?_
    show Steps p.tables e below (T1.setTop (mkF m 17 #[.val (.int (66 : Int32)), .val (.ref h0.size), .val (.int (10 : Int32)), .val (.int (0 : Int32)), .unset] [(.ref b0)])) _
    refine XS.astore X1.here hx rfl (hb hby d_prog_16_method_4_code_17) rfl rfl (l' := #[.val (.int (66 : Int32)), .val (.ref h0.size), .val (.int (10 : Int32)), .val (.int (0 : Int32)), .val (.ref b0)]) rfl ?_
    show Steps p.tables e below (T1.setTop (mkF m 19 #[.val (.int (66 : Int32)), .val (.ref h0.size), .val (.int (10 : Int32)), .val (.int (0 : Int32)), .val (.ref b0)] [])) _
    refine XS.aload X1.here hx rfl (hb hby d_prog_16_method_4_code_19) rfl rfl ?_
    show Steps p.tables e below (T1.setTop (mkF m 21 #[.val (.int (66 : Int32)), .val (.ref h0.size), .val (.int (10 : Int32)), .val (.int (0 : Int32)), .val (.ref b0)] [(.ref b0)])) _
    refine st2 _ ?_
    show Steps p.tables e below (T2.setTop (mkF m 24 #[.val (.int (66 : Int32)), .val (.ref h0.size), .val (.int (10 : Int32)), .val (.int (0 : Int32)), .val (.ref b0)] [(.int (96 : Int32))])) _
    refine XS.iloadN X2.here hx rfl (hb hby d_prog_16_method_4_code_24) rfl ?_
    show Steps p.tables e below (T2.setTop (mkF m 25 #[.val (.int (66 : Int32)), .val (.ref h0.size), .val (.int (10 : Int32)), .val (.int (0 : Int32)), .val (.ref b0)] [(.int (66 : Int32)), (.int (96 : Int32))])) _
    refine XS.icmpYes X2.here hx rfl (pc0 := 25) (pc' := 31) rfl (hb hby d_prog_16_method_4_code_25) rfl (by decide) (by decide) (by decide) ?_
    show Steps p.tables e below (T2.setTop (mkF m 31 #[.val (.int (66 : Int32)), .val (.ref h0.size), .val (.int (10 : Int32)), .val (.int (0 : Int32)), .val (.ref b0)] [])) _
    refine XT.iincV X2.here hx rfl (1 : Int32) (hb hby d_prog_16_method_4_code_31) (by decide) rfl (l' := #[.val (.int (66 : Int32)), .val (.ref h0.size), .val (.int (10 : Int32)), .val (.int (1 : Int32)), .val (.ref b0)]) rfl ?_
    show Steps p.tables e below (T2.setTop (mkF m 34 #[.val (.int (66 : Int32)), .val (.ref h0.size), .val (.int (10 : Int32)), .val (.int (1 : Int32)), .val (.ref b0)] [])) _
    refine XS.goto X2.here hx rfl (pc0 := 34) (pc' := 9) rfl (hb hby d_prog_16_method_4_code_34) (by decide) (by decide) ?_
    show Steps p.tables e below (T2.setTop (mkF m 9 #[.val (.int (66 : Int32)), .val (.ref h0.size), .val (.int (10 : Int32)), .val (.int (1 : Int32)), .val (.ref b0)] [])) _
    refine XS.iloadN X2.here hx rfl (hb hby d_prog_16_method_4_code_9) rfl ?_
    show Steps p.tables e below (T2.setTop (mkF m 10 #[.val (.int (66 : Int32)), .val (.ref h0.size), .val (.int (10 : Int32)), .val (.int (1 : Int32)), .val (.ref b0)] [(.int (1 : Int32))])) _
    refine XS.iloadN X2.here hx rfl (hb hby d_prog_16_method_4_code_10) rfl ?_
    show Steps p.tables e below (T2.setTop (mkF m 11 #[.val (.int (66 : Int32)), .val (.ref h0.size), .val (.int (10 : Int32)), .val (.int (1 : Int32)), .val (.ref b0)] [(.int (10 : Int32)), (.int (1 : Int32))])) _
    refine XS.icmpNo X2.here hx rfl (hb hby d_prog_16_method_4_code_11) rfl (by decide) ?_
    show Steps p.tables e below (T2.setTop (mkF m 14 #[.val (.int (66 : Int32)), .val (.ref h0.size), .val (.int (10 : Int32)), .val (.int (1 : Int32)), .val (.ref b0)] [])) _
    refine XS.aloadN X2.here hx rfl (hb hby d_prog_16_method_4_code_14) rfl rfl ?_
    show Steps p.tables e below (T2.setTop (mkF m 15 #[.val (.int (66 : Int32)), .val (.ref h0.size), .val (.int (10 : Int32)), .val (.int (1 : Int32)), .val (.ref b0)] [(.ref h0.size)])) _
    refine XS.iloadN X2.here hx rfl (hb hby d_prog_16_method_4_code_15) rfl ?_
    show Steps p.tables e below (T2.setTop (mkF m 16 #[.val (.int (66 : Int32)), .val (.ref h0.size), .val (.int (10 : Int32)), .val (.int (1 : Int32)), .val (.ref b0)] [(.int (1 : Int32)), (.ref h0.size)])) _
    refine X2.aaload hx (j := (1 : Int32)) (v := (.ref b1)) (by first | exact Ar.1 | (rw [e2]; exact Ar.1)) (State.isArrayOf_alike hZ.alike Ar.2.1) rfl Ar.2.2 (inb_of Sz ⟨by decide, by decide⟩) (Hs.at (inb_of Sz ⟨by decide, by decide⟩) rfl) (g := (mkF m 16 #[.val (.int (66 : Int32)), .val (.ref h0.size), .val (.int (10 : Int32)), .val (.int (1 : Int32)), .val (.ref b0)] [(.int (1 : Int32)), (.ref h0.size)])) rfl rfl (hb hby d_prog_16_method_4_code_16) _ ?_
    show Steps p.tables e below (T2.setTop (mkF m 17 #[.val (.int (66 : Int32)), .val (.ref h0.size), .val (.int (10 : Int32)), .val (.int (1 : Int32)), .val (.ref b0)] [(.ref b1)])) _
    refine XS.astore X2.here hx rfl (hb hby d_prog_16_method_4_code_17) rfl rfl (l' := #[.val (.int (66 : Int32)), .val (.ref h0.size), .val (.int (10 : Int32)), .val (.int (1 : Int32)), .val (.ref b1)]) rfl ?_
    show Steps p.tables e below (T2.setTop (mkF m 19 #[.val (.int (66 : Int32)), .val (.ref h0.size), .val (.int (10 : Int32)), .val (.int (1 : Int32)), .val (.ref b1)] [])) _
    refine XS.aload X2.here hx rfl (hb hby d_prog_16_method_4_code_19) rfl rfl ?_
    show Steps p.tables e below (T2.setTop (mkF m 21 #[.val (.int (66 : Int32)), .val (.ref h0.size), .val (.int (10 : Int32)), .val (.int (1 : Int32)), .val (.ref b1)] [(.ref b1)])) _
    refine st3 _ ?_
    show Steps p.tables e below (T3.setTop (mkF m 24 #[.val (.int (66 : Int32)), .val (.ref h0.size), .val (.int (10 : Int32)), .val (.int (1 : Int32)), .val (.ref b1)] [(.int (66 : Int32))])) _
    refine XS.iloadN X3.here hx rfl (hb hby d_prog_16_method_4_code_24) rfl ?_
    show Steps p.tables e below (T3.setTop (mkF m 25 #[.val (.int (66 : Int32)), .val (.ref h0.size), .val (.int (10 : Int32)), .val (.int (1 : Int32)), .val (.ref b1)] [(.int (66 : Int32)), (.int (66 : Int32))])) _
    refine XS.icmpNo X3.here hx rfl (hb hby d_prog_16_method_4_code_25) rfl (by decide) ?_
    show Steps p.tables e below (T3.setTop (mkF m 28 #[.val (.int (66 : Int32)), .val (.ref h0.size), .val (.int (10 : Int32)), .val (.int (1 : Int32)), .val (.ref b1)] [])) _
    refine XS.aload X3.here hx rfl (hb hby d_prog_16_method_4_code_28) rfl rfl ?_
    show Steps p.tables e below (T3.setTop (mkF m 30 #[.val (.int (66 : Int32)), .val (.ref h0.size), .val (.int (10 : Int32)), .val (.int (1 : Int32)), .val (.ref b1)] [(.ref b1)])) _
    exact retOut X3 hx Bd.returns rfl (Or.inr (Or.inr (Or.inr (Or.inr ⟨rfl, rfl, rfl⟩)))) (hb hby d_prog_16_method_4_code_30) hr
  · exact ⟨rfl, N1, by show Ext h0 T3.heap; rw [e3]; exact Ex1⟩
theorem d_method_2_code_10 : decode method_2_code 10 = .ok (.iload_n 0, 1) := by decide +kernel
theorem d_method_2_code_11 : decode method_2_code 11 = .ok (.bipush 66, 2) := by decide +kernel
theorem d_method_2_code_13 : decode method_2_code 13 = .ok (.if_icmp .ne 7, 3) := by decide +kernel
theorem d_method_2_code_16 : decode method_2_code 16 = .ok (.getstatic 13, 3) := by decide +kernel
theorem d_method_2_code_19 : decode method_2_code 19 = .ok (.areturn, 1) := by decide +kernel
def Q_exp_1 (Z : State) (b1 : Addr) (h0 : Heap) (n0 : Nat) (v : Option Value) (h : Heap) (L : List Loc) : Prop := v = some (.ref b1) ∧ Fr n0 L ∧ h = h0
set_option maxRecDepth 65536 in
set_option maxHeartbeats 40000000 in
theorem exp_1 (l : Launch) (Z : State) (a0 : Array Value) (hw : ∀ d ∈ tables_1, d.before a0 Z = true) (ws : List Jvm.Cond) (b1 : Addr) (h0 : Heap) (n0 : Nat) (Z0 : n0 ≤ h0.size) (Sb1 : Sta Z h0 "com/example/keyward/keyward/LdapOperation" "UNBIND" "Lcom/example/keyward/keyward/LdapOperation;" (.ref b1)) :
    MetFree l (⟨"com/example/keyward/keyward/LdapOperationForRequestTagPinLaw", "expected", "(I)Lcom/example/keyward/keyward/LdapOperation;"⟩ : MethodName) (head1 (Jvm.Cond.code (⟨"com/example/keyward/keyward/LdapOperationForRequestTagPinLaw", "expected", "(I)Lcom/example/keyward/keyward/LdapOperation;"⟩ : MethodName) method_2_code 1 (Option.some (Jvm.ClassFile.FieldType.object "com/example/keyward/keyward/LdapOperation")) :: ws) ({ frames := 0, cells := 0, slots := 0, locals := 0 } : Room)) (fun a U => a = #[(.int (66 : Int32))] ∧ Z.Warmed39 U.vm ∧ U.heap = h0) (fun _ _ _ _ _ => True) (fun _ U o U' => ∃ v L, o = .returned v ∧ Q_exp_1 Z b1 h0 n0 v U'.heap L ∧ FrameEnd U o U' L ({ frames := 0, cells := 0, slots := 0, locals := 0 } : Room).cells ({ frames := 0, cells := 0, slots := 0, locals := 0 } : Room).slots) := by
  refine MetFree.of_bodySF (plainFor_of_name pn_34) hisR ?_
  intro p e s m args below meth c s₁ Bd hml0 hP hK
  obtain ⟨rfl, hZ, hh⟩ := hP
  have hx := Bd.exec
  have hby := Bd.bytes
  have hml : c.maxLocals = 1 := hml0
  have hown : s.vm.findClass "com/example/keyward/keyward/LdapOperationForRequestTagPinLaw" = some m.cls := findClass_of_methodNamed Bd.named
  have hnm := (name_of_methodNamed Bd.named Bd.method).1
  have X0 : Stand p l e ({ frames := 0, cells := 0, slots := 0, locals := 0 } : Room) s m #[(.int (66 : Int32))] below meth c s₁ [] 0 0 := Stand.of_body Bd
  have e0 : s₁.heap = h0 := by rw [← hh, Bd.state]; rfl
  have N0 := Fr.nil n0
  have pre0 : ∀ t, Steps p.tables e below (s₁.setTop (mkF m 0 #[.val (.int (66 : Int32))] [])) t → Steps p.tables e below (s₁.setTop (entryFrame m #[(.int (66 : Int32))] 1)) t := fun t k => castTop (ef_33 m (66 : Int32)) k
  obtain ⟨T1, X1, e1, st1⟩ := getS X0 hx hZ (host := "") hown (hw _ (List.mem_of_getElem? (i := 37) rfl)) Via.refl e0 Sb1 (g := (mkF m 16 #[.val (.int (66 : Int32))] [])) rfl (hb hby d_method_2_code_16)
  obtain ⟨fs, hr, hrun, hended, hW, hsame⟩ := X1.leave (v := some (.ref b1)) (fun h => by rw [Bd.returns] at h; cases h)
  refine ⟨_, _, pre0 _ ?_, hrun, hended, _, _, rfl, ?_, ⟨_, rfl⟩, hW, hsame.mono (by decide) (by decide)⟩
  · show Steps p.tables e below (s₁.setTop (mkF m 0 #[.val (.int (66 : Int32))] [])) _
    refine XS.iloadN X0.here hx rfl (hb hby d_method_2_code_0) rfl ?_
    show Steps p.tables e below (s₁.setTop (mkF m 1 #[.val (.int (66 : Int32))] [(.int (66 : Int32))])) _
    refine XT.bipushV X0.here hx rfl (96 : Int32) (hb hby d_method_2_code_1) (by decide) ?_
    show Steps p.tables e below (s₁.setTop (mkF m 3 #[.val (.int (66 : Int32))] [(.int (96 : Int32)), (.int (66 : Int32))])) _
    refine XS.icmpYes X0.here hx rfl (pc0 := 3) (pc' := 10) rfl (hb hby d_method_2_code_3) rfl (by decide) (by decide) (by decide) ?_
    show Steps p.tables e below (s₁.setTop (mkF m 10 #[.val (.int (66 : Int32))] [])) _
    refine XS.iloadN X0.here hx rfl (hb hby d_method_2_code_10) rfl ?_
    show Steps p.tables e below (s₁.setTop (mkF m 11 #[.val (.int (66 : Int32))] [(.int (66 : Int32))])) _
    refine XT.bipushV X0.here hx rfl (66 : Int32) (hb hby d_method_2_code_11) (by decide) ?_
    show Steps p.tables e below (s₁.setTop (mkF m 13 #[.val (.int (66 : Int32))] [(.int (66 : Int32)), (.int (66 : Int32))])) _
    refine XS.icmpNo X0.here hx rfl (hb hby d_method_2_code_13) rfl (by decide) ?_
    show Steps p.tables e below (s₁.setTop (mkF m 16 #[.val (.int (66 : Int32))] [])) _
    refine st1 _ ?_
    show Steps p.tables e below (T1.setTop (mkF m 19 #[.val (.int (66 : Int32))] [(.ref b1)])) _
    exact retOut X1 hx Bd.returns rfl (Or.inr (Or.inr (Or.inr (Or.inr ⟨rfl, rfl, rfl⟩)))) (hb hby d_method_2_code_19) hr
  · exact ⟨rfl, N0, e1⟩
def Q_find_2 (Z : State) (aV : Addr) (kV : ClassId) (b0 b1 b2 b3 b4 b5 b6 b7 b8 b9 : Addr) (h0 : Heap) (n0 : Nat) (v : Option Value) (h : Heap) (L : List Loc) : Prop := v = some (.ref b2) ∧ Fr n0 L ∧ Ext h0 h
set_option maxRecDepth 65536 in
set_option maxHeartbeats 40000000 in
theorem find_2 (l : Launch) (Z : State) (a0 : Array Value) (hw : ∀ d ∈ tables_1, d.before a0 Z = true) (ws : List Jvm.Cond) (aV : Addr) (kV : ClassId) (b0 b1 b2 b3 b4 b5 b6 b7 b8 b9 : Addr) (h0 : Heap) (n0 : Nat) (Z0 : n0 ≤ h0.size) (SaV : Sta Z h0 "com/example/keyward/keyward/LdapOperation" "$VALUES" "[Lcom/example/keyward/keyward/LdapOperation;" (.ref aV)) (VaV : Arv Z h0 aV kV (.object "com/example/keyward/keyward/LdapOperation") (10 : Int32) [(.ref b0), (.ref b1), (.ref b2), (.ref b3), (.ref b4), (.ref b5), (.ref b6), (.ref b7), (.ref b8), (.ref b9)] .null) (EaV : Exa Z h0 aV "[Lcom/example/keyward/keyward/LdapOperation;")(Fb0 : Fld Z h0 b0 "com/example/keyward/keyward/LdapOperation" "requestTag" "I" (.int (96 : Int32)))(Fb1 : Fld Z h0 b1 "com/example/keyward/keyward/LdapOperation" "requestTag" "I" (.int (66 : Int32)))(Fb2 : Fld Z h0 b2 "com/example/keyward/keyward/LdapOperation" "requestTag" "I" (.int (99 : Int32)))(Fb3 : Fld Z h0 b3 "com/example/keyward/keyward/LdapOperation" "requestTag" "I" (.int (102 : Int32)))(Fb4 : Fld Z h0 b4 "com/example/keyward/keyward/LdapOperation" "requestTag" "I" (.int (104 : Int32)))(Fb5 : Fld Z h0 b5 "com/example/keyward/keyward/LdapOperation" "requestTag" "I" (.int (74 : Int32)))(Fb6 : Fld Z h0 b6 "com/example/keyward/keyward/LdapOperation" "requestTag" "I" (.int (108 : Int32)))(Fb7 : Fld Z h0 b7 "com/example/keyward/keyward/LdapOperation" "requestTag" "I" (.int (110 : Int32)))(Fb8 : Fld Z h0 b8 "com/example/keyward/keyward/LdapOperation" "requestTag" "I" (.int (80 : Int32)))(Fb9 : Fld Z h0 b9 "com/example/keyward/keyward/LdapOperation" "requestTag" "I" (.int (119 : Int32))) :
    MetFree l (⟨"com/example/keyward/keyward/LdapOperation", "forRequestTag", "(I)Lcom/example/keyward/keyward/LdapOperation;"⟩ : MethodName) (head1 (Jvm.Cond.code (⟨"com/example/keyward/keyward/LdapOperation", "forRequestTag", "(I)Lcom/example/keyward/keyward/LdapOperation;"⟩ : MethodName) prog_16_method_4_code 5 (Option.some (Jvm.ClassFile.FieldType.object "com/example/keyward/keyward/LdapOperation")) :: ws) ({ frames := 2, cells := 1, slots := 10, locals := 25 } : Room)) (fun a U => a = #[(.int (99 : Int32))] ∧ Z.Warmed39 U.vm ∧ U.heap = h0) (fun _ _ _ _ _ => True) (fun _ U o U' => ∃ v L, o = .returned v ∧ Q_find_2 Z aV kV b0 b1 b2 b3 b4 b5 b6 b7 b8 b9 h0 n0 v U'.heap L ∧ FrameEnd U o U' L ({ frames := 2, cells := 1, slots := 10, locals := 25 } : Room).cells ({ frames := 2, cells := 1, slots := 10, locals := 25 } : Room).slots) := by
  refine MetFree.of_bodySF (plainFor_of_name pn_5) hisR ?_
  intro p e s m args below meth c s₁ Bd hml0 hP hK
  obtain ⟨rfl, hZ, hh⟩ := hP
  have hx := Bd.exec
  have hby := Bd.bytes
  have hml : c.maxLocals = 5 := hml0
  have hown : s.vm.findClass "com/example/keyward/keyward/LdapOperation" = some m.cls := findClass_of_methodNamed Bd.named
  have hnm := (name_of_methodNamed Bd.named Bd.method).1
  have X0 : Stand p l e ({ frames := 2, cells := 1, slots := 10, locals := 25 } : Room) s m #[(.int (99 : Int32))] below meth c s₁ [] 0 0 := Stand.of_body Bd
  have e0 : s₁.heap = h0 := by rw [← hh, Bd.state]; rfl
  have N0 := Fr.nil n0
  have pre0 : ∀ t, Steps p.tables e below (s₁.setTop (mkF m 0 #[.val (.int (99 : Int32)), .unset, .unset, .unset, .unset] [])) t → Steps p.tables e below (s₁.setTop (entryFrame m #[(.int (99 : Int32))] 5)) t := fun t k => castTop (ef_27 m (99 : Int32)) k
  obtain ⟨_, _, ⟨T1, L1, k1, n1⟩, -, X1, ⟨Lc1, hQ1, l1, y1, z1⟩, st1⟩ := Jvm.LawKit.callS X0 hx (y := (⟨"com/example/keyward/keyward/LdapOperation", "values", "()[Lcom/example/keyward/keyward/LdapOperation;"⟩ : MethodName)) hown (mvT hZ (hw _ (List.mem_of_getElem? (i := 5) rfl))) (mvT hZ (hw _ (List.mem_of_getElem? (i := 6) rfl))) (mvT hZ (hw _ (List.mem_of_getElem? (i := 3) rfl))) (mvT hZ (hw _ (List.mem_of_getElem? (i := 7) rfl))) (by decide) (backOf (W := 0) (values_0 l Z a0 hw [] aV kV b0 b1 b2 b3 b4 b5 b6 b7 b8 b9 h0 n0 Z0 SaV VaV EaV) hZ (hw _ (List.mem_of_getElem? (i := 7) rfl)) (hw _ (List.mem_of_getElem? (i := 3) rfl)) (by decide) (by decide)) (g := (mkF m 0 #[.val (.int (99 : Int32)), .unset, .unset, .unset, .unset] [])) rfl (by rw [hml]; rfl) (argsL := []) (rest := []) (lenOf pd_7 rfl) rfl (by show 2 * 0 + _ ≤ _; exact Nat.le_of_eq rfl) (hb hby d_prog_16_method_4_code_0) (fun _ _ => ⟨rfl, e0, (by decide : 0 + 1 ≤ _), (by decide : 0 + 10 ≤ _)⟩)
  dsimp only [Pt.U, Pt.locs, Pt.cells, Pt.slots] at X1 l1 y1 z1 st1 hQ1
  subst l1 y1 z1
  obtain ⟨rfl, N1q, Ex1, V1⟩ := hQ1
  have N1 := Fr.app N0 N1q
  obtain ⟨cl, Ar, -, Sz, Ng, Hs, -⟩ := V1
  have hlen : cl.slots.size.toInt32 = (10 : Int32) := len_of Sz Ng
  obtain ⟨T2, X2, e2, st2⟩ := getF X1 hx hZ hown (host := "") (Or.inl (hw _ (List.mem_of_getElem? (i := 30) rfl))) Via.refl rfl (Fb0.ext Ex1) (g := (mkF m 21 #[.val (.int (99 : Int32)), .val (.ref h0.size), .val (.int (10 : Int32)), .val (.int (0 : Int32)), .val (.ref b0)] [(.ref b0)])) rfl rfl (hb hby d_prog_16_method_4_code_21)
  obtain ⟨T3, X3, e3, st3⟩ := getF X2 hx hZ hown (host := "") (Or.inl (hw _ (List.mem_of_getElem? (i := 30) rfl))) Via.refl e2 (Fb1.ext Ex1) (g := (mkF m 21 #[.val (.int (99 : Int32)), .val (.ref h0.size), .val (.int (10 : Int32)), .val (.int (1 : Int32)), .val (.ref b1)] [(.ref b1)])) rfl rfl (hb hby d_prog_16_method_4_code_21)
  obtain ⟨T4, X4, e4, st4⟩ := getF X3 hx hZ hown (host := "") (Or.inl (hw _ (List.mem_of_getElem? (i := 30) rfl))) Via.refl e3 (Fb2.ext Ex1) (g := (mkF m 21 #[.val (.int (99 : Int32)), .val (.ref h0.size), .val (.int (10 : Int32)), .val (.int (2 : Int32)), .val (.ref b2)] [(.ref b2)])) rfl rfl (hb hby d_prog_16_method_4_code_21)
  obtain ⟨fs, hr, hrun, hended, hW, hsame⟩ := X4.leave (v := some (.ref b2)) (fun h => by rw [Bd.returns] at h; cases h)
  refine ⟨_, _, pre0 _ ?_, hrun, hended, _, _, rfl, ?_, ⟨_, rfl⟩, hW, hsame.mono (by decide) (by decide)⟩
  · show Steps p.tables e below (s₁.setTop (mkF m 0 #[.val (.int (99 : Int32)), .unset, .unset, .unset, .unset] [])) _
    refine st1 _ ?_
    show Steps p.tables e below (T1.setTop (mkF m 3 #[.val (.int (99 : Int32)), .unset, .unset, .unset, .unset] [(.ref h0.size)])) _
    refine XS.astoreN X1.here hx rfl (hb hby d_prog_16_method_4_code_3) rfl rfl (l' := #[.val (.int (99 : Int32)), .val (.ref h0.size), .unset, .unset, .unset]) rfl ?_
    show Steps p.tables e below (T1.setTop (mkF m 4 #[.val (.int (99 : Int32)), .val (.ref h0.size), .unset, .unset, .unset] [])) _
    refine XS.aloadN X1.here hx rfl (hb hby d_prog_16_method_4_code_4) rfl rfl ?_
    show Steps p.tables e below (T1.setTop (mkF m 5 #[.val (.int (99 : Int32)), .val (.ref h0.size), .unset, .unset, .unset] [(.ref h0.size)])) _
    refine X1.arraylength hx (by first | exact Ar.1 | (rw [rfl]; exact Ar.1)) (State.isArrayOf_alike hZ.alike Ar.2.1) (g := (mkF m 5 #[.val (.int (99 : Int32)), .val (.ref h0.size), .unset, .unset, .unset] [(.ref h0.size)])) rfl rfl (hb hby d_prog_16_method_4_code_5) _ ?_
    show Steps p.tables e below (T1.setTop (mkF m 6 #[.val (.int (99 : Int32)), .val (.ref h0.size), .unset, .unset, .unset] [(.int cl.slots.size.toInt32)])) _
    rw [hlen]
    show Steps p.tables e below (T1.setTop (mkF m 6 #[.val (.int (99 : Int32)), .val (.ref h0.size), .unset, .unset, .unset] [(.int (10 : Int32))])) _
    refine XS.istoreN X1.here hx rfl (hb hby d_prog_16_method_4_code_6) rfl (l' := #[.val (.int (99 : Int32)), .val (.ref h0.size), .val (.int (10 : Int32)), .unset, .unset]) rfl ?_
    show Steps p.tables e below (T1.setTop (mkF m 7 #[.val (.int (99 : Int32)), .val (.ref h0.size), .val (.int (10 : Int32)), .unset, .unset] [])) _
    refine XT.iconstV X1.here hx rfl (0 : Int32) (hb hby d_prog_16_method_4_code_7) (by decide) ?_
    show Steps p.tables e below (T1.setTop (mkF m 8 #[.val (.int (99 : Int32)), .val (.ref h0.size), .val (.int (10 : Int32)), .unset, .unset] [(.int (0 : Int32))])) _
    refine XS.istoreN X1.here hx rfl (hb hby d_prog_16_method_4_code_8) rfl (l' := #[.val (.int (99 : Int32)), .val (.ref h0.size), .val (.int (10 : Int32)), .val (.int (0 : Int32)), .unset]) rfl ?_
    show Steps p.tables e below (T1.setTop (mkF m 9 #[.val (.int (99 : Int32)), .val (.ref h0.size), .val (.int (10 : Int32)), .val (.int (0 : Int32)), .unset] [])) _
    refine XS.iloadN X1.here hx rfl (hb hby d_prog_16_method_4_code_9) rfl ?_
    show Steps p.tables e below (T1.setTop (mkF m 10 #[.val (.int (99 : Int32)), .val (.ref h0.size), .val (.int (10 : Int32)), .val (.int (0 : Int32)), .unset] [(.int (0 : Int32))])) _
    refine XS.iloadN X1.here hx rfl (hb hby d_prog_16_method_4_code_10) rfl ?_
    show Steps p.tables e below (T1.setTop (mkF m 11 #[.val (.int (99 : Int32)), .val (.ref h0.size), .val (.int (10 : Int32)), .val (.int (0 : Int32)), .unset] [(.int (10 : Int32)), (.int (0 : Int32))])) _
    refine XS.icmpNo X1.here hx rfl (hb hby d_prog_16_method_4_code_11) rfl (by decide) ?_
    show Steps p.tables e below (T1.setTop (mkF m 14 #[.val (.int (99 : Int32)), .val (.ref h0.size), .val (.int (10 : Int32)), .val (.int (0 : Int32)), .unset] [])) _
    refine XS.aloadN X1.here hx rfl (hb hby d_prog_16_method_4_code_14) rfl rfl ?_
    show Steps p.tables e below (T1.setTop (mkF m 15 #[.val (.int (99 : Int32)), .val (.ref h0.size), .val (.int (10 : Int32)), .val (.int (0 : Int32)), .unset] [(.ref h0.size)])) _
    refine XS.iloadN X1.here hx rfl (hb hby d_prog_16_method_4_code_15) rfl ?_
    show Steps p.tables e below (T1.setTop (mkF m 16 #[.val (.int (99 : Int32)), .val (.ref h0.size), .val (.int (10 : Int32)), .val (.int (0 : Int32)), .unset] [(.int (0 : Int32)), (.ref h0.size)])) _
    refine X1.aaload hx (j := (0 : Int32)) (v := (.ref b0)) (by first | exact Ar.1 | (rw [rfl]; exact Ar.1)) (State.isArrayOf_alike hZ.alike Ar.2.1) rfl Ar.2.2 (inb_of Sz ⟨by decide, by decide⟩) (Hs.at (inb_of Sz ⟨by decide, by decide⟩) rfl) (g := (mkF m 16 #[.val (.int (99 : Int32)), .val (.ref h0.size), .val (.int (10 : Int32)), .val (.int (0 : Int32)), .unset] [(.int (0 : Int32)), (.ref h0.size)])) rfl rfl (hb hby d_prog_16_method_4_code_16) _ ?_
    show Steps p.tables e below (T1.setTop (mkF m 17 #[.val (.int (99 : Int32)), .val (.ref h0.size), .val (.int (10 : Int32)), .val (.int (0 : Int32)), .unset] [(.ref b0)])) _
    refine XS.astore X1.here hx rfl (hb hby d_prog_16_method_4_code_17) rfl rfl (l' := #[.val (.int (99 : Int32)), .val (.ref h0.size), .val (.int (10 : Int32)), .val (.int (0 : Int32)), .val (.ref b0)]) rfl ?_
    show Steps p.tables e below (T1.setTop (mkF m 19 #[.val (.int (99 : Int32)), .val (.ref h0.size), .val (.int (10 : Int32)), .val (.int (0 : Int32)), .val (.ref b0)] [])) _
    refine XS.aload X1.here hx rfl (hb hby d_prog_16_method_4_code_19) rfl rfl ?_
    show Steps p.tables e below (T1.setTop (mkF m 21 #[.val (.int (99 : Int32)), .val (.ref h0.size), .val (.int (10 : Int32)), .val (.int (0 : Int32)), .val (.ref b0)] [(.ref b0)])) _
    refine st2 _ ?_
    show Steps p.tables e below (T2.setTop (mkF m 24 #[.val (.int (99 : Int32)), .val (.ref h0.size), .val (.int (10 : Int32)), .val (.int (0 : Int32)), .val (.ref b0)] [(.int (96 : Int32))])) _
    refine XS.iloadN X2.here hx rfl (hb hby d_prog_16_method_4_code_24) rfl ?_
    show Steps p.tables e below (T2.setTop (mkF m 25 #[.val (.int (99 : Int32)), .val (.ref h0.size), .val (.int (10 : Int32)), .val (.int (0 : Int32)), .val (.ref b0)] [(.int (99 : Int32)), (.int (96 : Int32))])) _
    refine XS.icmpYes X2.here hx rfl (pc0 := 25) (pc' := 31) rfl (hb hby d_prog_16_method_4_code_25) rfl (by decide) (by decide) (by decide) ?_
    show Steps p.tables e below (T2.setTop (mkF m 31 #[.val (.int (99 : Int32)), .val (.ref h0.size), .val (.int (10 : Int32)), .val (.int (0 : Int32)), .val (.ref b0)] [])) _
    refine XT.iincV X2.here hx rfl (1 : Int32) (hb hby d_prog_16_method_4_code_31) (by decide) rfl (l' := #[.val (.int (99 : Int32)), .val (.ref h0.size), .val (.int (10 : Int32)), .val (.int (1 : Int32)), .val (.ref b0)]) rfl ?_
    show Steps p.tables e below (T2.setTop (mkF m 34 #[.val (.int (99 : Int32)), .val (.ref h0.size), .val (.int (10 : Int32)), .val (.int (1 : Int32)), .val (.ref b0)] [])) _
    refine XS.goto X2.here hx rfl (pc0 := 34) (pc' := 9) rfl (hb hby d_prog_16_method_4_code_34) (by decide) (by decide) ?_
    show Steps p.tables e below (T2.setTop (mkF m 9 #[.val (.int (99 : Int32)), .val (.ref h0.size), .val (.int (10 : Int32)), .val (.int (1 : Int32)), .val (.ref b0)] [])) _
    refine XS.iloadN X2.here hx rfl (hb hby d_prog_16_method_4_code_9) rfl ?_
    show Steps p.tables e below (T2.setTop (mkF m 10 #[.val (.int (99 : Int32)), .val (.ref h0.size), .val (.int (10 : Int32)), .val (.int (1 : Int32)), .val (.ref b0)] [(.int (1 : Int32))])) _
    refine XS.iloadN X2.here hx rfl (hb hby d_prog_16_method_4_code_10) rfl ?_
    show Steps p.tables e below (T2.setTop (mkF m 11 #[.val (.int (99 : Int32)), .val (.ref h0.size), .val (.int (10 : Int32)), .val (.int (1 : Int32)), .val (.ref b0)] [(.int (10 : Int32)), (.int (1 : Int32))])) _
    refine XS.icmpNo X2.here hx rfl (hb hby d_prog_16_method_4_code_11) rfl (by decide) ?_
    show Steps p.tables e below (T2.setTop (mkF m 14 #[.val (.int (99 : Int32)), .val (.ref h0.size), .val (.int (10 : Int32)), .val (.int (1 : Int32)), .val (.ref b0)] [])) _
    refine XS.aloadN X2.here hx rfl (hb hby d_prog_16_method_4_code_14) rfl rfl ?_
    show Steps p.tables e below (T2.setTop (mkF m 15 #[.val (.int (99 : Int32)), .val (.ref h0.size), .val (.int (10 : Int32)), .val (.int (1 : Int32)), .val (.ref b0)] [(.ref h0.size)])) _
    refine XS.iloadN X2.here hx rfl (hb hby d_prog_16_method_4_code_15) rfl ?_
    show Steps p.tables e below (T2.setTop (mkF m 16 #[.val (.int (99 : Int32)), .val (.ref h0.size), .val (.int (10 : Int32)), .val (.int (1 : Int32)), .val (.ref b0)] [(.int (1 : Int32)), (.ref h0.size)])) _
    refine X2.aaload hx (j := (1 : Int32)) (v := (.ref b1)) (by first | exact Ar.1 | (rw [e2]; exact Ar.1)) (State.isArrayOf_alike hZ.alike Ar.2.1) rfl Ar.2.2 (inb_of Sz ⟨by decide, by decide⟩) (Hs.at (inb_of Sz ⟨by decide, by decide⟩) rfl) (g := (mkF m 16 #[.val (.int (99 : Int32)), .val (.ref h0.size), .val (.int (10 : Int32)), .val (.int (1 : Int32)), .val (.ref b0)] [(.int (1 : Int32)), (.ref h0.size)])) rfl rfl (hb hby d_prog_16_method_4_code_16) _ ?_
    show Steps p.tables e below (T2.setTop (mkF m 17 #[.val (.int (99 : Int32)), .val (.ref h0.size), .val (.int (10 : Int32)), .val (.int (1 : Int32)), .val (.ref b0)] [(.ref b1)])) _
    refine XS.astore X2.here hx rfl (hb hby d_prog_16_method_4_code_17) rfl rfl (l' := #[.val (.int (99 : Int32)), .val (.ref h0.size), .val (.int (10 : Int32)), .val (.int (1 : Int32)), .val (.ref b1)]) rfl ?_
    show Steps p.tables e below (T2.setTop (mkF m 19 #[.val (.int (99 : Int32)), .val (.ref h0.size), .val (.int (10 : Int32)), .val (.int (1 : Int32)), .val (.ref b1)] [])) _
    refine XS.aload X2.here hx rfl (hb hby d_prog_16_method_4_code_19) rfl rfl ?_
    show Steps p.tables e below (T2.setTop (mkF m 21 #[.val (.int (99 : Int32)), .val (.ref h0.size), .val (.int (10 : Int32)), .val (.int (1 : Int32)), .val (.ref b1)] [(.ref b1)])) _
    refine st3 _ ?_
    show Steps p.tables e below (T3.setTop (mkF m 24 #[.val (.int (99 : Int32)), .val (.ref h0.size), .val (.int (10 : Int32)), .val (.int (1 : Int32)), .val (.ref b1)] [(.int (66 : Int32))])) _
    refine XS.iloadN X3.here hx rfl (hb hby d_prog_16_method_4_code_24) rfl ?_
    show Steps p.tables e below (T3.setTop (mkF m 25 #[.val (.int (99 : Int32)), .val (.ref h0.size), .val (.int (10 : Int32)), .val (.int (1 : Int32)), .val (.ref b1)] [(.int (99 : Int32)), (.int (66 : Int32))])) _
    refine XS.icmpYes X3.here hx rfl (pc0 := 25) (pc' := 31) rfl (hb hby d_prog_16_method_4_code_25) rfl (by decide) (by decide) (by decide) ?_
    show Steps p.tables e below (T3.setTop (mkF m 31 #[.val (.int (99 : Int32)), .val (.ref h0.size), .val (.int (10 : Int32)), .val (.int (1 : Int32)), .val (.ref b1)] [])) _
    refine XT.iincV X3.here hx rfl (1 : Int32) (hb hby d_prog_16_method_4_code_31) (by decide) rfl (l' := #[.val (.int (99 : Int32)), .val (.ref h0.size), .val (.int (10 : Int32)), .val (.int (2 : Int32)), .val (.ref b1)]) rfl ?_
    show Steps p.tables e below (T3.setTop (mkF m 34 #[.val (.int (99 : Int32)), .val (.ref h0.size), .val (.int (10 : Int32)), .val (.int (2 : Int32)), .val (.ref b1)] [])) _
    refine XS.goto X3.here hx rfl (pc0 := 34) (pc' := 9) rfl (hb hby d_prog_16_method_4_code_34) (by decide) (by decide) ?_
    show Steps p.tables e below (T3.setTop (mkF m 9 #[.val (.int (99 : Int32)), .val (.ref h0.size), .val (.int (10 : Int32)), .val (.int (2 : Int32)), .val (.ref b1)] [])) _
    refine XS.iloadN X3.here hx rfl (hb hby d_prog_16_method_4_code_9) rfl ?_
    show Steps p.tables e below (T3.setTop (mkF m 10 #[.val (.int (99 : Int32)), .val (.ref h0.size), .val (.int (10 : Int32)), .val (.int (2 : Int32)), .val (.ref b1)] [(.int (2 : Int32))])) _
    refine XS.iloadN X3.here hx rfl (hb hby d_prog_16_method_4_code_10) rfl ?_
    show Steps p.tables e below (T3.setTop (mkF m 11 #[.val (.int (99 : Int32)), .val (.ref h0.size), .val (.int (10 : Int32)), .val (.int (2 : Int32)), .val (.ref b1)] [(.int (10 : Int32)), (.int (2 : Int32))])) _
    refine XS.icmpNo X3.here hx rfl (hb hby d_prog_16_method_4_code_11) rfl (by decide) ?_
    show Steps p.tables e below (T3.setTop (mkF m 14 #[.val (.int (99 : Int32)), .val (.ref h0.size), .val (.int (10 : Int32)), .val (.int (2 : Int32)), .val (.ref b1)] [])) _
    refine XS.aloadN X3.here hx rfl (hb hby d_prog_16_method_4_code_14) rfl rfl ?_
    show Steps p.tables e below (T3.setTop (mkF m 15 #[.val (.int (99 : Int32)), .val (.ref h0.size), .val (.int (10 : Int32)), .val (.int (2 : Int32)), .val (.ref b1)] [(.ref h0.size)])) _
    refine XS.iloadN X3.here hx rfl (hb hby d_prog_16_method_4_code_15) rfl ?_
    show Steps p.tables e below (T3.setTop (mkF m 16 #[.val (.int (99 : Int32)), .val (.ref h0.size), .val (.int (10 : Int32)), .val (.int (2 : Int32)), .val (.ref b1)] [(.int (2 : Int32)), (.ref h0.size)])) _
    refine X3.aaload hx (j := (2 : Int32)) (v := (.ref b2)) (by first | exact Ar.1 | (rw [e3]; exact Ar.1)) (State.isArrayOf_alike hZ.alike Ar.2.1) rfl Ar.2.2 (inb_of Sz ⟨by decide, by decide⟩) (Hs.at (inb_of Sz ⟨by decide, by decide⟩) rfl) (g := (mkF m 16 #[.val (.int (99 : Int32)), .val (.ref h0.size), .val (.int (10 : Int32)), .val (.int (2 : Int32)), .val (.ref b1)] [(.int (2 : Int32)), (.ref h0.size)])) rfl rfl (hb hby d_prog_16_method_4_code_16) _ ?_
    show Steps p.tables e below (T3.setTop (mkF m 17 #[.val (.int (99 : Int32)), .val (.ref h0.size), .val (.int (10 : Int32)), .val (.int (2 : Int32)), .val (.ref b1)] [(.ref b2)])) _
    refine XS.astore X3.here hx rfl (hb hby d_prog_16_method_4_code_17) rfl rfl (l' := #[.val (.int (99 : Int32)), .val (.ref h0.size), .val (.int (10 : Int32)), .val (.int (2 : Int32)), .val (.ref b2)]) rfl ?_
    show Steps p.tables e below (T3.setTop (mkF m 19 #[.val (.int (99 : Int32)), .val (.ref h0.size), .val (.int (10 : Int32)), .val (.int (2 : Int32)), .val (.ref b2)] [])) _
    refine XS.aload X3.here hx rfl (hb hby d_prog_16_method_4_code_19) rfl rfl ?_
    show Steps p.tables e below (T3.setTop (mkF m 21 #[.val (.int (99 : Int32)), .val (.ref h0.size), .val (.int (10 : Int32)), .val (.int (2 : Int32)), .val (.ref b2)] [(.ref b2)])) _
    refine st4 _ ?_
    show Steps p.tables e below (T4.setTop (mkF m 24 #[.val (.int (99 : Int32)), .val (.ref h0.size), .val (.int (10 : Int32)), .val (.int (2 : Int32)), .val (.ref b2)] [(.int (99 : Int32))])) _
    refine XS.iloadN X4.here hx rfl (hb hby d_prog_16_method_4_code_24) rfl ?_
    show Steps p.tables e below (T4.setTop (mkF m 25 #[.val (.int (99 : Int32)), .val (.ref h0.size), .val (.int (10 : Int32)), .val (.int (2 : Int32)), .val (.ref b2)] [(.int (99 : Int32)), (.int (99 : Int32))])) _
    refine XS.icmpNo X4.here hx rfl (hb hby d_prog_16_method_4_code_25) rfl (by decide) ?_
    show Steps p.tables e below (T4.setTop (mkF m 28 #[.val (.int (99 : Int32)), .val (.ref h0.size), .val (.int (10 : Int32)), .val (.int (2 : Int32)), .val (.ref b2)] [])) _
    refine XS.aload X4.here hx rfl (hb hby d_prog_16_method_4_code_28) rfl rfl ?_
    show Steps p.tables e below (T4.setTop (mkF m 30 #[.val (.int (99 : Int32)), .val (.ref h0.size), .val (.int (10 : Int32)), .val (.int (2 : Int32)), .val (.ref b2)] [(.ref b2)])) _
    exact retOut X4 hx Bd.returns rfl (Or.inr (Or.inr (Or.inr (Or.inr ⟨rfl, rfl, rfl⟩)))) (hb hby d_prog_16_method_4_code_30) hr
  · exact ⟨rfl, N1, by show Ext h0 T4.heap; rw [e4]; exact Ex1⟩
theorem d_method_2_code_20 : decode method_2_code 20 = .ok (.iload_n 0, 1) := by decide +kernel
theorem d_method_2_code_21 : decode method_2_code 21 = .ok (.bipush 99, 2) := by decide +kernel
theorem d_method_2_code_23 : decode method_2_code 23 = .ok (.if_icmp .ne 7, 3) := by decide +kernel
theorem d_method_2_code_26 : decode method_2_code 26 = .ok (.getstatic 16, 3) := by decide +kernel
theorem d_method_2_code_29 : decode method_2_code 29 = .ok (.areturn, 1) := by decide +kernel
def Q_exp_2 (Z : State) (b2 : Addr) (h0 : Heap) (n0 : Nat) (v : Option Value) (h : Heap) (L : List Loc) : Prop := v = some (.ref b2) ∧ Fr n0 L ∧ h = h0
set_option maxRecDepth 65536 in
set_option maxHeartbeats 40000000 in
theorem exp_2 (l : Launch) (Z : State) (a0 : Array Value) (hw : ∀ d ∈ tables_1, d.before a0 Z = true) (ws : List Jvm.Cond) (b2 : Addr) (h0 : Heap) (n0 : Nat) (Z0 : n0 ≤ h0.size) (Sb2 : Sta Z h0 "com/example/keyward/keyward/LdapOperation" "SEARCH" "Lcom/example/keyward/keyward/LdapOperation;" (.ref b2)) :
    MetFree l (⟨"com/example/keyward/keyward/LdapOperationForRequestTagPinLaw", "expected", "(I)Lcom/example/keyward/keyward/LdapOperation;"⟩ : MethodName) (head1 (Jvm.Cond.code (⟨"com/example/keyward/keyward/LdapOperationForRequestTagPinLaw", "expected", "(I)Lcom/example/keyward/keyward/LdapOperation;"⟩ : MethodName) method_2_code 1 (Option.some (Jvm.ClassFile.FieldType.object "com/example/keyward/keyward/LdapOperation")) :: ws) ({ frames := 0, cells := 0, slots := 0, locals := 0 } : Room)) (fun a U => a = #[(.int (99 : Int32))] ∧ Z.Warmed39 U.vm ∧ U.heap = h0) (fun _ _ _ _ _ => True) (fun _ U o U' => ∃ v L, o = .returned v ∧ Q_exp_2 Z b2 h0 n0 v U'.heap L ∧ FrameEnd U o U' L ({ frames := 0, cells := 0, slots := 0, locals := 0 } : Room).cells ({ frames := 0, cells := 0, slots := 0, locals := 0 } : Room).slots) := by
  refine MetFree.of_bodySF (plainFor_of_name pn_34) hisR ?_
  intro p e s m args below meth c s₁ Bd hml0 hP hK
  obtain ⟨rfl, hZ, hh⟩ := hP
  have hx := Bd.exec
  have hby := Bd.bytes
  have hml : c.maxLocals = 1 := hml0
  have hown : s.vm.findClass "com/example/keyward/keyward/LdapOperationForRequestTagPinLaw" = some m.cls := findClass_of_methodNamed Bd.named
  have hnm := (name_of_methodNamed Bd.named Bd.method).1
  have X0 : Stand p l e ({ frames := 0, cells := 0, slots := 0, locals := 0 } : Room) s m #[(.int (99 : Int32))] below meth c s₁ [] 0 0 := Stand.of_body Bd
  have e0 : s₁.heap = h0 := by rw [← hh, Bd.state]; rfl
  have N0 := Fr.nil n0
  have pre0 : ∀ t, Steps p.tables e below (s₁.setTop (mkF m 0 #[.val (.int (99 : Int32))] [])) t → Steps p.tables e below (s₁.setTop (entryFrame m #[(.int (99 : Int32))] 1)) t := fun t k => castTop (ef_33 m (99 : Int32)) k
  obtain ⟨T1, X1, e1, st1⟩ := getS X0 hx hZ (host := "") hown (hw _ (List.mem_of_getElem? (i := 42) rfl)) Via.refl e0 Sb2 (g := (mkF m 26 #[.val (.int (99 : Int32))] [])) rfl (hb hby d_method_2_code_26)
  obtain ⟨fs, hr, hrun, hended, hW, hsame⟩ := X1.leave (v := some (.ref b2)) (fun h => by rw [Bd.returns] at h; cases h)
  refine ⟨_, _, pre0 _ ?_, hrun, hended, _, _, rfl, ?_, ⟨_, rfl⟩, hW, hsame.mono (by decide) (by decide)⟩
  · show Steps p.tables e below (s₁.setTop (mkF m 0 #[.val (.int (99 : Int32))] [])) _
    refine XS.iloadN X0.here hx rfl (hb hby d_method_2_code_0) rfl ?_
    show Steps p.tables e below (s₁.setTop (mkF m 1 #[.val (.int (99 : Int32))] [(.int (99 : Int32))])) _
    refine XT.bipushV X0.here hx rfl (96 : Int32) (hb hby d_method_2_code_1) (by decide) ?_
    show Steps p.tables e below (s₁.setTop (mkF m 3 #[.val (.int (99 : Int32))] [(.int (96 : Int32)), (.int (99 : Int32))])) _
    refine XS.icmpYes X0.here hx rfl (pc0 := 3) (pc' := 10) rfl (hb hby d_method_2_code_3) rfl (by decide) (by decide) (by decide) ?_
    show Steps p.tables e below (s₁.setTop (mkF m 10 #[.val (.int (99 : Int32))] [])) _
    refine XS.iloadN X0.here hx rfl (hb hby d_method_2_code_10) rfl ?_
    show Steps p.tables e below (s₁.setTop (mkF m 11 #[.val (.int (99 : Int32))] [(.int (99 : Int32))])) _
    refine XT.bipushV X0.here hx rfl (66 : Int32) (hb hby d_method_2_code_11) (by decide) ?_
    show Steps p.tables e below (s₁.setTop (mkF m 13 #[.val (.int (99 : Int32))] [(.int (66 : Int32)), (.int (99 : Int32))])) _
    refine XS.icmpYes X0.here hx rfl (pc0 := 13) (pc' := 20) rfl (hb hby d_method_2_code_13) rfl (by decide) (by decide) (by decide) ?_
    show Steps p.tables e below (s₁.setTop (mkF m 20 #[.val (.int (99 : Int32))] [])) _
    refine XS.iloadN X0.here hx rfl (hb hby d_method_2_code_20) rfl ?_
    show Steps p.tables e below (s₁.setTop (mkF m 21 #[.val (.int (99 : Int32))] [(.int (99 : Int32))])) _
    refine XT.bipushV X0.here hx rfl (99 : Int32) (hb hby d_method_2_code_21) (by decide) ?_
    show Steps p.tables e below (s₁.setTop (mkF m 23 #[.val (.int (99 : Int32))] [(.int (99 : Int32)), (.int (99 : Int32))])) _
    refine XS.icmpNo X0.here hx rfl (hb hby d_method_2_code_23) rfl (by decide) ?_
    show Steps p.tables e below (s₁.setTop (mkF m 26 #[.val (.int (99 : Int32))] [])) _
    refine st1 _ ?_
    show Steps p.tables e below (T1.setTop (mkF m 29 #[.val (.int (99 : Int32))] [(.ref b2)])) _
    exact retOut X1 hx Bd.returns rfl (Or.inr (Or.inr (Or.inr (Or.inr ⟨rfl, rfl, rfl⟩)))) (hb hby d_method_2_code_29) hr
  · exact ⟨rfl, N0, e1⟩
def Q_find_3 (Z : State) (aV : Addr) (kV : ClassId) (b0 b1 b2 b3 b4 b5 b6 b7 b8 b9 : Addr) (h0 : Heap) (n0 : Nat) (v : Option Value) (h : Heap) (L : List Loc) : Prop := v = some (.ref b3) ∧ Fr n0 L ∧ Ext h0 h
set_option maxRecDepth 65536 in
set_option maxHeartbeats 40000000 in
theorem find_3 (l : Launch) (Z : State) (a0 : Array Value) (hw : ∀ d ∈ tables_1, d.before a0 Z = true) (ws : List Jvm.Cond) (aV : Addr) (kV : ClassId) (b0 b1 b2 b3 b4 b5 b6 b7 b8 b9 : Addr) (h0 : Heap) (n0 : Nat) (Z0 : n0 ≤ h0.size) (SaV : Sta Z h0 "com/example/keyward/keyward/LdapOperation" "$VALUES" "[Lcom/example/keyward/keyward/LdapOperation;" (.ref aV)) (VaV : Arv Z h0 aV kV (.object "com/example/keyward/keyward/LdapOperation") (10 : Int32) [(.ref b0), (.ref b1), (.ref b2), (.ref b3), (.ref b4), (.ref b5), (.ref b6), (.ref b7), (.ref b8), (.ref b9)] .null) (EaV : Exa Z h0 aV "[Lcom/example/keyward/keyward/LdapOperation;")(Fb0 : Fld Z h0 b0 "com/example/keyward/keyward/LdapOperation" "requestTag" "I" (.int (96 : Int32)))(Fb1 : Fld Z h0 b1 "com/example/keyward/keyward/LdapOperation" "requestTag" "I" (.int (66 : Int32)))(Fb2 : Fld Z h0 b2 "com/example/keyward/keyward/LdapOperation" "requestTag" "I" (.int (99 : Int32)))(Fb3 : Fld Z h0 b3 "com/example/keyward/keyward/LdapOperation" "requestTag" "I" (.int (102 : Int32)))(Fb4 : Fld Z h0 b4 "com/example/keyward/keyward/LdapOperation" "requestTag" "I" (.int (104 : Int32)))(Fb5 : Fld Z h0 b5 "com/example/keyward/keyward/LdapOperation" "requestTag" "I" (.int (74 : Int32)))(Fb6 : Fld Z h0 b6 "com/example/keyward/keyward/LdapOperation" "requestTag" "I" (.int (108 : Int32)))(Fb7 : Fld Z h0 b7 "com/example/keyward/keyward/LdapOperation" "requestTag" "I" (.int (110 : Int32)))(Fb8 : Fld Z h0 b8 "com/example/keyward/keyward/LdapOperation" "requestTag" "I" (.int (80 : Int32)))(Fb9 : Fld Z h0 b9 "com/example/keyward/keyward/LdapOperation" "requestTag" "I" (.int (119 : Int32))) :
    MetFree l (⟨"com/example/keyward/keyward/LdapOperation", "forRequestTag", "(I)Lcom/example/keyward/keyward/LdapOperation;"⟩ : MethodName) (head1 (Jvm.Cond.code (⟨"com/example/keyward/keyward/LdapOperation", "forRequestTag", "(I)Lcom/example/keyward/keyward/LdapOperation;"⟩ : MethodName) prog_16_method_4_code 5 (Option.some (Jvm.ClassFile.FieldType.object "com/example/keyward/keyward/LdapOperation")) :: ws) ({ frames := 2, cells := 1, slots := 10, locals := 25 } : Room)) (fun a U => a = #[(.int (102 : Int32))] ∧ Z.Warmed39 U.vm ∧ U.heap = h0) (fun _ _ _ _ _ => True) (fun _ U o U' => ∃ v L, o = .returned v ∧ Q_find_3 Z aV kV b0 b1 b2 b3 b4 b5 b6 b7 b8 b9 h0 n0 v U'.heap L ∧ FrameEnd U o U' L ({ frames := 2, cells := 1, slots := 10, locals := 25 } : Room).cells ({ frames := 2, cells := 1, slots := 10, locals := 25 } : Room).slots) := by
  refine MetFree.of_bodySF (plainFor_of_name pn_5) hisR ?_
  intro p e s m args below meth c s₁ Bd hml0 hP hK
  obtain ⟨rfl, hZ, hh⟩ := hP
  have hx := Bd.exec
  have hby := Bd.bytes
  have hml : c.maxLocals = 5 := hml0
  have hown : s.vm.findClass "com/example/keyward/keyward/LdapOperation" = some m.cls := findClass_of_methodNamed Bd.named
  have hnm := (name_of_methodNamed Bd.named Bd.method).1
  have X0 : Stand p l e ({ frames := 2, cells := 1, slots := 10, locals := 25 } : Room) s m #[(.int (102 : Int32))] below meth c s₁ [] 0 0 := Stand.of_body Bd
  have e0 : s₁.heap = h0 := by rw [← hh, Bd.state]; rfl
  have N0 := Fr.nil n0
  have pre0 : ∀ t, Steps p.tables e below (s₁.setTop (mkF m 0 #[.val (.int (102 : Int32)), .unset, .unset, .unset, .unset] [])) t → Steps p.tables e below (s₁.setTop (entryFrame m #[(.int (102 : Int32))] 5)) t := fun t k => castTop (ef_27 m (102 : Int32)) k
  obtain ⟨_, _, ⟨T1, L1, k1, n1⟩, -, X1, ⟨Lc1, hQ1, l1, y1, z1⟩, st1⟩ := Jvm.LawKit.callS X0 hx (y := (⟨"com/example/keyward/keyward/LdapOperation", "values", "()[Lcom/example/keyward/keyward/LdapOperation;"⟩ : MethodName)) hown (mvT hZ (hw _ (List.mem_of_getElem? (i := 5) rfl))) (mvT hZ (hw _ (List.mem_of_getElem? (i := 6) rfl))) (mvT hZ (hw _ (List.mem_of_getElem? (i := 3) rfl))) (mvT hZ (hw _ (List.mem_of_getElem? (i := 7) rfl))) (by decide) (backOf (W := 0) (values_0 l Z a0 hw [] aV kV b0 b1 b2 b3 b4 b5 b6 b7 b8 b9 h0 n0 Z0 SaV VaV EaV) hZ (hw _ (List.mem_of_getElem? (i := 7) rfl)) (hw _ (List.mem_of_getElem? (i := 3) rfl)) (by decide) (by decide)) (g := (mkF m 0 #[.val (.int (102 : Int32)), .unset, .unset, .unset, .unset] [])) rfl (by rw [hml]; rfl) (argsL := []) (rest := []) (lenOf pd_7 rfl) rfl (by show 2 * 0 + _ ≤ _; exact Nat.le_of_eq rfl) (hb hby d_prog_16_method_4_code_0) (fun _ _ => ⟨rfl, e0, (by decide : 0 + 1 ≤ _), (by decide : 0 + 10 ≤ _)⟩)
  dsimp only [Pt.U, Pt.locs, Pt.cells, Pt.slots] at X1 l1 y1 z1 st1 hQ1
  subst l1 y1 z1
  obtain ⟨rfl, N1q, Ex1, V1⟩ := hQ1
  have N1 := Fr.app N0 N1q
  obtain ⟨cl, Ar, -, Sz, Ng, Hs, -⟩ := V1
  have hlen : cl.slots.size.toInt32 = (10 : Int32) := len_of Sz Ng
  obtain ⟨T2, X2, e2, st2⟩ := getF X1 hx hZ hown (host := "") (Or.inl (hw _ (List.mem_of_getElem? (i := 30) rfl))) Via.refl rfl (Fb0.ext Ex1) (g := (mkF m 21 #[.val (.int (102 : Int32)), .val (.ref h0.size), .val (.int (10 : Int32)), .val (.int (0 : Int32)), .val (.ref b0)] [(.ref b0)])) rfl rfl (hb hby d_prog_16_method_4_code_21)
  obtain ⟨T3, X3, e3, st3⟩ := getF X2 hx hZ hown (host := "") (Or.inl (hw _ (List.mem_of_getElem? (i := 30) rfl))) Via.refl e2 (Fb1.ext Ex1) (g := (mkF m 21 #[.val (.int (102 : Int32)), .val (.ref h0.size), .val (.int (10 : Int32)), .val (.int (1 : Int32)), .val (.ref b1)] [(.ref b1)])) rfl rfl (hb hby d_prog_16_method_4_code_21)
  obtain ⟨T4, X4, e4, st4⟩ := getF X3 hx hZ hown (host := "") (Or.inl (hw _ (List.mem_of_getElem? (i := 30) rfl))) Via.refl e3 (Fb2.ext Ex1) (g := (mkF m 21 #[.val (.int (102 : Int32)), .val (.ref h0.size), .val (.int (10 : Int32)), .val (.int (2 : Int32)), .val (.ref b2)] [(.ref b2)])) rfl rfl (hb hby d_prog_16_method_4_code_21)
  obtain ⟨T5, X5, e5, st5⟩ := getF X4 hx hZ hown (host := "") (Or.inl (hw _ (List.mem_of_getElem? (i := 30) rfl))) Via.refl e4 (Fb3.ext Ex1) (g := (mkF m 21 #[.val (.int (102 : Int32)), .val (.ref h0.size), .val (.int (10 : Int32)), .val (.int (3 : Int32)), .val (.ref b3)] [(.ref b3)])) rfl rfl (hb hby d_prog_16_method_4_code_21)
  obtain ⟨fs, hr, hrun, hended, hW, hsame⟩ := X5.leave (v := some (.ref b3)) (fun h => by rw [Bd.returns] at h; cases h)
  refine ⟨_, _, pre0 _ ?_, hrun, hended, _, _, rfl, ?_, ⟨_, rfl⟩, hW, hsame.mono (by decide) (by decide)⟩
  · show Steps p.tables e below (s₁.setTop (mkF m 0 #[.val (.int (102 : Int32)), .unset, .unset, .unset, .unset] [])) _
    refine st1 _ ?_
    show Steps p.tables e below (T1.setTop (mkF m 3 #[.val (.int (102 : Int32)), .unset, .unset, .unset, .unset] [(.ref h0.size)])) _
    refine XS.astoreN X1.here hx rfl (hb hby d_prog_16_method_4_code_3) rfl rfl (l' := #[.val (.int (102 : Int32)), .val (.ref h0.size), .unset, .unset, .unset]) rfl ?_
    show Steps p.tables e below (T1.setTop (mkF m 4 #[.val (.int (102 : Int32)), .val (.ref h0.size), .unset, .unset, .unset] [])) _
    refine XS.aloadN X1.here hx rfl (hb hby d_prog_16_method_4_code_4) rfl rfl ?_
    show Steps p.tables e below (T1.setTop (mkF m 5 #[.val (.int (102 : Int32)), .val (.ref h0.size), .unset, .unset, .unset] [(.ref h0.size)])) _
    refine X1.arraylength hx (by first | exact Ar.1 | (rw [rfl]; exact Ar.1)) (State.isArrayOf_alike hZ.alike Ar.2.1) (g := (mkF m 5 #[.val (.int (102 : Int32)), .val (.ref h0.size), .unset, .unset, .unset] [(.ref h0.size)])) rfl rfl (hb hby d_prog_16_method_4_code_5) _ ?_
    show Steps p.tables e below (T1.setTop (mkF m 6 #[.val (.int (102 : Int32)), .val (.ref h0.size), .unset, .unset, .unset] [(.int cl.slots.size.toInt32)])) _
    rw [hlen]
    show Steps p.tables e below (T1.setTop (mkF m 6 #[.val (.int (102 : Int32)), .val (.ref h0.size), .unset, .unset, .unset] [(.int (10 : Int32))])) _
    refine XS.istoreN X1.here hx rfl (hb hby d_prog_16_method_4_code_6) rfl (l' := #[.val (.int (102 : Int32)), .val (.ref h0.size), .val (.int (10 : Int32)), .unset, .unset]) rfl ?_
    show Steps p.tables e below (T1.setTop (mkF m 7 #[.val (.int (102 : Int32)), .val (.ref h0.size), .val (.int (10 : Int32)), .unset, .unset] [])) _
    refine XT.iconstV X1.here hx rfl (0 : Int32) (hb hby d_prog_16_method_4_code_7) (by decide) ?_
    show Steps p.tables e below (T1.setTop (mkF m 8 #[.val (.int (102 : Int32)), .val (.ref h0.size), .val (.int (10 : Int32)), .unset, .unset] [(.int (0 : Int32))])) _
    refine XS.istoreN X1.here hx rfl (hb hby d_prog_16_method_4_code_8) rfl (l' := #[.val (.int (102 : Int32)), .val (.ref h0.size), .val (.int (10 : Int32)), .val (.int (0 : Int32)), .unset]) rfl ?_
    show Steps p.tables e below (T1.setTop (mkF m 9 #[.val (.int (102 : Int32)), .val (.ref h0.size), .val (.int (10 : Int32)), .val (.int (0 : Int32)), .unset] [])) _
    refine XS.iloadN X1.here hx rfl (hb hby d_prog_16_method_4_code_9) rfl ?_
    show Steps p.tables e below (T1.setTop (mkF m 10 #[.val (.int (102 : Int32)), .val (.ref h0.size), .val (.int (10 : Int32)), .val (.int (0 : Int32)), .unset] [(.int (0 : Int32))])) _
    refine XS.iloadN X1.here hx rfl (hb hby d_prog_16_method_4_code_10) rfl ?_
    show Steps p.tables e below (T1.setTop (mkF m 11 #[.val (.int (102 : Int32)), .val (.ref h0.size), .val (.int (10 : Int32)), .val (.int (0 : Int32)), .unset] [(.int (10 : Int32)), (.int (0 : Int32))])) _
    refine XS.icmpNo X1.here hx rfl (hb hby d_prog_16_method_4_code_11) rfl (by decide) ?_
    show Steps p.tables e below (T1.setTop (mkF m 14 #[.val (.int (102 : Int32)), .val (.ref h0.size), .val (.int (10 : Int32)), .val (.int (0 : Int32)), .unset] [])) _
    refine XS.aloadN X1.here hx rfl (hb hby d_prog_16_method_4_code_14) rfl rfl ?_
    show Steps p.tables e below (T1.setTop (mkF m 15 #[.val (.int (102 : Int32)), .val (.ref h0.size), .val (.int (10 : Int32)), .val (.int (0 : Int32)), .unset] [(.ref h0.size)])) _
    refine XS.iloadN X1.here hx rfl (hb hby d_prog_16_method_4_code_15) rfl ?_
    show Steps p.tables e below (T1.setTop (mkF m 16 #[.val (.int (102 : Int32)), .val (.ref h0.size), .val (.int (10 : Int32)), .val (.int (0 : Int32)), .unset] [(.int (0 : Int32)), (.ref h0.size)])) _
    refine X1.aaload hx (j := (0 : Int32)) (v := (.ref b0)) (by first | exact Ar.1 | (rw [rfl]; exact Ar.1)) (State.isArrayOf_alike hZ.alike Ar.2.1) rfl Ar.2.2 (inb_of Sz ⟨by decide, by decide⟩) (Hs.at (inb_of Sz ⟨by decide, by decide⟩) rfl) (g := (mkF m 16 #[.val (.int (102 : Int32)), .val (.ref h0.size), .val (.int (10 : Int32)), .val (.int (0 : Int32)), .unset] [(.int (0 : Int32)), (.ref h0.size)])) rfl rfl (hb hby d_prog_16_method_4_code_16) _ ?_
    show Steps p.tables e below (T1.setTop (mkF m 17 #[.val (.int (102 : Int32)), .val (.ref h0.size), .val (.int (10 : Int32)), .val (.int (0 : Int32)), .unset] [(.ref b0)])) _
    refine XS.astore X1.here hx rfl (hb hby d_prog_16_method_4_code_17) rfl rfl (l' := #[.val (.int (102 : Int32)), .val (.ref h0.size), .val (.int (10 : Int32)), .val (.int (0 : Int32)), .val (.ref b0)]) rfl ?_
    show Steps p.tables e below (T1.setTop (mkF m 19 #[.val (.int (102 : Int32)), .val (.ref h0.size), .val (.int (10 : Int32)), .val (.int (0 : Int32)), .val (.ref b0)] [])) _
    refine XS.aload X1.here hx rfl (hb hby d_prog_16_method_4_code_19) rfl rfl ?_
    show Steps p.tables e below (T1.setTop (mkF m 21 #[.val (.int (102 : Int32)), .val (.ref h0.size), .val (.int (10 : Int32)), .val (.int (0 : Int32)), .val (.ref b0)] [(.ref b0)])) _
    refine st2 _ ?_
    show Steps p.tables e below (T2.setTop (mkF m 24 #[.val (.int (102 : Int32)), .val (.ref h0.size), .val (.int (10 : Int32)), .val (.int (0 : Int32)), .val (.ref b0)] [(.int (96 : Int32))])) _
    refine XS.iloadN X2.here hx rfl (hb hby d_prog_16_method_4_code_24) rfl ?_
    show Steps p.tables e below (T2.setTop (mkF m 25 #[.val (.int (102 : Int32)), .val (.ref h0.size), .val (.int (10 : Int32)), .val (.int (0 : Int32)), .val (.ref b0)] [(.int (102 : Int32)), (.int (96 : Int32))])) _
    refine XS.icmpYes X2.here hx rfl (pc0 := 25) (pc' := 31) rfl (hb hby d_prog_16_method_4_code_25) rfl (by decide) (by decide) (by decide) ?_
    show Steps p.tables e below (T2.setTop (mkF m 31 #[.val (.int (102 : Int32)), .val (.ref h0.size), .val (.int (10 : Int32)), .val (.int (0 : Int32)), .val (.ref b0)] [])) _
    refine XT.iincV X2.here hx rfl (1 : Int32) (hb hby d_prog_16_method_4_code_31) (by decide) rfl (l' := #[.val (.int (102 : Int32)), .val (.ref h0.size), .val (.int (10 : Int32)), .val (.int (1 : Int32)), .val (.ref b0)]) rfl ?_
    show Steps p.tables e below (T2.setTop (mkF m 34 #[.val (.int (102 : Int32)), .val (.ref h0.size), .val (.int (10 : Int32)), .val (.int (1 : Int32)), .val (.ref b0)] [])) _
    refine XS.goto X2.here hx rfl (pc0 := 34) (pc' := 9) rfl (hb hby d_prog_16_method_4_code_34) (by decide) (by decide) ?_
    show Steps p.tables e below (T2.setTop (mkF m 9 #[.val (.int (102 : Int32)), .val (.ref h0.size), .val (.int (10 : Int32)), .val (.int (1 : Int32)), .val (.ref b0)] [])) _
    refine XS.iloadN X2.here hx rfl (hb hby d_prog_16_method_4_code_9) rfl ?_
    show Steps p.tables e below (T2.setTop (mkF m 10 #[.val (.int (102 : Int32)), .val (.ref h0.size), .val (.int (10 : Int32)), .val (.int (1 : Int32)), .val (.ref b0)] [(.int (1 : Int32))])) _
    refine XS.iloadN X2.here hx rfl (hb hby d_prog_16_method_4_code_10) rfl ?_
    show Steps p.tables e below (T2.setTop (mkF m 11 #[.val (.int (102 : Int32)), .val (.ref h0.size), .val (.int (10 : Int32)), .val (.int (1 : Int32)), .val (.ref b0)] [(.int (10 : Int32)), (.int (1 : Int32))])) _
    refine XS.icmpNo X2.here hx rfl (hb hby d_prog_16_method_4_code_11) rfl (by decide) ?_
    show Steps p.tables e below (T2.setTop (mkF m 14 #[.val (.int (102 : Int32)), .val (.ref h0.size), .val (.int (10 : Int32)), .val (.int (1 : Int32)), .val (.ref b0)] [])) _
    refine XS.aloadN X2.here hx rfl (hb hby d_prog_16_method_4_code_14) rfl rfl ?_
    show Steps p.tables e below (T2.setTop (mkF m 15 #[.val (.int (102 : Int32)), .val (.ref h0.size), .val (.int (10 : Int32)), .val (.int (1 : Int32)), .val (.ref b0)] [(.ref h0.size)])) _
    refine XS.iloadN X2.here hx rfl (hb hby d_prog_16_method_4_code_15) rfl ?_
    show Steps p.tables e below (T2.setTop (mkF m 16 #[.val (.int (102 : Int32)), .val (.ref h0.size), .val (.int (10 : Int32)), .val (.int (1 : Int32)), .val (.ref b0)] [(.int (1 : Int32)), (.ref h0.size)])) _
    refine X2.aaload hx (j := (1 : Int32)) (v := (.ref b1)) (by first | exact Ar.1 | (rw [e2]; exact Ar.1)) (State.isArrayOf_alike hZ.alike Ar.2.1) rfl Ar.2.2 (inb_of Sz ⟨by decide, by decide⟩) (Hs.at (inb_of Sz ⟨by decide, by decide⟩) rfl) (g := (mkF m 16 #[.val (.int (102 : Int32)), .val (.ref h0.size), .val (.int (10 : Int32)), .val (.int (1 : Int32)), .val (.ref b0)] [(.int (1 : Int32)), (.ref h0.size)])) rfl rfl (hb hby d_prog_16_method_4_code_16) _ ?_
    show Steps p.tables e below (T2.setTop (mkF m 17 #[.val (.int (102 : Int32)), .val (.ref h0.size), .val (.int (10 : Int32)), .val (.int (1 : Int32)), .val (.ref b0)] [(.ref b1)])) _
    refine XS.astore X2.here hx rfl (hb hby d_prog_16_method_4_code_17) rfl rfl (l' := #[.val (.int (102 : Int32)), .val (.ref h0.size), .val (.int (10 : Int32)), .val (.int (1 : Int32)), .val (.ref b1)]) rfl ?_
    show Steps p.tables e below (T2.setTop (mkF m 19 #[.val (.int (102 : Int32)), .val (.ref h0.size), .val (.int (10 : Int32)), .val (.int (1 : Int32)), .val (.ref b1)] [])) _
    refine XS.aload X2.here hx rfl (hb hby d_prog_16_method_4_code_19) rfl rfl ?_
    show Steps p.tables e below (T2.setTop (mkF m 21 #[.val (.int (102 : Int32)), .val (.ref h0.size), .val (.int (10 : Int32)), .val (.int (1 : Int32)), .val (.ref b1)] [(.ref b1)])) _
    refine st3 _ ?_
    show Steps p.tables e below (T3.setTop (mkF m 24 #[.val (.int (102 : Int32)), .val (.ref h0.size), .val (.int (10 : Int32)), .val (.int (1 : Int32)), .val (.ref b1)] [(.int (66 : Int32))])) _
    refine XS.iloadN X3.here hx rfl (hb hby d_prog_16_method_4_code_24) rfl ?_
    show Steps p.tables e below (T3.setTop (mkF m 25 #[.val (.int (102 : Int32)), .val (.ref h0.size), .val (.int (10 : Int32)), .val (.int (1 : Int32)), .val (.ref b1)] [(.int (102 : Int32)), (.int (66 : Int32))])) _
    refine XS.icmpYes X3.here hx rfl (pc0 := 25) (pc' := 31) rfl (hb hby d_prog_16_method_4_code_25) rfl (by decide) (by decide) (by decide) ?_
    show Steps p.tables e below (T3.setTop (mkF m 31 #[.val (.int (102 : Int32)), .val (.ref h0.size), .val (.int (10 : Int32)), .val (.int (1 : Int32)), .val (.ref b1)] [])) _
    refine XT.iincV X3.here hx rfl (1 : Int32) (hb hby d_prog_16_method_4_code_31) (by decide) rfl (l' := #[.val (.int (102 : Int32)), .val (.ref h0.size), .val (.int (10 : Int32)), .val (.int (2 : Int32)), .val (.ref b1)]) rfl ?_
    show Steps p.tables e below (T3.setTop (mkF m 34 #[.val (.int (102 : Int32)), .val (.ref h0.size), .val (.int (10 : Int32)), .val (.int (2 : Int32)), .val (.ref b1)] [])) _
    refine XS.goto X3.here hx rfl (pc0 := 34) (pc' := 9) rfl (hb hby d_prog_16_method_4_code_34) (by decide) (by decide) ?_
    show Steps p.tables e below (T3.setTop (mkF m 9 #[.val (.int (102 : Int32)), .val (.ref h0.size), .val (.int (10 : Int32)), .val (.int (2 : Int32)), .val (.ref b1)] [])) _
    refine XS.iloadN X3.here hx rfl (hb hby d_prog_16_method_4_code_9) rfl ?_
    show Steps p.tables e below (T3.setTop (mkF m 10 #[.val (.int (102 : Int32)), .val (.ref h0.size), .val (.int (10 : Int32)), .val (.int (2 : Int32)), .val (.ref b1)] [(.int (2 : Int32))])) _
    refine XS.iloadN X3.here hx rfl (hb hby d_prog_16_method_4_code_10) rfl ?_
    show Steps p.tables e below (T3.setTop (mkF m 11 #[.val (.int (102 : Int32)), .val (.ref h0.size), .val (.int (10 : Int32)), .val (.int (2 : Int32)), .val (.ref b1)] [(.int (10 : Int32)), (.int (2 : Int32))])) _
    refine XS.icmpNo X3.here hx rfl (hb hby d_prog_16_method_4_code_11) rfl (by decide) ?_
    show Steps p.tables e below (T3.setTop (mkF m 14 #[.val (.int (102 : Int32)), .val (.ref h0.size), .val (.int (10 : Int32)), .val (.int (2 : Int32)), .val (.ref b1)] [])) _
    refine XS.aloadN X3.here hx rfl (hb hby d_prog_16_method_4_code_14) rfl rfl ?_
    show Steps p.tables e below (T3.setTop (mkF m 15 #[.val (.int (102 : Int32)), .val (.ref h0.size), .val (.int (10 : Int32)), .val (.int (2 : Int32)), .val (.ref b1)] [(.ref h0.size)])) _
    refine XS.iloadN X3.here hx rfl (hb hby d_prog_16_method_4_code_15) rfl ?_
    show Steps p.tables e below (T3.setTop (mkF m 16 #[.val (.int (102 : Int32)), .val (.ref h0.size), .val (.int (10 : Int32)), .val (.int (2 : Int32)), .val (.ref b1)] [(.int (2 : Int32)), (.ref h0.size)])) _
    refine X3.aaload hx (j := (2 : Int32)) (v := (.ref b2)) (by first | exact Ar.1 | (rw [e3]; exact Ar.1)) (State.isArrayOf_alike hZ.alike Ar.2.1) rfl Ar.2.2 (inb_of Sz ⟨by decide, by decide⟩) (Hs.at (inb_of Sz ⟨by decide, by decide⟩) rfl) (g := (mkF m 16 #[.val (.int (102 : Int32)), .val (.ref h0.size), .val (.int (10 : Int32)), .val (.int (2 : Int32)), .val (.ref b1)] [(.int (2 : Int32)), (.ref h0.size)])) rfl rfl (hb hby d_prog_16_method_4_code_16) _ ?_
    show Steps p.tables e below (T3.setTop (mkF m 17 #[.val (.int (102 : Int32)), .val (.ref h0.size), .val (.int (10 : Int32)), .val (.int (2 : Int32)), .val (.ref b1)] [(.ref b2)])) _
    refine XS.astore X3.here hx rfl (hb hby d_prog_16_method_4_code_17) rfl rfl (l' := #[.val (.int (102 : Int32)), .val (.ref h0.size), .val (.int (10 : Int32)), .val (.int (2 : Int32)), .val (.ref b2)]) rfl ?_
    show Steps p.tables e below (T3.setTop (mkF m 19 #[.val (.int (102 : Int32)), .val (.ref h0.size), .val (.int (10 : Int32)), .val (.int (2 : Int32)), .val (.ref b2)] [])) _
    refine XS.aload X3.here hx rfl (hb hby d_prog_16_method_4_code_19) rfl rfl ?_
    show Steps p.tables e below (T3.setTop (mkF m 21 #[.val (.int (102 : Int32)), .val (.ref h0.size), .val (.int (10 : Int32)), .val (.int (2 : Int32)), .val (.ref b2)] [(.ref b2)])) _
    refine st4 _ ?_
    show Steps p.tables e below (T4.setTop (mkF m 24 #[.val (.int (102 : Int32)), .val (.ref h0.size), .val (.int (10 : Int32)), .val (.int (2 : Int32)), .val (.ref b2)] [(.int (99 : Int32))])) _
    refine XS.iloadN X4.here hx rfl (hb hby d_prog_16_method_4_code_24) rfl ?_
    show Steps p.tables e below (T4.setTop (mkF m 25 #[.val (.int (102 : Int32)), .val (.ref h0.size), .val (.int (10 : Int32)), .val (.int (2 : Int32)), .val (.ref b2)] [(.int (102 : Int32)), (.int (99 : Int32))])) _
    refine XS.icmpYes X4.here hx rfl (pc0 := 25) (pc' := 31) rfl (hb hby d_prog_16_method_4_code_25) rfl (by decide) (by decide) (by decide) ?_
    show Steps p.tables e below (T4.setTop (mkF m 31 #[.val (.int (102 : Int32)), .val (.ref h0.size), .val (.int (10 : Int32)), .val (.int (2 : Int32)), .val (.ref b2)] [])) _
    refine XT.iincV X4.here hx rfl (1 : Int32) (hb hby d_prog_16_method_4_code_31) (by decide) rfl (l' := #[.val (.int (102 : Int32)), .val (.ref h0.size), .val (.int (10 : Int32)), .val (.int (3 : Int32)), .val (.ref b2)]) rfl ?_
    show Steps p.tables e below (T4.setTop (mkF m 34 #[.val (.int (102 : Int32)), .val (.ref h0.size), .val (.int (10 : Int32)), .val (.int (3 : Int32)), .val (.ref b2)] [])) _
    refine XS.goto X4.here hx rfl (pc0 := 34) (pc' := 9) rfl (hb hby d_prog_16_method_4_code_34) (by decide) (by decide) ?_
    show Steps p.tables e below (T4.setTop (mkF m 9 #[.val (.int (102 : Int32)), .val (.ref h0.size), .val (.int (10 : Int32)), .val (.int (3 : Int32)), .val (.ref b2)] [])) _
    refine XS.iloadN X4.here hx rfl (hb hby d_prog_16_method_4_code_9) rfl ?_
    show Steps p.tables e below (T4.setTop (mkF m 10 #[.val (.int (102 : Int32)), .val (.ref h0.size), .val (.int (10 : Int32)), .val (.int (3 : Int32)), .val (.ref b2)] [(.int (3 : Int32))])) _
    refine XS.iloadN X4.here hx rfl (hb hby d_prog_16_method_4_code_10) rfl ?_
    show Steps p.tables e below (T4.setTop (mkF m 11 #[.val (.int (102 : Int32)), .val (.ref h0.size), .val (.int (10 : Int32)), .val (.int (3 : Int32)), .val (.ref b2)] [(.int (10 : Int32)), (.int (3 : Int32))])) _
    refine XS.icmpNo X4.here hx rfl (hb hby d_prog_16_method_4_code_11) rfl (by decide) ?_
    show Steps p.tables e below (T4.setTop (mkF m 14 #[.val (.int (102 : Int32)), .val (.ref h0.size), .val (.int (10 : Int32)), .val (.int (3 : Int32)), .val (.ref b2)] [])) _
    refine XS.aloadN X4.here hx rfl (hb hby d_prog_16_method_4_code_14) rfl rfl ?_
    show Steps p.tables e below (T4.setTop (mkF m 15 #[.val (.int (102 : Int32)), .val (.ref h0.size), .val (.int (10 : Int32)), .val (.int (3 : Int32)), .val (.ref b2)] [(.ref h0.size)])) _
    refine XS.iloadN X4.here hx rfl (hb hby d_prog_16_method_4_code_15) rfl ?_
    show Steps p.tables e below (T4.setTop (mkF m 16 #[.val (.int (102 : Int32)), .val (.ref h0.size), .val (.int (10 : Int32)), .val (.int (3 : Int32)), .val (.ref b2)] [(.int (3 : Int32)), (.ref h0.size)])) _
    refine X4.aaload hx (j := (3 : Int32)) (v := (.ref b3)) (by first | exact Ar.1 | (rw [e4]; exact Ar.1)) (State.isArrayOf_alike hZ.alike Ar.2.1) rfl Ar.2.2 (inb_of Sz ⟨by decide, by decide⟩) (Hs.at (inb_of Sz ⟨by decide, by decide⟩) rfl) (g := (mkF m 16 #[.val (.int (102 : Int32)), .val (.ref h0.size), .val (.int (10 : Int32)), .val (.int (3 : Int32)), .val (.ref b2)] [(.int (3 : Int32)), (.ref h0.size)])) rfl rfl (hb hby d_prog_16_method_4_code_16) _ ?_
    show Steps p.tables e below (T4.setTop (mkF m 17 #[.val (.int (102 : Int32)), .val (.ref h0.size), .val (.int (10 : Int32)), .val (.int (3 : Int32)), .val (.ref b2)] [(.ref b3)])) _
    refine XS.astore X4.here hx rfl (hb hby d_prog_16_method_4_code_17) rfl rfl (l' := #[.val (.int (102 : Int32)), .val (.ref h0.size), .val (.int (10 : Int32)), .val (.int (3 : Int32)), .val (.ref b3)]) rfl ?_
    show Steps p.tables e below (T4.setTop (mkF m 19 #[.val (.int (102 : Int32)), .val (.ref h0.size), .val (.int (10 : Int32)), .val (.int (3 : Int32)), .val (.ref b3)] [])) _
    refine XS.aload X4.here hx rfl (hb hby d_prog_16_method_4_code_19) rfl rfl ?_
    show Steps p.tables e below (T4.setTop (mkF m 21 #[.val (.int (102 : Int32)), .val (.ref h0.size), .val (.int (10 : Int32)), .val (.int (3 : Int32)), .val (.ref b3)] [(.ref b3)])) _
    refine st5 _ ?_
    show Steps p.tables e below (T5.setTop (mkF m 24 #[.val (.int (102 : Int32)), .val (.ref h0.size), .val (.int (10 : Int32)), .val (.int (3 : Int32)), .val (.ref b3)] [(.int (102 : Int32))])) _
    refine XS.iloadN X5.here hx rfl (hb hby d_prog_16_method_4_code_24) rfl ?_
    show Steps p.tables e below (T5.setTop (mkF m 25 #[.val (.int (102 : Int32)), .val (.ref h0.size), .val (.int (10 : Int32)), .val (.int (3 : Int32)), .val (.ref b3)] [(.int (102 : Int32)), (.int (102 : Int32))])) _
    refine XS.icmpNo X5.here hx rfl (hb hby d_prog_16_method_4_code_25) rfl (by decide) ?_
    show Steps p.tables e below (T5.setTop (mkF m 28 #[.val (.int (102 : Int32)), .val (.ref h0.size), .val (.int (10 : Int32)), .val (.int (3 : Int32)), .val (.ref b3)] [])) _
    refine XS.aload X5.here hx rfl (hb hby d_prog_16_method_4_code_28) rfl rfl ?_
    show Steps p.tables e below (T5.setTop (mkF m 30 #[.val (.int (102 : Int32)), .val (.ref h0.size), .val (.int (10 : Int32)), .val (.int (3 : Int32)), .val (.ref b3)] [(.ref b3)])) _
    exact retOut X5 hx Bd.returns rfl (Or.inr (Or.inr (Or.inr (Or.inr ⟨rfl, rfl, rfl⟩)))) (hb hby d_prog_16_method_4_code_30) hr
  · exact ⟨rfl, N1, by show Ext h0 T5.heap; rw [e5]; exact Ex1⟩
theorem d_method_2_code_30 : decode method_2_code 30 = .ok (.iload_n 0, 1) := by decide +kernel
theorem d_method_2_code_31 : decode method_2_code 31 = .ok (.bipush 102, 2) := by decide +kernel
theorem d_method_2_code_33 : decode method_2_code 33 = .ok (.if_icmp .ne 7, 3) := by decide +kernel
theorem d_method_2_code_36 : decode method_2_code 36 = .ok (.getstatic 19, 3) := by decide +kernel
theorem d_method_2_code_39 : decode method_2_code 39 = .ok (.areturn, 1) := by decide +kernel
def Q_exp_3 (Z : State) (b3 : Addr) (h0 : Heap) (n0 : Nat) (v : Option Value) (h : Heap) (L : List Loc) : Prop := v = some (.ref b3) ∧ Fr n0 L ∧ h = h0
set_option maxRecDepth 65536 in
set_option maxHeartbeats 40000000 in
theorem exp_3 (l : Launch) (Z : State) (a0 : Array Value) (hw : ∀ d ∈ tables_1, d.before a0 Z = true) (ws : List Jvm.Cond) (b3 : Addr) (h0 : Heap) (n0 : Nat) (Z0 : n0 ≤ h0.size) (Sb3 : Sta Z h0 "com/example/keyward/keyward/LdapOperation" "MODIFY" "Lcom/example/keyward/keyward/LdapOperation;" (.ref b3)) :
    MetFree l (⟨"com/example/keyward/keyward/LdapOperationForRequestTagPinLaw", "expected", "(I)Lcom/example/keyward/keyward/LdapOperation;"⟩ : MethodName) (head1 (Jvm.Cond.code (⟨"com/example/keyward/keyward/LdapOperationForRequestTagPinLaw", "expected", "(I)Lcom/example/keyward/keyward/LdapOperation;"⟩ : MethodName) method_2_code 1 (Option.some (Jvm.ClassFile.FieldType.object "com/example/keyward/keyward/LdapOperation")) :: ws) ({ frames := 0, cells := 0, slots := 0, locals := 0 } : Room)) (fun a U => a = #[(.int (102 : Int32))] ∧ Z.Warmed39 U.vm ∧ U.heap = h0) (fun _ _ _ _ _ => True) (fun _ U o U' => ∃ v L, o = .returned v ∧ Q_exp_3 Z b3 h0 n0 v U'.heap L ∧ FrameEnd U o U' L ({ frames := 0, cells := 0, slots := 0, locals := 0 } : Room).cells ({ frames := 0, cells := 0, slots := 0, locals := 0 } : Room).slots) := by
  refine MetFree.of_bodySF (plainFor_of_name pn_34) hisR ?_
  intro p e s m args below meth c s₁ Bd hml0 hP hK
  obtain ⟨rfl, hZ, hh⟩ := hP
  have hx := Bd.exec
  have hby := Bd.bytes
  have hml : c.maxLocals = 1 := hml0
  have hown : s.vm.findClass "com/example/keyward/keyward/LdapOperationForRequestTagPinLaw" = some m.cls := findClass_of_methodNamed Bd.named
  have hnm := (name_of_methodNamed Bd.named Bd.method).1
  have X0 : Stand p l e ({ frames := 0, cells := 0, slots := 0, locals := 0 } : Room) s m #[(.int (102 : Int32))] below meth c s₁ [] 0 0 := Stand.of_body Bd
  have e0 : s₁.heap = h0 := by rw [← hh, Bd.state]; rfl
  have N0 := Fr.nil n0
  have pre0 : ∀ t, Steps p.tables e below (s₁.setTop (mkF m 0 #[.val (.int (102 : Int32))] [])) t → Steps p.tables e below (s₁.setTop (entryFrame m #[(.int (102 : Int32))] 1)) t := fun t k => castTop (ef_33 m (102 : Int32)) k
  obtain ⟨T1, X1, e1, st1⟩ := getS X0 hx hZ (host := "") hown (hw _ (List.mem_of_getElem? (i := 36) rfl)) Via.refl e0 Sb3 (g := (mkF m 36 #[.val (.int (102 : Int32))] [])) rfl (hb hby d_method_2_code_36)
  obtain ⟨fs, hr, hrun, hended, hW, hsame⟩ := X1.leave (v := some (.ref b3)) (fun h => by rw [Bd.returns] at h; cases h)
  refine ⟨_, _, pre0 _ ?_, hrun, hended, _, _, rfl, ?_, ⟨_, rfl⟩, hW, hsame.mono (by decide) (by decide)⟩
  · show Steps p.tables e below (s₁.setTop (mkF m 0 #[.val (.int (102 : Int32))] [])) _
    refine XS.iloadN X0.here hx rfl (hb hby d_method_2_code_0) rfl ?_
    show Steps p.tables e below (s₁.setTop (mkF m 1 #[.val (.int (102 : Int32))] [(.int (102 : Int32))])) _
    refine XT.bipushV X0.here hx rfl (96 : Int32) (hb hby d_method_2_code_1) (by decide) ?_
    show Steps p.tables e below (s₁.setTop (mkF m 3 #[.val (.int (102 : Int32))] [(.int (96 : Int32)), (.int (102 : Int32))])) _
    refine XS.icmpYes X0.here hx rfl (pc0 := 3) (pc' := 10) rfl (hb hby d_method_2_code_3) rfl (by decide) (by decide) (by decide) ?_
    show Steps p.tables e below (s₁.setTop (mkF m 10 #[.val (.int (102 : Int32))] [])) _
    refine XS.iloadN X0.here hx rfl (hb hby d_method_2_code_10) rfl ?_
    show Steps p.tables e below (s₁.setTop (mkF m 11 #[.val (.int (102 : Int32))] [(.int (102 : Int32))])) _
    refine XT.bipushV X0.here hx rfl (66 : Int32) (hb hby d_method_2_code_11) (by decide) ?_
    show Steps p.tables e below (s₁.setTop (mkF m 13 #[.val (.int (102 : Int32))] [(.int (66 : Int32)), (.int (102 : Int32))])) _
    refine XS.icmpYes X0.here hx rfl (pc0 := 13) (pc' := 20) rfl (hb hby d_method_2_code_13) rfl (by decide) (by decide) (by decide) ?_
    show Steps p.tables e below (s₁.setTop (mkF m 20 #[.val (.int (102 : Int32))] [])) _
    refine XS.iloadN X0.here hx rfl (hb hby d_method_2_code_20) rfl ?_
    show Steps p.tables e below (s₁.setTop (mkF m 21 #[.val (.int (102 : Int32))] [(.int (102 : Int32))])) _
    refine XT.bipushV X0.here hx rfl (99 : Int32) (hb hby d_method_2_code_21) (by decide) ?_
    show Steps p.tables e below (s₁.setTop (mkF m 23 #[.val (.int (102 : Int32))] [(.int (99 : Int32)), (.int (102 : Int32))])) _
    refine XS.icmpYes X0.here hx rfl (pc0 := 23) (pc' := 30) rfl (hb hby d_method_2_code_23) rfl (by decide) (by decide) (by decide) ?_
    show Steps p.tables e below (s₁.setTop (mkF m 30 #[.val (.int (102 : Int32))] [])) _
    refine XS.iloadN X0.here hx rfl (hb hby d_method_2_code_30) rfl ?_
    show Steps p.tables e below (s₁.setTop (mkF m 31 #[.val (.int (102 : Int32))] [(.int (102 : Int32))])) _
    refine XT.bipushV X0.here hx rfl (102 : Int32) (hb hby d_method_2_code_31) (by decide) ?_
    show Steps p.tables e below (s₁.setTop (mkF m 33 #[.val (.int (102 : Int32))] [(.int (102 : Int32)), (.int (102 : Int32))])) _
    refine XS.icmpNo X0.here hx rfl (hb hby d_method_2_code_33) rfl (by decide) ?_
    show Steps p.tables e below (s₁.setTop (mkF m 36 #[.val (.int (102 : Int32))] [])) _
    refine st1 _ ?_
    show Steps p.tables e below (T1.setTop (mkF m 39 #[.val (.int (102 : Int32))] [(.ref b3)])) _
    exact retOut X1 hx Bd.returns rfl (Or.inr (Or.inr (Or.inr (Or.inr ⟨rfl, rfl, rfl⟩)))) (hb hby d_method_2_code_39) hr
  · exact ⟨rfl, N0, e1⟩
def Q_find_4 (Z : State) (aV : Addr) (kV : ClassId) (b0 b1 b2 b3 b4 b5 b6 b7 b8 b9 : Addr) (h0 : Heap) (n0 : Nat) (v : Option Value) (h : Heap) (L : List Loc) : Prop := v = some (.ref b4) ∧ Fr n0 L ∧ Ext h0 h
set_option maxRecDepth 65536 in
set_option maxHeartbeats 40000000 in
theorem find_4 (l : Launch) (Z : State) (a0 : Array Value) (hw : ∀ d ∈ tables_1, d.before a0 Z = true) (ws : List Jvm.Cond) (aV : Addr) (kV : ClassId) (b0 b1 b2 b3 b4 b5 b6 b7 b8 b9 : Addr) (h0 : Heap) (n0 : Nat) (Z0 : n0 ≤ h0.size) (SaV : Sta Z h0 "com/example/keyward/keyward/LdapOperation" "$VALUES" "[Lcom/example/keyward/keyward/LdapOperation;" (.ref aV)) (VaV : Arv Z h0 aV kV (.object "com/example/keyward/keyward/LdapOperation") (10 : Int32) [(.ref b0), (.ref b1), (.ref b2), (.ref b3), (.ref b4), (.ref b5), (.ref b6), (.ref b7), (.ref b8), (.ref b9)] .null) (EaV : Exa Z h0 aV "[Lcom/example/keyward/keyward/LdapOperation;")(Fb0 : Fld Z h0 b0 "com/example/keyward/keyward/LdapOperation" "requestTag" "I" (.int (96 : Int32)))(Fb1 : Fld Z h0 b1 "com/example/keyward/keyward/LdapOperation" "requestTag" "I" (.int (66 : Int32)))(Fb2 : Fld Z h0 b2 "com/example/keyward/keyward/LdapOperation" "requestTag" "I" (.int (99 : Int32)))(Fb3 : Fld Z h0 b3 "com/example/keyward/keyward/LdapOperation" "requestTag" "I" (.int (102 : Int32)))(Fb4 : Fld Z h0 b4 "com/example/keyward/keyward/LdapOperation" "requestTag" "I" (.int (104 : Int32)))(Fb5 : Fld Z h0 b5 "com/example/keyward/keyward/LdapOperation" "requestTag" "I" (.int (74 : Int32)))(Fb6 : Fld Z h0 b6 "com/example/keyward/keyward/LdapOperation" "requestTag" "I" (.int (108 : Int32)))(Fb7 : Fld Z h0 b7 "com/example/keyward/keyward/LdapOperation" "requestTag" "I" (.int (110 : Int32)))(Fb8 : Fld Z h0 b8 "com/example/keyward/keyward/LdapOperation" "requestTag" "I" (.int (80 : Int32)))(Fb9 : Fld Z h0 b9 "com/example/keyward/keyward/LdapOperation" "requestTag" "I" (.int (119 : Int32))) :
    MetFree l (⟨"com/example/keyward/keyward/LdapOperation", "forRequestTag", "(I)Lcom/example/keyward/keyward/LdapOperation;"⟩ : MethodName) (head1 (Jvm.Cond.code (⟨"com/example/keyward/keyward/LdapOperation", "forRequestTag", "(I)Lcom/example/keyward/keyward/LdapOperation;"⟩ : MethodName) prog_16_method_4_code 5 (Option.some (Jvm.ClassFile.FieldType.object "com/example/keyward/keyward/LdapOperation")) :: ws) ({ frames := 2, cells := 1, slots := 10, locals := 25 } : Room)) (fun a U => a = #[(.int (104 : Int32))] ∧ Z.Warmed39 U.vm ∧ U.heap = h0) (fun _ _ _ _ _ => True) (fun _ U o U' => ∃ v L, o = .returned v ∧ Q_find_4 Z aV kV b0 b1 b2 b3 b4 b5 b6 b7 b8 b9 h0 n0 v U'.heap L ∧ FrameEnd U o U' L ({ frames := 2, cells := 1, slots := 10, locals := 25 } : Room).cells ({ frames := 2, cells := 1, slots := 10, locals := 25 } : Room).slots) := by
  refine MetFree.of_bodySF (plainFor_of_name pn_5) hisR ?_
  intro p e s m args below meth c s₁ Bd hml0 hP hK
  obtain ⟨rfl, hZ, hh⟩ := hP
  have hx := Bd.exec
  have hby := Bd.bytes
  have hml : c.maxLocals = 5 := hml0
  have hown : s.vm.findClass "com/example/keyward/keyward/LdapOperation" = some m.cls := findClass_of_methodNamed Bd.named
  have hnm := (name_of_methodNamed Bd.named Bd.method).1
  have X0 : Stand p l e ({ frames := 2, cells := 1, slots := 10, locals := 25 } : Room) s m #[(.int (104 : Int32))] below meth c s₁ [] 0 0 := Stand.of_body Bd
  have e0 : s₁.heap = h0 := by rw [← hh, Bd.state]; rfl
  have N0 := Fr.nil n0
  have pre0 : ∀ t, Steps p.tables e below (s₁.setTop (mkF m 0 #[.val (.int (104 : Int32)), .unset, .unset, .unset, .unset] [])) t → Steps p.tables e below (s₁.setTop (entryFrame m #[(.int (104 : Int32))] 5)) t := fun t k => castTop (ef_27 m (104 : Int32)) k
  obtain ⟨_, _, ⟨T1, L1, k1, n1⟩, -, X1, ⟨Lc1, hQ1, l1, y1, z1⟩, st1⟩ := Jvm.LawKit.callS X0 hx (y := (⟨"com/example/keyward/keyward/LdapOperation", "values", "()[Lcom/example/keyward/keyward/LdapOperation;"⟩ : MethodName)) hown (mvT hZ (hw _ (List.mem_of_getElem? (i := 5) rfl))) (mvT hZ (hw _ (List.mem_of_getElem? (i := 6) rfl))) (mvT hZ (hw _ (List.mem_of_getElem? (i := 3) rfl))) (mvT hZ (hw _ (List.mem_of_getElem? (i := 7) rfl))) (by decide) (backOf (W := 0) (values_0 l Z a0 hw [] aV kV b0 b1 b2 b3 b4 b5 b6 b7 b8 b9 h0 n0 Z0 SaV VaV EaV) hZ (hw _ (List.mem_of_getElem? (i := 7) rfl)) (hw _ (List.mem_of_getElem? (i := 3) rfl)) (by decide) (by decide)) (g := (mkF m 0 #[.val (.int (104 : Int32)), .unset, .unset, .unset, .unset] [])) rfl (by rw [hml]; rfl) (argsL := []) (rest := []) (lenOf pd_7 rfl) rfl (by show 2 * 0 + _ ≤ _; exact Nat.le_of_eq rfl) (hb hby d_prog_16_method_4_code_0) (fun _ _ => ⟨rfl, e0, (by decide : 0 + 1 ≤ _), (by decide : 0 + 10 ≤ _)⟩)
  dsimp only [Pt.U, Pt.locs, Pt.cells, Pt.slots] at X1 l1 y1 z1 st1 hQ1
  subst l1 y1 z1
  obtain ⟨rfl, N1q, Ex1, V1⟩ := hQ1
  have N1 := Fr.app N0 N1q
  obtain ⟨cl, Ar, -, Sz, Ng, Hs, -⟩ := V1
  have hlen : cl.slots.size.toInt32 = (10 : Int32) := len_of Sz Ng
  obtain ⟨T2, X2, e2, st2⟩ := getF X1 hx hZ hown (host := "") (Or.inl (hw _ (List.mem_of_getElem? (i := 30) rfl))) Via.refl rfl (Fb0.ext Ex1) (g := (mkF m 21 #[.val (.int (104 : Int32)), .val (.ref h0.size), .val (.int (10 : Int32)), .val (.int (0 : Int32)), .val (.ref b0)] [(.ref b0)])) rfl rfl (hb hby d_prog_16_method_4_code_21)
  obtain ⟨T3, X3, e3, st3⟩ := getF X2 hx hZ hown (host := "") (Or.inl (hw _ (List.mem_of_getElem? (i := 30) rfl))) Via.refl e2 (Fb1.ext Ex1) (g := (mkF m 21 #[.val (.int (104 : Int32)), .val (.ref h0.size), .val (.int (10 : Int32)), .val (.int (1 : Int32)), .val (.ref b1)] [(.ref b1)])) rfl rfl (hb hby d_prog_16_method_4_code_21)
  obtain ⟨T4, X4, e4, st4⟩ := getF X3 hx hZ hown (host := "") (Or.inl (hw _ (List.mem_of_getElem? (i := 30) rfl))) Via.refl e3 (Fb2.ext Ex1) (g := (mkF m 21 #[.val (.int (104 : Int32)), .val (.ref h0.size), .val (.int (10 : Int32)), .val (.int (2 : Int32)), .val (.ref b2)] [(.ref b2)])) rfl rfl (hb hby d_prog_16_method_4_code_21)
  obtain ⟨T5, X5, e5, st5⟩ := getF X4 hx hZ hown (host := "") (Or.inl (hw _ (List.mem_of_getElem? (i := 30) rfl))) Via.refl e4 (Fb3.ext Ex1) (g := (mkF m 21 #[.val (.int (104 : Int32)), .val (.ref h0.size), .val (.int (10 : Int32)), .val (.int (3 : Int32)), .val (.ref b3)] [(.ref b3)])) rfl rfl (hb hby d_prog_16_method_4_code_21)
  obtain ⟨T6, X6, e6, st6⟩ := getF X5 hx hZ hown (host := "") (Or.inl (hw _ (List.mem_of_getElem? (i := 30) rfl))) Via.refl e5 (Fb4.ext Ex1) (g := (mkF m 21 #[.val (.int (104 : Int32)), .val (.ref h0.size), .val (.int (10 : Int32)), .val (.int (4 : Int32)), .val (.ref b4)] [(.ref b4)])) rfl rfl (hb hby d_prog_16_method_4_code_21)
  obtain ⟨fs, hr, hrun, hended, hW, hsame⟩ := X6.leave (v := some (.ref b4)) (fun h => by rw [Bd.returns] at h; cases h)
  refine ⟨_, _, pre0 _ ?_, hrun, hended, _, _, rfl, ?_, ⟨_, rfl⟩, hW, hsame.mono (by decide) (by decide)⟩
  · show Steps p.tables e below (s₁.setTop (mkF m 0 #[.val (.int (104 : Int32)), .unset, .unset, .unset, .unset] [])) _
    refine st1 _ ?_
    show Steps p.tables e below (T1.setTop (mkF m 3 #[.val (.int (104 : Int32)), .unset, .unset, .unset, .unset] [(.ref h0.size)])) _
    refine XS.astoreN X1.here hx rfl (hb hby d_prog_16_method_4_code_3) rfl rfl (l' := #[.val (.int (104 : Int32)), .val (.ref h0.size), .unset, .unset, .unset]) rfl ?_
    show Steps p.tables e below (T1.setTop (mkF m 4 #[.val (.int (104 : Int32)), .val (.ref h0.size), .unset, .unset, .unset] [])) _
    refine XS.aloadN X1.here hx rfl (hb hby d_prog_16_method_4_code_4) rfl rfl ?_
    show Steps p.tables e below (T1.setTop (mkF m 5 #[.val (.int (104 : Int32)), .val (.ref h0.size), .unset, .unset, .unset] [(.ref h0.size)])) _
    refine X1.arraylength hx (by first | exact Ar.1 | (rw [rfl]; exact Ar.1)) (State.isArrayOf_alike hZ.alike Ar.2.1) (g := (mkF m 5 #[.val (.int (104 : Int32)), .val (.ref h0.size), .unset, .unset, .unset] [(.ref h0.size)])) rfl rfl (hb hby d_prog_16_method_4_code_5) _ ?_
    show Steps p.tables e below (T1.setTop (mkF m 6 #[.val (.int (104 : Int32)), .val (.ref h0.size), .unset, .unset, .unset] [(.int cl.slots.size.toInt32)])) _
    rw [hlen]
    show Steps p.tables e below (T1.setTop (mkF m 6 #[.val (.int (104 : Int32)), .val (.ref h0.size), .unset, .unset, .unset] [(.int (10 : Int32))])) _
    refine XS.istoreN X1.here hx rfl (hb hby d_prog_16_method_4_code_6) rfl (l' := #[.val (.int (104 : Int32)), .val (.ref h0.size), .val (.int (10 : Int32)), .unset, .unset]) rfl ?_
    show Steps p.tables e below (T1.setTop (mkF m 7 #[.val (.int (104 : Int32)), .val (.ref h0.size), .val (.int (10 : Int32)), .unset, .unset] [])) _
    refine XT.iconstV X1.here hx rfl (0 : Int32) (hb hby d_prog_16_method_4_code_7) (by decide) ?_
    show Steps p.tables e below (T1.setTop (mkF m 8 #[.val (.int (104 : Int32)), .val (.ref h0.size), .val (.int (10 : Int32)), .unset, .unset] [(.int (0 : Int32))])) _
    refine XS.istoreN X1.here hx rfl (hb hby d_prog_16_method_4_code_8) rfl (l' := #[.val (.int (104 : Int32)), .val (.ref h0.size), .val (.int (10 : Int32)), .val (.int (0 : Int32)), .unset]) rfl ?_
    show Steps p.tables e below (T1.setTop (mkF m 9 #[.val (.int (104 : Int32)), .val (.ref h0.size), .val (.int (10 : Int32)), .val (.int (0 : Int32)), .unset] [])) _
    refine XS.iloadN X1.here hx rfl (hb hby d_prog_16_method_4_code_9) rfl ?_
    show Steps p.tables e below (T1.setTop (mkF m 10 #[.val (.int (104 : Int32)), .val (.ref h0.size), .val (.int (10 : Int32)), .val (.int (0 : Int32)), .unset] [(.int (0 : Int32))])) _
    refine XS.iloadN X1.here hx rfl (hb hby d_prog_16_method_4_code_10) rfl ?_
    show Steps p.tables e below (T1.setTop (mkF m 11 #[.val (.int (104 : Int32)), .val (.ref h0.size), .val (.int (10 : Int32)), .val (.int (0 : Int32)), .unset] [(.int (10 : Int32)), (.int (0 : Int32))])) _
    refine XS.icmpNo X1.here hx rfl (hb hby d_prog_16_method_4_code_11) rfl (by decide) ?_
    show Steps p.tables e below (T1.setTop (mkF m 14 #[.val (.int (104 : Int32)), .val (.ref h0.size), .val (.int (10 : Int32)), .val (.int (0 : Int32)), .unset] [])) _
    refine XS.aloadN X1.here hx rfl (hb hby d_prog_16_method_4_code_14) rfl rfl ?_
    show Steps p.tables e below (T1.setTop (mkF m 15 #[.val (.int (104 : Int32)), .val (.ref h0.size), .val (.int (10 : Int32)), .val (.int (0 : Int32)), .unset] [(.ref h0.size)])) _
    refine XS.iloadN X1.here hx rfl (hb hby d_prog_16_method_4_code_15) rfl ?_
    show Steps p.tables e below (T1.setTop (mkF m 16 #[.val (.int (104 : Int32)), .val (.ref h0.size), .val (.int (10 : Int32)), .val (.int (0 : Int32)), .unset] [(.int (0 : Int32)), (.ref h0.size)])) _
    refine X1.aaload hx (j := (0 : Int32)) (v := (.ref b0)) (by first | exact Ar.1 | (rw [rfl]; exact Ar.1)) (State.isArrayOf_alike hZ.alike Ar.2.1) rfl Ar.2.2 (inb_of Sz ⟨by decide, by decide⟩) (Hs.at (inb_of Sz ⟨by decide, by decide⟩) rfl) (g := (mkF m 16 #[.val (.int (104 : Int32)), .val (.ref h0.size), .val (.int (10 : Int32)), .val (.int (0 : Int32)), .unset] [(.int (0 : Int32)), (.ref h0.size)])) rfl rfl (hb hby d_prog_16_method_4_code_16) _ ?_
    show Steps p.tables e below (T1.setTop (mkF m 17 #[.val (.int (104 : Int32)), .val (.ref h0.size), .val (.int (10 : Int32)), .val (.int (0 : Int32)), .unset] [(.ref b0)])) _
    refine XS.astore X1.here hx rfl (hb hby d_prog_16_method_4_code_17) rfl rfl (l' := #[.val (.int (104 : Int32)), .val (.ref h0.size), .val (.int (10 : Int32)), .val (.int (0 : Int32)), .val (.ref b0)]) rfl ?_
    show Steps p.tables e below (T1.setTop (mkF m 19 #[.val (.int (104 : Int32)), .val (.ref h0.size), .val (.int (10 : Int32)), .val (.int (0 : Int32)), .val (.ref b0)] [])) _
    refine XS.aload X1.here hx rfl (hb hby d_prog_16_method_4_code_19) rfl rfl ?_
    show Steps p.tables e below (T1.setTop (mkF m 21 #[.val (.int (104 : Int32)), .val (.ref h0.size), .val (.int (10 : Int32)), .val (.int (0 : Int32)), .val (.ref b0)] [(.ref b0)])) _
    refine st2 _ ?_
    show Steps p.tables e below (T2.setTop (mkF m 24 #[.val (.int (104 : Int32)), .val (.ref h0.size), .val (.int (10 : Int32)), .val (.int (0 : Int32)), .val (.ref b0)] [(.int (96 : Int32))])) _
    refine XS.iloadN X2.here hx rfl (hb hby d_prog_16_method_4_code_24) rfl ?_
    show Steps p.tables e below (T2.setTop (mkF m 25 #[.val (.int (104 : Int32)), .val (.ref h0.size), .val (.int (10 : Int32)), .val (.int (0 : Int32)), .val (.ref b0)] [(.int (104 : Int32)), (.int (96 : Int32))])) _
    refine XS.icmpYes X2.here hx rfl (pc0 := 25) (pc' := 31) rfl (hb hby d_prog_16_method_4_code_25) rfl (by decide) (by decide) (by decide) ?_
    show Steps p.tables e below (T2.setTop (mkF m 31 #[.val (.int (104 : Int32)), .val (.ref h0.size), .val (.int (10 : Int32)), .val (.int (0 : Int32)), .val (.ref b0)] [])) _
    refine XT.iincV X2.here hx rfl (1 : Int32) (hb hby d_prog_16_method_4_code_31) (by decide) rfl (l' := #[.val (.int (104 : Int32)), .val (.ref h0.size), .val (.int (10 : Int32)), .val (.int (1 : Int32)), .val (.ref b0)]) rfl ?_
    show Steps p.tables e below (T2.setTop (mkF m 34 #[.val (.int (104 : Int32)), .val (.ref h0.size), .val (.int (10 : Int32)), .val (.int (1 : Int32)), .val (.ref b0)] [])) _
    refine XS.goto X2.here hx rfl (pc0 := 34) (pc' := 9) rfl (hb hby d_prog_16_method_4_code_34) (by decide) (by decide) ?_
    show Steps p.tables e below (T2.setTop (mkF m 9 #[.val (.int (104 : Int32)), .val (.ref h0.size), .val (.int (10 : Int32)), .val (.int (1 : Int32)), .val (.ref b0)] [])) _
    refine XS.iloadN X2.here hx rfl (hb hby d_prog_16_method_4_code_9) rfl ?_
    show Steps p.tables e below (T2.setTop (mkF m 10 #[.val (.int (104 : Int32)), .val (.ref h0.size), .val (.int (10 : Int32)), .val (.int (1 : Int32)), .val (.ref b0)] [(.int (1 : Int32))])) _
    refine XS.iloadN X2.here hx rfl (hb hby d_prog_16_method_4_code_10) rfl ?_
    show Steps p.tables e below (T2.setTop (mkF m 11 #[.val (.int (104 : Int32)), .val (.ref h0.size), .val (.int (10 : Int32)), .val (.int (1 : Int32)), .val (.ref b0)] [(.int (10 : Int32)), (.int (1 : Int32))])) _
    refine XS.icmpNo X2.here hx rfl (hb hby d_prog_16_method_4_code_11) rfl (by decide) ?_
    show Steps p.tables e below (T2.setTop (mkF m 14 #[.val (.int (104 : Int32)), .val (.ref h0.size), .val (.int (10 : Int32)), .val (.int (1 : Int32)), .val (.ref b0)] [])) _
    refine XS.aloadN X2.here hx rfl (hb hby d_prog_16_method_4_code_14) rfl rfl ?_
    show Steps p.tables e below (T2.setTop (mkF m 15 #[.val (.int (104 : Int32)), .val (.ref h0.size), .val (.int (10 : Int32)), .val (.int (1 : Int32)), .val (.ref b0)] [(.ref h0.size)])) _
    refine XS.iloadN X2.here hx rfl (hb hby d_prog_16_method_4_code_15) rfl ?_
    show Steps p.tables e below (T2.setTop (mkF m 16 #[.val (.int (104 : Int32)), .val (.ref h0.size), .val (.int (10 : Int32)), .val (.int (1 : Int32)), .val (.ref b0)] [(.int (1 : Int32)), (.ref h0.size)])) _
    refine X2.aaload hx (j := (1 : Int32)) (v := (.ref b1)) (by first | exact Ar.1 | (rw [e2]; exact Ar.1)) (State.isArrayOf_alike hZ.alike Ar.2.1) rfl Ar.2.2 (inb_of Sz ⟨by decide, by decide⟩) (Hs.at (inb_of Sz ⟨by decide, by decide⟩) rfl) (g := (mkF m 16 #[.val (.int (104 : Int32)), .val (.ref h0.size), .val (.int (10 : Int32)), .val (.int (1 : Int32)), .val (.ref b0)] [(.int (1 : Int32)), (.ref h0.size)])) rfl rfl (hb hby d_prog_16_method_4_code_16) _ ?_
    show Steps p.tables e below (T2.setTop (mkF m 17 #[.val (.int (104 : Int32)), .val (.ref h0.size), .val (.int (10 : Int32)), .val (.int (1 : Int32)), .val (.ref b0)] [(.ref b1)])) _
    refine XS.astore X2.here hx rfl (hb hby d_prog_16_method_4_code_17) rfl rfl (l' := #[.val (.int (104 : Int32)), .val (.ref h0.size), .val (.int (10 : Int32)), .val (.int (1 : Int32)), .val (.ref b1)]) rfl ?_
    show Steps p.tables e below (T2.setTop (mkF m 19 #[.val (.int (104 : Int32)), .val (.ref h0.size), .val (.int (10 : Int32)), .val (.int (1 : Int32)), .val (.ref b1)] [])) _
    refine XS.aload X2.here hx rfl (hb hby d_prog_16_method_4_code_19) rfl rfl ?_
    show Steps p.tables e below (T2.setTop (mkF m 21 #[.val (.int (104 : Int32)), .val (.ref h0.size), .val (.int (10 : Int32)), .val (.int (1 : Int32)), .val (.ref b1)] [(.ref b1)])) _
    refine st3 _ ?_
    show Steps p.tables e below (T3.setTop (mkF m 24 #[.val (.int (104 : Int32)), .val (.ref h0.size), .val (.int (10 : Int32)), .val (.int (1 : Int32)), .val (.ref b1)] [(.int (66 : Int32))])) _
    refine XS.iloadN X3.here hx rfl (hb hby d_prog_16_method_4_code_24) rfl ?_
    show Steps p.tables e below (T3.setTop (mkF m 25 #[.val (.int (104 : Int32)), .val (.ref h0.size), .val (.int (10 : Int32)), .val (.int (1 : Int32)), .val (.ref b1)] [(.int (104 : Int32)), (.int (66 : Int32))])) _
    refine XS.icmpYes X3.here hx rfl (pc0 := 25) (pc' := 31) rfl (hb hby d_prog_16_method_4_code_25) rfl (by decide) (by decide) (by decide) ?_
    show Steps p.tables e below (T3.setTop (mkF m 31 #[.val (.int (104 : Int32)), .val (.ref h0.size), .val (.int (10 : Int32)), .val (.int (1 : Int32)), .val (.ref b1)] [])) _
    refine XT.iincV X3.here hx rfl (1 : Int32) (hb hby d_prog_16_method_4_code_31) (by decide) rfl (l' := #[.val (.int (104 : Int32)), .val (.ref h0.size), .val (.int (10 : Int32)), .val (.int (2 : Int32)), .val (.ref b1)]) rfl ?_
    show Steps p.tables e below (T3.setTop (mkF m 34 #[.val (.int (104 : Int32)), .val (.ref h0.size), .val (.int (10 : Int32)), .val (.int (2 : Int32)), .val (.ref b1)] [])) _
    refine XS.goto X3.here hx rfl (pc0 := 34) (pc' := 9) rfl (hb hby d_prog_16_method_4_code_34) (by decide) (by decide) ?_
    show Steps p.tables e below (T3.setTop (mkF m 9 #[.val (.int (104 : Int32)), .val (.ref h0.size), .val (.int (10 : Int32)), .val (.int (2 : Int32)), .val (.ref b1)] [])) _
    refine XS.iloadN X3.here hx rfl (hb hby d_prog_16_method_4_code_9) rfl ?_
    show Steps p.tables e below (T3.setTop (mkF m 10 #[.val (.int (104 : Int32)), .val (.ref h0.size), .val (.int (10 : Int32)), .val (.int (2 : Int32)), .val (.ref b1)] [(.int (2 : Int32))])) _
    refine XS.iloadN X3.here hx rfl (hb hby d_prog_16_method_4_code_10) rfl ?_
    show Steps p.tables e below (T3.setTop (mkF m 11 #[.val (.int (104 : Int32)), .val (.ref h0.size), .val (.int (10 : Int32)), .val (.int (2 : Int32)), .val (.ref b1)] [(.int (10 : Int32)), (.int (2 : Int32))])) _
    refine XS.icmpNo X3.here hx rfl (hb hby d_prog_16_method_4_code_11) rfl (by decide) ?_
    show Steps p.tables e below (T3.setTop (mkF m 14 #[.val (.int (104 : Int32)), .val (.ref h0.size), .val (.int (10 : Int32)), .val (.int (2 : Int32)), .val (.ref b1)] [])) _
    refine XS.aloadN X3.here hx rfl (hb hby d_prog_16_method_4_code_14) rfl rfl ?_
    show Steps p.tables e below (T3.setTop (mkF m 15 #[.val (.int (104 : Int32)), .val (.ref h0.size), .val (.int (10 : Int32)), .val (.int (2 : Int32)), .val (.ref b1)] [(.ref h0.size)])) _
    refine XS.iloadN X3.here hx rfl (hb hby d_prog_16_method_4_code_15) rfl ?_
    show Steps p.tables e below (T3.setTop (mkF m 16 #[.val (.int (104 : Int32)), .val (.ref h0.size), .val (.int (10 : Int32)), .val (.int (2 : Int32)), .val (.ref b1)] [(.int (2 : Int32)), (.ref h0.size)])) _
    refine X3.aaload hx (j := (2 : Int32)) (v := (.ref b2)) (by first | exact Ar.1 | (rw [e3]; exact Ar.1)) (State.isArrayOf_alike hZ.alike Ar.2.1) rfl Ar.2.2 (inb_of Sz ⟨by decide, by decide⟩) (Hs.at (inb_of Sz ⟨by decide, by decide⟩) rfl) (g := (mkF m 16 #[.val (.int (104 : Int32)), .val (.ref h0.size), .val (.int (10 : Int32)), .val (.int (2 : Int32)), .val (.ref b1)] [(.int (2 : Int32)), (.ref h0.size)])) rfl rfl (hb hby d_prog_16_method_4_code_16) _ ?_
    show Steps p.tables e below (T3.setTop (mkF m 17 #[.val (.int (104 : Int32)), .val (.ref h0.size), .val (.int (10 : Int32)), .val (.int (2 : Int32)), .val (.ref b1)] [(.ref b2)])) _
    refine XS.astore X3.here hx rfl (hb hby d_prog_16_method_4_code_17) rfl rfl (l' := #[.val (.int (104 : Int32)), .val (.ref h0.size), .val (.int (10 : Int32)), .val (.int (2 : Int32)), .val (.ref b2)]) rfl ?_
    show Steps p.tables e below (T3.setTop (mkF m 19 #[.val (.int (104 : Int32)), .val (.ref h0.size), .val (.int (10 : Int32)), .val (.int (2 : Int32)), .val (.ref b2)] [])) _
    refine XS.aload X3.here hx rfl (hb hby d_prog_16_method_4_code_19) rfl rfl ?_
    show Steps p.tables e below (T3.setTop (mkF m 21 #[.val (.int (104 : Int32)), .val (.ref h0.size), .val (.int (10 : Int32)), .val (.int (2 : Int32)), .val (.ref b2)] [(.ref b2)])) _
    refine st4 _ ?_
    show Steps p.tables e below (T4.setTop (mkF m 24 #[.val (.int (104 : Int32)), .val (.ref h0.size), .val (.int (10 : Int32)), .val (.int (2 : Int32)), .val (.ref b2)] [(.int (99 : Int32))])) _
    refine XS.iloadN X4.here hx rfl (hb hby d_prog_16_method_4_code_24) rfl ?_
    show Steps p.tables e below (T4.setTop (mkF m 25 #[.val (.int (104 : Int32)), .val (.ref h0.size), .val (.int (10 : Int32)), .val (.int (2 : Int32)), .val (.ref b2)] [(.int (104 : Int32)), (.int (99 : Int32))])) _
    refine XS.icmpYes X4.here hx rfl (pc0 := 25) (pc' := 31) rfl (hb hby d_prog_16_method_4_code_25) rfl (by decide) (by decide) (by decide) ?_
    show Steps p.tables e below (T4.setTop (mkF m 31 #[.val (.int (104 : Int32)), .val (.ref h0.size), .val (.int (10 : Int32)), .val (.int (2 : Int32)), .val (.ref b2)] [])) _
    refine XT.iincV X4.here hx rfl (1 : Int32) (hb hby d_prog_16_method_4_code_31) (by decide) rfl (l' := #[.val (.int (104 : Int32)), .val (.ref h0.size), .val (.int (10 : Int32)), .val (.int (3 : Int32)), .val (.ref b2)]) rfl ?_
    show Steps p.tables e below (T4.setTop (mkF m 34 #[.val (.int (104 : Int32)), .val (.ref h0.size), .val (.int (10 : Int32)), .val (.int (3 : Int32)), .val (.ref b2)] [])) _
    refine XS.goto X4.here hx rfl (pc0 := 34) (pc' := 9) rfl (hb hby d_prog_16_method_4_code_34) (by decide) (by decide) ?_
    show Steps p.tables e below (T4.setTop (mkF m 9 #[.val (.int (104 : Int32)), .val (.ref h0.size), .val (.int (10 : Int32)), .val (.int (3 : Int32)), .val (.ref b2)] [])) _
    refine XS.iloadN X4.here hx rfl (hb hby d_prog_16_method_4_code_9) rfl ?_
    show Steps p.tables e below (T4.setTop (mkF m 10 #[.val (.int (104 : Int32)), .val (.ref h0.size), .val (.int (10 : Int32)), .val (.int (3 : Int32)), .val (.ref b2)] [(.int (3 : Int32))])) _
    refine XS.iloadN X4.here hx rfl (hb hby d_prog_16_method_4_code_10) rfl ?_
    show Steps p.tables e below (T4.setTop (mkF m 11 #[.val (.int (104 : Int32)), .val (.ref h0.size), .val (.int (10 : Int32)), .val (.int (3 : Int32)), .val (.ref b2)] [(.int (10 : Int32)), (.int (3 : Int32))])) _
    refine XS.icmpNo X4.here hx rfl (hb hby d_prog_16_method_4_code_11) rfl (by decide) ?_
    show Steps p.tables e below (T4.setTop (mkF m 14 #[.val (.int (104 : Int32)), .val (.ref h0.size), .val (.int (10 : Int32)), .val (.int (3 : Int32)), .val (.ref b2)] [])) _
    refine XS.aloadN X4.here hx rfl (hb hby d_prog_16_method_4_code_14) rfl rfl ?_
    show Steps p.tables e below (T4.setTop (mkF m 15 #[.val (.int (104 : Int32)), .val (.ref h0.size), .val (.int (10 : Int32)), .val (.int (3 : Int32)), .val (.ref b2)] [(.ref h0.size)])) _
    refine XS.iloadN X4.here hx rfl (hb hby d_prog_16_method_4_code_15) rfl ?_
    show Steps p.tables e below (T4.setTop (mkF m 16 #[.val (.int (104 : Int32)), .val (.ref h0.size), .val (.int (10 : Int32)), .val (.int (3 : Int32)), .val (.ref b2)] [(.int (3 : Int32)), (.ref h0.size)])) _
    refine X4.aaload hx (j := (3 : Int32)) (v := (.ref b3)) (by first | exact Ar.1 | (rw [e4]; exact Ar.1)) (State.isArrayOf_alike hZ.alike Ar.2.1) rfl Ar.2.2 (inb_of Sz ⟨by decide, by decide⟩) (Hs.at (inb_of Sz ⟨by decide, by decide⟩) rfl) (g := (mkF m 16 #[.val (.int (104 : Int32)), .val (.ref h0.size), .val (.int (10 : Int32)), .val (.int (3 : Int32)), .val (.ref b2)] [(.int (3 : Int32)), (.ref h0.size)])) rfl rfl (hb hby d_prog_16_method_4_code_16) _ ?_
    show Steps p.tables e below (T4.setTop (mkF m 17 #[.val (.int (104 : Int32)), .val (.ref h0.size), .val (.int (10 : Int32)), .val (.int (3 : Int32)), .val (.ref b2)] [(.ref b3)])) _
    refine XS.astore X4.here hx rfl (hb hby d_prog_16_method_4_code_17) rfl rfl (l' := #[.val (.int (104 : Int32)), .val (.ref h0.size), .val (.int (10 : Int32)), .val (.int (3 : Int32)), .val (.ref b3)]) rfl ?_
    show Steps p.tables e below (T4.setTop (mkF m 19 #[.val (.int (104 : Int32)), .val (.ref h0.size), .val (.int (10 : Int32)), .val (.int (3 : Int32)), .val (.ref b3)] [])) _
    refine XS.aload X4.here hx rfl (hb hby d_prog_16_method_4_code_19) rfl rfl ?_
    show Steps p.tables e below (T4.setTop (mkF m 21 #[.val (.int (104 : Int32)), .val (.ref h0.size), .val (.int (10 : Int32)), .val (.int (3 : Int32)), .val (.ref b3)] [(.ref b3)])) _
    refine st5 _ ?_
    show Steps p.tables e below (T5.setTop (mkF m 24 #[.val (.int (104 : Int32)), .val (.ref h0.size), .val (.int (10 : Int32)), .val (.int (3 : Int32)), .val (.ref b3)] [(.int (102 : Int32))])) _
    refine XS.iloadN X5.here hx rfl (hb hby d_prog_16_method_4_code_24) rfl ?_
    show Steps p.tables e below (T5.setTop (mkF m 25 #[.val (.int (104 : Int32)), .val (.ref h0.size), .val (.int (10 : Int32)), .val (.int (3 : Int32)), .val (.ref b3)] [(.int (104 : Int32)), (.int (102 : Int32))])) _
    refine XS.icmpYes X5.here hx rfl (pc0 := 25) (pc' := 31) rfl (hb hby d_prog_16_method_4_code_25) rfl (by decide) (by decide) (by decide) ?_
    show Steps p.tables e below (T5.setTop (mkF m 31 #[.val (.int (104 : Int32)), .val (.ref h0.size), .val (.int (10 : Int32)), .val (.int (3 : Int32)), .val (.ref b3)] [])) _
    refine XT.iincV X5.here hx rfl (1 : Int32) (hb hby d_prog_16_method_4_code_31) (by decide) rfl (l' := #[.val (.int (104 : Int32)), .val (.ref h0.size), .val (.int (10 : Int32)), .val (.int (4 : Int32)), .val (.ref b3)]) rfl ?_
    show Steps p.tables e below (T5.setTop (mkF m 34 #[.val (.int (104 : Int32)), .val (.ref h0.size), .val (.int (10 : Int32)), .val (.int (4 : Int32)), .val (.ref b3)] [])) _
    refine XS.goto X5.here hx rfl (pc0 := 34) (pc' := 9) rfl (hb hby d_prog_16_method_4_code_34) (by decide) (by decide) ?_
    show Steps p.tables e below (T5.setTop (mkF m 9 #[.val (.int (104 : Int32)), .val (.ref h0.size), .val (.int (10 : Int32)), .val (.int (4 : Int32)), .val (.ref b3)] [])) _
    refine XS.iloadN X5.here hx rfl (hb hby d_prog_16_method_4_code_9) rfl ?_
    show Steps p.tables e below (T5.setTop (mkF m 10 #[.val (.int (104 : Int32)), .val (.ref h0.size), .val (.int (10 : Int32)), .val (.int (4 : Int32)), .val (.ref b3)] [(.int (4 : Int32))])) _
    refine XS.iloadN X5.here hx rfl (hb hby d_prog_16_method_4_code_10) rfl ?_
    show Steps p.tables e below (T5.setTop (mkF m 11 #[.val (.int (104 : Int32)), .val (.ref h0.size), .val (.int (10 : Int32)), .val (.int (4 : Int32)), .val (.ref b3)] [(.int (10 : Int32)), (.int (4 : Int32))])) _
    refine XS.icmpNo X5.here hx rfl (hb hby d_prog_16_method_4_code_11) rfl (by decide) ?_
    show Steps p.tables e below (T5.setTop (mkF m 14 #[.val (.int (104 : Int32)), .val (.ref h0.size), .val (.int (10 : Int32)), .val (.int (4 : Int32)), .val (.ref b3)] [])) _
    refine XS.aloadN X5.here hx rfl (hb hby d_prog_16_method_4_code_14) rfl rfl ?_
    show Steps p.tables e below (T5.setTop (mkF m 15 #[.val (.int (104 : Int32)), .val (.ref h0.size), .val (.int (10 : Int32)), .val (.int (4 : Int32)), .val (.ref b3)] [(.ref h0.size)])) _
    refine XS.iloadN X5.here hx rfl (hb hby d_prog_16_method_4_code_15) rfl ?_
    show Steps p.tables e below (T5.setTop (mkF m 16 #[.val (.int (104 : Int32)), .val (.ref h0.size), .val (.int (10 : Int32)), .val (.int (4 : Int32)), .val (.ref b3)] [(.int (4 : Int32)), (.ref h0.size)])) _
    refine X5.aaload hx (j := (4 : Int32)) (v := (.ref b4)) (by first | exact Ar.1 | (rw [e5]; exact Ar.1)) (State.isArrayOf_alike hZ.alike Ar.2.1) rfl Ar.2.2 (inb_of Sz ⟨by decide, by decide⟩) (Hs.at (inb_of Sz ⟨by decide, by decide⟩) rfl) (g := (mkF m 16 #[.val (.int (104 : Int32)), .val (.ref h0.size), .val (.int (10 : Int32)), .val (.int (4 : Int32)), .val (.ref b3)] [(.int (4 : Int32)), (.ref h0.size)])) rfl rfl (hb hby d_prog_16_method_4_code_16) _ ?_
    show Steps p.tables e below (T5.setTop (mkF m 17 #[.val (.int (104 : Int32)), .val (.ref h0.size), .val (.int (10 : Int32)), .val (.int (4 : Int32)), .val (.ref b3)] [(.ref b4)])) _
    refine XS.astore X5.here hx rfl (hb hby d_prog_16_method_4_code_17) rfl rfl (l' := #[.val (.int (104 : Int32)), .val (.ref h0.size), .val (.int (10 : Int32)), .val (.int (4 : Int32)), .val (.ref b4)]) rfl ?_
    show Steps p.tables e below (T5.setTop (mkF m 19 #[.val (.int (104 : Int32)), .val (.ref h0.size), .val (.int (10 : Int32)), .val (.int (4 : Int32)), .val (.ref b4)] [])) _
    refine XS.aload X5.here hx rfl (hb hby d_prog_16_method_4_code_19) rfl rfl ?_
    show Steps p.tables e below (T5.setTop (mkF m 21 #[.val (.int (104 : Int32)), .val (.ref h0.size), .val (.int (10 : Int32)), .val (.int (4 : Int32)), .val (.ref b4)] [(.ref b4)])) _
    refine st6 _ ?_
    show Steps p.tables e below (T6.setTop (mkF m 24 #[.val (.int (104 : Int32)), .val (.ref h0.size), .val (.int (10 : Int32)), .val (.int (4 : Int32)), .val (.ref b4)] [(.int (104 : Int32))])) _
    refine XS.iloadN X6.here hx rfl (hb hby d_prog_16_method_4_code_24) rfl ?_
    show Steps p.tables e below (T6.setTop (mkF m 25 #[.val (.int (104 : Int32)), .val (.ref h0.size), .val (.int (10 : Int32)), .val (.int (4 : Int32)), .val (.ref b4)] [(.int (104 : Int32)), (.int (104 : Int32))])) _
    refine XS.icmpNo X6.here hx rfl (hb hby d_prog_16_method_4_code_25) rfl (by decide) ?_
    show Steps p.tables e below (T6.setTop (mkF m 28 #[.val (.int (104 : Int32)), .val (.ref h0.size), .val (.int (10 : Int32)), .val (.int (4 : Int32)), .val (.ref b4)] [])) _
    refine XS.aload X6.here hx rfl (hb hby d_prog_16_method_4_code_28) rfl rfl ?_
    show Steps p.tables e below (T6.setTop (mkF m 30 #[.val (.int (104 : Int32)), .val (.ref h0.size), .val (.int (10 : Int32)), .val (.int (4 : Int32)), .val (.ref b4)] [(.ref b4)])) _
    exact retOut X6 hx Bd.returns rfl (Or.inr (Or.inr (Or.inr (Or.inr ⟨rfl, rfl, rfl⟩)))) (hb hby d_prog_16_method_4_code_30) hr
  · exact ⟨rfl, N1, by show Ext h0 T6.heap; rw [e6]; exact Ex1⟩
theorem d_method_2_code_40 : decode method_2_code 40 = .ok (.iload_n 0, 1) := by decide +kernel
theorem d_method_2_code_41 : decode method_2_code 41 = .ok (.bipush 104, 2) := by decide +kernel
theorem d_method_2_code_43 : decode method_2_code 43 = .ok (.if_icmp .ne 7, 3) := by decide +kernel
theorem d_method_2_code_46 : decode method_2_code 46 = .ok (.getstatic 22, 3) := by decide +kernel
theorem d_method_2_code_49 : decode method_2_code 49 = .ok (.areturn, 1) := by decide +kernel
def Q_exp_4 (Z : State) (b4 : Addr) (h0 : Heap) (n0 : Nat) (v : Option Value) (h : Heap) (L : List Loc) : Prop := v = some (.ref b4) ∧ Fr n0 L ∧ h = h0
set_option maxRecDepth 65536 in
set_option maxHeartbeats 40000000 in
theorem exp_4 (l : Launch) (Z : State) (a0 : Array Value) (hw : ∀ d ∈ tables_1, d.before a0 Z = true) (ws : List Jvm.Cond) (b4 : Addr) (h0 : Heap) (n0 : Nat) (Z0 : n0 ≤ h0.size) (Sb4 : Sta Z h0 "com/example/keyward/keyward/LdapOperation" "ADD" "Lcom/example/keyward/keyward/LdapOperation;" (.ref b4)) :
    MetFree l (⟨"com/example/keyward/keyward/LdapOperationForRequestTagPinLaw", "expected", "(I)Lcom/example/keyward/keyward/LdapOperation;"⟩ : MethodName) (head1 (Jvm.Cond.code (⟨"com/example/keyward/keyward/LdapOperationForRequestTagPinLaw", "expected", "(I)Lcom/example/keyward/keyward/LdapOperation;"⟩ : MethodName) method_2_code 1 (Option.some (Jvm.ClassFile.FieldType.object "com/example/keyward/keyward/LdapOperation")) :: ws) ({ frames := 0, cells := 0, slots := 0, locals := 0 } : Room)) (fun a U => a = #[(.int (104 : Int32))] ∧ Z.Warmed39 U.vm ∧ U.heap = h0) (fun _ _ _ _ _ => True) (fun _ U o U' => ∃ v L, o = .returned v ∧ Q_exp_4 Z b4 h0 n0 v U'.heap L ∧ FrameEnd U o U' L ({ frames := 0, cells := 0, slots := 0, locals := 0 } : Room).cells ({ frames := 0, cells := 0, slots := 0, locals := 0 } : Room).slots) := by
  refine MetFree.of_bodySF (plainFor_of_name pn_34) hisR ?_
  intro p e s m args below meth c s₁ Bd hml0 hP hK
  obtain ⟨rfl, hZ, hh⟩ := hP
  have hx := Bd.exec
  have hby := Bd.bytes
  have hml : c.maxLocals = 1 := hml0
  have hown : s.vm.findClass "com/example/keyward/keyward/LdapOperationForRequestTagPinLaw" = some m.cls := findClass_of_methodNamed Bd.named
  have hnm := (name_of_methodNamed Bd.named Bd.method).1
  have X0 : Stand p l e ({ frames := 0, cells := 0, slots := 0, locals := 0 } : Room) s m #[(.int (104 : Int32))] below meth c s₁ [] 0 0 := Stand.of_body Bd
  have e0 : s₁.heap = h0 := by rw [← hh, Bd.state]; rfl
  have N0 := Fr.nil n0
  have pre0 : ∀ t, Steps p.tables e below (s₁.setTop (mkF m 0 #[.val (.int (104 : Int32))] [])) t → Steps p.tables e below (s₁.setTop (entryFrame m #[(.int (104 : Int32))] 1)) t := fun t k => castTop (ef_33 m (104 : Int32)) k
  obtain ⟨T1, X1, e1, st1⟩ := getS X0 hx hZ (host := "") hown (hw _ (List.mem_of_getElem? (i := 38) rfl)) Via.refl e0 Sb4 (g := (mkF m 46 #[.val (.int (104 : Int32))] [])) rfl (hb hby d_method_2_code_46)
  obtain ⟨fs, hr, hrun, hended, hW, hsame⟩ := X1.leave (v := some (.ref b4)) (fun h => by rw [Bd.returns] at h; cases h)
  refine ⟨_, _, pre0 _ ?_, hrun, hended, _, _, rfl, ?_, ⟨_, rfl⟩, hW, hsame.mono (by decide) (by decide)⟩
  · show Steps p.tables e below (s₁.setTop (mkF m 0 #[.val (.int (104 : Int32))] [])) _
    refine XS.iloadN X0.here hx rfl (hb hby d_method_2_code_0) rfl ?_
    show Steps p.tables e below (s₁.setTop (mkF m 1 #[.val (.int (104 : Int32))] [(.int (104 : Int32))])) _
    refine XT.bipushV X0.here hx rfl (96 : Int32) (hb hby d_method_2_code_1) (by decide) ?_
    show Steps p.tables e below (s₁.setTop (mkF m 3 #[.val (.int (104 : Int32))] [(.int (96 : Int32)), (.int (104 : Int32))])) _
    refine XS.icmpYes X0.here hx rfl (pc0 := 3) (pc' := 10) rfl (hb hby d_method_2_code_3) rfl (by decide) (by decide) (by decide) ?_
    show Steps p.tables e below (s₁.setTop (mkF m 10 #[.val (.int (104 : Int32))] [])) _
    refine XS.iloadN X0.here hx rfl (hb hby d_method_2_code_10) rfl ?_
    show Steps p.tables e below (s₁.setTop (mkF m 11 #[.val (.int (104 : Int32))] [(.int (104 : Int32))])) _
    refine XT.bipushV X0.here hx rfl (66 : Int32) (hb hby d_method_2_code_11) (by decide) ?_
    show Steps p.tables e below (s₁.setTop (mkF m 13 #[.val (.int (104 : Int32))] [(.int (66 : Int32)), (.int (104 : Int32))])) _
    refine XS.icmpYes X0.here hx rfl (pc0 := 13) (pc' := 20) rfl (hb hby d_method_2_code_13) rfl (by decide) (by decide) (by decide) ?_
    show Steps p.tables e below (s₁.setTop (mkF m 20 #[.val (.int (104 : Int32))] [])) _
    refine XS.iloadN X0.here hx rfl (hb hby d_method_2_code_20) rfl ?_
    show Steps p.tables e below (s₁.setTop (mkF m 21 #[.val (.int (104 : Int32))] [(.int (104 : Int32))])) _
    refine XT.bipushV X0.here hx rfl (99 : Int32) (hb hby d_method_2_code_21) (by decide) ?_
    show Steps p.tables e below (s₁.setTop (mkF m 23 #[.val (.int (104 : Int32))] [(.int (99 : Int32)), (.int (104 : Int32))])) _
    refine XS.icmpYes X0.here hx rfl (pc0 := 23) (pc' := 30) rfl (hb hby d_method_2_code_23) rfl (by decide) (by decide) (by decide) ?_
    show Steps p.tables e below (s₁.setTop (mkF m 30 #[.val (.int (104 : Int32))] [])) _
    refine XS.iloadN X0.here hx rfl (hb hby d_method_2_code_30) rfl ?_
    show Steps p.tables e below (s₁.setTop (mkF m 31 #[.val (.int (104 : Int32))] [(.int (104 : Int32))])) _
    refine XT.bipushV X0.here hx rfl (102 : Int32) (hb hby d_method_2_code_31) (by decide) ?_
    show Steps p.tables e below (s₁.setTop (mkF m 33 #[.val (.int (104 : Int32))] [(.int (102 : Int32)), (.int (104 : Int32))])) _
    refine XS.icmpYes X0.here hx rfl (pc0 := 33) (pc' := 40) rfl (hb hby d_method_2_code_33) rfl (by decide) (by decide) (by decide) ?_
    show Steps p.tables e below (s₁.setTop (mkF m 40 #[.val (.int (104 : Int32))] [])) _
    refine XS.iloadN X0.here hx rfl (hb hby d_method_2_code_40) rfl ?_
    show Steps p.tables e below (s₁.setTop (mkF m 41 #[.val (.int (104 : Int32))] [(.int (104 : Int32))])) _
    refine XT.bipushV X0.here hx rfl (104 : Int32) (hb hby d_method_2_code_41) (by decide) ?_
    show Steps p.tables e below (s₁.setTop (mkF m 43 #[.val (.int (104 : Int32))] [(.int (104 : Int32)), (.int (104 : Int32))])) _
    refine XS.icmpNo X0.here hx rfl (hb hby d_method_2_code_43) rfl (by decide) ?_
    show Steps p.tables e below (s₁.setTop (mkF m 46 #[.val (.int (104 : Int32))] [])) _
    refine st1 _ ?_
    show Steps p.tables e below (T1.setTop (mkF m 49 #[.val (.int (104 : Int32))] [(.ref b4)])) _
    exact retOut X1 hx Bd.returns rfl (Or.inr (Or.inr (Or.inr (Or.inr ⟨rfl, rfl, rfl⟩)))) (hb hby d_method_2_code_49) hr
  · exact ⟨rfl, N0, e1⟩
def Q_find_5 (Z : State) (aV : Addr) (kV : ClassId) (b0 b1 b2 b3 b4 b5 b6 b7 b8 b9 : Addr) (h0 : Heap) (n0 : Nat) (v : Option Value) (h : Heap) (L : List Loc) : Prop := v = some (.ref b5) ∧ Fr n0 L ∧ Ext h0 h
set_option maxRecDepth 65536 in
set_option maxHeartbeats 40000000 in
theorem find_5 (l : Launch) (Z : State) (a0 : Array Value) (hw : ∀ d ∈ tables_1, d.before a0 Z = true) (ws : List Jvm.Cond) (aV : Addr) (kV : ClassId) (b0 b1 b2 b3 b4 b5 b6 b7 b8 b9 : Addr) (h0 : Heap) (n0 : Nat) (Z0 : n0 ≤ h0.size) (SaV : Sta Z h0 "com/example/keyward/keyward/LdapOperation" "$VALUES" "[Lcom/example/keyward/keyward/LdapOperation;" (.ref aV)) (VaV : Arv Z h0 aV kV (.object "com/example/keyward/keyward/LdapOperation") (10 : Int32) [(.ref b0), (.ref b1), (.ref b2), (.ref b3), (.ref b4), (.ref b5), (.ref b6), (.ref b7), (.ref b8), (.ref b9)] .null) (EaV : Exa Z h0 aV "[Lcom/example/keyward/keyward/LdapOperation;")(Fb0 : Fld Z h0 b0 "com/example/keyward/keyward/LdapOperation" "requestTag" "I" (.int (96 : Int32)))(Fb1 : Fld Z h0 b1 "com/example/keyward/keyward/LdapOperation" "requestTag" "I" (.int (66 : Int32)))(Fb2 : Fld Z h0 b2 "com/example/keyward/keyward/LdapOperation" "requestTag" "I" (.int (99 : Int32)))(Fb3 : Fld Z h0 b3 "com/example/keyward/keyward/LdapOperation" "requestTag" "I" (.int (102 : Int32)))(Fb4 : Fld Z h0 b4 "com/example/keyward/keyward/LdapOperation" "requestTag" "I" (.int (104 : Int32)))(Fb5 : Fld Z h0 b5 "com/example/keyward/keyward/LdapOperation" "requestTag" "I" (.int (74 : Int32)))(Fb6 : Fld Z h0 b6 "com/example/keyward/keyward/LdapOperation" "requestTag" "I" (.int (108 : Int32)))(Fb7 : Fld Z h0 b7 "com/example/keyward/keyward/LdapOperation" "requestTag" "I" (.int (110 : Int32)))(Fb8 : Fld Z h0 b8 "com/example/keyward/keyward/LdapOperation" "requestTag" "I" (.int (80 : Int32)))(Fb9 : Fld Z h0 b9 "com/example/keyward/keyward/LdapOperation" "requestTag" "I" (.int (119 : Int32))) :
    MetFree l (⟨"com/example/keyward/keyward/LdapOperation", "forRequestTag", "(I)Lcom/example/keyward/keyward/LdapOperation;"⟩ : MethodName) (head1 (Jvm.Cond.code (⟨"com/example/keyward/keyward/LdapOperation", "forRequestTag", "(I)Lcom/example/keyward/keyward/LdapOperation;"⟩ : MethodName) prog_16_method_4_code 5 (Option.some (Jvm.ClassFile.FieldType.object "com/example/keyward/keyward/LdapOperation")) :: ws) ({ frames := 2, cells := 1, slots := 10, locals := 25 } : Room)) (fun a U => a = #[(.int (74 : Int32))] ∧ Z.Warmed39 U.vm ∧ U.heap = h0) (fun _ _ _ _ _ => True) (fun _ U o U' => ∃ v L, o = .returned v ∧ Q_find_5 Z aV kV b0 b1 b2 b3 b4 b5 b6 b7 b8 b9 h0 n0 v U'.heap L ∧ FrameEnd U o U' L ({ frames := 2, cells := 1, slots := 10, locals := 25 } : Room).cells ({ frames := 2, cells := 1, slots := 10, locals := 25 } : Room).slots) := by
  refine MetFree.of_bodySF (plainFor_of_name pn_5) hisR ?_
  intro p e s m args below meth c s₁ Bd hml0 hP hK
  obtain ⟨rfl, hZ, hh⟩ := hP
  have hx := Bd.exec
  have hby := Bd.bytes
  have hml : c.maxLocals = 5 := hml0
  have hown : s.vm.findClass "com/example/keyward/keyward/LdapOperation" = some m.cls := findClass_of_methodNamed Bd.named
  have hnm := (name_of_methodNamed Bd.named Bd.method).1
  have X0 : Stand p l e ({ frames := 2, cells := 1, slots := 10, locals := 25 } : Room) s m #[(.int (74 : Int32))] below meth c s₁ [] 0 0 := Stand.of_body Bd
  have e0 : s₁.heap = h0 := by rw [← hh, Bd.state]; rfl
  have N0 := Fr.nil n0
  have pre0 : ∀ t, Steps p.tables e below (s₁.setTop (mkF m 0 #[.val (.int (74 : Int32)), .unset, .unset, .unset, .unset] [])) t → Steps p.tables e below (s₁.setTop (entryFrame m #[(.int (74 : Int32))] 5)) t := fun t k => castTop (ef_27 m (74 : Int32)) k
  obtain ⟨_, _, ⟨T1, L1, k1, n1⟩, -, X1, ⟨Lc1, hQ1, l1, y1, z1⟩, st1⟩ := Jvm.LawKit.callS X0 hx (y := (⟨"com/example/keyward/keyward/LdapOperation", "values", "()[Lcom/example/keyward/keyward/LdapOperation;"⟩ : MethodName)) hown (mvT hZ (hw _ (List.mem_of_getElem? (i := 5) rfl))) (mvT hZ (hw _ (List.mem_of_getElem? (i := 6) rfl))) (mvT hZ (hw _ (List.mem_of_getElem? (i := 3) rfl))) (mvT hZ (hw _ (List.mem_of_getElem? (i := 7) rfl))) (by decide) (backOf (W := 0) (values_0 l Z a0 hw [] aV kV b0 b1 b2 b3 b4 b5 b6 b7 b8 b9 h0 n0 Z0 SaV VaV EaV) hZ (hw _ (List.mem_of_getElem? (i := 7) rfl)) (hw _ (List.mem_of_getElem? (i := 3) rfl)) (by decide) (by decide)) (g := (mkF m 0 #[.val (.int (74 : Int32)), .unset, .unset, .unset, .unset] [])) rfl (by rw [hml]; rfl) (argsL := []) (rest := []) (lenOf pd_7 rfl) rfl (by show 2 * 0 + _ ≤ _; exact Nat.le_of_eq rfl) (hb hby d_prog_16_method_4_code_0) (fun _ _ => ⟨rfl, e0, (by decide : 0 + 1 ≤ _), (by decide : 0 + 10 ≤ _)⟩)
  dsimp only [Pt.U, Pt.locs, Pt.cells, Pt.slots] at X1 l1 y1 z1 st1 hQ1
  subst l1 y1 z1
  obtain ⟨rfl, N1q, Ex1, V1⟩ := hQ1
  have N1 := Fr.app N0 N1q
  obtain ⟨cl, Ar, -, Sz, Ng, Hs, -⟩ := V1
  have hlen : cl.slots.size.toInt32 = (10 : Int32) := len_of Sz Ng
  obtain ⟨T2, X2, e2, st2⟩ := getF X1 hx hZ hown (host := "") (Or.inl (hw _ (List.mem_of_getElem? (i := 30) rfl))) Via.refl rfl (Fb0.ext Ex1) (g := (mkF m 21 #[.val (.int (74 : Int32)), .val (.ref h0.size), .val (.int (10 : Int32)), .val (.int (0 : Int32)), .val (.ref b0)] [(.ref b0)])) rfl rfl (hb hby d_prog_16_method_4_code_21)
  obtain ⟨T3, X3, e3, st3⟩ := getF X2 hx hZ hown (host := "") (Or.inl (hw _ (List.mem_of_getElem? (i := 30) rfl))) Via.refl e2 (Fb1.ext Ex1) (g := (mkF m 21 #[.val (.int (74 : Int32)), .val (.ref h0.size), .val (.int (10 : Int32)), .val (.int (1 : Int32)), .val (.ref b1)] [(.ref b1)])) rfl rfl (hb hby d_prog_16_method_4_code_21)
  obtain ⟨T4, X4, e4, st4⟩ := getF X3 hx hZ hown (host := "") (Or.inl (hw _ (List.mem_of_getElem? (i := 30) rfl))) Via.refl e3 (Fb2.ext Ex1) (g := (mkF m 21 #[.val (.int (74 : Int32)), .val (.ref h0.size), .val (.int (10 : Int32)), .val (.int (2 : Int32)), .val (.ref b2)] [(.ref b2)])) rfl rfl (hb hby d_prog_16_method_4_code_21)
  obtain ⟨T5, X5, e5, st5⟩ := getF X4 hx hZ hown (host := "") (Or.inl (hw _ (List.mem_of_getElem? (i := 30) rfl))) Via.refl e4 (Fb3.ext Ex1) (g := (mkF m 21 #[.val (.int (74 : Int32)), .val (.ref h0.size), .val (.int (10 : Int32)), .val (.int (3 : Int32)), .val (.ref b3)] [(.ref b3)])) rfl rfl (hb hby d_prog_16_method_4_code_21)
  obtain ⟨T6, X6, e6, st6⟩ := getF X5 hx hZ hown (host := "") (Or.inl (hw _ (List.mem_of_getElem? (i := 30) rfl))) Via.refl e5 (Fb4.ext Ex1) (g := (mkF m 21 #[.val (.int (74 : Int32)), .val (.ref h0.size), .val (.int (10 : Int32)), .val (.int (4 : Int32)), .val (.ref b4)] [(.ref b4)])) rfl rfl (hb hby d_prog_16_method_4_code_21)
  obtain ⟨T7, X7, e7, st7⟩ := getF X6 hx hZ hown (host := "") (Or.inl (hw _ (List.mem_of_getElem? (i := 30) rfl))) Via.refl e6 (Fb5.ext Ex1) (g := (mkF m 21 #[.val (.int (74 : Int32)), .val (.ref h0.size), .val (.int (10 : Int32)), .val (.int (5 : Int32)), .val (.ref b5)] [(.ref b5)])) rfl rfl (hb hby d_prog_16_method_4_code_21)
  obtain ⟨fs, hr, hrun, hended, hW, hsame⟩ := X7.leave (v := some (.ref b5)) (fun h => by rw [Bd.returns] at h; cases h)
  refine ⟨_, _, pre0 _ ?_, hrun, hended, _, _, rfl, ?_, ⟨_, rfl⟩, hW, hsame.mono (by decide) (by decide)⟩
  · show Steps p.tables e below (s₁.setTop (mkF m 0 #[.val (.int (74 : Int32)), .unset, .unset, .unset, .unset] [])) _
    refine st1 _ ?_
    show Steps p.tables e below (T1.setTop (mkF m 3 #[.val (.int (74 : Int32)), .unset, .unset, .unset, .unset] [(.ref h0.size)])) _
    refine XS.astoreN X1.here hx rfl (hb hby d_prog_16_method_4_code_3) rfl rfl (l' := #[.val (.int (74 : Int32)), .val (.ref h0.size), .unset, .unset, .unset]) rfl ?_
    show Steps p.tables e below (T1.setTop (mkF m 4 #[.val (.int (74 : Int32)), .val (.ref h0.size), .unset, .unset, .unset] [])) _
    refine XS.aloadN X1.here hx rfl (hb hby d_prog_16_method_4_code_4) rfl rfl ?_
    show Steps p.tables e below (T1.setTop (mkF m 5 #[.val (.int (74 : Int32)), .val (.ref h0.size), .unset, .unset, .unset] [(.ref h0.size)])) _
    refine X1.arraylength hx (by first | exact Ar.1 | (rw [rfl]; exact Ar.1)) (State.isArrayOf_alike hZ.alike Ar.2.1) (g := (mkF m 5 #[.val (.int (74 : Int32)), .val (.ref h0.size), .unset, .unset, .unset] [(.ref h0.size)])) rfl rfl (hb hby d_prog_16_method_4_code_5) _ ?_
    show Steps p.tables e below (T1.setTop (mkF m 6 #[.val (.int (74 : Int32)), .val (.ref h0.size), .unset, .unset, .unset] [(.int cl.slots.size.toInt32)])) _
    rw [hlen]
    show Steps p.tables e below (T1.setTop (mkF m 6 #[.val (.int (74 : Int32)), .val (.ref h0.size), .unset, .unset, .unset] [(.int (10 : Int32))])) _
    refine XS.istoreN X1.here hx rfl (hb hby d_prog_16_method_4_code_6) rfl (l' := #[.val (.int (74 : Int32)), .val (.ref h0.size), .val (.int (10 : Int32)), .unset, .unset]) rfl ?_
    show Steps p.tables e below (T1.setTop (mkF m 7 #[.val (.int (74 : Int32)), .val (.ref h0.size), .val (.int (10 : Int32)), .unset, .unset] [])) _
    refine XT.iconstV X1.here hx rfl (0 : Int32) (hb hby d_prog_16_method_4_code_7) (by decide) ?_
    show Steps p.tables e below (T1.setTop (mkF m 8 #[.val (.int (74 : Int32)), .val (.ref h0.size), .val (.int (10 : Int32)), .unset, .unset] [(.int (0 : Int32))])) _
    refine XS.istoreN X1.here hx rfl (hb hby d_prog_16_method_4_code_8) rfl (l' := #[.val (.int (74 : Int32)), .val (.ref h0.size), .val (.int (10 : Int32)), .val (.int (0 : Int32)), .unset]) rfl ?_
    show Steps p.tables e below (T1.setTop (mkF m 9 #[.val (.int (74 : Int32)), .val (.ref h0.size), .val (.int (10 : Int32)), .val (.int (0 : Int32)), .unset] [])) _
    refine XS.iloadN X1.here hx rfl (hb hby d_prog_16_method_4_code_9) rfl ?_
    show Steps p.tables e below (T1.setTop (mkF m 10 #[.val (.int (74 : Int32)), .val (.ref h0.size), .val (.int (10 : Int32)), .val (.int (0 : Int32)), .unset] [(.int (0 : Int32))])) _
    refine XS.iloadN X1.here hx rfl (hb hby d_prog_16_method_4_code_10) rfl ?_
    show Steps p.tables e below (T1.setTop (mkF m 11 #[.val (.int (74 : Int32)), .val (.ref h0.size), .val (.int (10 : Int32)), .val (.int (0 : Int32)), .unset] [(.int (10 : Int32)), (.int (0 : Int32))])) _
    refine XS.icmpNo X1.here hx rfl (hb hby d_prog_16_method_4_code_11) rfl (by decide) ?_
    show Steps p.tables e below (T1.setTop (mkF m 14 #[.val (.int (74 : Int32)), .val (.ref h0.size), .val (.int (10 : Int32)), .val (.int (0 : Int32)), .unset] [])) _
    refine XS.aloadN X1.here hx rfl (hb hby d_prog_16_method_4_code_14) rfl rfl ?_
    show Steps p.tables e below (T1.setTop (mkF m 15 #[.val (.int (74 : Int32)), .val (.ref h0.size), .val (.int (10 : Int32)), .val (.int (0 : Int32)), .unset] [(.ref h0.size)])) _
    refine XS.iloadN X1.here hx rfl (hb hby d_prog_16_method_4_code_15) rfl ?_
    show Steps p.tables e below (T1.setTop (mkF m 16 #[.val (.int (74 : Int32)), .val (.ref h0.size), .val (.int (10 : Int32)), .val (.int (0 : Int32)), .unset] [(.int (0 : Int32)), (.ref h0.size)])) _
    refine X1.aaload hx (j := (0 : Int32)) (v := (.ref b0)) (by first | exact Ar.1 | (rw [rfl]; exact Ar.1)) (State.isArrayOf_alike hZ.alike Ar.2.1) rfl Ar.2.2 (inb_of Sz ⟨by decide, by decide⟩) (Hs.at (inb_of Sz ⟨by decide, by decide⟩) rfl) (g := (mkF m 16 #[.val (.int (74 : Int32)), .val (.ref h0.size), .val (.int (10 : Int32)), .val (.int (0 : Int32)), .unset] [(.int (0 : Int32)), (.ref h0.size)])) rfl rfl (hb hby d_prog_16_method_4_code_16) _ ?_
    show Steps p.tables e below (T1.setTop (mkF m 17 #[.val (.int (74 : Int32)), .val (.ref h0.size), .val (.int (10 : Int32)), .val (.int (0 : Int32)), .unset] [(.ref b0)])) _
    refine XS.astore X1.here hx rfl (hb hby d_prog_16_method_4_code_17) rfl rfl (l' := #[.val (.int (74 : Int32)), .val (.ref h0.size), .val (.int (10 : Int32)), .val (.int (0 : Int32)), .val (.ref b0)]) rfl ?_
    show Steps p.tables e below (T1.setTop (mkF m 19 #[.val (.int (74 : Int32)), .val (.ref h0.size), .val (.int (10 : Int32)), .val (.int (0 : Int32)), .val (.ref b0)] [])) _
    refine XS.aload X1.here hx rfl (hb hby d_prog_16_method_4_code_19) rfl rfl ?_
    show Steps p.tables e below (T1.setTop (mkF m 21 #[.val (.int (74 : Int32)), .val (.ref h0.size), .val (.int (10 : Int32)), .val (.int (0 : Int32)), .val (.ref b0)] [(.ref b0)])) _
    refine st2 _ ?_
    show Steps p.tables e below (T2.setTop (mkF m 24 #[.val (.int (74 : Int32)), .val (.ref h0.size), .val (.int (10 : Int32)), .val (.int (0 : Int32)), .val (.ref b0)] [(.int (96 : Int32))])) _
    refine XS.iloadN X2.here hx rfl (hb hby d_prog_16_method_4_code_24) rfl ?_
    show Steps p.tables e below (T2.setTop (mkF m 25 #[.val (.int (74 : Int32)), .val (.ref h0.size), .val (.int (10 : Int32)), .val (.int (0 : Int32)), .val (.ref b0)] [(.int (74 : Int32)), (.int (96 : Int32))])) _
    refine XS.icmpYes X2.here hx rfl (pc0 := 25) (pc' := 31) rfl (hb hby d_prog_16_method_4_code_25) rfl (by decide) (by decide) (by decide) ?_
    show Steps p.tables e below (T2.setTop (mkF m 31 #[.val (.int (74 : Int32)), .val (.ref h0.size), .val (.int (10 : Int32)), .val (.int (0 : Int32)), .val (.ref b0)] [])) _
    refine XT.iincV X2.here hx rfl (1 : Int32) (hb hby d_prog_16_method_4_code_31) (by decide) rfl (l' := #[.val (.int (74 : Int32)), .val (.ref h0.size), .val (.int (10 : Int32)), .val (.int (1 : Int32)), .val (.ref b0)]) rfl ?_
    show Steps p.tables e below (T2.setTop (mkF m 34 #[.val (.int (74 : Int32)), .val (.ref h0.size), .val (.int (10 : Int32)), .val (.int (1 : Int32)), .val (.ref b0)] [])) _
    refine XS.goto X2.here hx rfl (pc0 := 34) (pc' := 9) rfl (hb hby d_prog_16_method_4_code_34) (by decide) (by decide) ?_
    show Steps p.tables e below (T2.setTop (mkF m 9 #[.val (.int (74 : Int32)), .val (.ref h0.size), .val (.int (10 : Int32)), .val (.int (1 : Int32)), .val (.ref b0)] [])) _
    refine XS.iloadN X2.here hx rfl (hb hby d_prog_16_method_4_code_9) rfl ?_
    show Steps p.tables e below (T2.setTop (mkF m 10 #[.val (.int (74 : Int32)), .val (.ref h0.size), .val (.int (10 : Int32)), .val (.int (1 : Int32)), .val (.ref b0)] [(.int (1 : Int32))])) _
    refine XS.iloadN X2.here hx rfl (hb hby d_prog_16_method_4_code_10) rfl ?_
    show Steps p.tables e below (T2.setTop (mkF m 11 #[.val (.int (74 : Int32)), .val (.ref h0.size), .val (.int (10 : Int32)), .val (.int (1 : Int32)), .val (.ref b0)] [(.int (10 : Int32)), (.int (1 : Int32))])) _
    refine XS.icmpNo X2.here hx rfl (hb hby d_prog_16_method_4_code_11) rfl (by decide) ?_
    show Steps p.tables e below (T2.setTop (mkF m 14 #[.val (.int (74 : Int32)), .val (.ref h0.size), .val (.int (10 : Int32)), .val (.int (1 : Int32)), .val (.ref b0)] [])) _
    refine XS.aloadN X2.here hx rfl (hb hby d_prog_16_method_4_code_14) rfl rfl ?_
    show Steps p.tables e below (T2.setTop (mkF m 15 #[.val (.int (74 : Int32)), .val (.ref h0.size), .val (.int (10 : Int32)), .val (.int (1 : Int32)), .val (.ref b0)] [(.ref h0.size)])) _
    refine XS.iloadN X2.here hx rfl (hb hby d_prog_16_method_4_code_15) rfl ?_
    show Steps p.tables e below (T2.setTop (mkF m 16 #[.val (.int (74 : Int32)), .val (.ref h0.size), .val (.int (10 : Int32)), .val (.int (1 : Int32)), .val (.ref b0)] [(.int (1 : Int32)), (.ref h0.size)])) _
    refine X2.aaload hx (j := (1 : Int32)) (v := (.ref b1)) (by first | exact Ar.1 | (rw [e2]; exact Ar.1)) (State.isArrayOf_alike hZ.alike Ar.2.1) rfl Ar.2.2 (inb_of Sz ⟨by decide, by decide⟩) (Hs.at (inb_of Sz ⟨by decide, by decide⟩) rfl) (g := (mkF m 16 #[.val (.int (74 : Int32)), .val (.ref h0.size), .val (.int (10 : Int32)), .val (.int (1 : Int32)), .val (.ref b0)] [(.int (1 : Int32)), (.ref h0.size)])) rfl rfl (hb hby d_prog_16_method_4_code_16) _ ?_
    show Steps p.tables e below (T2.setTop (mkF m 17 #[.val (.int (74 : Int32)), .val (.ref h0.size), .val (.int (10 : Int32)), .val (.int (1 : Int32)), .val (.ref b0)] [(.ref b1)])) _
    refine XS.astore X2.here hx rfl (hb hby d_prog_16_method_4_code_17) rfl rfl (l' := #[.val (.int (74 : Int32)), .val (.ref h0.size), .val (.int (10 : Int32)), .val (.int (1 : Int32)), .val (.ref b1)]) rfl ?_
    show Steps p.tables e below (T2.setTop (mkF m 19 #[.val (.int (74 : Int32)), .val (.ref h0.size), .val (.int (10 : Int32)), .val (.int (1 : Int32)), .val (.ref b1)] [])) _
    refine XS.aload X2.here hx rfl (hb hby d_prog_16_method_4_code_19) rfl rfl ?_
    show Steps p.tables e below (T2.setTop (mkF m 21 #[.val (.int (74 : Int32)), .val (.ref h0.size), .val (.int (10 : Int32)), .val (.int (1 : Int32)), .val (.ref b1)] [(.ref b1)])) _
    refine st3 _ ?_
    show Steps p.tables e below (T3.setTop (mkF m 24 #[.val (.int (74 : Int32)), .val (.ref h0.size), .val (.int (10 : Int32)), .val (.int (1 : Int32)), .val (.ref b1)] [(.int (66 : Int32))])) _
    refine XS.iloadN X3.here hx rfl (hb hby d_prog_16_method_4_code_24) rfl ?_
    show Steps p.tables e below (T3.setTop (mkF m 25 #[.val (.int (74 : Int32)), .val (.ref h0.size), .val (.int (10 : Int32)), .val (.int (1 : Int32)), .val (.ref b1)] [(.int (74 : Int32)), (.int (66 : Int32))])) _
    refine XS.icmpYes X3.here hx rfl (pc0 := 25) (pc' := 31) rfl (hb hby d_prog_16_method_4_code_25) rfl (by decide) (by decide) (by decide) ?_
    show Steps p.tables e below (T3.setTop (mkF m 31 #[.val (.int (74 : Int32)), .val (.ref h0.size), .val (.int (10 : Int32)), .val (.int (1 : Int32)), .val (.ref b1)] [])) _
    refine XT.iincV X3.here hx rfl (1 : Int32) (hb hby d_prog_16_method_4_code_31) (by decide) rfl (l' := #[.val (.int (74 : Int32)), .val (.ref h0.size), .val (.int (10 : Int32)), .val (.int (2 : Int32)), .val (.ref b1)]) rfl ?_
    show Steps p.tables e below (T3.setTop (mkF m 34 #[.val (.int (74 : Int32)), .val (.ref h0.size), .val (.int (10 : Int32)), .val (.int (2 : Int32)), .val (.ref b1)] [])) _
    refine XS.goto X3.here hx rfl (pc0 := 34) (pc' := 9) rfl (hb hby d_prog_16_method_4_code_34) (by decide) (by decide) ?_
    show Steps p.tables e below (T3.setTop (mkF m 9 #[.val (.int (74 : Int32)), .val (.ref h0.size), .val (.int (10 : Int32)), .val (.int (2 : Int32)), .val (.ref b1)] [])) _
    refine XS.iloadN X3.here hx rfl (hb hby d_prog_16_method_4_code_9) rfl ?_
    show Steps p.tables e below (T3.setTop (mkF m 10 #[.val (.int (74 : Int32)), .val (.ref h0.size), .val (.int (10 : Int32)), .val (.int (2 : Int32)), .val (.ref b1)] [(.int (2 : Int32))])) _
    refine XS.iloadN X3.here hx rfl (hb hby d_prog_16_method_4_code_10) rfl ?_
    show Steps p.tables e below (T3.setTop (mkF m 11 #[.val (.int (74 : Int32)), .val (.ref h0.size), .val (.int (10 : Int32)), .val (.int (2 : Int32)), .val (.ref b1)] [(.int (10 : Int32)), (.int (2 : Int32))])) _
    refine XS.icmpNo X3.here hx rfl (hb hby d_prog_16_method_4_code_11) rfl (by decide) ?_
    show Steps p.tables e below (T3.setTop (mkF m 14 #[.val (.int (74 : Int32)), .val (.ref h0.size), .val (.int (10 : Int32)), .val (.int (2 : Int32)), .val (.ref b1)] [])) _
    refine XS.aloadN X3.here hx rfl (hb hby d_prog_16_method_4_code_14) rfl rfl ?_
    show Steps p.tables e below (T3.setTop (mkF m 15 #[.val (.int (74 : Int32)), .val (.ref h0.size), .val (.int (10 : Int32)), .val (.int (2 : Int32)), .val (.ref b1)] [(.ref h0.size)])) _
    refine XS.iloadN X3.here hx rfl (hb hby d_prog_16_method_4_code_15) rfl ?_
    show Steps p.tables e below (T3.setTop (mkF m 16 #[.val (.int (74 : Int32)), .val (.ref h0.size), .val (.int (10 : Int32)), .val (.int (2 : Int32)), .val (.ref b1)] [(.int (2 : Int32)), (.ref h0.size)])) _
    refine X3.aaload hx (j := (2 : Int32)) (v := (.ref b2)) (by first | exact Ar.1 | (rw [e3]; exact Ar.1)) (State.isArrayOf_alike hZ.alike Ar.2.1) rfl Ar.2.2 (inb_of Sz ⟨by decide, by decide⟩) (Hs.at (inb_of Sz ⟨by decide, by decide⟩) rfl) (g := (mkF m 16 #[.val (.int (74 : Int32)), .val (.ref h0.size), .val (.int (10 : Int32)), .val (.int (2 : Int32)), .val (.ref b1)] [(.int (2 : Int32)), (.ref h0.size)])) rfl rfl (hb hby d_prog_16_method_4_code_16) _ ?_
    show Steps p.tables e below (T3.setTop (mkF m 17 #[.val (.int (74 : Int32)), .val (.ref h0.size), .val (.int (10 : Int32)), .val (.int (2 : Int32)), .val (.ref b1)] [(.ref b2)])) _
    refine XS.astore X3.here hx rfl (hb hby d_prog_16_method_4_code_17) rfl rfl (l' := #[.val (.int (74 : Int32)), .val (.ref h0.size), .val (.int (10 : Int32)), .val (.int (2 : Int32)), .val (.ref b2)]) rfl ?_
    show Steps p.tables e below (T3.setTop (mkF m 19 #[.val (.int (74 : Int32)), .val (.ref h0.size), .val (.int (10 : Int32)), .val (.int (2 : Int32)), .val (.ref b2)] [])) _
    refine XS.aload X3.here hx rfl (hb hby d_prog_16_method_4_code_19) rfl rfl ?_
    show Steps p.tables e below (T3.setTop (mkF m 21 #[.val (.int (74 : Int32)), .val (.ref h0.size), .val (.int (10 : Int32)), .val (.int (2 : Int32)), .val (.ref b2)] [(.ref b2)])) _
    refine st4 _ ?_
    show Steps p.tables e below (T4.setTop (mkF m 24 #[.val (.int (74 : Int32)), .val (.ref h0.size), .val (.int (10 : Int32)), .val (.int (2 : Int32)), .val (.ref b2)] [(.int (99 : Int32))])) _
    refine XS.iloadN X4.here hx rfl (hb hby d_prog_16_method_4_code_24) rfl ?_
    show Steps p.tables e below (T4.setTop (mkF m 25 #[.val (.int (74 : Int32)), .val (.ref h0.size), .val (.int (10 : Int32)), .val (.int (2 : Int32)), .val (.ref b2)] [(.int (74 : Int32)), (.int (99 : Int32))])) _
    refine XS.icmpYes X4.here hx rfl (pc0 := 25) (pc' := 31) rfl (hb hby d_prog_16_method_4_code_25) rfl (by decide) (by decide) (by decide) ?_
    show Steps p.tables e below (T4.setTop (mkF m 31 #[.val (.int (74 : Int32)), .val (.ref h0.size), .val (.int (10 : Int32)), .val (.int (2 : Int32)), .val (.ref b2)] [])) _
    refine XT.iincV X4.here hx rfl (1 : Int32) (hb hby d_prog_16_method_4_code_31) (by decide) rfl (l' := #[.val (.int (74 : Int32)), .val (.ref h0.size), .val (.int (10 : Int32)), .val (.int (3 : Int32)), .val (.ref b2)]) rfl ?_
    show Steps p.tables e below (T4.setTop (mkF m 34 #[.val (.int (74 : Int32)), .val (.ref h0.size), .val (.int (10 : Int32)), .val (.int (3 : Int32)), .val (.ref b2)] [])) _
    refine XS.goto X4.here hx rfl (pc0 := 34) (pc' := 9) rfl (hb hby d_prog_16_method_4_code_34) (by decide) (by decide) ?_
    show Steps p.tables e below (T4.setTop (mkF m 9 #[.val (.int (74 : Int32)), .val (.ref h0.size), .val (.int (10 : Int32)), .val (.int (3 : Int32)), .val (.ref b2)] [])) _
    refine XS.iloadN X4.here hx rfl (hb hby d_prog_16_method_4_code_9) rfl ?_
    show Steps p.tables e below (T4.setTop (mkF m 10 #[.val (.int (74 : Int32)), .val (.ref h0.size), .val (.int (10 : Int32)), .val (.int (3 : Int32)), .val (.ref b2)] [(.int (3 : Int32))])) _
    refine XS.iloadN X4.here hx rfl (hb hby d_prog_16_method_4_code_10) rfl ?_
    show Steps p.tables e below (T4.setTop (mkF m 11 #[.val (.int (74 : Int32)), .val (.ref h0.size), .val (.int (10 : Int32)), .val (.int (3 : Int32)), .val (.ref b2)] [(.int (10 : Int32)), (.int (3 : Int32))])) _
    refine XS.icmpNo X4.here hx rfl (hb hby d_prog_16_method_4_code_11) rfl (by decide) ?_
    show Steps p.tables e below (T4.setTop (mkF m 14 #[.val (.int (74 : Int32)), .val (.ref h0.size), .val (.int (10 : Int32)), .val (.int (3 : Int32)), .val (.ref b2)] [])) _
    refine XS.aloadN X4.here hx rfl (hb hby d_prog_16_method_4_code_14) rfl rfl ?_
    show Steps p.tables e below (T4.setTop (mkF m 15 #[.val (.int (74 : Int32)), .val (.ref h0.size), .val (.int (10 : Int32)), .val (.int (3 : Int32)), .val (.ref b2)] [(.ref h0.size)])) _
    refine XS.iloadN X4.here hx rfl (hb hby d_prog_16_method_4_code_15) rfl ?_
    show Steps p.tables e below (T4.setTop (mkF m 16 #[.val (.int (74 : Int32)), .val (.ref h0.size), .val (.int (10 : Int32)), .val (.int (3 : Int32)), .val (.ref b2)] [(.int (3 : Int32)), (.ref h0.size)])) _
    refine X4.aaload hx (j := (3 : Int32)) (v := (.ref b3)) (by first | exact Ar.1 | (rw [e4]; exact Ar.1)) (State.isArrayOf_alike hZ.alike Ar.2.1) rfl Ar.2.2 (inb_of Sz ⟨by decide, by decide⟩) (Hs.at (inb_of Sz ⟨by decide, by decide⟩) rfl) (g := (mkF m 16 #[.val (.int (74 : Int32)), .val (.ref h0.size), .val (.int (10 : Int32)), .val (.int (3 : Int32)), .val (.ref b2)] [(.int (3 : Int32)), (.ref h0.size)])) rfl rfl (hb hby d_prog_16_method_4_code_16) _ ?_
    show Steps p.tables e below (T4.setTop (mkF m 17 #[.val (.int (74 : Int32)), .val (.ref h0.size), .val (.int (10 : Int32)), .val (.int (3 : Int32)), .val (.ref b2)] [(.ref b3)])) _
    refine XS.astore X4.here hx rfl (hb hby d_prog_16_method_4_code_17) rfl rfl (l' := #[.val (.int (74 : Int32)), .val (.ref h0.size), .val (.int (10 : Int32)), .val (.int (3 : Int32)), .val (.ref b3)]) rfl ?_
    show Steps p.tables e below (T4.setTop (mkF m 19 #[.val (.int (74 : Int32)), .val (.ref h0.size), .val (.int (10 : Int32)), .val (.int (3 : Int32)), .val (.ref b3)] [])) _
    refine XS.aload X4.here hx rfl (hb hby d_prog_16_method_4_code_19) rfl rfl ?_
    show Steps p.tables e below (T4.setTop (mkF m 21 #[.val (.int (74 : Int32)), .val (.ref h0.size), .val (.int (10 : Int32)), .val (.int (3 : Int32)), .val (.ref b3)] [(.ref b3)])) _
    refine st5 _ ?_
    show Steps p.tables e below (T5.setTop (mkF m 24 #[.val (.int (74 : Int32)), .val (.ref h0.size), .val (.int (10 : Int32)), .val (.int (3 : Int32)), .val (.ref b3)] [(.int (102 : Int32))])) _
    refine XS.iloadN X5.here hx rfl (hb hby d_prog_16_method_4_code_24) rfl ?_
    show Steps p.tables e below (T5.setTop (mkF m 25 #[.val (.int (74 : Int32)), .val (.ref h0.size), .val (.int (10 : Int32)), .val (.int (3 : Int32)), .val (.ref b3)] [(.int (74 : Int32)), (.int (102 : Int32))])) _
    refine XS.icmpYes X5.here hx rfl (pc0 := 25) (pc' := 31) rfl (hb hby d_prog_16_method_4_code_25) rfl (by decide) (by decide) (by decide) ?_
    show Steps p.tables e below (T5.setTop (mkF m 31 #[.val (.int (74 : Int32)), .val (.ref h0.size), .val (.int (10 : Int32)), .val (.int (3 : Int32)), .val (.ref b3)] [])) _
    refine XT.iincV X5.here hx rfl (1 : Int32) (hb hby d_prog_16_method_4_code_31) (by decide) rfl (l' := #[.val (.int (74 : Int32)), .val (.ref h0.size), .val (.int (10 : Int32)), .val (.int (4 : Int32)), .val (.ref b3)]) rfl ?_
    show Steps p.tables e below (T5.setTop (mkF m 34 #[.val (.int (74 : Int32)), .val (.ref h0.size), .val (.int (10 : Int32)), .val (.int (4 : Int32)), .val (.ref b3)] [])) _
    refine XS.goto X5.here hx rfl (pc0 := 34) (pc' := 9) rfl (hb hby d_prog_16_method_4_code_34) (by decide) (by decide) ?_
    show Steps p.tables e below (T5.setTop (mkF m 9 #[.val (.int (74 : Int32)), .val (.ref h0.size), .val (.int (10 : Int32)), .val (.int (4 : Int32)), .val (.ref b3)] [])) _
    refine XS.iloadN X5.here hx rfl (hb hby d_prog_16_method_4_code_9) rfl ?_
    show Steps p.tables e below (T5.setTop (mkF m 10 #[.val (.int (74 : Int32)), .val (.ref h0.size), .val (.int (10 : Int32)), .val (.int (4 : Int32)), .val (.ref b3)] [(.int (4 : Int32))])) _
    refine XS.iloadN X5.here hx rfl (hb hby d_prog_16_method_4_code_10) rfl ?_
    show Steps p.tables e below (T5.setTop (mkF m 11 #[.val (.int (74 : Int32)), .val (.ref h0.size), .val (.int (10 : Int32)), .val (.int (4 : Int32)), .val (.ref b3)] [(.int (10 : Int32)), (.int (4 : Int32))])) _
    refine XS.icmpNo X5.here hx rfl (hb hby d_prog_16_method_4_code_11) rfl (by decide) ?_
    show Steps p.tables e below (T5.setTop (mkF m 14 #[.val (.int (74 : Int32)), .val (.ref h0.size), .val (.int (10 : Int32)), .val (.int (4 : Int32)), .val (.ref b3)] [])) _
    refine XS.aloadN X5.here hx rfl (hb hby d_prog_16_method_4_code_14) rfl rfl ?_
    show Steps p.tables e below (T5.setTop (mkF m 15 #[.val (.int (74 : Int32)), .val (.ref h0.size), .val (.int (10 : Int32)), .val (.int (4 : Int32)), .val (.ref b3)] [(.ref h0.size)])) _
    refine XS.iloadN X5.here hx rfl (hb hby d_prog_16_method_4_code_15) rfl ?_
    show Steps p.tables e below (T5.setTop (mkF m 16 #[.val (.int (74 : Int32)), .val (.ref h0.size), .val (.int (10 : Int32)), .val (.int (4 : Int32)), .val (.ref b3)] [(.int (4 : Int32)), (.ref h0.size)])) _
    refine X5.aaload hx (j := (4 : Int32)) (v := (.ref b4)) (by first | exact Ar.1 | (rw [e5]; exact Ar.1)) (State.isArrayOf_alike hZ.alike Ar.2.1) rfl Ar.2.2 (inb_of Sz ⟨by decide, by decide⟩) (Hs.at (inb_of Sz ⟨by decide, by decide⟩) rfl) (g := (mkF m 16 #[.val (.int (74 : Int32)), .val (.ref h0.size), .val (.int (10 : Int32)), .val (.int (4 : Int32)), .val (.ref b3)] [(.int (4 : Int32)), (.ref h0.size)])) rfl rfl (hb hby d_prog_16_method_4_code_16) _ ?_
    show Steps p.tables e below (T5.setTop (mkF m 17 #[.val (.int (74 : Int32)), .val (.ref h0.size), .val (.int (10 : Int32)), .val (.int (4 : Int32)), .val (.ref b3)] [(.ref b4)])) _
    refine XS.astore X5.here hx rfl (hb hby d_prog_16_method_4_code_17) rfl rfl (l' := #[.val (.int (74 : Int32)), .val (.ref h0.size), .val (.int (10 : Int32)), .val (.int (4 : Int32)), .val (.ref b4)]) rfl ?_
    show Steps p.tables e below (T5.setTop (mkF m 19 #[.val (.int (74 : Int32)), .val (.ref h0.size), .val (.int (10 : Int32)), .val (.int (4 : Int32)), .val (.ref b4)] [])) _
    refine XS.aload X5.here hx rfl (hb hby d_prog_16_method_4_code_19) rfl rfl ?_
    show Steps p.tables e below (T5.setTop (mkF m 21 #[.val (.int (74 : Int32)), .val (.ref h0.size), .val (.int (10 : Int32)), .val (.int (4 : Int32)), .val (.ref b4)] [(.ref b4)])) _
    refine st6 _ ?_
    show Steps p.tables e below (T6.setTop (mkF m 24 #[.val (.int (74 : Int32)), .val (.ref h0.size), .val (.int (10 : Int32)), .val (.int (4 : Int32)), .val (.ref b4)] [(.int (104 : Int32))])) _
    refine XS.iloadN X6.here hx rfl (hb hby d_prog_16_method_4_code_24) rfl ?_
    show Steps p.tables e below (T6.setTop (mkF m 25 #[.val (.int (74 : Int32)), .val (.ref h0.size), .val (.int (10 : Int32)), .val (.int (4 : Int32)), .val (.ref b4)] [(.int (74 : Int32)), (.int (104 : Int32))])) _
    refine XS.icmpYes X6.here hx rfl (pc0 := 25) (pc' := 31) rfl (hb hby d_prog_16_method_4_code_25) rfl (by decide) (by decide) (by decide) ?_
    show Steps p.tables e below (T6.setTop (mkF m 31 #[.val (.int (74 : Int32)), .val (.ref h0.size), .val (.int (10 : Int32)), .val (.int (4 : Int32)), .val (.ref b4)] [])) _
    refine XT.iincV X6.here hx rfl (1 : Int32) (hb hby d_prog_16_method_4_code_31) (by decide) rfl (l' := #[.val (.int (74 : Int32)), .val (.ref h0.size), .val (.int (10 : Int32)), .val (.int (5 : Int32)), .val (.ref b4)]) rfl ?_
    show Steps p.tables e below (T6.setTop (mkF m 34 #[.val (.int (74 : Int32)), .val (.ref h0.size), .val (.int (10 : Int32)), .val (.int (5 : Int32)), .val (.ref b4)] [])) _
    refine XS.goto X6.here hx rfl (pc0 := 34) (pc' := 9) rfl (hb hby d_prog_16_method_4_code_34) (by decide) (by decide) ?_
    show Steps p.tables e below (T6.setTop (mkF m 9 #[.val (.int (74 : Int32)), .val (.ref h0.size), .val (.int (10 : Int32)), .val (.int (5 : Int32)), .val (.ref b4)] [])) _
    refine XS.iloadN X6.here hx rfl (hb hby d_prog_16_method_4_code_9) rfl ?_
    show Steps p.tables e below (T6.setTop (mkF m 10 #[.val (.int (74 : Int32)), .val (.ref h0.size), .val (.int (10 : Int32)), .val (.int (5 : Int32)), .val (.ref b4)] [(.int (5 : Int32))])) _
    refine XS.iloadN X6.here hx rfl (hb hby d_prog_16_method_4_code_10) rfl ?_
    show Steps p.tables e below (T6.setTop (mkF m 11 #[.val (.int (74 : Int32)), .val (.ref h0.size), .val (.int (10 : Int32)), .val (.int (5 : Int32)), .val (.ref b4)] [(.int (10 : Int32)), (.int (5 : Int32))])) _
    refine XS.icmpNo X6.here hx rfl (hb hby d_prog_16_method_4_code_11) rfl (by decide) ?_
    show Steps p.tables e below (T6.setTop (mkF m 14 #[.val (.int (74 : Int32)), .val (.ref h0.size), .val (.int (10 : Int32)), .val (.int (5 : Int32)), .val (.ref b4)] [])) _
    refine XS.aloadN X6.here hx rfl (hb hby d_prog_16_method_4_code_14) rfl rfl ?_
    show Steps p.tables e below (T6.setTop (mkF m 15 #[.val (.int (74 : Int32)), .val (.ref h0.size), .val (.int (10 : Int32)), .val (.int (5 : Int32)), .val (.ref b4)] [(.ref h0.size)])) _
    refine XS.iloadN X6.here hx rfl (hb hby d_prog_16_method_4_code_15) rfl ?_
    show Steps p.tables e below (T6.setTop (mkF m 16 #[.val (.int (74 : Int32)), .val (.ref h0.size), .val (.int (10 : Int32)), .val (.int (5 : Int32)), .val (.ref b4)] [(.int (5 : Int32)), (.ref h0.size)])) _
    refine X6.aaload hx (j := (5 : Int32)) (v := (.ref b5)) (by first | exact Ar.1 | (rw [e6]; exact Ar.1)) (State.isArrayOf_alike hZ.alike Ar.2.1) rfl Ar.2.2 (inb_of Sz ⟨by decide, by decide⟩) (Hs.at (inb_of Sz ⟨by decide, by decide⟩) rfl) (g := (mkF m 16 #[.val (.int (74 : Int32)), .val (.ref h0.size), .val (.int (10 : Int32)), .val (.int (5 : Int32)), .val (.ref b4)] [(.int (5 : Int32)), (.ref h0.size)])) rfl rfl (hb hby d_prog_16_method_4_code_16) _ ?_
    show Steps p.tables e below (T6.setTop (mkF m 17 #[.val (.int (74 : Int32)), .val (.ref h0.size), .val (.int (10 : Int32)), .val (.int (5 : Int32)), .val (.ref b4)] [(.ref b5)])) _
    refine XS.astore X6.here hx rfl (hb hby d_prog_16_method_4_code_17) rfl rfl (l' := #[.val (.int (74 : Int32)), .val (.ref h0.size), .val (.int (10 : Int32)), .val (.int (5 : Int32)), .val (.ref b5)]) rfl ?_
    show Steps p.tables e below (T6.setTop (mkF m 19 #[.val (.int (74 : Int32)), .val (.ref h0.size), .val (.int (10 : Int32)), .val (.int (5 : Int32)), .val (.ref b5)] [])) _
    refine XS.aload X6.here hx rfl (hb hby d_prog_16_method_4_code_19) rfl rfl ?_
    show Steps p.tables e below (T6.setTop (mkF m 21 #[.val (.int (74 : Int32)), .val (.ref h0.size), .val (.int (10 : Int32)), .val (.int (5 : Int32)), .val (.ref b5)] [(.ref b5)])) _
    refine st7 _ ?_
    show Steps p.tables e below (T7.setTop (mkF m 24 #[.val (.int (74 : Int32)), .val (.ref h0.size), .val (.int (10 : Int32)), .val (.int (5 : Int32)), .val (.ref b5)] [(.int (74 : Int32))])) _
    refine XS.iloadN X7.here hx rfl (hb hby d_prog_16_method_4_code_24) rfl ?_
    show Steps p.tables e below (T7.setTop (mkF m 25 #[.val (.int (74 : Int32)), .val (.ref h0.size), .val (.int (10 : Int32)), .val (.int (5 : Int32)), .val (.ref b5)] [(.int (74 : Int32)), (.int (74 : Int32))])) _
    refine XS.icmpNo X7.here hx rfl (hb hby d_prog_16_method_4_code_25) rfl (by decide) ?_
    show Steps p.tables e below (T7.setTop (mkF m 28 #[.val (.int (74 : Int32)), .val (.ref h0.size), .val (.int (10 : Int32)), .val (.int (5 : Int32)), .val (.ref b5)] [])) _
    refine XS.aload X7.here hx rfl (hb hby d_prog_16_method_4_code_28) rfl rfl ?_
    show Steps p.tables e below (T7.setTop (mkF m 30 #[.val (.int (74 : Int32)), .val (.ref h0.size), .val (.int (10 : Int32)), .val (.int (5 : Int32)), .val (.ref b5)] [(.ref b5)])) _
    exact retOut X7 hx Bd.returns rfl (Or.inr (Or.inr (Or.inr (Or.inr ⟨rfl, rfl, rfl⟩)))) (hb hby d_prog_16_method_4_code_30) hr
  · exact ⟨rfl, N1, by show Ext h0 T7.heap; rw [e7]; exact Ex1⟩
theorem d_method_2_code_50 : decode method_2_code 50 = .ok (.iload_n 0, 1) := by decide +kernel
theorem d_method_2_code_51 : decode method_2_code 51 = .ok (.bipush 74, 2) := by decide +kernel
theorem d_method_2_code_53 : decode method_2_code 53 = .ok (.if_icmp .ne 7, 3) := by decide +kernel
theorem d_method_2_code_56 : decode method_2_code 56 = .ok (.getstatic 25, 3) := by decide +kernel
theorem d_method_2_code_59 : decode method_2_code 59 = .ok (.areturn, 1) := by decide +kernel
def Q_exp_5 (Z : State) (b5 : Addr) (h0 : Heap) (n0 : Nat) (v : Option Value) (h : Heap) (L : List Loc) : Prop := v = some (.ref b5) ∧ Fr n0 L ∧ h = h0
set_option maxRecDepth 65536 in
set_option maxHeartbeats 40000000 in
theorem exp_5 (l : Launch) (Z : State) (a0 : Array Value) (hw : ∀ d ∈ tables_1, d.before a0 Z = true) (ws : List Jvm.Cond) (b5 : Addr) (h0 : Heap) (n0 : Nat) (Z0 : n0 ≤ h0.size) (Sb5 : Sta Z h0 "com/example/keyward/keyward/LdapOperation" "DELETE" "Lcom/example/keyward/keyward/LdapOperation;" (.ref b5)) :
    MetFree l (⟨"com/example/keyward/keyward/LdapOperationForRequestTagPinLaw", "expected", "(I)Lcom/example/keyward/keyward/LdapOperation;"⟩ : MethodName) (head1 (Jvm.Cond.code (⟨"com/example/keyward/keyward/LdapOperationForRequestTagPinLaw", "expected", "(I)Lcom/example/keyward/keyward/LdapOperation;"⟩ : MethodName) method_2_code 1 (Option.some (Jvm.ClassFile.FieldType.object "com/example/keyward/keyward/LdapOperation")) :: ws) ({ frames := 0, cells := 0, slots := 0, locals := 0 } : Room)) (fun a U => a = #[(.int (74 : Int32))] ∧ Z.Warmed39 U.vm ∧ U.heap = h0) (fun _ _ _ _ _ => True) (fun _ U o U' => ∃ v L, o = .returned v ∧ Q_exp_5 Z b5 h0 n0 v U'.heap L ∧ FrameEnd U o U' L ({ frames := 0, cells := 0, slots := 0, locals := 0 } : Room).cells ({ frames := 0, cells := 0, slots := 0, locals := 0 } : Room).slots) := by
  refine MetFree.of_bodySF (plainFor_of_name pn_34) hisR ?_
  intro p e s m args below meth c s₁ Bd hml0 hP hK
  obtain ⟨rfl, hZ, hh⟩ := hP
  have hx := Bd.exec
  have hby := Bd.bytes
  have hml : c.maxLocals = 1 := hml0
  have hown : s.vm.findClass "com/example/keyward/keyward/LdapOperationForRequestTagPinLaw" = some m.cls := findClass_of_methodNamed Bd.named
  have hnm := (name_of_methodNamed Bd.named Bd.method).1
  have X0 : Stand p l e ({ frames := 0, cells := 0, slots := 0, locals := 0 } : Room) s m #[(.int (74 : Int32))] below meth c s₁ [] 0 0 := Stand.of_body Bd
  have e0 : s₁.heap = h0 := by rw [← hh, Bd.state]; rfl
  have N0 := Fr.nil n0
  have pre0 : ∀ t, Steps p.tables e below (s₁.setTop (mkF m 0 #[.val (.int (74 : Int32))] [])) t → Steps p.tables e below (s₁.setTop (entryFrame m #[(.int (74 : Int32))] 1)) t := fun t k => castTop (ef_33 m (74 : Int32)) k
  obtain ⟨T1, X1, e1, st1⟩ := getS X0 hx hZ (host := "") hown (hw _ (List.mem_of_getElem? (i := 40) rfl)) Via.refl e0 Sb5 (g := (mkF m 56 #[.val (.int (74 : Int32))] [])) rfl (hb hby d_method_2_code_56)
  obtain ⟨fs, hr, hrun, hended, hW, hsame⟩ := X1.leave (v := some (.ref b5)) (fun h => by rw [Bd.returns] at h; cases h)
  refine ⟨_, _, pre0 _ ?_, hrun, hended, _, _, rfl, ?_, ⟨_, rfl⟩, hW, hsame.mono (by decide) (by decide)⟩
  · show Steps p.tables e below (s₁.setTop (mkF m 0 #[.val (.int (74 : Int32))] [])) _
    refine XS.iloadN X0.here hx rfl (hb hby d_method_2_code_0) rfl ?_
    show Steps p.tables e below (s₁.setTop (mkF m 1 #[.val (.int (74 : Int32))] [(.int (74 : Int32))])) _
    refine XT.bipushV X0.here hx rfl (96 : Int32) (hb hby d_method_2_code_1) (by decide) ?_
    show Steps p.tables e below (s₁.setTop (mkF m 3 #[.val (.int (74 : Int32))] [(.int (96 : Int32)), (.int (74 : Int32))])) _
    refine XS.icmpYes X0.here hx rfl (pc0 := 3) (pc' := 10) rfl (hb hby d_method_2_code_3) rfl (by decide) (by decide) (by decide) ?_
    show Steps p.tables e below (s₁.setTop (mkF m 10 #[.val (.int (74 : Int32))] [])) _
    refine XS.iloadN X0.here hx rfl (hb hby d_method_2_code_10) rfl ?_
    show Steps p.tables e below (s₁.setTop (mkF m 11 #[.val (.int (74 : Int32))] [(.int (74 : Int32))])) _
    refine XT.bipushV X0.here hx rfl (66 : Int32) (hb hby d_method_2_code_11) (by decide) ?_
    show Steps p.tables e below (s₁.setTop (mkF m 13 #[.val (.int (74 : Int32))] [(.int (66 : Int32)), (.int (74 : Int32))])) _
    refine XS.icmpYes X0.here hx rfl (pc0 := 13) (pc' := 20) rfl (hb hby d_method_2_code_13) rfl (by decide) (by decide) (by decide) ?_
    show Steps p.tables e below (s₁.setTop (mkF m 20 #[.val (.int (74 : Int32))] [])) _
    refine XS.iloadN X0.here hx rfl (hb hby d_method_2_code_20) rfl ?_
    show Steps p.tables e below (s₁.setTop (mkF m 21 #[.val (.int (74 : Int32))] [(.int (74 : Int32))])) _
    refine XT.bipushV X0.here hx rfl (99 : Int32) (hb hby d_method_2_code_21) (by decide) ?_
    show Steps p.tables e below (s₁.setTop (mkF m 23 #[.val (.int (74 : Int32))] [(.int (99 : Int32)), (.int (74 : Int32))])) _
    refine XS.icmpYes X0.here hx rfl (pc0 := 23) (pc' := 30) rfl (hb hby d_method_2_code_23) rfl (by decide) (by decide) (by decide) ?_
    show Steps p.tables e below (s₁.setTop (mkF m 30 #[.val (.int (74 : Int32))] [])) _
    refine XS.iloadN X0.here hx rfl (hb hby d_method_2_code_30) rfl ?_
    show Steps p.tables e below (s₁.setTop (mkF m 31 #[.val (.int (74 : Int32))] [(.int (74 : Int32))])) _
    refine XT.bipushV X0.here hx rfl (102 : Int32) (hb hby d_method_2_code_31) (by decide) ?_
    show Steps p.tables e below (s₁.setTop (mkF m 33 #[.val (.int (74 : Int32))] [(.int (102 : Int32)), (.int (74 : Int32))])) _
    refine XS.icmpYes X0.here hx rfl (pc0 := 33) (pc' := 40) rfl (hb hby d_method_2_code_33) rfl (by decide) (by decide) (by decide) ?_
    show Steps p.tables e below (s₁.setTop (mkF m 40 #[.val (.int (74 : Int32))] [])) _
    refine XS.iloadN X0.here hx rfl (hb hby d_method_2_code_40) rfl ?_
    show Steps p.tables e below (s₁.setTop (mkF m 41 #[.val (.int (74 : Int32))] [(.int (74 : Int32))])) _
    refine XT.bipushV X0.here hx rfl (104 : Int32) (hb hby d_method_2_code_41) (by decide) ?_
    show Steps p.tables e below (s₁.setTop (mkF m 43 #[.val (.int (74 : Int32))] [(.int (104 : Int32)), (.int (74 : Int32))])) _
    refine XS.icmpYes X0.here hx rfl (pc0 := 43) (pc' := 50) rfl (hb hby d_method_2_code_43) rfl (by decide) (by decide) (by decide) ?_
    show Steps p.tables e below (s₁.setTop (mkF m 50 #[.val (.int (74 : Int32))] [])) _
    refine XS.iloadN X0.here hx rfl (hb hby d_method_2_code_50) rfl ?_
    show Steps p.tables e below (s₁.setTop (mkF m 51 #[.val (.int (74 : Int32))] [(.int (74 : Int32))])) _
    refine XT.bipushV X0.here hx rfl (74 : Int32) (hb hby d_method_2_code_51) (by decide) ?_
    show Steps p.tables e below (s₁.setTop (mkF m 53 #[.val (.int (74 : Int32))] [(.int (74 : Int32)), (.int (74 : Int32))])) _
    refine XS.icmpNo X0.here hx rfl (hb hby d_method_2_code_53) rfl (by decide) ?_
    show Steps p.tables e below (s₁.setTop (mkF m 56 #[.val (.int (74 : Int32))] [])) _
    refine st1 _ ?_
    show Steps p.tables e below (T1.setTop (mkF m 59 #[.val (.int (74 : Int32))] [(.ref b5)])) _
    exact retOut X1 hx Bd.returns rfl (Or.inr (Or.inr (Or.inr (Or.inr ⟨rfl, rfl, rfl⟩)))) (hb hby d_method_2_code_59) hr
  · exact ⟨rfl, N0, e1⟩
def Q_find_6 (Z : State) (aV : Addr) (kV : ClassId) (b0 b1 b2 b3 b4 b5 b6 b7 b8 b9 : Addr) (h0 : Heap) (n0 : Nat) (v : Option Value) (h : Heap) (L : List Loc) : Prop := v = some (.ref b6) ∧ Fr n0 L ∧ Ext h0 h
set_option maxRecDepth 65536 in
set_option maxHeartbeats 40000000 in
theorem find_6 (l : Launch) (Z : State) (a0 : Array Value) (hw : ∀ d ∈ tables_1, d.before a0 Z = true) (ws : List Jvm.Cond) (aV : Addr) (kV : ClassId) (b0 b1 b2 b3 b4 b5 b6 b7 b8 b9 : Addr) (h0 : Heap) (n0 : Nat) (Z0 : n0 ≤ h0.size) (SaV : Sta Z h0 "com/example/keyward/keyward/LdapOperation" "$VALUES" "[Lcom/example/keyward/keyward/LdapOperation;" (.ref aV)) (VaV : Arv Z h0 aV kV (.object "com/example/keyward/keyward/LdapOperation") (10 : Int32) [(.ref b0), (.ref b1), (.ref b2), (.ref b3), (.ref b4), (.ref b5), (.ref b6), (.ref b7), (.ref b8), (.ref b9)] .null) (EaV : Exa Z h0 aV "[Lcom/example/keyward/keyward/LdapOperation;")(Fb0 : Fld Z h0 b0 "com/example/keyward/keyward/LdapOperation" "requestTag" "I" (.int (96 : Int32)))(Fb1 : Fld Z h0 b1 "com/example/keyward/keyward/LdapOperation" "requestTag" "I" (.int (66 : Int32)))(Fb2 : Fld Z h0 b2 "com/example/keyward/keyward/LdapOperation" "requestTag" "I" (.int (99 : Int32)))(Fb3 : Fld Z h0 b3 "com/example/keyward/keyward/LdapOperation" "requestTag" "I" (.int (102 : Int32)))(Fb4 : Fld Z h0 b4 "com/example/keyward/keyward/LdapOperation" "requestTag" "I" (.int (104 : Int32)))(Fb5 : Fld Z h0 b5 "com/example/keyward/keyward/LdapOperation" "requestTag" "I" (.int (74 : Int32)))(Fb6 : Fld Z h0 b6 "com/example/keyward/keyward/LdapOperation" "requestTag" "I" (.int (108 : Int32)))(Fb7 : Fld Z h0 b7 "com/example/keyward/keyward/LdapOperation" "requestTag" "I" (.int (110 : Int32)))(Fb8 : Fld Z h0 b8 "com/example/keyward/keyward/LdapOperation" "requestTag" "I" (.int (80 : Int32)))(Fb9 : Fld Z h0 b9 "com/example/keyward/keyward/LdapOperation" "requestTag" "I" (.int (119 : Int32))) :
    MetFree l (⟨"com/example/keyward/keyward/LdapOperation", "forRequestTag", "(I)Lcom/example/keyward/keyward/LdapOperation;"⟩ : MethodName) (head1 (Jvm.Cond.code (⟨"com/example/keyward/keyward/LdapOperation", "forRequestTag", "(I)Lcom/example/keyward/keyward/LdapOperation;"⟩ : MethodName) prog_16_method_4_code 5 (Option.some (Jvm.ClassFile.FieldType.object "com/example/keyward/keyward/LdapOperation")) :: ws) ({ frames := 2, cells := 1, slots := 10, locals := 25 } : Room)) (fun a U => a = #[(.int (108 : Int32))] ∧ Z.Warmed39 U.vm ∧ U.heap = h0) (fun _ _ _ _ _ => True) (fun _ U o U' => ∃ v L, o = .returned v ∧ Q_find_6 Z aV kV b0 b1 b2 b3 b4 b5 b6 b7 b8 b9 h0 n0 v U'.heap L ∧ FrameEnd U o U' L ({ frames := 2, cells := 1, slots := 10, locals := 25 } : Room).cells ({ frames := 2, cells := 1, slots := 10, locals := 25 } : Room).slots) := by
  refine MetFree.of_bodySF (plainFor_of_name pn_5) hisR ?_
  intro p e s m args below meth c s₁ Bd hml0 hP hK
  obtain ⟨rfl, hZ, hh⟩ := hP
  have hx := Bd.exec
  have hby := Bd.bytes
  have hml : c.maxLocals = 5 := hml0
  have hown : s.vm.findClass "com/example/keyward/keyward/LdapOperation" = some m.cls := findClass_of_methodNamed Bd.named
  have hnm := (name_of_methodNamed Bd.named Bd.method).1
  have X0 : Stand p l e ({ frames := 2, cells := 1, slots := 10, locals := 25 } : Room) s m #[(.int (108 : Int32))] below meth c s₁ [] 0 0 := Stand.of_body Bd
  have e0 : s₁.heap = h0 := by rw [← hh, Bd.state]; rfl
  have N0 := Fr.nil n0
  have pre0 : ∀ t, Steps p.tables e below (s₁.setTop (mkF m 0 #[.val (.int (108 : Int32)), .unset, .unset, .unset, .unset] [])) t → Steps p.tables e below (s₁.setTop (entryFrame m #[(.int (108 : Int32))] 5)) t := fun t k => castTop (ef_27 m (108 : Int32)) k
  obtain ⟨_, _, ⟨T1, L1, k1, n1⟩, -, X1, ⟨Lc1, hQ1, l1, y1, z1⟩, st1⟩ := Jvm.LawKit.callS X0 hx (y := (⟨"com/example/keyward/keyward/LdapOperation", "values", "()[Lcom/example/keyward/keyward/LdapOperation;"⟩ : MethodName)) hown (mvT hZ (hw _ (List.mem_of_getElem? (i := 5) rfl))) (mvT hZ (hw _ (List.mem_of_getElem? (i := 6) rfl))) (mvT hZ (hw _ (List.mem_of_getElem? (i := 3) rfl))) (mvT hZ (hw _ (List.mem_of_getElem? (i := 7) rfl))) (by decide) (backOf (W := 0) (values_0 l Z a0 hw [] aV kV b0 b1 b2 b3 b4 b5 b6 b7 b8 b9 h0 n0 Z0 SaV VaV EaV) hZ (hw _ (List.mem_of_getElem? (i := 7) rfl)) (hw _ (List.mem_of_getElem? (i := 3) rfl)) (by decide) (by decide)) (g := (mkF m 0 #[.val (.int (108 : Int32)), .unset, .unset, .unset, .unset] [])) rfl (by rw [hml]; rfl) (argsL := []) (rest := []) (lenOf pd_7 rfl) rfl (by show 2 * 0 + _ ≤ _; exact Nat.le_of_eq rfl) (hb hby d_prog_16_method_4_code_0) (fun _ _ => ⟨rfl, e0, (by decide : 0 + 1 ≤ _), (by decide : 0 + 10 ≤ _)⟩)
  dsimp only [Pt.U, Pt.locs, Pt.cells, Pt.slots] at X1 l1 y1 z1 st1 hQ1
  subst l1 y1 z1
  obtain ⟨rfl, N1q, Ex1, V1⟩ := hQ1
  have N1 := Fr.app N0 N1q
  obtain ⟨cl, Ar, -, Sz, Ng, Hs, -⟩ := V1
  have hlen : cl.slots.size.toInt32 = (10 : Int32) := len_of Sz Ng
  obtain ⟨T2, X2, e2, st2⟩ := getF X1 hx hZ hown (host := "") (Or.inl (hw _ (List.mem_of_getElem? (i := 30) rfl))) Via.refl rfl (Fb0.ext Ex1) (g := (mkF m 21 #[.val (.int (108 : Int32)), .val (.ref h0.size), .val (.int (10 : Int32)), .val (.int (0 : Int32)), .val (.ref b0)] [(.ref b0)])) rfl rfl (hb hby d_prog_16_method_4_code_21)
  obtain ⟨T3, X3, e3, st3⟩ := getF X2 hx hZ hown (host := "") (Or.inl (hw _ (List.mem_of_getElem? (i := 30) rfl))) Via.refl e2 (Fb1.ext Ex1) (g := (mkF m 21 #[.val (.int (108 : Int32)), .val (.ref h0.size), .val (.int (10 : Int32)), .val (.int (1 : Int32)), .val (.ref b1)] [(.ref b1)])) rfl rfl (hb hby d_prog_16_method_4_code_21)
  obtain ⟨T4, X4, e4, st4⟩ := getF X3 hx hZ hown (host := "") (Or.inl (hw _ (List.mem_of_getElem? (i := 30) rfl))) Via.refl e3 (Fb2.ext Ex1) (g := (mkF m 21 #[.val (.int (108 : Int32)), .val (.ref h0.size), .val (.int (10 : Int32)), .val (.int (2 : Int32)), .val (.ref b2)] [(.ref b2)])) rfl rfl (hb hby d_prog_16_method_4_code_21)
  obtain ⟨T5, X5, e5, st5⟩ := getF X4 hx hZ hown (host := "") (Or.inl (hw _ (List.mem_of_getElem? (i := 30) rfl))) Via.refl e4 (Fb3.ext Ex1) (g := (mkF m 21 #[.val (.int (108 : Int32)), .val (.ref h0.size), .val (.int (10 : Int32)), .val (.int (3 : Int32)), .val (.ref b3)] [(.ref b3)])) rfl rfl (hb hby d_prog_16_method_4_code_21)
  obtain ⟨T6, X6, e6, st6⟩ := getF X5 hx hZ hown (host := "") (Or.inl (hw _ (List.mem_of_getElem? (i := 30) rfl))) Via.refl e5 (Fb4.ext Ex1) (g := (mkF m 21 #[.val (.int (108 : Int32)), .val (.ref h0.size), .val (.int (10 : Int32)), .val (.int (4 : Int32)), .val (.ref b4)] [(.ref b4)])) rfl rfl (hb hby d_prog_16_method_4_code_21)
  obtain ⟨T7, X7, e7, st7⟩ := getF X6 hx hZ hown (host := "") (Or.inl (hw _ (List.mem_of_getElem? (i := 30) rfl))) Via.refl e6 (Fb5.ext Ex1) (g := (mkF m 21 #[.val (.int (108 : Int32)), .val (.ref h0.size), .val (.int (10 : Int32)), .val (.int (5 : Int32)), .val (.ref b5)] [(.ref b5)])) rfl rfl (hb hby d_prog_16_method_4_code_21)
  obtain ⟨T8, X8, e8, st8⟩ := getF X7 hx hZ hown (host := "") (Or.inl (hw _ (List.mem_of_getElem? (i := 30) rfl))) Via.refl e7 (Fb6.ext Ex1) (g := (mkF m 21 #[.val (.int (108 : Int32)), .val (.ref h0.size), .val (.int (10 : Int32)), .val (.int (6 : Int32)), .val (.ref b6)] [(.ref b6)])) rfl rfl (hb hby d_prog_16_method_4_code_21)
  obtain ⟨fs, hr, hrun, hended, hW, hsame⟩ := X8.leave (v := some (.ref b6)) (fun h => by rw [Bd.returns] at h; cases h)
  refine ⟨_, _, pre0 _ ?_, hrun, hended, _, _, rfl, ?_, ⟨_, rfl⟩, hW, hsame.mono (by decide) (by decide)⟩
  · show Steps p.tables e below (s₁.setTop (mkF m 0 #[.val (.int (108 : Int32)), .unset, .unset, .unset, .unset] [])) _
    refine st1 _ ?_
    show Steps p.tables e below (T1.setTop (mkF m 3 #[.val (.int (108 : Int32)), .unset, .unset, .unset, .unset] [(.ref h0.size)])) _
    refine XS.astoreN X1.here hx rfl (hb hby d_prog_16_method_4_code_3) rfl rfl (l' := #[.val (.int (108 : Int32)), .val (.ref h0.size), .unset, .unset, .unset]) rfl ?_
    show Steps p.tables e below (T1.setTop (mkF m 4 #[.val (.int (108 : Int32)), .val (.ref h0.size), .unset, .unset, .unset] [])) _
    refine XS.aloadN X1.here hx rfl (hb hby d_prog_16_method_4_code_4) rfl rfl ?_
    show Steps p.tables e below (T1.setTop (mkF m 5 #[.val (.int (108 : Int32)), .val (.ref h0.size), .unset, .unset, .unset] [(.ref h0.size)])) _
    refine X1.arraylength hx (by first | exact Ar.1 | (rw [rfl]; exact Ar.1)) (State.isArrayOf_alike hZ.alike Ar.2.1) (g := (mkF m 5 #[.val (.int (108 : Int32)), .val (.ref h0.size), .unset, .unset, .unset] [(.ref h0.size)])) rfl rfl (hb hby d_prog_16_method_4_code_5) _ ?_
    show Steps p.tables e below (T1.setTop (mkF m 6 #[.val (.int (108 : Int32)), .val (.ref h0.size), .unset, .unset, .unset] [(.int cl.slots.size.toInt32)])) _
    rw [hlen]
    show Steps p.tables e below (T1.setTop (mkF m 6 #[.val (.int (108 : Int32)), .val (.ref h0.size), .unset, .unset, .unset] [(.int (10 : Int32))])) _
    refine XS.istoreN X1.here hx rfl (hb hby d_prog_16_method_4_code_6) rfl (l' := #[.val (.int (108 : Int32)), .val (.ref h0.size), .val (.int (10 : Int32)), .unset, .unset]) rfl ?_
    show Steps p.tables e below (T1.setTop (mkF m 7 #[.val (.int (108 : Int32)), .val (.ref h0.size), .val (.int (10 : Int32)), .unset, .unset] [])) _
    refine XT.iconstV X1.here hx rfl (0 : Int32) (hb hby d_prog_16_method_4_code_7) (by decide) ?_
    show Steps p.tables e below (T1.setTop (mkF m 8 #[.val (.int (108 : Int32)), .val (.ref h0.size), .val (.int (10 : Int32)), .unset, .unset] [(.int (0 : Int32))])) _
    refine XS.istoreN X1.here hx rfl (hb hby d_prog_16_method_4_code_8) rfl (l' := #[.val (.int (108 : Int32)), .val (.ref h0.size), .val (.int (10 : Int32)), .val (.int (0 : Int32)), .unset]) rfl ?_
    show Steps p.tables e below (T1.setTop (mkF m 9 #[.val (.int (108 : Int32)), .val (.ref h0.size), .val (.int (10 : Int32)), .val (.int (0 : Int32)), .unset] [])) _
    refine XS.iloadN X1.here hx rfl (hb hby d_prog_16_method_4_code_9) rfl ?_
    show Steps p.tables e below (T1.setTop (mkF m 10 #[.val (.int (108 : Int32)), .val (.ref h0.size), .val (.int (10 : Int32)), .val (.int (0 : Int32)), .unset] [(.int (0 : Int32))])) _
    refine XS.iloadN X1.here hx rfl (hb hby d_prog_16_method_4_code_10) rfl ?_
    show Steps p.tables e below (T1.setTop (mkF m 11 #[.val (.int (108 : Int32)), .val (.ref h0.size), .val (.int (10 : Int32)), .val (.int (0 : Int32)), .unset] [(.int (10 : Int32)), (.int (0 : Int32))])) _
    refine XS.icmpNo X1.here hx rfl (hb hby d_prog_16_method_4_code_11) rfl (by decide) ?_
    show Steps p.tables e below (T1.setTop (mkF m 14 #[.val (.int (108 : Int32)), .val (.ref h0.size), .val (.int (10 : Int32)), .val (.int (0 : Int32)), .unset] [])) _
    refine XS.aloadN X1.here hx rfl (hb hby d_prog_16_method_4_code_14) rfl rfl ?_
    show Steps p.tables e below (T1.setTop (mkF m 15 #[.val (.int (108 : Int32)), .val (.ref h0.size), .val (.int (10 : Int32)), .val (.int (0 : Int32)), .unset] [(.ref h0.size)])) _
    refine XS.iloadN X1.here hx rfl (hb hby d_prog_16_method_4_code_15) rfl ?_
    show Steps p.tables e below (T1.setTop (mkF m 16 #[.val (.int (108 : Int32)), .val (.ref h0.size), .val (.int (10 : Int32)), .val (.int (0 : Int32)), .unset] [(.int (0 : Int32)), (.ref h0.size)])) _
    refine X1.aaload hx (j := (0 : Int32)) (v := (.ref b0)) (by first | exact Ar.1 | (rw [rfl]; exact Ar.1)) (State.isArrayOf_alike hZ.alike Ar.2.1) rfl Ar.2.2 (inb_of Sz ⟨by decide, by decide⟩) (Hs.at (inb_of Sz ⟨by decide, by decide⟩) rfl) (g := (mkF m 16 #[.val (.int (108 : Int32)), .val (.ref h0.size), .val (.int (10 : Int32)), .val (.int (0 : Int32)), .unset] [(.int (0 : Int32)), (.ref h0.size)])) rfl rfl (hb hby d_prog_16_method_4_code_16) _ ?_
    show Steps p.tables e below (T1.setTop (mkF m 17 #[.val (.int (108 : Int32)), .val (.ref h0.size), .val (.int (10 : Int32)), .val (.int (0 : Int32)), .unset] [(.ref b0)])) _
    refine XS.astore X1.here hx rfl (hb hby d_prog_16_method_4_code_17) rfl rfl (l' := #[.val (.int (108 : Int32)), .val (.ref h0.size), .val (.int (10 : Int32)), .val (.int (0 : Int32)), .val (.ref b0)]) rfl ?_
    show Steps p.tables e below (T1.setTop (mkF m 19 #[.val (.int (108 : Int32)), .val (.ref h0.size), .val (.int (10 : Int32)), .val (.int (0 : Int32)), .val (.ref b0)] [])) _
    refine XS.aload X1.here hx rfl (hb hby d_prog_16_method_4_code_19) rfl rfl ?_
    show Steps p.tables e below (T1.setTop (mkF m 21 #[.val (.int (108 : Int32)), .val (.ref h0.size), .val (.int (10 : Int32)), .val (.int (0 : Int32)), .val (.ref b0)] [(.ref b0)])) _
    refine st2 _ ?_
    show Steps p.tables e below (T2.setTop (mkF m 24 #[.val (.int (108 : Int32)), .val (.ref h0.size), .val (.int (10 : Int32)), .val (.int (0 : Int32)), .val (.ref b0)] [(.int (96 : Int32))])) _
    refine XS.iloadN X2.here hx rfl (hb hby d_prog_16_method_4_code_24) rfl ?_
    show Steps p.tables e below (T2.setTop (mkF m 25 #[.val (.int (108 : Int32)), .val (.ref h0.size), .val (.int (10 : Int32)), .val (.int (0 : Int32)), .val (.ref b0)] [(.int (108 : Int32)), (.int (96 : Int32))])) _
    refine XS.icmpYes X2.here hx rfl (pc0 := 25) (pc' := 31) rfl (hb hby d_prog_16_method_4_code_25) rfl (by decide) (by decide) (by decide) ?_
    show Steps p.tables e below (T2.setTop (mkF m 31 #[.val (.int (108 : Int32)), .val (.ref h0.size), .val (.int (10 : Int32)), .val (.int (0 : Int32)), .val (.ref b0)] [])) _
    refine XT.iincV X2.here hx rfl (1 : Int32) (hb hby d_prog_16_method_4_code_31) (by decide) rfl (l' := #[.val (.int (108 : Int32)), .val (.ref h0.size), .val (.int (10 : Int32)), .val (.int (1 : Int32)), .val (.ref b0)]) rfl ?_
    show Steps p.tables e below (T2.setTop (mkF m 34 #[.val (.int (108 : Int32)), .val (.ref h0.size), .val (.int (10 : Int32)), .val (.int (1 : Int32)), .val (.ref b0)] [])) _
    refine XS.goto X2.here hx rfl (pc0 := 34) (pc' := 9) rfl (hb hby d_prog_16_method_4_code_34) (by decide) (by decide) ?_
    show Steps p.tables e below (T2.setTop (mkF m 9 #[.val (.int (108 : Int32)), .val (.ref h0.size), .val (.int (10 : Int32)), .val (.int (1 : Int32)), .val (.ref b0)] [])) _
    refine XS.iloadN X2.here hx rfl (hb hby d_prog_16_method_4_code_9) rfl ?_
    show Steps p.tables e below (T2.setTop (mkF m 10 #[.val (.int (108 : Int32)), .val (.ref h0.size), .val (.int (10 : Int32)), .val (.int (1 : Int32)), .val (.ref b0)] [(.int (1 : Int32))])) _
    refine XS.iloadN X2.here hx rfl (hb hby d_prog_16_method_4_code_10) rfl ?_
    show Steps p.tables e below (T2.setTop (mkF m 11 #[.val (.int (108 : Int32)), .val (.ref h0.size), .val (.int (10 : Int32)), .val (.int (1 : Int32)), .val (.ref b0)] [(.int (10 : Int32)), (.int (1 : Int32))])) _
    refine XS.icmpNo X2.here hx rfl (hb hby d_prog_16_method_4_code_11) rfl (by decide) ?_
    show Steps p.tables e below (T2.setTop (mkF m 14 #[.val (.int (108 : Int32)), .val (.ref h0.size), .val (.int (10 : Int32)), .val (.int (1 : Int32)), .val (.ref b0)] [])) _
    refine XS.aloadN X2.here hx rfl (hb hby d_prog_16_method_4_code_14) rfl rfl ?_
    show Steps p.tables e below (T2.setTop (mkF m 15 #[.val (.int (108 : Int32)), .val (.ref h0.size), .val (.int (10 : Int32)), .val (.int (1 : Int32)), .val (.ref b0)] [(.ref h0.size)])) _
    refine XS.iloadN X2.here hx rfl (hb hby d_prog_16_method_4_code_15) rfl ?_
    show Steps p.tables e below (T2.setTop (mkF m 16 #[.val (.int (108 : Int32)), .val (.ref h0.size), .val (.int (10 : Int32)), .val (.int (1 : Int32)), .val (.ref b0)] [(.int (1 : Int32)), (.ref h0.size)])) _
    refine X2.aaload hx (j := (1 : Int32)) (v := (.ref b1)) (by first | exact Ar.1 | (rw [e2]; exact Ar.1)) (State.isArrayOf_alike hZ.alike Ar.2.1) rfl Ar.2.2 (inb_of Sz ⟨by decide, by decide⟩) (Hs.at (inb_of Sz ⟨by decide, by decide⟩) rfl) (g := (mkF m 16 #[.val (.int (108 : Int32)), .val (.ref h0.size), .val (.int (10 : Int32)), .val (.int (1 : Int32)), .val (.ref b0)] [(.int (1 : Int32)), (.ref h0.size)])) rfl rfl (hb hby d_prog_16_method_4_code_16) _ ?_
    show Steps p.tables e below (T2.setTop (mkF m 17 #[.val (.int (108 : Int32)), .val (.ref h0.size), .val (.int (10 : Int32)), .val (.int (1 : Int32)), .val (.ref b0)] [(.ref b1)])) _
    refine XS.astore X2.here hx rfl (hb hby d_prog_16_method_4_code_17) rfl rfl (l' := #[.val (.int (108 : Int32)), .val (.ref h0.size), .val (.int (10 : Int32)), .val (.int (1 : Int32)), .val (.ref b1)]) rfl ?_
    show Steps p.tables e below (T2.setTop (mkF m 19 #[.val (.int (108 : Int32)), .val (.ref h0.size), .val (.int (10 : Int32)), .val (.int (1 : Int32)), .val (.ref b1)] [])) _
    refine XS.aload X2.here hx rfl (hb hby d_prog_16_method_4_code_19) rfl rfl ?_
    show Steps p.tables e below (T2.setTop (mkF m 21 #[.val (.int (108 : Int32)), .val (.ref h0.size), .val (.int (10 : Int32)), .val (.int (1 : Int32)), .val (.ref b1)] [(.ref b1)])) _
    refine st3 _ ?_
    show Steps p.tables e below (T3.setTop (mkF m 24 #[.val (.int (108 : Int32)), .val (.ref h0.size), .val (.int (10 : Int32)), .val (.int (1 : Int32)), .val (.ref b1)] [(.int (66 : Int32))])) _
    refine XS.iloadN X3.here hx rfl (hb hby d_prog_16_method_4_code_24) rfl ?_
    show Steps p.tables e below (T3.setTop (mkF m 25 #[.val (.int (108 : Int32)), .val (.ref h0.size), .val (.int (10 : Int32)), .val (.int (1 : Int32)), .val (.ref b1)] [(.int (108 : Int32)), (.int (66 : Int32))])) _
    refine XS.icmpYes X3.here hx rfl (pc0 := 25) (pc' := 31) rfl (hb hby d_prog_16_method_4_code_25) rfl (by decide) (by decide) (by decide) ?_
    show Steps p.tables e below (T3.setTop (mkF m 31 #[.val (.int (108 : Int32)), .val (.ref h0.size), .val (.int (10 : Int32)), .val (.int (1 : Int32)), .val (.ref b1)] [])) _
    refine XT.iincV X3.here hx rfl (1 : Int32) (hb hby d_prog_16_method_4_code_31) (by decide) rfl (l' := #[.val (.int (108 : Int32)), .val (.ref h0.size), .val (.int (10 : Int32)), .val (.int (2 : Int32)), .val (.ref b1)]) rfl ?_
    show Steps p.tables e below (T3.setTop (mkF m 34 #[.val (.int (108 : Int32)), .val (.ref h0.size), .val (.int (10 : Int32)), .val (.int (2 : Int32)), .val (.ref b1)] [])) _
    refine XS.goto X3.here hx rfl (pc0 := 34) (pc' := 9) rfl (hb hby d_prog_16_method_4_code_34) (by decide) (by decide) ?_
    show Steps p.tables e below (T3.setTop (mkF m 9 #[.val (.int (108 : Int32)), .val (.ref h0.size), .val (.int (10 : Int32)), .val (.int (2 : Int32)), .val (.ref b1)] [])) _
    refine XS.iloadN X3.here hx rfl (hb hby d_prog_16_method_4_code_9) rfl ?_
    show Steps p.tables e below (T3.setTop (mkF m 10 #[.val (.int (108 : Int32)), .val (.ref h0.size), .val (.int (10 : Int32)), .val (.int (2 : Int32)), .val (.ref b1)] [(.int (2 : Int32))])) _
    refine XS.iloadN X3.here hx rfl (hb hby d_prog_16_method_4_code_10) rfl ?_
    show Steps p.tables e below (T3.setTop (mkF m 11 #[.val (.int (108 : Int32)), .val (.ref h0.size), .val (.int (10 : Int32)), .val (.int (2 : Int32)), .val (.ref b1)] [(.int (10 : Int32)), (.int (2 : Int32))])) _
    refine XS.icmpNo X3.here hx rfl (hb hby d_prog_16_method_4_code_11) rfl (by decide) ?_
    show Steps p.tables e below (T3.setTop (mkF m 14 #[.val (.int (108 : Int32)), .val (.ref h0.size), .val (.int (10 : Int32)), .val (.int (2 : Int32)), .val (.ref b1)] [])) _
    refine XS.aloadN X3.here hx rfl (hb hby d_prog_16_method_4_code_14) rfl rfl ?_
    show Steps p.tables e below (T3.setTop (mkF m 15 #[.val (.int (108 : Int32)), .val (.ref h0.size), .val (.int (10 : Int32)), .val (.int (2 : Int32)), .val (.ref b1)] [(.ref h0.size)])) _
    refine XS.iloadN X3.here hx rfl (hb hby d_prog_16_method_4_code_15) rfl ?_
    show Steps p.tables e below (T3.setTop (mkF m 16 #[.val (.int (108 : Int32)), .val (.ref h0.size), .val (.int (10 : Int32)), .val (.int (2 : Int32)), .val (.ref b1)] [(.int (2 : Int32)), (.ref h0.size)])) _
    refine X3.aaload hx (j := (2 : Int32)) (v := (.ref b2)) (by first | exact Ar.1 | (rw [e3]; exact Ar.1)) (State.isArrayOf_alike hZ.alike Ar.2.1) rfl Ar.2.2 (inb_of Sz ⟨by decide, by decide⟩) (Hs.at (inb_of Sz ⟨by decide, by decide⟩) rfl) (g := (mkF m 16 #[.val (.int (108 : Int32)), .val (.ref h0.size), .val (.int (10 : Int32)), .val (.int (2 : Int32)), .val (.ref b1)] [(.int (2 : Int32)), (.ref h0.size)])) rfl rfl (hb hby d_prog_16_method_4_code_16) _ ?_
    show Steps p.tables e below (T3.setTop (mkF m 17 #[.val (.int (108 : Int32)), .val (.ref h0.size), .val (.int (10 : Int32)), .val (.int (2 : Int32)), .val (.ref b1)] [(.ref b2)])) _
    refine XS.astore X3.here hx rfl (hb hby d_prog_16_method_4_code_17) rfl rfl (l' := #[.val (.int (108 : Int32)), .val (.ref h0.size), .val (.int (10 : Int32)), .val (.int (2 : Int32)), .val (.ref b2)]) rfl ?_
    show Steps p.tables e below (T3.setTop (mkF m 19 #[.val (.int (108 : Int32)), .val (.ref h0.size), .val (.int (10 : Int32)), .val (.int (2 : Int32)), .val (.ref b2)] [])) _
    refine XS.aload X3.here hx rfl (hb hby d_prog_16_method_4_code_19) rfl rfl ?_
    show Steps p.tables e below (T3.setTop (mkF m 21 #[.val (.int (108 : Int32)), .val (.ref h0.size), .val (.int (10 : Int32)), .val (.int (2 : Int32)), .val (.ref b2)] [(.ref b2)])) _
    refine st4 _ ?_
    show Steps p.tables e below (T4.setTop (mkF m 24 #[.val (.int (108 : Int32)), .val (.ref h0.size), .val (.int (10 : Int32)), .val (.int (2 : Int32)), .val (.ref b2)] [(.int (99 : Int32))])) _
    refine XS.iloadN X4.here hx rfl (hb hby d_prog_16_method_4_code_24) rfl ?_
    show Steps p.tables e below (T4.setTop (mkF m 25 #[.val (.int (108 : Int32)), .val (.ref h0.size), .val (.int (10 : Int32)), .val (.int (2 : Int32)), .val (.ref b2)] [(.int (108 : Int32)), (.int (99 : Int32))])) _
    refine XS.icmpYes X4.here hx rfl (pc0 := 25) (pc' := 31) rfl (hb hby d_prog_16_method_4_code_25) rfl (by decide) (by decide) (by decide) ?_
    show Steps p.tables e below (T4.setTop (mkF m 31 #[.val (.int (108 : Int32)), .val (.ref h0.size), .val (.int (10 : Int32)), .val (.int (2 : Int32)), .val (.ref b2)] [])) _
    refine XT.iincV X4.here hx rfl (1 : Int32) (hb hby d_prog_16_method_4_code_31) (by decide) rfl (l' := #[.val (.int (108 : Int32)), .val (.ref h0.size), .val (.int (10 : Int32)), .val (.int (3 : Int32)), .val (.ref b2)]) rfl ?_
    show Steps p.tables e below (T4.setTop (mkF m 34 #[.val (.int (108 : Int32)), .val (.ref h0.size), .val (.int (10 : Int32)), .val (.int (3 : Int32)), .val (.ref b2)] [])) _
    refine XS.goto X4.here hx rfl (pc0 := 34) (pc' := 9) rfl (hb hby d_prog_16_method_4_code_34) (by decide) (by decide) ?_
    show Steps p.tables e below (T4.setTop (mkF m 9 #[.val (.int (108 : Int32)), .val (.ref h0.size), .val (.int (10 : Int32)), .val (.int (3 : Int32)), .val (.ref b2)] [])) _
    refine XS.iloadN X4.here hx rfl (hb hby d_prog_16_method_4_code_9) rfl ?_
    show Steps p.tables e below (T4.setTop (mkF m 10 #[.val (.int (108 : Int32)), .val (.ref h0.size), .val (.int (10 : Int32)), .val (.int (3 : Int32)), .val (.ref b2)] [(.int (3 : Int32))])) _
    refine XS.iloadN X4.here hx rfl (hb hby d_prog_16_method_4_code_10) rfl ?_
    show Steps p.tables e below (T4.setTop (mkF m 11 #[.val (.int (108 : Int32)), .val (.ref h0.size), .val (.int (10 : Int32)), .val (.int (3 : Int32)), .val (.ref b2)] [(.int (10 : Int32)), (.int (3 : Int32))])) _
    refine XS.icmpNo X4.here hx rfl (hb hby d_prog_16_method_4_code_11) rfl (by decide) ?_
    show Steps p.tables e below (T4.setTop (mkF m 14 #[.val (.int (108 : Int32)), .val (.ref h0.size), .val (.int (10 : Int32)), .val (.int (3 : Int32)), .val (.ref b2)] [])) _
    refine XS.aloadN X4.here hx rfl (hb hby d_prog_16_method_4_code_14) rfl rfl ?_
    show Steps p.tables e below (T4.setTop (mkF m 15 #[.val (.int (108 : Int32)), .val (.ref h0.size), .val (.int (10 : Int32)), .val (.int (3 : Int32)), .val (.ref b2)] [(.ref h0.size)])) _
    refine XS.iloadN X4.here hx rfl (hb hby d_prog_16_method_4_code_15) rfl ?_
    show Steps p.tables e below (T4.setTop (mkF m 16 #[.val (.int (108 : Int32)), .val (.ref h0.size), .val (.int (10 : Int32)), .val (.int (3 : Int32)), .val (.ref b2)] [(.int (3 : Int32)), (.ref h0.size)])) _
    refine X4.aaload hx (j := (3 : Int32)) (v := (.ref b3)) (by first | exact Ar.1 | (rw [e4]; exact Ar.1)) (State.isArrayOf_alike hZ.alike Ar.2.1) rfl Ar.2.2 (inb_of Sz ⟨by decide, by decide⟩) (Hs.at (inb_of Sz ⟨by decide, by decide⟩) rfl) (g := (mkF m 16 #[.val (.int (108 : Int32)), .val (.ref h0.size), .val (.int (10 : Int32)), .val (.int (3 : Int32)), .val (.ref b2)] [(.int (3 : Int32)), (.ref h0.size)])) rfl rfl (hb hby d_prog_16_method_4_code_16) _ ?_
    show Steps p.tables e below (T4.setTop (mkF m 17 #[.val (.int (108 : Int32)), .val (.ref h0.size), .val (.int (10 : Int32)), .val (.int (3 : Int32)), .val (.ref b2)] [(.ref b3)])) _
    refine XS.astore X4.here hx rfl (hb hby d_prog_16_method_4_code_17) rfl rfl (l' := #[.val (.int (108 : Int32)), .val (.ref h0.size), .val (.int (10 : Int32)), .val (.int (3 : Int32)), .val (.ref b3)]) rfl ?_
    show Steps p.tables e below (T4.setTop (mkF m 19 #[.val (.int (108 : Int32)), .val (.ref h0.size), .val (.int (10 : Int32)), .val (.int (3 : Int32)), .val (.ref b3)] [])) _
    refine XS.aload X4.here hx rfl (hb hby d_prog_16_method_4_code_19) rfl rfl ?_
    show Steps p.tables e below (T4.setTop (mkF m 21 #[.val (.int (108 : Int32)), .val (.ref h0.size), .val (.int (10 : Int32)), .val (.int (3 : Int32)), .val (.ref b3)] [(.ref b3)])) _
    refine st5 _ ?_
    show Steps p.tables e below (T5.setTop (mkF m 24 #[.val (.int (108 : Int32)), .val (.ref h0.size), .val (.int (10 : Int32)), .val (.int (3 : Int32)), .val (.ref b3)] [(.int (102 : Int32))])) _
    refine XS.iloadN X5.here hx rfl (hb hby d_prog_16_method_4_code_24) rfl ?_
    show Steps p.tables e below (T5.setTop (mkF m 25 #[.val (.int (108 : Int32)), .val (.ref h0.size), .val (.int (10 : Int32)), .val (.int (3 : Int32)), .val (.ref b3)] [(.int (108 : Int32)), (.int (102 : Int32))])) _
    refine XS.icmpYes X5.here hx rfl (pc0 := 25) (pc' := 31) rfl (hb hby d_prog_16_method_4_code_25) rfl (by decide) (by decide) (by decide) ?_
    show Steps p.tables e below (T5.setTop (mkF m 31 #[.val (.int (108 : Int32)), .val (.ref h0.size), .val (.int (10 : Int32)), .val (.int (3 : Int32)), .val (.ref b3)] [])) _
    refine XT.iincV X5.here hx rfl (1 : Int32) (hb hby d_prog_16_method_4_code_31) (by decide) rfl (l' := #[.val (.int (108 : Int32)), .val (.ref h0.size), .val (.int (10 : Int32)), .val (.int (4 : Int32)), .val (.ref b3)]) rfl ?_
    show Steps p.tables e below (T5.setTop (mkF m 34 #[.val (.int (108 : Int32)), .val (.ref h0.size), .val (.int (10 : Int32)), .val (.int (4 : Int32)), .val (.ref b3)] [])) _
    refine XS.goto X5.here hx rfl (pc0 := 34) (pc' := 9) rfl (hb hby d_prog_16_method_4_code_34) (by decide) (by decide) ?_
    show Steps p.tables e below (T5.setTop (mkF m 9 #[.val (.int (108 : Int32)), .val (.ref h0.size), .val (.int (10 : Int32)), .val (.int (4 : Int32)), .val (.ref b3)] [])) _
    refine XS.iloadN X5.here hx rfl (hb hby d_prog_16_method_4_code_9) rfl ?_
    show Steps p.tables e below (T5.setTop (mkF m 10 #[.val (.int (108 : Int32)), .val (.ref h0.size), .val (.int (10 : Int32)), .val (.int (4 : Int32)), .val (.ref b3)] [(.int (4 : Int32))])) _
    refine XS.iloadN X5.here hx rfl (hb hby d_prog_16_method_4_code_10) rfl ?_
    show Steps p.tables e below (T5.setTop (mkF m 11 #[.val (.int (108 : Int32)), .val (.ref h0.size), .val (.int (10 : Int32)), .val (.int (4 : Int32)), .val (.ref b3)] [(.int (10 : Int32)), (.int (4 : Int32))])) _
    refine XS.icmpNo X5.here hx rfl (hb hby d_prog_16_method_4_code_11) rfl (by decide) ?_
    show Steps p.tables e below (T5.setTop (mkF m 14 #[.val (.int (108 : Int32)), .val (.ref h0.size), .val (.int (10 : Int32)), .val (.int (4 : Int32)), .val (.ref b3)] [])) _
    refine XS.aloadN X5.here hx rfl (hb hby d_prog_16_method_4_code_14) rfl rfl ?_
    show Steps p.tables e below (T5.setTop (mkF m 15 #[.val (.int (108 : Int32)), .val (.ref h0.size), .val (.int (10 : Int32)), .val (.int (4 : Int32)), .val (.ref b3)] [(.ref h0.size)])) _
    refine XS.iloadN X5.here hx rfl (hb hby d_prog_16_method_4_code_15) rfl ?_
    show Steps p.tables e below (T5.setTop (mkF m 16 #[.val (.int (108 : Int32)), .val (.ref h0.size), .val (.int (10 : Int32)), .val (.int (4 : Int32)), .val (.ref b3)] [(.int (4 : Int32)), (.ref h0.size)])) _
    refine X5.aaload hx (j := (4 : Int32)) (v := (.ref b4)) (by first | exact Ar.1 | (rw [e5]; exact Ar.1)) (State.isArrayOf_alike hZ.alike Ar.2.1) rfl Ar.2.2 (inb_of Sz ⟨by decide, by decide⟩) (Hs.at (inb_of Sz ⟨by decide, by decide⟩) rfl) (g := (mkF m 16 #[.val (.int (108 : Int32)), .val (.ref h0.size), .val (.int (10 : Int32)), .val (.int (4 : Int32)), .val (.ref b3)] [(.int (4 : Int32)), (.ref h0.size)])) rfl rfl (hb hby d_prog_16_method_4_code_16) _ ?_
    show Steps p.tables e below (T5.setTop (mkF m 17 #[.val (.int (108 : Int32)), .val (.ref h0.size), .val (.int (10 : Int32)), .val (.int (4 : Int32)), .val (.ref b3)] [(.ref b4)])) _
    refine XS.astore X5.here hx rfl (hb hby d_prog_16_method_4_code_17) rfl rfl (l' := #[.val (.int (108 : Int32)), .val (.ref h0.size), .val (.int (10 : Int32)), .val (.int (4 : Int32)), .val (.ref b4)]) rfl ?_
    show Steps p.tables e below (T5.setTop (mkF m 19 #[.val (.int (108 : Int32)), .val (.ref h0.size), .val (.int (10 : Int32)), .val (.int (4 : Int32)), .val (.ref b4)] [])) _
    refine XS.aload X5.here hx rfl (hb hby d_prog_16_method_4_code_19) rfl rfl ?_
    show Steps p.tables e below (T5.setTop (mkF m 21 #[.val (.int (108 : Int32)), .val (.ref h0.size), .val (.int (10 : Int32)), .val (.int (4 : Int32)), .val (.ref b4)] [(.ref b4)])) _
    refine st6 _ ?_
    show Steps p.tables e below (T6.setTop (mkF m 24 #[.val (.int (108 : Int32)), .val (.ref h0.size), .val (.int (10 : Int32)), .val (.int (4 : Int32)), .val (.ref b4)] [(.int (104 : Int32))])) _
    refine XS.iloadN X6.here hx rfl (hb hby d_prog_16_method_4_code_24) rfl ?_
    show Steps p.tables e below (T6.setTop (mkF m 25 #[.val (.int (108 : Int32)), .val (.ref h0.size), .val (.int (10 : Int32)), .val (.int (4 : Int32)), .val (.ref b4)] [(.int (108 : Int32)), (.int (104 : Int32))])) _
    refine XS.icmpYes X6.here hx rfl (pc0 := 25) (pc' := 31) rfl (hb hby d_prog_16_method_4_code_25) rfl (by decide) (by decide) (by decide) ?_
    show Steps p.tables e below (T6.setTop (mkF m 31 #[.val (.int (108 : Int32)), .val (.ref h0.size), .val (.int (10 : Int32)), .val (.int (4 : Int32)), .val (.ref b4)] [])) _
    refine XT.iincV X6.here hx rfl (1 : Int32) (hb hby d_prog_16_method_4_code_31) (by decide) rfl (l' := #[.val (.int (108 : Int32)), .val (.ref h0.size), .val (.int (10 : Int32)), .val (.int (5 : Int32)), .val (.ref b4)]) rfl ?_
    show Steps p.tables e below (T6.setTop (mkF m 34 #[.val (.int (108 : Int32)), .val (.ref h0.size), .val (.int (10 : Int32)), .val (.int (5 : Int32)), .val (.ref b4)] [])) _
    refine XS.goto X6.here hx rfl (pc0 := 34) (pc' := 9) rfl (hb hby d_prog_16_method_4_code_34) (by decide) (by decide) ?_
    show Steps p.tables e below (T6.setTop (mkF m 9 #[.val (.int (108 : Int32)), .val (.ref h0.size), .val (.int (10 : Int32)), .val (.int (5 : Int32)), .val (.ref b4)] [])) _
    refine XS.iloadN X6.here hx rfl (hb hby d_prog_16_method_4_code_9) rfl ?_
    show Steps p.tables e below (T6.setTop (mkF m 10 #[.val (.int (108 : Int32)), .val (.ref h0.size), .val (.int (10 : Int32)), .val (.int (5 : Int32)), .val (.ref b4)] [(.int (5 : Int32))])) _
    refine XS.iloadN X6.here hx rfl (hb hby d_prog_16_method_4_code_10) rfl ?_
    show Steps p.tables e below (T6.setTop (mkF m 11 #[.val (.int (108 : Int32)), .val (.ref h0.size), .val (.int (10 : Int32)), .val (.int (5 : Int32)), .val (.ref b4)] [(.int (10 : Int32)), (.int (5 : Int32))])) _
    refine XS.icmpNo X6.here hx rfl (hb hby d_prog_16_method_4_code_11) rfl (by decide) ?_
    show Steps p.tables e below (T6.setTop (mkF m 14 #[.val (.int (108 : Int32)), .val (.ref h0.size), .val (.int (10 : Int32)), .val (.int (5 : Int32)), .val (.ref b4)] [])) _
    refine XS.aloadN X6.here hx rfl (hb hby d_prog_16_method_4_code_14) rfl rfl ?_
    show Steps p.tables e below (T6.setTop (mkF m 15 #[.val (.int (108 : Int32)), .val (.ref h0.size), .val (.int (10 : Int32)), .val (.int (5 : Int32)), .val (.ref b4)] [(.ref h0.size)])) _
    refine XS.iloadN X6.here hx rfl (hb hby d_prog_16_method_4_code_15) rfl ?_
    show Steps p.tables e below (T6.setTop (mkF m 16 #[.val (.int (108 : Int32)), .val (.ref h0.size), .val (.int (10 : Int32)), .val (.int (5 : Int32)), .val (.ref b4)] [(.int (5 : Int32)), (.ref h0.size)])) _
    refine X6.aaload hx (j := (5 : Int32)) (v := (.ref b5)) (by first | exact Ar.1 | (rw [e6]; exact Ar.1)) (State.isArrayOf_alike hZ.alike Ar.2.1) rfl Ar.2.2 (inb_of Sz ⟨by decide, by decide⟩) (Hs.at (inb_of Sz ⟨by decide, by decide⟩) rfl) (g := (mkF m 16 #[.val (.int (108 : Int32)), .val (.ref h0.size), .val (.int (10 : Int32)), .val (.int (5 : Int32)), .val (.ref b4)] [(.int (5 : Int32)), (.ref h0.size)])) rfl rfl (hb hby d_prog_16_method_4_code_16) _ ?_
    show Steps p.tables e below (T6.setTop (mkF m 17 #[.val (.int (108 : Int32)), .val (.ref h0.size), .val (.int (10 : Int32)), .val (.int (5 : Int32)), .val (.ref b4)] [(.ref b5)])) _
    refine XS.astore X6.here hx rfl (hb hby d_prog_16_method_4_code_17) rfl rfl (l' := #[.val (.int (108 : Int32)), .val (.ref h0.size), .val (.int (10 : Int32)), .val (.int (5 : Int32)), .val (.ref b5)]) rfl ?_
    show Steps p.tables e below (T6.setTop (mkF m 19 #[.val (.int (108 : Int32)), .val (.ref h0.size), .val (.int (10 : Int32)), .val (.int (5 : Int32)), .val (.ref b5)] [])) _
    refine XS.aload X6.here hx rfl (hb hby d_prog_16_method_4_code_19) rfl rfl ?_
    show Steps p.tables e below (T6.setTop (mkF m 21 #[.val (.int (108 : Int32)), .val (.ref h0.size), .val (.int (10 : Int32)), .val (.int (5 : Int32)), .val (.ref b5)] [(.ref b5)])) _
    refine st7 _ ?_
    show Steps p.tables e below (T7.setTop (mkF m 24 #[.val (.int (108 : Int32)), .val (.ref h0.size), .val (.int (10 : Int32)), .val (.int (5 : Int32)), .val (.ref b5)] [(.int (74 : Int32))])) _
    refine XS.iloadN X7.here hx rfl (hb hby d_prog_16_method_4_code_24) rfl ?_
    show Steps p.tables e below (T7.setTop (mkF m 25 #[.val (.int (108 : Int32)), .val (.ref h0.size), .val (.int (10 : Int32)), .val (.int (5 : Int32)), .val (.ref b5)] [(.int (108 : Int32)), (.int (74 : Int32))])) _
    refine XS.icmpYes X7.here hx rfl (pc0 := 25) (pc' := 31) rfl (hb hby d_prog_16_method_4_code_25) rfl (by decide) (by decide) (by decide) ?_
    show Steps p.tables e below (T7.setTop (mkF m 31 #[.val (.int (108 : Int32)), .val (.ref h0.size), .val (.int (10 : Int32)), .val (.int (5 : Int32)), .val (.ref b5)] [])) _
    refine XT.iincV X7.here hx rfl (1 : Int32) (hb hby d_prog_16_method_4_code_31) (by decide) rfl (l' := #[.val (.int (108 : Int32)), .val (.ref h0.size), .val (.int (10 : Int32)), .val (.int (6 : Int32)), .val (.ref b5)]) rfl ?_
    show Steps p.tables e below (T7.setTop (mkF m 34 #[.val (.int (108 : Int32)), .val (.ref h0.size), .val (.int (10 : Int32)), .val (.int (6 : Int32)), .val (.ref b5)] [])) _
    refine XS.goto X7.here hx rfl (pc0 := 34) (pc' := 9) rfl (hb hby d_prog_16_method_4_code_34) (by decide) (by decide) ?_
    show Steps p.tables e below (T7.setTop (mkF m 9 #[.val (.int (108 : Int32)), .val (.ref h0.size), .val (.int (10 : Int32)), .val (.int (6 : Int32)), .val (.ref b5)] [])) _
    refine XS.iloadN X7.here hx rfl (hb hby d_prog_16_method_4_code_9) rfl ?_
    show Steps p.tables e below (T7.setTop (mkF m 10 #[.val (.int (108 : Int32)), .val (.ref h0.size), .val (.int (10 : Int32)), .val (.int (6 : Int32)), .val (.ref b5)] [(.int (6 : Int32))])) _
    refine XS.iloadN X7.here hx rfl (hb hby d_prog_16_method_4_code_10) rfl ?_
    show Steps p.tables e below (T7.setTop (mkF m 11 #[.val (.int (108 : Int32)), .val (.ref h0.size), .val (.int (10 : Int32)), .val (.int (6 : Int32)), .val (.ref b5)] [(.int (10 : Int32)), (.int (6 : Int32))])) _
    refine XS.icmpNo X7.here hx rfl (hb hby d_prog_16_method_4_code_11) rfl (by decide) ?_
    show Steps p.tables e below (T7.setTop (mkF m 14 #[.val (.int (108 : Int32)), .val (.ref h0.size), .val (.int (10 : Int32)), .val (.int (6 : Int32)), .val (.ref b5)] [])) _
    refine XS.aloadN X7.here hx rfl (hb hby d_prog_16_method_4_code_14) rfl rfl ?_
    show Steps p.tables e below (T7.setTop (mkF m 15 #[.val (.int (108 : Int32)), .val (.ref h0.size), .val (.int (10 : Int32)), .val (.int (6 : Int32)), .val (.ref b5)] [(.ref h0.size)])) _
    refine XS.iloadN X7.here hx rfl (hb hby d_prog_16_method_4_code_15) rfl ?_
    show Steps p.tables e below (T7.setTop (mkF m 16 #[.val (.int (108 : Int32)), .val (.ref h0.size), .val (.int (10 : Int32)), .val (.int (6 : Int32)), .val (.ref b5)] [(.int (6 : Int32)), (.ref h0.size)])) _
    refine X7.aaload hx (j := (6 : Int32)) (v := (.ref b6)) (by first | exact Ar.1 | (rw [e7]; exact Ar.1)) (State.isArrayOf_alike hZ.alike Ar.2.1) rfl Ar.2.2 (inb_of Sz ⟨by decide, by decide⟩) (Hs.at (inb_of Sz ⟨by decide, by decide⟩) rfl) (g := (mkF m 16 #[.val (.int (108 : Int32)), .val (.ref h0.size), .val (.int (10 : Int32)), .val (.int (6 : Int32)), .val (.ref b5)] [(.int (6 : Int32)), (.ref h0.size)])) rfl rfl (hb hby d_prog_16_method_4_code_16) _ ?_
    show Steps p.tables e below (T7.setTop (mkF m 17 #[.val (.int (108 : Int32)), .val (.ref h0.size), .val (.int (10 : Int32)), .val (.int (6 : Int32)), .val (.ref b5)] [(.ref b6)])) _
    refine XS.astore X7.here hx rfl (hb hby d_prog_16_method_4_code_17) rfl rfl (l' := #[.val (.int (108 : Int32)), .val (.ref h0.size), .val (.int (10 : Int32)), .val (.int (6 : Int32)), .val (.ref b6)]) rfl ?_
    show Steps p.tables e below (T7.setTop (mkF m 19 #[.val (.int (108 : Int32)), .val (.ref h0.size), .val (.int (10 : Int32)), .val (.int (6 : Int32)), .val (.ref b6)] [])) _
    refine XS.aload X7.here hx rfl (hb hby d_prog_16_method_4_code_19) rfl rfl ?_
    show Steps p.tables e below (T7.setTop (mkF m 21 #[.val (.int (108 : Int32)), .val (.ref h0.size), .val (.int (10 : Int32)), .val (.int (6 : Int32)), .val (.ref b6)] [(.ref b6)])) _
    refine st8 _ ?_
    show Steps p.tables e below (T8.setTop (mkF m 24 #[.val (.int (108 : Int32)), .val (.ref h0.size), .val (.int (10 : Int32)), .val (.int (6 : Int32)), .val (.ref b6)] [(.int (108 : Int32))])) _
    refine XS.iloadN X8.here hx rfl (hb hby d_prog_16_method_4_code_24) rfl ?_
    show Steps p.tables e below (T8.setTop (mkF m 25 #[.val (.int (108 : Int32)), .val (.ref h0.size), .val (.int (10 : Int32)), .val (.int (6 : Int32)), .val (.ref b6)] [(.int (108 : Int32)), (.int (108 : Int32))])) _
    refine XS.icmpNo X8.here hx rfl (hb hby d_prog_16_method_4_code_25) rfl (by decide) ?_
    show Steps p.tables e below (T8.setTop (mkF m 28 #[.val (.int (108 : Int32)), .val (.ref h0.size), .val (.int (10 : Int32)), .val (.int (6 : Int32)), .val (.ref b6)] [])) _
    refine XS.aload X8.here hx rfl (hb hby d_prog_16_method_4_code_28) rfl rfl ?_
    show Steps p.tables e below (T8.setTop (mkF m 30 #[.val (.int (108 : Int32)), .val (.ref h0.size), .val (.int (10 : Int32)), .val (.int (6 : Int32)), .val (.ref b6)] [(.ref b6)])) _
    exact retOut X8 hx Bd.returns rfl (Or.inr (Or.inr (Or.inr (Or.inr ⟨rfl, rfl, rfl⟩)))) (hb hby d_prog_16_method_4_code_30) hr
  · exact ⟨rfl, N1, by show Ext h0 T8.heap; rw [e8]; exact Ex1⟩
theorem d_method_2_code_60 : decode method_2_code 60 = .ok (.iload_n 0, 1) := by decide +kernel
theorem d_method_2_code_61 : decode method_2_code 61 = .ok (.bipush 108, 2) := by decide +kernel
theorem d_method_2_code_63 : decode method_2_code 63 = .ok (.if_icmp .ne 7, 3) := by decide +kernel
theorem d_method_2_code_66 : decode method_2_code 66 = .ok (.getstatic 28, 3) := by decide +kernel
theorem d_method_2_code_69 : decode method_2_code 69 = .ok (.areturn, 1) := by decide +kernel
def Q_exp_6 (Z : State) (b6 : Addr) (h0 : Heap) (n0 : Nat) (v : Option Value) (h : Heap) (L : List Loc) : Prop := v = some (.ref b6) ∧ Fr n0 L ∧ h = h0
set_option maxRecDepth 65536 in
set_option maxHeartbeats 40000000 in
theorem exp_6 (l : Launch) (Z : State) (a0 : Array Value) (hw : ∀ d ∈ tables_1, d.before a0 Z = true) (ws : List Jvm.Cond) (b6 : Addr) (h0 : Heap) (n0 : Nat) (Z0 : n0 ≤ h0.size) (Sb6 : Sta Z h0 "com/example/keyward/keyward/LdapOperation" "MODIFY_DN" "Lcom/example/keyward/keyward/LdapOperation;" (.ref b6)) :
    MetFree l (⟨"com/example/keyward/keyward/LdapOperationForRequestTagPinLaw", "expected", "(I)Lcom/example/keyward/keyward/LdapOperation;"⟩ : MethodName) (head1 (Jvm.Cond.code (⟨"com/example/keyward/keyward/LdapOperationForRequestTagPinLaw", "expected", "(I)Lcom/example/keyward/keyward/LdapOperation;"⟩ : MethodName) method_2_code 1 (Option.some (Jvm.ClassFile.FieldType.object "com/example/keyward/keyward/LdapOperation")) :: ws) ({ frames := 0, cells := 0, slots := 0, locals := 0 } : Room)) (fun a U => a = #[(.int (108 : Int32))] ∧ Z.Warmed39 U.vm ∧ U.heap = h0) (fun _ _ _ _ _ => True) (fun _ U o U' => ∃ v L, o = .returned v ∧ Q_exp_6 Z b6 h0 n0 v U'.heap L ∧ FrameEnd U o U' L ({ frames := 0, cells := 0, slots := 0, locals := 0 } : Room).cells ({ frames := 0, cells := 0, slots := 0, locals := 0 } : Room).slots) := by
  refine MetFree.of_bodySF (plainFor_of_name pn_34) hisR ?_
  intro p e s m args below meth c s₁ Bd hml0 hP hK
  obtain ⟨rfl, hZ, hh⟩ := hP
  have hx := Bd.exec
  have hby := Bd.bytes
  have hml : c.maxLocals = 1 := hml0
  have hown : s.vm.findClass "com/example/keyward/keyward/LdapOperationForRequestTagPinLaw" = some m.cls := findClass_of_methodNamed Bd.named
  have hnm := (name_of_methodNamed Bd.named Bd.method).1
  have X0 : Stand p l e ({ frames := 0, cells := 0, slots := 0, locals := 0 } : Room) s m #[(.int (108 : Int32))] below meth c s₁ [] 0 0 := Stand.of_body Bd
  have e0 : s₁.heap = h0 := by rw [← hh, Bd.state]; rfl
  have N0 := Fr.nil n0
  have pre0 : ∀ t, Steps p.tables e below (s₁.setTop (mkF m 0 #[.val (.int (108 : Int32))] [])) t → Steps p.tables e below (s₁.setTop (entryFrame m #[(.int (108 : Int32))] 1)) t := fun t k => castTop (ef_33 m (108 : Int32)) k
  obtain ⟨T1, X1, e1, st1⟩ := getS X0 hx hZ (host := "") hown (hw _ (List.mem_of_getElem? (i := 45) rfl)) Via.refl e0 Sb6 (g := (mkF m 66 #[.val (.int (108 : Int32))] [])) rfl (hb hby d_method_2_code_66)
  obtain ⟨fs, hr, hrun, hended, hW, hsame⟩ := X1.leave (v := some (.ref b6)) (fun h => by rw [Bd.returns] at h; cases h)
  refine ⟨_, _, pre0 _ ?_, hrun, hended, _, _, rfl, ?_, ⟨_, rfl⟩, hW, hsame.mono (by decide) (by decide)⟩
  · show Steps p.tables e below (s₁.setTop (mkF m 0 #[.val (.int (108 : Int32))] [])) _
    refine XS.iloadN X0.here hx rfl (hb hby d_method_2_code_0) rfl ?_
    show Steps p.tables e below (s₁.setTop (mkF m 1 #[.val (.int (108 : Int32))] [(.int (108 : Int32))])) _
    refine XT.bipushV X0.here hx rfl (96 : Int32) (hb hby d_method_2_code_1) (by decide) ?_
    show Steps p.tables e below (s₁.setTop (mkF m 3 #[.val (.int (108 : Int32))] [(.int (96 : Int32)), (.int (108 : Int32))])) _
    refine XS.icmpYes X0.here hx rfl (pc0 := 3) (pc' := 10) rfl (hb hby d_method_2_code_3) rfl (by decide) (by decide) (by decide) ?_
    show Steps p.tables e below (s₁.setTop (mkF m 10 #[.val (.int (108 : Int32))] [])) _
    refine XS.iloadN X0.here hx rfl (hb hby d_method_2_code_10) rfl ?_
    show Steps p.tables e below (s₁.setTop (mkF m 11 #[.val (.int (108 : Int32))] [(.int (108 : Int32))])) _
    refine XT.bipushV X0.here hx rfl (66 : Int32) (hb hby d_method_2_code_11) (by decide) ?_
    show Steps p.tables e below (s₁.setTop (mkF m 13 #[.val (.int (108 : Int32))] [(.int (66 : Int32)), (.int (108 : Int32))])) _
    refine XS.icmpYes X0.here hx rfl (pc0 := 13) (pc' := 20) rfl (hb hby d_method_2_code_13) rfl (by decide) (by decide) (by decide) ?_
    show Steps p.tables e below (s₁.setTop (mkF m 20 #[.val (.int (108 : Int32))] [])) _
    refine XS.iloadN X0.here hx rfl (hb hby d_method_2_code_20) rfl ?_
    show Steps p.tables e below (s₁.setTop (mkF m 21 #[.val (.int (108 : Int32))] [(.int (108 : Int32))])) _
    refine XT.bipushV X0.here hx rfl (99 : Int32) (hb hby d_method_2_code_21) (by decide) ?_
    show Steps p.tables e below (s₁.setTop (mkF m 23 #[.val (.int (108 : Int32))] [(.int (99 : Int32)), (.int (108 : Int32))])) _
    refine XS.icmpYes X0.here hx rfl (pc0 := 23) (pc' := 30) rfl (hb hby d_method_2_code_23) rfl (by decide) (by decide) (by decide) ?_
    show Steps p.tables e below (s₁.setTop (mkF m 30 #[.val (.int (108 : Int32))] [])) _
    refine XS.iloadN X0.here hx rfl (hb hby d_method_2_code_30) rfl ?_
    show Steps p.tables e below (s₁.setTop (mkF m 31 #[.val (.int (108 : Int32))] [(.int (108 : Int32))])) _
    refine XT.bipushV X0.here hx rfl (102 : Int32) (hb hby d_method_2_code_31) (by decide) ?_
    show Steps p.tables e below (s₁.setTop (mkF m 33 #[.val (.int (108 : Int32))] [(.int (102 : Int32)), (.int (108 : Int32))])) _
    refine XS.icmpYes X0.here hx rfl (pc0 := 33) (pc' := 40) rfl (hb hby d_method_2_code_33) rfl (by decide) (by decide) (by decide) ?_
    show Steps p.tables e below (s₁.setTop (mkF m 40 #[.val (.int (108 : Int32))] [])) _
    refine XS.iloadN X0.here hx rfl (hb hby d_method_2_code_40) rfl ?_
    show Steps p.tables e below (s₁.setTop (mkF m 41 #[.val (.int (108 : Int32))] [(.int (108 : Int32))])) _
    refine XT.bipushV X0.here hx rfl (104 : Int32) (hb hby d_method_2_code_41) (by decide) ?_
    show Steps p.tables e below (s₁.setTop (mkF m 43 #[.val (.int (108 : Int32))] [(.int (104 : Int32)), (.int (108 : Int32))])) _
    refine XS.icmpYes X0.here hx rfl (pc0 := 43) (pc' := 50) rfl (hb hby d_method_2_code_43) rfl (by decide) (by decide) (by decide) ?_
    show Steps p.tables e below (s₁.setTop (mkF m 50 #[.val (.int (108 : Int32))] [])) _
    refine XS.iloadN X0.here hx rfl (hb hby d_method_2_code_50) rfl ?_
    show Steps p.tables e below (s₁.setTop (mkF m 51 #[.val (.int (108 : Int32))] [(.int (108 : Int32))])) _
    refine XT.bipushV X0.here hx rfl (74 : Int32) (hb hby d_method_2_code_51) (by decide) ?_
    show Steps p.tables e below (s₁.setTop (mkF m 53 #[.val (.int (108 : Int32))] [(.int (74 : Int32)), (.int (108 : Int32))])) _
    refine XS.icmpYes X0.here hx rfl (pc0 := 53) (pc' := 60) rfl (hb hby d_method_2_code_53) rfl (by decide) (by decide) (by decide) ?_
    show Steps p.tables e below (s₁.setTop (mkF m 60 #[.val (.int (108 : Int32))] [])) _
    refine XS.iloadN X0.here hx rfl (hb hby d_method_2_code_60) rfl ?_
    show Steps p.tables e below (s₁.setTop (mkF m 61 #[.val (.int (108 : Int32))] [(.int (108 : Int32))])) _
    refine XT.bipushV X0.here hx rfl (108 : Int32) (hb hby d_method_2_code_61) (by decide) ?_
    show Steps p.tables e below (s₁.setTop (mkF m 63 #[.val (.int (108 : Int32))] [(.int (108 : Int32)), (.int (108 : Int32))])) _
    refine XS.icmpNo X0.here hx rfl (hb hby d_method_2_code_63) rfl (by decide) ?_
    show Steps p.tables e below (s₁.setTop (mkF m 66 #[.val (.int (108 : Int32))] [])) _
    refine st1 _ ?_
    show Steps p.tables e below (T1.setTop (mkF m 69 #[.val (.int (108 : Int32))] [(.ref b6)])) _
    exact retOut X1 hx Bd.returns rfl (Or.inr (Or.inr (Or.inr (Or.inr ⟨rfl, rfl, rfl⟩)))) (hb hby d_method_2_code_69) hr
  · exact ⟨rfl, N0, e1⟩
def Q_find_7 (Z : State) (aV : Addr) (kV : ClassId) (b0 b1 b2 b3 b4 b5 b6 b7 b8 b9 : Addr) (h0 : Heap) (n0 : Nat) (v : Option Value) (h : Heap) (L : List Loc) : Prop := v = some (.ref b7) ∧ Fr n0 L ∧ Ext h0 h
set_option maxRecDepth 65536 in
set_option maxHeartbeats 40000000 in
theorem find_7 (l : Launch) (Z : State) (a0 : Array Value) (hw : ∀ d ∈ tables_1, d.before a0 Z = true) (ws : List Jvm.Cond) (aV : Addr) (kV : ClassId) (b0 b1 b2 b3 b4 b5 b6 b7 b8 b9 : Addr) (h0 : Heap) (n0 : Nat) (Z0 : n0 ≤ h0.size) (SaV : Sta Z h0 "com/example/keyward/keyward/LdapOperation" "$VALUES" "[Lcom/example/keyward/keyward/LdapOperation;" (.ref aV)) (VaV : Arv Z h0 aV kV (.object "com/example/keyward/keyward/LdapOperation") (10 : Int32) [(.ref b0), (.ref b1), (.ref b2), (.ref b3), (.ref b4), (.ref b5), (.ref b6), (.ref b7), (.ref b8), (.ref b9)] .null) (EaV : Exa Z h0 aV "[Lcom/example/keyward/keyward/LdapOperation;")(Fb0 : Fld Z h0 b0 "com/example/keyward/keyward/LdapOperation" "requestTag" "I" (.int (96 : Int32)))(Fb1 : Fld Z h0 b1 "com/example/keyward/keyward/LdapOperation" "requestTag" "I" (.int (66 : Int32)))(Fb2 : Fld Z h0 b2 "com/example/keyward/keyward/LdapOperation" "requestTag" "I" (.int (99 : Int32)))(Fb3 : Fld Z h0 b3 "com/example/keyward/keyward/LdapOperation" "requestTag" "I" (.int (102 : Int32)))(Fb4 : Fld Z h0 b4 "com/example/keyward/keyward/LdapOperation" "requestTag" "I" (.int (104 : Int32)))(Fb5 : Fld Z h0 b5 "com/example/keyward/keyward/LdapOperation" "requestTag" "I" (.int (74 : Int32)))(Fb6 : Fld Z h0 b6 "com/example/keyward/keyward/LdapOperation" "requestTag" "I" (.int (108 : Int32)))(Fb7 : Fld Z h0 b7 "com/example/keyward/keyward/LdapOperation" "requestTag" "I" (.int (110 : Int32)))(Fb8 : Fld Z h0 b8 "com/example/keyward/keyward/LdapOperation" "requestTag" "I" (.int (80 : Int32)))(Fb9 : Fld Z h0 b9 "com/example/keyward/keyward/LdapOperation" "requestTag" "I" (.int (119 : Int32))) :
    MetFree l (⟨"com/example/keyward/keyward/LdapOperation", "forRequestTag", "(I)Lcom/example/keyward/keyward/LdapOperation;"⟩ : MethodName) (head1 (Jvm.Cond.code (⟨"com/example/keyward/keyward/LdapOperation", "forRequestTag", "(I)Lcom/example/keyward/keyward/LdapOperation;"⟩ : MethodName) prog_16_method_4_code 5 (Option.some (Jvm.ClassFile.FieldType.object "com/example/keyward/keyward/LdapOperation")) :: ws) ({ frames := 2, cells := 1, slots := 10, locals := 25 } : Room)) (fun a U => a = #[(.int (110 : Int32))] ∧ Z.Warmed39 U.vm ∧ U.heap = h0) (fun _ _ _ _ _ => True) (fun _ U o U' => ∃ v L, o = .returned v ∧ Q_find_7 Z aV kV b0 b1 b2 b3 b4 b5 b6 b7 b8 b9 h0 n0 v U'.heap L ∧ FrameEnd U o U' L ({ frames := 2, cells := 1, slots := 10, locals := 25 } : Room).cells ({ frames := 2, cells := 1, slots := 10, locals := 25 } : Room).slots) := by
  refine MetFree.of_bodySF (plainFor_of_name pn_5) hisR ?_
  intro p e s m args below meth c s₁ Bd hml0 hP hK
  obtain ⟨rfl, hZ, hh⟩ := hP
  have hx := Bd.exec
  have hby := Bd.bytes
  have hml : c.maxLocals = 5 := hml0
  have hown : s.vm.findClass "com/example/keyward/keyward/LdapOperation" = some m.cls := findClass_of_methodNamed Bd.named
  have hnm := (name_of_methodNamed Bd.named Bd.method).1
  have X0 : Stand p l e ({ frames := 2, cells := 1, slots := 10, locals := 25 } : Room) s m #[(.int (110 : Int32))] below meth c s₁ [] 0 0 := Stand.of_body Bd
  have e0 : s₁.heap = h0 := by rw [← hh, Bd.state]; rfl
  have N0 := Fr.nil n0
  have pre0 : ∀ t, Steps p.tables e below (s₁.setTop (mkF m 0 #[.val (.int (110 : Int32)), .unset, .unset, .unset, .unset] [])) t → Steps p.tables e below (s₁.setTop (entryFrame m #[(.int (110 : Int32))] 5)) t := fun t k => castTop (ef_27 m (110 : Int32)) k
  obtain ⟨_, _, ⟨T1, L1, k1, n1⟩, -, X1, ⟨Lc1, hQ1, l1, y1, z1⟩, st1⟩ := Jvm.LawKit.callS X0 hx (y := (⟨"com/example/keyward/keyward/LdapOperation", "values", "()[Lcom/example/keyward/keyward/LdapOperation;"⟩ : MethodName)) hown (mvT hZ (hw _ (List.mem_of_getElem? (i := 5) rfl))) (mvT hZ (hw _ (List.mem_of_getElem? (i := 6) rfl))) (mvT hZ (hw _ (List.mem_of_getElem? (i := 3) rfl))) (mvT hZ (hw _ (List.mem_of_getElem? (i := 7) rfl))) (by decide) (backOf (W := 0) (values_0 l Z a0 hw [] aV kV b0 b1 b2 b3 b4 b5 b6 b7 b8 b9 h0 n0 Z0 SaV VaV EaV) hZ (hw _ (List.mem_of_getElem? (i := 7) rfl)) (hw _ (List.mem_of_getElem? (i := 3) rfl)) (by decide) (by decide)) (g := (mkF m 0 #[.val (.int (110 : Int32)), .unset, .unset, .unset, .unset] [])) rfl (by rw [hml]; rfl) (argsL := []) (rest := []) (lenOf pd_7 rfl) rfl (by show 2 * 0 + _ ≤ _; exact Nat.le_of_eq rfl) (hb hby d_prog_16_method_4_code_0) (fun _ _ => ⟨rfl, e0, (by decide : 0 + 1 ≤ _), (by decide : 0 + 10 ≤ _)⟩)
  dsimp only [Pt.U, Pt.locs, Pt.cells, Pt.slots] at X1 l1 y1 z1 st1 hQ1
  subst l1 y1 z1
  obtain ⟨rfl, N1q, Ex1, V1⟩ := hQ1
  have N1 := Fr.app N0 N1q
  obtain ⟨cl, Ar, -, Sz, Ng, Hs, -⟩ := V1
  have hlen : cl.slots.size.toInt32 = (10 : Int32) := len_of Sz Ng
  obtain ⟨T2, X2, e2, st2⟩ := getF X1 hx hZ hown (host := "") (Or.inl (hw _ (List.mem_of_getElem? (i := 30) rfl))) Via.refl rfl (Fb0.ext Ex1) (g := (mkF m 21 #[.val (.int (110 : Int32)), .val (.ref h0.size), .val (.int (10 : Int32)), .val (.int (0 : Int32)), .val (.ref b0)] [(.ref b0)])) rfl rfl (hb hby d_prog_16_method_4_code_21)
  obtain ⟨T3, X3, e3, st3⟩ := getF X2 hx hZ hown (host := "") (Or.inl (hw _ (List.mem_of_getElem? (i := 30) rfl))) Via.refl e2 (Fb1.ext Ex1) (g := (mkF m 21 #[.val (.int (110 : Int32)), .val (.ref h0.size), .val (.int (10 : Int32)), .val (.int (1 : Int32)), .val (.ref b1)] [(.ref b1)])) rfl rfl (hb hby d_prog_16_method_4_code_21)
  obtain ⟨T4, X4, e4, st4⟩ := getF X3 hx hZ hown (host := "") (Or.inl (hw _ (List.mem_of_getElem? (i := 30) rfl))) Via.refl e3 (Fb2.ext Ex1) (g := (mkF m 21 #[.val (.int (110 : Int32)), .val (.ref h0.size), .val (.int (10 : Int32)), .val (.int (2 : Int32)), .val (.ref b2)] [(.ref b2)])) rfl rfl (hb hby d_prog_16_method_4_code_21)
  obtain ⟨T5, X5, e5, st5⟩ := getF X4 hx hZ hown (host := "") (Or.inl (hw _ (List.mem_of_getElem? (i := 30) rfl))) Via.refl e4 (Fb3.ext Ex1) (g := (mkF m 21 #[.val (.int (110 : Int32)), .val (.ref h0.size), .val (.int (10 : Int32)), .val (.int (3 : Int32)), .val (.ref b3)] [(.ref b3)])) rfl rfl (hb hby d_prog_16_method_4_code_21)
  obtain ⟨T6, X6, e6, st6⟩ := getF X5 hx hZ hown (host := "") (Or.inl (hw _ (List.mem_of_getElem? (i := 30) rfl))) Via.refl e5 (Fb4.ext Ex1) (g := (mkF m 21 #[.val (.int (110 : Int32)), .val (.ref h0.size), .val (.int (10 : Int32)), .val (.int (4 : Int32)), .val (.ref b4)] [(.ref b4)])) rfl rfl (hb hby d_prog_16_method_4_code_21)
  obtain ⟨T7, X7, e7, st7⟩ := getF X6 hx hZ hown (host := "") (Or.inl (hw _ (List.mem_of_getElem? (i := 30) rfl))) Via.refl e6 (Fb5.ext Ex1) (g := (mkF m 21 #[.val (.int (110 : Int32)), .val (.ref h0.size), .val (.int (10 : Int32)), .val (.int (5 : Int32)), .val (.ref b5)] [(.ref b5)])) rfl rfl (hb hby d_prog_16_method_4_code_21)
  obtain ⟨T8, X8, e8, st8⟩ := getF X7 hx hZ hown (host := "") (Or.inl (hw _ (List.mem_of_getElem? (i := 30) rfl))) Via.refl e7 (Fb6.ext Ex1) (g := (mkF m 21 #[.val (.int (110 : Int32)), .val (.ref h0.size), .val (.int (10 : Int32)), .val (.int (6 : Int32)), .val (.ref b6)] [(.ref b6)])) rfl rfl (hb hby d_prog_16_method_4_code_21)
  obtain ⟨T9, X9, e9, st9⟩ := getF X8 hx hZ hown (host := "") (Or.inl (hw _ (List.mem_of_getElem? (i := 30) rfl))) Via.refl e8 (Fb7.ext Ex1) (g := (mkF m 21 #[.val (.int (110 : Int32)), .val (.ref h0.size), .val (.int (10 : Int32)), .val (.int (7 : Int32)), .val (.ref b7)] [(.ref b7)])) rfl rfl (hb hby d_prog_16_method_4_code_21)
  obtain ⟨fs, hr, hrun, hended, hW, hsame⟩ := X9.leave (v := some (.ref b7)) (fun h => by rw [Bd.returns] at h; cases h)
  refine ⟨_, _, pre0 _ ?_, hrun, hended, _, _, rfl, ?_, ⟨_, rfl⟩, hW, hsame.mono (by decide) (by decide)⟩
  · show Steps p.tables e below (s₁.setTop (mkF m 0 #[.val (.int (110 : Int32)), .unset, .unset, .unset, .unset] [])) _
    refine st1 _ ?_
    show Steps p.tables e below (T1.setTop (mkF m 3 #[.val (.int (110 : Int32)), .unset, .unset, .unset, .unset] [(.ref h0.size)])) _
    refine XS.astoreN X1.here hx rfl (hb hby d_prog_16_method_4_code_3) rfl rfl (l' := #[.val (.int (110 : Int32)), .val (.ref h0.size), .unset, .unset, .unset]) rfl ?_
    show Steps p.tables e below (T1.setTop (mkF m 4 #[.val (.int (110 : Int32)), .val (.ref h0.size), .unset, .unset, .unset] [])) _
    refine XS.aloadN X1.here hx rfl (hb hby d_prog_16_method_4_code_4) rfl rfl ?_
    show Steps p.tables e below (T1.setTop (mkF m 5 #[.val (.int (110 : Int32)), .val (.ref h0.size), .unset, .unset, .unset] [(.ref h0.size)])) _
    refine X1.arraylength hx (by first | exact Ar.1 | (rw [rfl]; exact Ar.1)) (State.isArrayOf_alike hZ.alike Ar.2.1) (g := (mkF m 5 #[.val (.int (110 : Int32)), .val (.ref h0.size), .unset, .unset, .unset] [(.ref h0.size)])) rfl rfl (hb hby d_prog_16_method_4_code_5) _ ?_
    show Steps p.tables e below (T1.setTop (mkF m 6 #[.val (.int (110 : Int32)), .val (.ref h0.size), .unset, .unset, .unset] [(.int cl.slots.size.toInt32)])) _
    rw [hlen]
    show Steps p.tables e below (T1.setTop (mkF m 6 #[.val (.int (110 : Int32)), .val (.ref h0.size), .unset, .unset, .unset] [(.int (10 : Int32))])) _
    refine XS.istoreN X1.here hx rfl (hb hby d_prog_16_method_4_code_6) rfl (l' := #[.val (.int (110 : Int32)), .val (.ref h0.size), .val (.int (10 : Int32)), .unset, .unset]) rfl ?_
    show Steps p.tables e below (T1.setTop (mkF m 7 #[.val (.int (110 : Int32)), .val (.ref h0.size), .val (.int (10 : Int32)), .unset, .unset] [])) _
    refine XT.iconstV X1.here hx rfl (0 : Int32) (hb hby d_prog_16_method_4_code_7) (by decide) ?_
    show Steps p.tables e below (T1.setTop (mkF m 8 #[.val (.int (110 : Int32)), .val (.ref h0.size), .val (.int (10 : Int32)), .unset, .unset] [(.int (0 : Int32))])) _
    refine XS.istoreN X1.here hx rfl (hb hby d_prog_16_method_4_code_8) rfl (l' := #[.val (.int (110 : Int32)), .val (.ref h0.size), .val (.int (10 : Int32)), .val (.int (0 : Int32)), .unset]) rfl ?_
    show Steps p.tables e below (T1.setTop (mkF m 9 #[.val (.int (110 : Int32)), .val (.ref h0.size), .val (.int (10 : Int32)), .val (.int (0 : Int32)), .unset] [])) _
    refine XS.iloadN X1.here hx rfl (hb hby d_prog_16_method_4_code_9) rfl ?_
    show Steps p.tables e below (T1.setTop (mkF m 10 #[.val (.int (110 : Int32)), .val (.ref h0.size), .val (.int (10 : Int32)), .val (.int (0 : Int32)), .unset] [(.int (0 : Int32))])) _
    refine XS.iloadN X1.here hx rfl (hb hby d_prog_16_method_4_code_10) rfl ?_
    show Steps p.tables e below (T1.setTop (mkF m 11 #[.val (.int (110 : Int32)), .val (.ref h0.size), .val (.int (10 : Int32)), .val (.int (0 : Int32)), .unset] [(.int (10 : Int32)), (.int (0 : Int32))])) _
    refine XS.icmpNo X1.here hx rfl (hb hby d_prog_16_method_4_code_11) rfl (by decide) ?_
    show Steps p.tables e below (T1.setTop (mkF m 14 #[.val (.int (110 : Int32)), .val (.ref h0.size), .val (.int (10 : Int32)), .val (.int (0 : Int32)), .unset] [])) _
    refine XS.aloadN X1.here hx rfl (hb hby d_prog_16_method_4_code_14) rfl rfl ?_
    show Steps p.tables e below (T1.setTop (mkF m 15 #[.val (.int (110 : Int32)), .val (.ref h0.size), .val (.int (10 : Int32)), .val (.int (0 : Int32)), .unset] [(.ref h0.size)])) _
    refine XS.iloadN X1.here hx rfl (hb hby d_prog_16_method_4_code_15) rfl ?_
    show Steps p.tables e below (T1.setTop (mkF m 16 #[.val (.int (110 : Int32)), .val (.ref h0.size), .val (.int (10 : Int32)), .val (.int (0 : Int32)), .unset] [(.int (0 : Int32)), (.ref h0.size)])) _
    refine X1.aaload hx (j := (0 : Int32)) (v := (.ref b0)) (by first | exact Ar.1 | (rw [rfl]; exact Ar.1)) (State.isArrayOf_alike hZ.alike Ar.2.1) rfl Ar.2.2 (inb_of Sz ⟨by decide, by decide⟩) (Hs.at (inb_of Sz ⟨by decide, by decide⟩) rfl) (g := (mkF m 16 #[.val (.int (110 : Int32)), .val (.ref h0.size), .val (.int (10 : Int32)), .val (.int (0 : Int32)), .unset] [(.int (0 : Int32)), (.ref h0.size)])) rfl rfl (hb hby d_prog_16_method_4_code_16) _ ?_
    show Steps p.tables e below (T1.setTop (mkF m 17 #[.val (.int (110 : Int32)), .val (.ref h0.size), .val (.int (10 : Int32)), .val (.int (0 : Int32)), .unset] [(.ref b0)])) _
    refine XS.astore X1.here hx rfl (hb hby d_prog_16_method_4_code_17) rfl rfl (l' := #[.val (.int (110 : Int32)), .val (.ref h0.size), .val (.int (10 : Int32)), .val (.int (0 : Int32)), .val (.ref b0)]) rfl ?_
    show Steps p.tables e below (T1.setTop (mkF m 19 #[.val (.int (110 : Int32)), .val (.ref h0.size), .val (.int (10 : Int32)), .val (.int (0 : Int32)), .val (.ref b0)] [])) _
    refine XS.aload X1.here hx rfl (hb hby d_prog_16_method_4_code_19) rfl rfl ?_
    show Steps p.tables e below (T1.setTop (mkF m 21 #[.val (.int (110 : Int32)), .val (.ref h0.size), .val (.int (10 : Int32)), .val (.int (0 : Int32)), .val (.ref b0)] [(.ref b0)])) _
    refine st2 _ ?_
    show Steps p.tables e below (T2.setTop (mkF m 24 #[.val (.int (110 : Int32)), .val (.ref h0.size), .val (.int (10 : Int32)), .val (.int (0 : Int32)), .val (.ref b0)] [(.int (96 : Int32))])) _
    refine XS.iloadN X2.here hx rfl (hb hby d_prog_16_method_4_code_24) rfl ?_
    show Steps p.tables e below (T2.setTop (mkF m 25 #[.val (.int (110 : Int32)), .val (.ref h0.size), .val (.int (10 : Int32)), .val (.int (0 : Int32)), .val (.ref b0)] [(.int (110 : Int32)), (.int (96 : Int32))])) _
    refine XS.icmpYes X2.here hx rfl (pc0 := 25) (pc' := 31) rfl (hb hby d_prog_16_method_4_code_25) rfl (by decide) (by decide) (by decide) ?_
    show Steps p.tables e below (T2.setTop (mkF m 31 #[.val (.int (110 : Int32)), .val (.ref h0.size), .val (.int (10 : Int32)), .val (.int (0 : Int32)), .val (.ref b0)] [])) _
    refine XT.iincV X2.here hx rfl (1 : Int32) (hb hby d_prog_16_method_4_code_31) (by decide) rfl (l' := #[.val (.int (110 : Int32)), .val (.ref h0.size), .val (.int (10 : Int32)), .val (.int (1 : Int32)), .val (.ref b0)]) rfl ?_
    show Steps p.tables e below (T2.setTop (mkF m 34 #[.val (.int (110 : Int32)), .val (.ref h0.size), .val (.int (10 : Int32)), .val (.int (1 : Int32)), .val (.ref b0)] [])) _
    refine XS.goto X2.here hx rfl (pc0 := 34) (pc' := 9) rfl (hb hby d_prog_16_method_4_code_34) (by decide) (by decide) ?_
    show Steps p.tables e below (T2.setTop (mkF m 9 #[.val (.int (110 : Int32)), .val (.ref h0.size), .val (.int (10 : Int32)), .val (.int (1 : Int32)), .val (.ref b0)] [])) _
    refine XS.iloadN X2.here hx rfl (hb hby d_prog_16_method_4_code_9) rfl ?_
    show Steps p.tables e below (T2.setTop (mkF m 10 #[.val (.int (110 : Int32)), .val (.ref h0.size), .val (.int (10 : Int32)), .val (.int (1 : Int32)), .val (.ref b0)] [(.int (1 : Int32))])) _
    refine XS.iloadN X2.here hx rfl (hb hby d_prog_16_method_4_code_10) rfl ?_
    show Steps p.tables e below (T2.setTop (mkF m 11 #[.val (.int (110 : Int32)), .val (.ref h0.size), .val (.int (10 : Int32)), .val (.int (1 : Int32)), .val (.ref b0)] [(.int (10 : Int32)), (.int (1 : Int32))])) _
    refine XS.icmpNo X2.here hx rfl (hb hby d_prog_16_method_4_code_11) rfl (by decide) ?_
    show Steps p.tables e below (T2.setTop (mkF m 14 #[.val (.int (110 : Int32)), .val (.ref h0.size), .val (.int (10 : Int32)), .val (.int (1 : Int32)), .val (.ref b0)] [])) _
    refine XS.aloadN X2.here hx rfl (hb hby d_prog_16_method_4_code_14) rfl rfl ?_
    show Steps p.tables e below (T2.setTop (mkF m 15 #[.val (.int (110 : Int32)), .val (.ref h0.size), .val (.int (10 : Int32)), .val (.int (1 : Int32)), .val (.ref b0)] [(.ref h0.size)])) _
    refine XS.iloadN X2.here hx rfl (hb hby d_prog_16_method_4_code_15) rfl ?_
    show Steps p.tables e below (T2.setTop (mkF m 16 #[.val (.int (110 : Int32)), .val (.ref h0.size), .val (.int (10 : Int32)), .val (.int (1 : Int32)), .val (.ref b0)] [(.int (1 : Int32)), (.ref h0.size)])) _
    refine X2.aaload hx (j := (1 : Int32)) (v := (.ref b1)) (by first | exact Ar.1 | (rw [e2]; exact Ar.1)) (State.isArrayOf_alike hZ.alike Ar.2.1) rfl Ar.2.2 (inb_of Sz ⟨by decide, by decide⟩) (Hs.at (inb_of Sz ⟨by decide, by decide⟩) rfl) (g := (mkF m 16 #[.val (.int (110 : Int32)), .val (.ref h0.size), .val (.int (10 : Int32)), .val (.int (1 : Int32)), .val (.ref b0)] [(.int (1 : Int32)), (.ref h0.size)])) rfl rfl (hb hby d_prog_16_method_4_code_16) _ ?_
    show Steps p.tables e below (T2.setTop (mkF m 17 #[.val (.int (110 : Int32)), .val (.ref h0.size), .val (.int (10 : Int32)), .val (.int (1 : Int32)), .val (.ref b0)] [(.ref b1)])) _
    refine XS.astore X2.here hx rfl (hb hby d_prog_16_method_4_code_17) rfl rfl (l' := #[.val (.int (110 : Int32)), .val (.ref h0.size), .val (.int (10 : Int32)), .val (.int (1 : Int32)), .val (.ref b1)]) rfl ?_
    show Steps p.tables e below (T2.setTop (mkF m 19 #[.val (.int (110 : Int32)), .val (.ref h0.size), .val (.int (10 : Int32)), .val (.int (1 : Int32)), .val (.ref b1)] [])) _
    refine XS.aload X2.here hx rfl (hb hby d_prog_16_method_4_code_19) rfl rfl ?_
    show Steps p.tables e below (T2.setTop (mkF m 21 #[.val (.int (110 : Int32)), .val (.ref h0.size), .val (.int (10 : Int32)), .val (.int (1 : Int32)), .val (.ref b1)] [(.ref b1)])) _
    refine st3 _ ?_
    show Steps p.tables e below (T3.setTop (mkF m 24 #[.val (.int (110 : Int32)), .val (.ref h0.size), .val (.int (10 : Int32)), .val (.int (1 : Int32)), .val (.ref b1)] [(.int (66 : Int32))])) _
    refine XS.iloadN X3.here hx rfl (hb hby d_prog_16_method_4_code_24) rfl ?_
    show Steps p.tables e below (T3.setTop (mkF m 25 #[.val (.int (110 : Int32)), .val (.ref h0.size), .val (.int (10 : Int32)), .val (.int (1 : Int32)), .val (.ref b1)] [(.int (110 : Int32)), (.int (66 : Int32))])) _
    refine XS.icmpYes X3.here hx rfl (pc0 := 25) (pc' := 31) rfl (hb hby d_prog_16_method_4_code_25) rfl (by decide) (by decide) (by decide) ?_
    show Steps p.tables e below (T3.setTop (mkF m 31 #[.val (.int (110 : Int32)), .val (.ref h0.size), .val (.int (10 : Int32)), .val (.int (1 : Int32)), .val (.ref b1)] [])) _
    refine XT.iincV X3.here hx rfl (1 : Int32) (hb hby d_prog_16_method_4_code_31) (by decide) rfl (l' := #[.val (.int (110 : Int32)), .val (.ref h0.size), .val (.int (10 : Int32)), .val (.int (2 : Int32)), .val (.ref b1)]) rfl ?_
    show Steps p.tables e below (T3.setTop (mkF m 34 #[.val (.int (110 : Int32)), .val (.ref h0.size), .val (.int (10 : Int32)), .val (.int (2 : Int32)), .val (.ref b1)] [])) _
    refine XS.goto X3.here hx rfl (pc0 := 34) (pc' := 9) rfl (hb hby d_prog_16_method_4_code_34) (by decide) (by decide) ?_
    show Steps p.tables e below (T3.setTop (mkF m 9 #[.val (.int (110 : Int32)), .val (.ref h0.size), .val (.int (10 : Int32)), .val (.int (2 : Int32)), .val (.ref b1)] [])) _
    refine XS.iloadN X3.here hx rfl (hb hby d_prog_16_method_4_code_9) rfl ?_
    show Steps p.tables e below (T3.setTop (mkF m 10 #[.val (.int (110 : Int32)), .val (.ref h0.size), .val (.int (10 : Int32)), .val (.int (2 : Int32)), .val (.ref b1)] [(.int (2 : Int32))])) _
    refine XS.iloadN X3.here hx rfl (hb hby d_prog_16_method_4_code_10) rfl ?_
    show Steps p.tables e below (T3.setTop (mkF m 11 #[.val (.int (110 : Int32)), .val (.ref h0.size), .val (.int (10 : Int32)), .val (.int (2 : Int32)), .val (.ref b1)] [(.int (10 : Int32)), (.int (2 : Int32))])) _
    refine XS.icmpNo X3.here hx rfl (hb hby d_prog_16_method_4_code_11) rfl (by decide) ?_
    show Steps p.tables e below (T3.setTop (mkF m 14 #[.val (.int (110 : Int32)), .val (.ref h0.size), .val (.int (10 : Int32)), .val (.int (2 : Int32)), .val (.ref b1)] [])) _
    refine XS.aloadN X3.here hx rfl (hb hby d_prog_16_method_4_code_14) rfl rfl ?_
    show Steps p.tables e below (T3.setTop (mkF m 15 #[.val (.int (110 : Int32)), .val (.ref h0.size), .val (.int (10 : Int32)), .val (.int (2 : Int32)), .val (.ref b1)] [(.ref h0.size)])) _
    refine XS.iloadN X3.here hx rfl (hb hby d_prog_16_method_4_code_15) rfl ?_
    show Steps p.tables e below (T3.setTop (mkF m 16 #[.val (.int (110 : Int32)), .val (.ref h0.size), .val (.int (10 : Int32)), .val (.int (2 : Int32)), .val (.ref b1)] [(.int (2 : Int32)), (.ref h0.size)])) _
    refine X3.aaload hx (j := (2 : Int32)) (v := (.ref b2)) (by first | exact Ar.1 | (rw [e3]; exact Ar.1)) (State.isArrayOf_alike hZ.alike Ar.2.1) rfl Ar.2.2 (inb_of Sz ⟨by decide, by decide⟩) (Hs.at (inb_of Sz ⟨by decide, by decide⟩) rfl) (g := (mkF m 16 #[.val (.int (110 : Int32)), .val (.ref h0.size), .val (.int (10 : Int32)), .val (.int (2 : Int32)), .val (.ref b1)] [(.int (2 : Int32)), (.ref h0.size)])) rfl rfl (hb hby d_prog_16_method_4_code_16) _ ?_
    show Steps p.tables e below (T3.setTop (mkF m 17 #[.val (.int (110 : Int32)), .val (.ref h0.size), .val (.int (10 : Int32)), .val (.int (2 : Int32)), .val (.ref b1)] [(.ref b2)])) _
    refine XS.astore X3.here hx rfl (hb hby d_prog_16_method_4_code_17) rfl rfl (l' := #[.val (.int (110 : Int32)), .val (.ref h0.size), .val (.int (10 : Int32)), .val (.int (2 : Int32)), .val (.ref b2)]) rfl ?_
    show Steps p.tables e below (T3.setTop (mkF m 19 #[.val (.int (110 : Int32)), .val (.ref h0.size), .val (.int (10 : Int32)), .val (.int (2 : Int32)), .val (.ref b2)] [])) _
    refine XS.aload X3.here hx rfl (hb hby d_prog_16_method_4_code_19) rfl rfl ?_
    show Steps p.tables e below (T3.setTop (mkF m 21 #[.val (.int (110 : Int32)), .val (.ref h0.size), .val (.int (10 : Int32)), .val (.int (2 : Int32)), .val (.ref b2)] [(.ref b2)])) _
    refine st4 _ ?_
    show Steps p.tables e below (T4.setTop (mkF m 24 #[.val (.int (110 : Int32)), .val (.ref h0.size), .val (.int (10 : Int32)), .val (.int (2 : Int32)), .val (.ref b2)] [(.int (99 : Int32))])) _
    refine XS.iloadN X4.here hx rfl (hb hby d_prog_16_method_4_code_24) rfl ?_
    show Steps p.tables e below (T4.setTop (mkF m 25 #[.val (.int (110 : Int32)), .val (.ref h0.size), .val (.int (10 : Int32)), .val (.int (2 : Int32)), .val (.ref b2)] [(.int (110 : Int32)), (.int (99 : Int32))])) _
    refine XS.icmpYes X4.here hx rfl (pc0 := 25) (pc' := 31) rfl (hb hby d_prog_16_method_4_code_25) rfl (by decide) (by decide) (by decide) ?_
    show Steps p.tables e below (T4.setTop (mkF m 31 #[.val (.int (110 : Int32)), .val (.ref h0.size), .val (.int (10 : Int32)), .val (.int (2 : Int32)), .val (.ref b2)] [])) _
    refine XT.iincV X4.here hx rfl (1 : Int32) (hb hby d_prog_16_method_4_code_31) (by decide) rfl (l' := #[.val (.int (110 : Int32)), .val (.ref h0.size), .val (.int (10 : Int32)), .val (.int (3 : Int32)), .val (.ref b2)]) rfl ?_
    show Steps p.tables e below (T4.setTop (mkF m 34 #[.val (.int (110 : Int32)), .val (.ref h0.size), .val (.int (10 : Int32)), .val (.int (3 : Int32)), .val (.ref b2)] [])) _
    refine XS.goto X4.here hx rfl (pc0 := 34) (pc' := 9) rfl (hb hby d_prog_16_method_4_code_34) (by decide) (by decide) ?_
    show Steps p.tables e below (T4.setTop (mkF m 9 #[.val (.int (110 : Int32)), .val (.ref h0.size), .val (.int (10 : Int32)), .val (.int (3 : Int32)), .val (.ref b2)] [])) _
    refine XS.iloadN X4.here hx rfl (hb hby d_prog_16_method_4_code_9) rfl ?_
    show Steps p.tables e below (T4.setTop (mkF m 10 #[.val (.int (110 : Int32)), .val (.ref h0.size), .val (.int (10 : Int32)), .val (.int (3 : Int32)), .val (.ref b2)] [(.int (3 : Int32))])) _
    refine XS.iloadN X4.here hx rfl (hb hby d_prog_16_method_4_code_10) rfl ?_
    show Steps p.tables e below (T4.setTop (mkF m 11 #[.val (.int (110 : Int32)), .val (.ref h0.size), .val (.int (10 : Int32)), .val (.int (3 : Int32)), .val (.ref b2)] [(.int (10 : Int32)), (.int (3 : Int32))])) _
    refine XS.icmpNo X4.here hx rfl (hb hby d_prog_16_method_4_code_11) rfl (by decide) ?_
    show Steps p.tables e below (T4.setTop (mkF m 14 #[.val (.int (110 : Int32)), .val (.ref h0.size), .val (.int (10 : Int32)), .val (.int (3 : Int32)), .val (.ref b2)] [])) _
    refine XS.aloadN X4.here hx rfl (hb hby d_prog_16_method_4_code_14) rfl rfl ?_
    show Steps p.tables e below (T4.setTop (mkF m 15 #[.val (.int (110 : Int32)), .val (.ref h0.size), .val (.int (10 : Int32)), .val (.int (3 : Int32)), .val (.ref b2)] [(.ref h0.size)])) _
    refine XS.iloadN X4.here hx rfl (hb hby d_prog_16_method_4_code_15) rfl ?_
    show Steps p.tables e below (T4.setTop (mkF m 16 #[.val (.int (110 : Int32)), .val (.ref h0.size), .val (.int (10 : Int32)), .val (.int (3 : Int32)), .val (.ref b2)] [(.int (3 : Int32)), (.ref h0.size)])) _
    refine X4.aaload hx (j := (3 : Int32)) (v := (.ref b3)) (by first | exact Ar.1 | (rw [e4]; exact Ar.1)) (State.isArrayOf_alike hZ.alike Ar.2.1) rfl Ar.2.2 (inb_of Sz ⟨by decide, by decide⟩) (Hs.at (inb_of Sz ⟨by decide, by decide⟩) rfl) (g := (mkF m 16 #[.val (.int (110 : Int32)), .val (.ref h0.size), .val (.int (10 : Int32)), .val (.int (3 : Int32)), .val (.ref b2)] [(.int (3 : Int32)), (.ref h0.size)])) rfl rfl (hb hby d_prog_16_method_4_code_16) _ ?_
    show Steps p.tables e below (T4.setTop (mkF m 17 #[.val (.int (110 : Int32)), .val (.ref h0.size), .val (.int (10 : Int32)), .val (.int (3 : Int32)), .val (.ref b2)] [(.ref b3)])) _
    refine XS.astore X4.here hx rfl (hb hby d_prog_16_method_4_code_17) rfl rfl (l' := #[.val (.int (110 : Int32)), .val (.ref h0.size), .val (.int (10 : Int32)), .val (.int (3 : Int32)), .val (.ref b3)]) rfl ?_
    show Steps p.tables e below (T4.setTop (mkF m 19 #[.val (.int (110 : Int32)), .val (.ref h0.size), .val (.int (10 : Int32)), .val (.int (3 : Int32)), .val (.ref b3)] [])) _
    refine XS.aload X4.here hx rfl (hb hby d_prog_16_method_4_code_19) rfl rfl ?_
    show Steps p.tables e below (T4.setTop (mkF m 21 #[.val (.int (110 : Int32)), .val (.ref h0.size), .val (.int (10 : Int32)), .val (.int (3 : Int32)), .val (.ref b3)] [(.ref b3)])) _
    refine st5 _ ?_
    show Steps p.tables e below (T5.setTop (mkF m 24 #[.val (.int (110 : Int32)), .val (.ref h0.size), .val (.int (10 : Int32)), .val (.int (3 : Int32)), .val (.ref b3)] [(.int (102 : Int32))])) _
    refine XS.iloadN X5.here hx rfl (hb hby d_prog_16_method_4_code_24) rfl ?_
    show Steps p.tables e below (T5.setTop (mkF m 25 #[.val (.int (110 : Int32)), .val (.ref h0.size), .val (.int (10 : Int32)), .val (.int (3 : Int32)), .val (.ref b3)] [(.int (110 : Int32)), (.int (102 : Int32))])) _
    refine XS.icmpYes X5.here hx rfl (pc0 := 25) (pc' := 31) rfl (hb hby d_prog_16_method_4_code_25) rfl (by decide) (by decide) (by decide) ?_
    show Steps p.tables e below (T5.setTop (mkF m 31 #[.val (.int (110 : Int32)), .val (.ref h0.size), .val (.int (10 : Int32)), .val (.int (3 : Int32)), .val (.ref b3)] [])) _
    refine XT.iincV X5.here hx rfl (1 : Int32) (hb hby d_prog_16_method_4_code_31) (by decide) rfl (l' := #[.val (.int (110 : Int32)), .val (.ref h0.size), .val (.int (10 : Int32)), .val (.int (4 : Int32)), .val (.ref b3)]) rfl ?_
    show Steps p.tables e below (T5.setTop (mkF m 34 #[.val (.int (110 : Int32)), .val (.ref h0.size), .val (.int (10 : Int32)), .val (.int (4 : Int32)), .val (.ref b3)] [])) _
    refine XS.goto X5.here hx rfl (pc0 := 34) (pc' := 9) rfl (hb hby d_prog_16_method_4_code_34) (by decide) (by decide) ?_
    show Steps p.tables e below (T5.setTop (mkF m 9 #[.val (.int (110 : Int32)), .val (.ref h0.size), .val (.int (10 : Int32)), .val (.int (4 : Int32)), .val (.ref b3)] [])) _
    refine XS.iloadN X5.here hx rfl (hb hby d_prog_16_method_4_code_9) rfl ?_
    show Steps p.tables e below (T5.setTop (mkF m 10 #[.val (.int (110 : Int32)), .val (.ref h0.size), .val (.int (10 : Int32)), .val (.int (4 : Int32)), .val (.ref b3)] [(.int (4 : Int32))])) _
    refine XS.iloadN X5.here hx rfl (hb hby d_prog_16_method_4_code_10) rfl ?_
    show Steps p.tables e below (T5.setTop (mkF m 11 #[.val (.int (110 : Int32)), .val (.ref h0.size), .val (.int (10 : Int32)), .val (.int (4 : Int32)), .val (.ref b3)] [(.int (10 : Int32)), (.int (4 : Int32))])) _
    refine XS.icmpNo X5.here hx rfl (hb hby d_prog_16_method_4_code_11) rfl (by decide) ?_
    show Steps p.tables e below (T5.setTop (mkF m 14 #[.val (.int (110 : Int32)), .val (.ref h0.size), .val (.int (10 : Int32)), .val (.int (4 : Int32)), .val (.ref b3)] [])) _
    refine XS.aloadN X5.here hx rfl (hb hby d_prog_16_method_4_code_14) rfl rfl ?_
    show Steps p.tables e below (T5.setTop (mkF m 15 #[.val (.int (110 : Int32)), .val (.ref h0.size), .val (.int (10 : Int32)), .val (.int (4 : Int32)), .val (.ref b3)] [(.ref h0.size)])) _
    refine XS.iloadN X5.here hx rfl (hb hby d_prog_16_method_4_code_15) rfl ?_
    show Steps p.tables e below (T5.setTop (mkF m 16 #[.val (.int (110 : Int32)), .val (.ref h0.size), .val (.int (10 : Int32)), .val (.int (4 : Int32)), .val (.ref b3)] [(.int (4 : Int32)), (.ref h0.size)])) _
    refine X5.aaload hx (j := (4 : Int32)) (v := (.ref b4)) (by first | exact Ar.1 | (rw [e5]; exact Ar.1)) (State.isArrayOf_alike hZ.alike Ar.2.1) rfl Ar.2.2 (inb_of Sz ⟨by decide, by decide⟩) (Hs.at (inb_of Sz ⟨by decide, by decide⟩) rfl) (g := (mkF m 16 #[.val (.int (110 : Int32)), .val (.ref h0.size), .val (.int (10 : Int32)), .val (.int (4 : Int32)), .val (.ref b3)] [(.int (4 : Int32)), (.ref h0.size)])) rfl rfl (hb hby d_prog_16_method_4_code_16) _ ?_
    show Steps p.tables e below (T5.setTop (mkF m 17 #[.val (.int (110 : Int32)), .val (.ref h0.size), .val (.int (10 : Int32)), .val (.int (4 : Int32)), .val (.ref b3)] [(.ref b4)])) _
    refine XS.astore X5.here hx rfl (hb hby d_prog_16_method_4_code_17) rfl rfl (l' := #[.val (.int (110 : Int32)), .val (.ref h0.size), .val (.int (10 : Int32)), .val (.int (4 : Int32)), .val (.ref b4)]) rfl ?_
    show Steps p.tables e below (T5.setTop (mkF m 19 #[.val (.int (110 : Int32)), .val (.ref h0.size), .val (.int (10 : Int32)), .val (.int (4 : Int32)), .val (.ref b4)] [])) _
    refine XS.aload X5.here hx rfl (hb hby d_prog_16_method_4_code_19) rfl rfl ?_
    show Steps p.tables e below (T5.setTop (mkF m 21 #[.val (.int (110 : Int32)), .val (.ref h0.size), .val (.int (10 : Int32)), .val (.int (4 : Int32)), .val (.ref b4)] [(.ref b4)])) _
    refine st6 _ ?_
    show Steps p.tables e below (T6.setTop (mkF m 24 #[.val (.int (110 : Int32)), .val (.ref h0.size), .val (.int (10 : Int32)), .val (.int (4 : Int32)), .val (.ref b4)] [(.int (104 : Int32))])) _
    refine XS.iloadN X6.here hx rfl (hb hby d_prog_16_method_4_code_24) rfl ?_
    show Steps p.tables e below (T6.setTop (mkF m 25 #[.val (.int (110 : Int32)), .val (.ref h0.size), .val (.int (10 : Int32)), .val (.int (4 : Int32)), .val (.ref b4)] [(.int (110 : Int32)), (.int (104 : Int32))])) _
    refine XS.icmpYes X6.here hx rfl (pc0 := 25) (pc' := 31) rfl (hb hby d_prog_16_method_4_code_25) rfl (by decide) (by decide) (by decide) ?_
    show Steps p.tables e below (T6.setTop (mkF m 31 #[.val (.int (110 : Int32)), .val (.ref h0.size), .val (.int (10 : Int32)), .val (.int (4 : Int32)), .val (.ref b4)] [])) _
    refine XT.iincV X6.here hx rfl (1 : Int32) (hb hby d_prog_16_method_4_code_31) (by decide) rfl (l' := #[.val (.int (110 : Int32)), .val (.ref h0.size), .val (.int (10 : Int32)), .val (.int (5 : Int32)), .val (.ref b4)]) rfl ?_
    show Steps p.tables e below (T6.setTop (mkF m 34 #[.val (.int (110 : Int32)), .val (.ref h0.size), .val (.int (10 : Int32)), .val (.int (5 : Int32)), .val (.ref b4)] [])) _
    refine XS.goto X6.here hx rfl (pc0 := 34) (pc' := 9) rfl (hb hby d_prog_16_method_4_code_34) (by decide) (by decide) ?_
    show Steps p.tables e below (T6.setTop (mkF m 9 #[.val (.int (110 : Int32)), .val (.ref h0.size), .val (.int (10 : Int32)), .val (.int (5 : Int32)), .val (.ref b4)] [])) _
    refine XS.iloadN X6.here hx rfl (hb hby d_prog_16_method_4_code_9) rfl ?_
    show Steps p.tables e below (T6.setTop (mkF m 10 #[.val (.int (110 : Int32)), .val (.ref h0.size), .val (.int (10 : Int32)), .val (.int (5 : Int32)), .val (.ref b4)] [(.int (5 : Int32))])) _
    refine XS.iloadN X6.here hx rfl (hb hby d_prog_16_method_4_code_10) rfl ?_
    show Steps p.tables e below (T6.setTop (mkF m 11 #[.val (.int (110 : Int32)), .val (.ref h0.size), .val (.int (10 : Int32)), .val (.int (5 : Int32)), .val (.ref b4)] [(.int (10 : Int32)), (.int (5 : Int32))])) _
    refine XS.icmpNo X6.here hx rfl (hb hby d_prog_16_method_4_code_11) rfl (by decide) ?_
    show Steps p.tables e below (T6.setTop (mkF m 14 #[.val (.int (110 : Int32)), .val (.ref h0.size), .val (.int (10 : Int32)), .val (.int (5 : Int32)), .val (.ref b4)] [])) _
    refine XS.aloadN X6.here hx rfl (hb hby d_prog_16_method_4_code_14) rfl rfl ?_
    show Steps p.tables e below (T6.setTop (mkF m 15 #[.val (.int (110 : Int32)), .val (.ref h0.size), .val (.int (10 : Int32)), .val (.int (5 : Int32)), .val (.ref b4)] [(.ref h0.size)])) _
    refine XS.iloadN X6.here hx rfl (hb hby d_prog_16_method_4_code_15) rfl ?_
    show Steps p.tables e below (T6.setTop (mkF m 16 #[.val (.int (110 : Int32)), .val (.ref h0.size), .val (.int (10 : Int32)), .val (.int (5 : Int32)), .val (.ref b4)] [(.int (5 : Int32)), (.ref h0.size)])) _
    refine X6.aaload hx (j := (5 : Int32)) (v := (.ref b5)) (by first | exact Ar.1 | (rw [e6]; exact Ar.1)) (State.isArrayOf_alike hZ.alike Ar.2.1) rfl Ar.2.2 (inb_of Sz ⟨by decide, by decide⟩) (Hs.at (inb_of Sz ⟨by decide, by decide⟩) rfl) (g := (mkF m 16 #[.val (.int (110 : Int32)), .val (.ref h0.size), .val (.int (10 : Int32)), .val (.int (5 : Int32)), .val (.ref b4)] [(.int (5 : Int32)), (.ref h0.size)])) rfl rfl (hb hby d_prog_16_method_4_code_16) _ ?_
    show Steps p.tables e below (T6.setTop (mkF m 17 #[.val (.int (110 : Int32)), .val (.ref h0.size), .val (.int (10 : Int32)), .val (.int (5 : Int32)), .val (.ref b4)] [(.ref b5)])) _
    refine XS.astore X6.here hx rfl (hb hby d_prog_16_method_4_code_17) rfl rfl (l' := #[.val (.int (110 : Int32)), .val (.ref h0.size), .val (.int (10 : Int32)), .val (.int (5 : Int32)), .val (.ref b5)]) rfl ?_
    show Steps p.tables e below (T6.setTop (mkF m 19 #[.val (.int (110 : Int32)), .val (.ref h0.size), .val (.int (10 : Int32)), .val (.int (5 : Int32)), .val (.ref b5)] [])) _
    refine XS.aload X6.here hx rfl (hb hby d_prog_16_method_4_code_19) rfl rfl ?_
    show Steps p.tables e below (T6.setTop (mkF m 21 #[.val (.int (110 : Int32)), .val (.ref h0.size), .val (.int (10 : Int32)), .val (.int (5 : Int32)), .val (.ref b5)] [(.ref b5)])) _
    refine st7 _ ?_
    show Steps p.tables e below (T7.setTop (mkF m 24 #[.val (.int (110 : Int32)), .val (.ref h0.size), .val (.int (10 : Int32)), .val (.int (5 : Int32)), .val (.ref b5)] [(.int (74 : Int32))])) _
    refine XS.iloadN X7.here hx rfl (hb hby d_prog_16_method_4_code_24) rfl ?_
    show Steps p.tables e below (T7.setTop (mkF m 25 #[.val (.int (110 : Int32)), .val (.ref h0.size), .val (.int (10 : Int32)), .val (.int (5 : Int32)), .val (.ref b5)] [(.int (110 : Int32)), (.int (74 : Int32))])) _
    refine XS.icmpYes X7.here hx rfl (pc0 := 25) (pc' := 31) rfl (hb hby d_prog_16_method_4_code_25) rfl (by decide) (by decide) (by decide) ?_
    show Steps p.tables e below (T7.setTop (mkF m 31 #[.val (.int (110 : Int32)), .val (.ref h0.size), .val (.int (10 : Int32)), .val (.int (5 : Int32)), .val (.ref b5)] [])) _
    refine XT.iincV X7.here hx rfl (1 : Int32) (hb hby d_prog_16_method_4_code_31) (by decide) rfl (l' := #[.val (.int (110 : Int32)), .val (.ref h0.size), .val (.int (10 : Int32)), .val (.int (6 : Int32)), .val (.ref b5)]) rfl ?_
    show Steps p.tables e below (T7.setTop (mkF m 34 #[.val (.int (110 : Int32)), .val (.ref h0.size), .val (.int (10 : Int32)), .val (.int (6 : Int32)), .val (.ref b5)] [])) _
    refine XS.goto X7.here hx rfl (pc0 := 34) (pc' := 9) rfl (hb hby d_prog_16_method_4_code_34) (by decide) (by decide) ?_
    show Steps p.tables e below (T7.setTop (mkF m 9 #[.val (.int (110 : Int32)), .val (.ref h0.size), .val (.int (10 : Int32)), .val (.int (6 : Int32)), .val (.ref b5)] [])) _
    refine XS.iloadN X7.here hx rfl (hb hby d_prog_16_method_4_code_9) rfl ?_
    show Steps p.tables e below (T7.setTop (mkF m 10 #[.val (.int (110 : Int32)), .val (.ref h0.size), .val (.int (10 : Int32)), .val (.int (6 : Int32)), .val (.ref b5)] [(.int (6 : Int32))])) _
    refine XS.iloadN X7.here hx rfl (hb hby d_prog_16_method_4_code_10) rfl ?_
    show Steps p.tables e below (T7.setTop (mkF m 11 #[.val (.int (110 : Int32)), .val (.ref h0.size), .val (.int (10 : Int32)), .val (.int (6 : Int32)), .val (.ref b5)] [(.int (10 : Int32)), (.int (6 : Int32))])) _
    refine XS.icmpNo X7.here hx rfl (hb hby d_prog_16_method_4_code_11) rfl (by decide) ?_
    show Steps p.tables e below (T7.setTop (mkF m 14 #[.val (.int (110 : Int32)), .val (.ref h0.size), .val (.int (10 : Int32)), .val (.int (6 : Int32)), .val (.ref b5)] [])) _
    refine XS.aloadN X7.here hx rfl (hb hby d_prog_16_method_4_code_14) rfl rfl ?_
    show Steps p.tables e below (T7.setTop (mkF m 15 #[.val (.int (110 : Int32)), .val (.ref h0.size), .val (.int (10 : Int32)), .val (.int (6 : Int32)), .val (.ref b5)] [(.ref h0.size)])) _
    refine XS.iloadN X7.here hx rfl (hb hby d_prog_16_method_4_code_15) rfl ?_
    show Steps p.tables e below (T7.setTop (mkF m 16 #[.val (.int (110 : Int32)), .val (.ref h0.size), .val (.int (10 : Int32)), .val (.int (6 : Int32)), .val (.ref b5)] [(.int (6 : Int32)), (.ref h0.size)])) _
    refine X7.aaload hx (j := (6 : Int32)) (v := (.ref b6)) (by first | exact Ar.1 | (rw [e7]; exact Ar.1)) (State.isArrayOf_alike hZ.alike Ar.2.1) rfl Ar.2.2 (inb_of Sz ⟨by decide, by decide⟩) (Hs.at (inb_of Sz ⟨by decide, by decide⟩) rfl) (g := (mkF m 16 #[.val (.int (110 : Int32)), .val (.ref h0.size), .val (.int (10 : Int32)), .val (.int (6 : Int32)), .val (.ref b5)] [(.int (6 : Int32)), (.ref h0.size)])) rfl rfl (hb hby d_prog_16_method_4_code_16) _ ?_
    show Steps p.tables e below (T7.setTop (mkF m 17 #[.val (.int (110 : Int32)), .val (.ref h0.size), .val (.int (10 : Int32)), .val (.int (6 : Int32)), .val (.ref b5)] [(.ref b6)])) _
    refine XS.astore X7.here hx rfl (hb hby d_prog_16_method_4_code_17) rfl rfl (l' := #[.val (.int (110 : Int32)), .val (.ref h0.size), .val (.int (10 : Int32)), .val (.int (6 : Int32)), .val (.ref b6)]) rfl ?_
    show Steps p.tables e below (T7.setTop (mkF m 19 #[.val (.int (110 : Int32)), .val (.ref h0.size), .val (.int (10 : Int32)), .val (.int (6 : Int32)), .val (.ref b6)] [])) _
    refine XS.aload X7.here hx rfl (hb hby d_prog_16_method_4_code_19) rfl rfl ?_
    show Steps p.tables e below (T7.setTop (mkF m 21 #[.val (.int (110 : Int32)), .val (.ref h0.size), .val (.int (10 : Int32)), .val (.int (6 : Int32)), .val (.ref b6)] [(.ref b6)])) _
    refine st8 _ ?_
    show Steps p.tables e below (T8.setTop (mkF m 24 #[.val (.int (110 : Int32)), .val (.ref h0.size), .val (.int (10 : Int32)), .val (.int (6 : Int32)), .val (.ref b6)] [(.int (108 : Int32))])) _
    refine XS.iloadN X8.here hx rfl (hb hby d_prog_16_method_4_code_24) rfl ?_
    show Steps p.tables e below (T8.setTop (mkF m 25 #[.val (.int (110 : Int32)), .val (.ref h0.size), .val (.int (10 : Int32)), .val (.int (6 : Int32)), .val (.ref b6)] [(.int (110 : Int32)), (.int (108 : Int32))])) _
    refine XS.icmpYes X8.here hx rfl (pc0 := 25) (pc' := 31) rfl (hb hby d_prog_16_method_4_code_25) rfl (by decide) (by decide) (by decide) ?_
    show Steps p.tables e below (T8.setTop (mkF m 31 #[.val (.int (110 : Int32)), .val (.ref h0.size), .val (.int (10 : Int32)), .val (.int (6 : Int32)), .val (.ref b6)] [])) _
    refine XT.iincV X8.here hx rfl (1 : Int32) (hb hby d_prog_16_method_4_code_31) (by decide) rfl (l' := #[.val (.int (110 : Int32)), .val (.ref h0.size), .val (.int (10 : Int32)), .val (.int (7 : Int32)), .val (.ref b6)]) rfl ?_
    show Steps p.tables e below (T8.setTop (mkF m 34 #[.val (.int (110 : Int32)), .val (.ref h0.size), .val (.int (10 : Int32)), .val (.int (7 : Int32)), .val (.ref b6)] [])) _
    refine XS.goto X8.here hx rfl (pc0 := 34) (pc' := 9) rfl (hb hby d_prog_16_method_4_code_34) (by decide) (by decide) ?_
    show Steps p.tables e below (T8.setTop (mkF m 9 #[.val (.int (110 : Int32)), .val (.ref h0.size), .val (.int (10 : Int32)), .val (.int (7 : Int32)), .val (.ref b6)] [])) _
    refine XS.iloadN X8.here hx rfl (hb hby d_prog_16_method_4_code_9) rfl ?_
    show Steps p.tables e below (T8.setTop (mkF m 10 #[.val (.int (110 : Int32)), .val (.ref h0.size), .val (.int (10 : Int32)), .val (.int (7 : Int32)), .val (.ref b6)] [(.int (7 : Int32))])) _
    refine XS.iloadN X8.here hx rfl (hb hby d_prog_16_method_4_code_10) rfl ?_
    show Steps p.tables e below (T8.setTop (mkF m 11 #[.val (.int (110 : Int32)), .val (.ref h0.size), .val (.int (10 : Int32)), .val (.int (7 : Int32)), .val (.ref b6)] [(.int (10 : Int32)), (.int (7 : Int32))])) _
    refine XS.icmpNo X8.here hx rfl (hb hby d_prog_16_method_4_code_11) rfl (by decide) ?_
    show Steps p.tables e below (T8.setTop (mkF m 14 #[.val (.int (110 : Int32)), .val (.ref h0.size), .val (.int (10 : Int32)), .val (.int (7 : Int32)), .val (.ref b6)] [])) _
    refine XS.aloadN X8.here hx rfl (hb hby d_prog_16_method_4_code_14) rfl rfl ?_
    show Steps p.tables e below (T8.setTop (mkF m 15 #[.val (.int (110 : Int32)), .val (.ref h0.size), .val (.int (10 : Int32)), .val (.int (7 : Int32)), .val (.ref b6)] [(.ref h0.size)])) _
    refine XS.iloadN X8.here hx rfl (hb hby d_prog_16_method_4_code_15) rfl ?_
    show Steps p.tables e below (T8.setTop (mkF m 16 #[.val (.int (110 : Int32)), .val (.ref h0.size), .val (.int (10 : Int32)), .val (.int (7 : Int32)), .val (.ref b6)] [(.int (7 : Int32)), (.ref h0.size)])) _
    refine X8.aaload hx (j := (7 : Int32)) (v := (.ref b7)) (by first | exact Ar.1 | (rw [e8]; exact Ar.1)) (State.isArrayOf_alike hZ.alike Ar.2.1) rfl Ar.2.2 (inb_of Sz ⟨by decide, by decide⟩) (Hs.at (inb_of Sz ⟨by decide, by decide⟩) rfl) (g := (mkF m 16 #[.val (.int (110 : Int32)), .val (.ref h0.size), .val (.int (10 : Int32)), .val (.int (7 : Int32)), .val (.ref b6)] [(.int (7 : Int32)), (.ref h0.size)])) rfl rfl (hb hby d_prog_16_method_4_code_16) _ ?_
    show Steps p.tables e below (T8.setTop (mkF m 17 #[.val (.int (110 : Int32)), .val (.ref h0.size), .val (.int (10 : Int32)), .val (.int (7 : Int32)), .val (.ref b6)] [(.ref b7)])) _
    refine XS.astore X8.here hx rfl (hb hby d_prog_16_method_4_code_17) rfl rfl (l' := #[.val (.int (110 : Int32)), .val (.ref h0.size), .val (.int (10 : Int32)), .val (.int (7 : Int32)), .val (.ref b7)]) rfl ?_
    show Steps p.tables e below (T8.setTop (mkF m 19 #[.val (.int (110 : Int32)), .val (.ref h0.size), .val (.int (10 : Int32)), .val (.int (7 : Int32)), .val (.ref b7)] [])) _
    refine XS.aload X8.here hx rfl (hb hby d_prog_16_method_4_code_19) rfl rfl ?_
    show Steps p.tables e below (T8.setTop (mkF m 21 #[.val (.int (110 : Int32)), .val (.ref h0.size), .val (.int (10 : Int32)), .val (.int (7 : Int32)), .val (.ref b7)] [(.ref b7)])) _
    refine st9 _ ?_
    show Steps p.tables e below (T9.setTop (mkF m 24 #[.val (.int (110 : Int32)), .val (.ref h0.size), .val (.int (10 : Int32)), .val (.int (7 : Int32)), .val (.ref b7)] [(.int (110 : Int32))])) _
    refine XS.iloadN X9.here hx rfl (hb hby d_prog_16_method_4_code_24) rfl ?_
    show Steps p.tables e below (T9.setTop (mkF m 25 #[.val (.int (110 : Int32)), .val (.ref h0.size), .val (.int (10 : Int32)), .val (.int (7 : Int32)), .val (.ref b7)] [(.int (110 : Int32)), (.int (110 : Int32))])) _
    refine XS.icmpNo X9.here hx rfl (hb hby d_prog_16_method_4_code_25) rfl (by decide) ?_
    show Steps p.tables e below (T9.setTop (mkF m 28 #[.val (.int (110 : Int32)), .val (.ref h0.size), .val (.int (10 : Int32)), .val (.int (7 : Int32)), .val (.ref b7)] [])) _
    refine XS.aload X9.here hx rfl (hb hby d_prog_16_method_4_code_28) rfl rfl ?_
    show Steps p.tables e below (T9.setTop (mkF m 30 #[.val (.int (110 : Int32)), .val (.ref h0.size), .val (.int (10 : Int32)), .val (.int (7 : Int32)), .val (.ref b7)] [(.ref b7)])) _
    exact retOut X9 hx Bd.returns rfl (Or.inr (Or.inr (Or.inr (Or.inr ⟨rfl, rfl, rfl⟩)))) (hb hby d_prog_16_method_4_code_30) hr
  · exact ⟨rfl, N1, by show Ext h0 T9.heap; rw [e9]; exact Ex1⟩
theorem d_method_2_code_70 : decode method_2_code 70 = .ok (.iload_n 0, 1) := by decide +kernel
theorem d_method_2_code_71 : decode method_2_code 71 = .ok (.bipush 110, 2) := by decide +kernel
theorem d_method_2_code_73 : decode method_2_code 73 = .ok (.if_icmp .ne 7, 3) := by decide +kernel
theorem d_method_2_code_76 : decode method_2_code 76 = .ok (.getstatic 31, 3) := by decide +kernel
theorem d_method_2_code_79 : decode method_2_code 79 = .ok (.areturn, 1) := by decide +kernel
def Q_exp_7 (Z : State) (b7 : Addr) (h0 : Heap) (n0 : Nat) (v : Option Value) (h : Heap) (L : List Loc) : Prop := v = some (.ref b7) ∧ Fr n0 L ∧ h = h0
set_option maxRecDepth 65536 in
set_option maxHeartbeats 40000000 in
theorem exp_7 (l : Launch) (Z : State) (a0 : Array Value) (hw : ∀ d ∈ tables_1, d.before a0 Z = true) (ws : List Jvm.Cond) (b7 : Addr) (h0 : Heap) (n0 : Nat) (Z0 : n0 ≤ h0.size) (Sb7 : Sta Z h0 "com/example/keyward/keyward/LdapOperation" "COMPARE" "Lcom/example/keyward/keyward/LdapOperation;" (.ref b7)) :
    MetFree l (⟨"com/example/keyward/keyward/LdapOperationForRequestTagPinLaw", "expected", "(I)Lcom/example/keyward/keyward/LdapOperation;"⟩ : MethodName) (head1 (Jvm.Cond.code (⟨"com/example/keyward/keyward/LdapOperationForRequestTagPinLaw", "expected", "(I)Lcom/example/keyward/keyward/LdapOperation;"⟩ : MethodName) method_2_code 1 (Option.some (Jvm.ClassFile.FieldType.object "com/example/keyward/keyward/LdapOperation")) :: ws) ({ frames := 0, cells := 0, slots := 0, locals := 0 } : Room)) (fun a U => a = #[(.int (110 : Int32))] ∧ Z.Warmed39 U.vm ∧ U.heap = h0) (fun _ _ _ _ _ => True) (fun _ U o U' => ∃ v L, o = .returned v ∧ Q_exp_7 Z b7 h0 n0 v U'.heap L ∧ FrameEnd U o U' L ({ frames := 0, cells := 0, slots := 0, locals := 0 } : Room).cells ({ frames := 0, cells := 0, slots := 0, locals := 0 } : Room).slots) := by
  refine MetFree.of_bodySF (plainFor_of_name pn_34) hisR ?_
  intro p e s m args below meth c s₁ Bd hml0 hP hK
  obtain ⟨rfl, hZ, hh⟩ := hP
  have hx := Bd.exec
  have hby := Bd.bytes
  have hml : c.maxLocals = 1 := hml0
  have hown : s.vm.findClass "com/example/keyward/keyward/LdapOperationForRequestTagPinLaw" = some m.cls := findClass_of_methodNamed Bd.named
  have hnm := (name_of_methodNamed Bd.named Bd.method).1
  have X0 : Stand p l e ({ frames := 0, cells := 0, slots := 0, locals := 0 } : Room) s m #[(.int (110 : Int32))] below meth c s₁ [] 0 0 := Stand.of_body Bd
  have e0 : s₁.heap = h0 := by rw [← hh, Bd.state]; rfl
  have N0 := Fr.nil n0
  have pre0 : ∀ t, Steps p.tables e below (s₁.setTop (mkF m 0 #[.val (.int (110 : Int32))] [])) t → Steps p.tables e below (s₁.setTop (entryFrame m #[(.int (110 : Int32))] 1)) t := fun t k => castTop (ef_33 m (110 : Int32)) k
  obtain ⟨T1, X1, e1, st1⟩ := getS X0 hx hZ (host := "") hown (hw _ (List.mem_of_getElem? (i := 43) rfl)) Via.refl e0 Sb7 (g := (mkF m 76 #[.val (.int (110 : Int32))] [])) rfl (hb hby d_method_2_code_76)
  obtain ⟨fs, hr, hrun, hended, hW, hsame⟩ := X1.leave (v := some (.ref b7)) (fun h => by rw [Bd.returns] at h; cases h)
  refine ⟨_, _, pre0 _ ?_, hrun, hended, _, _, rfl, ?_, ⟨_, rfl⟩, hW, hsame.mono (by decide) (by decide)⟩
  · show Steps p.tables e below (s₁.setTop (mkF m 0 #[.val (.int (110 : Int32))] [])) _
    refine XS.iloadN X0.here hx rfl (hb hby d_method_2_code_0) rfl ?_
    show Steps p.tables e below (s₁.setTop (mkF m 1 #[.val (.int (110 : Int32))] [(.int (110 : Int32))])) _
    refine XT.bipushV X0.here hx rfl (96 : Int32) (hb hby d_method_2_code_1) (by decide) ?_
    show Steps p.tables e below (s₁.setTop (mkF m 3 #[.val (.int (110 : Int32))] [(.int (96 : Int32)), (.int (110 : Int32))])) _
    refine XS.icmpYes X0.here hx rfl (pc0 := 3) (pc' := 10) rfl (hb hby d_method_2_code_3) rfl (by decide) (by decide) (by decide) ?_
    show Steps p.tables e below (s₁.setTop (mkF m 10 #[.val (.int (110 : Int32))] [])) _
    refine XS.iloadN X0.here hx rfl (hb hby d_method_2_code_10) rfl ?_
    show Steps p.tables e below (s₁.setTop (mkF m 11 #[.val (.int (110 : Int32))] [(.int (110 : Int32))])) _
    refine XT.bipushV X0.here hx rfl (66 : Int32) (hb hby d_method_2_code_11) (by decide) ?_
    show Steps p.tables e below (s₁.setTop (mkF m 13 #[.val (.int (110 : Int32))] [(.int (66 : Int32)), (.int (110 : Int32))])) _
    refine XS.icmpYes X0.here hx rfl (pc0 := 13) (pc' := 20) rfl (hb hby d_method_2_code_13) rfl (by decide) (by decide) (by decide) ?_
    show Steps p.tables e below (s₁.setTop (mkF m 20 #[.val (.int (110 : Int32))] [])) _
    refine XS.iloadN X0.here hx rfl (hb hby d_method_2_code_20) rfl ?_
    show Steps p.tables e below (s₁.setTop (mkF m 21 #[.val (.int (110 : Int32))] [(.int (110 : Int32))])) _
    refine XT.bipushV X0.here hx rfl (99 : Int32) (hb hby d_method_2_code_21) (by decide) ?_
    show Steps p.tables e below (s₁.setTop (mkF m 23 #[.val (.int (110 : Int32))] [(.int (99 : Int32)), (.int (110 : Int32))])) _
    refine XS.icmpYes X0.here hx rfl (pc0 := 23) (pc' := 30) rfl (hb hby d_method_2_code_23) rfl (by decide) (by decide) (by decide) ?_
    show Steps p.tables e below (s₁.setTop (mkF m 30 #[.val (.int (110 : Int32))] [])) _
    refine XS.iloadN X0.here hx rfl (hb hby d_method_2_code_30) rfl ?_
    show Steps p.tables e below (s₁.setTop (mkF m 31 #[.val (.int (110 : Int32))] [(.int (110 : Int32))])) _
    refine XT.bipushV X0.here hx rfl (102 : Int32) (hb hby d_method_2_code_31) (by decide) ?_
    show Steps p.tables e below (s₁.setTop (mkF m 33 #[.val (.int (110 : Int32))] [(.int (102 : Int32)), (.int (110 : Int32))])) _
    refine XS.icmpYes X0.here hx rfl (pc0 := 33) (pc' := 40) rfl (hb hby d_method_2_code_33) rfl (by decide) (by decide) (by decide) ?_
    show Steps p.tables e below (s₁.setTop (mkF m 40 #[.val (.int (110 : Int32))] [])) _
    refine XS.iloadN X0.here hx rfl (hb hby d_method_2_code_40) rfl ?_
    show Steps p.tables e below (s₁.setTop (mkF m 41 #[.val (.int (110 : Int32))] [(.int (110 : Int32))])) _
    refine XT.bipushV X0.here hx rfl (104 : Int32) (hb hby d_method_2_code_41) (by decide) ?_
    show Steps p.tables e below (s₁.setTop (mkF m 43 #[.val (.int (110 : Int32))] [(.int (104 : Int32)), (.int (110 : Int32))])) _
    refine XS.icmpYes X0.here hx rfl (pc0 := 43) (pc' := 50) rfl (hb hby d_method_2_code_43) rfl (by decide) (by decide) (by decide) ?_
    show Steps p.tables e below (s₁.setTop (mkF m 50 #[.val (.int (110 : Int32))] [])) _
    refine XS.iloadN X0.here hx rfl (hb hby d_method_2_code_50) rfl ?_
    show Steps p.tables e below (s₁.setTop (mkF m 51 #[.val (.int (110 : Int32))] [(.int (110 : Int32))])) _
    refine XT.bipushV X0.here hx rfl (74 : Int32) (hb hby d_method_2_code_51) (by decide) ?_
    show Steps p.tables e below (s₁.setTop (mkF m 53 #[.val (.int (110 : Int32))] [(.int (74 : Int32)), (.int (110 : Int32))])) _
    refine XS.icmpYes X0.here hx rfl (pc0 := 53) (pc' := 60) rfl (hb hby d_method_2_code_53) rfl (by decide) (by decide) (by decide) ?_
    show Steps p.tables e below (s₁.setTop (mkF m 60 #[.val (.int (110 : Int32))] [])) _
    refine XS.iloadN X0.here hx rfl (hb hby d_method_2_code_60) rfl ?_
    show Steps p.tables e below (s₁.setTop (mkF m 61 #[.val (.int (110 : Int32))] [(.int (110 : Int32))])) _
    refine XT.bipushV X0.here hx rfl (108 : Int32) (hb hby d_method_2_code_61) (by decide) ?_
    show Steps p.tables e below (s₁.setTop (mkF m 63 #[.val (.int (110 : Int32))] [(.int (108 : Int32)), (.int (110 : Int32))])) _
    refine XS.icmpYes X0.here hx rfl (pc0 := 63) (pc' := 70) rfl (hb hby d_method_2_code_63) rfl (by decide) (by decide) (by decide) ?_
    show Steps p.tables e below (s₁.setTop (mkF m 70 #[.val (.int (110 : Int32))] [])) _
    refine XS.iloadN X0.here hx rfl (hb hby d_method_2_code_70) rfl ?_
    show Steps p.tables e below (s₁.setTop (mkF m 71 #[.val (.int (110 : Int32))] [(.int (110 : Int32))])) _
    refine XT.bipushV X0.here hx rfl (110 : Int32) (hb hby d_method_2_code_71) (by decide) ?_
    show Steps p.tables e below (s₁.setTop (mkF m 73 #[.val (.int (110 : Int32))] [(.int (110 : Int32)), (.int (110 : Int32))])) _
    refine XS.icmpNo X0.here hx rfl (hb hby d_method_2_code_73) rfl (by decide) ?_
    show Steps p.tables e below (s₁.setTop (mkF m 76 #[.val (.int (110 : Int32))] [])) _
    refine st1 _ ?_
    show Steps p.tables e below (T1.setTop (mkF m 79 #[.val (.int (110 : Int32))] [(.ref b7)])) _
    exact retOut X1 hx Bd.returns rfl (Or.inr (Or.inr (Or.inr (Or.inr ⟨rfl, rfl, rfl⟩)))) (hb hby d_method_2_code_79) hr
  · exact ⟨rfl, N0, e1⟩
def Q_find_8 (Z : State) (aV : Addr) (kV : ClassId) (b0 b1 b2 b3 b4 b5 b6 b7 b8 b9 : Addr) (h0 : Heap) (n0 : Nat) (v : Option Value) (h : Heap) (L : List Loc) : Prop := v = some (.ref b8) ∧ Fr n0 L ∧ Ext h0 h
set_option maxRecDepth 65536 in
set_option maxHeartbeats 40000000 in
theorem find_8 (l : Launch) (Z : State) (a0 : Array Value) (hw : ∀ d ∈ tables_1, d.before a0 Z = true) (ws : List Jvm.Cond) (aV : Addr) (kV : ClassId) (b0 b1 b2 b3 b4 b5 b6 b7 b8 b9 : Addr) (h0 : Heap) (n0 : Nat) (Z0 : n0 ≤ h0.size) (SaV : Sta Z h0 "com/example/keyward/keyward/LdapOperation" "$VALUES" "[Lcom/example/keyward/keyward/LdapOperation;" (.ref aV)) (VaV : Arv Z h0 aV kV (.object "com/example/keyward/keyward/LdapOperation") (10 : Int32) [(.ref b0), (.ref b1), (.ref b2), (.ref b3), (.ref b4), (.ref b5), (.ref b6), (.ref b7), (.ref b8), (.ref b9)] .null) (EaV : Exa Z h0 aV "[Lcom/example/keyward/keyward/LdapOperation;")(Fb0 : Fld Z h0 b0 "com/example/keyward/keyward/LdapOperation" "requestTag" "I" (.int (96 : Int32)))(Fb1 : Fld Z h0 b1 "com/example/keyward/keyward/LdapOperation" "requestTag" "I" (.int (66 : Int32)))(Fb2 : Fld Z h0 b2 "com/example/keyward/keyward/LdapOperation" "requestTag" "I" (.int (99 : Int32)))(Fb3 : Fld Z h0 b3 "com/example/keyward/keyward/LdapOperation" "requestTag" "I" (.int (102 : Int32)))(Fb4 : Fld Z h0 b4 "com/example/keyward/keyward/LdapOperation" "requestTag" "I" (.int (104 : Int32)))(Fb5 : Fld Z h0 b5 "com/example/keyward/keyward/LdapOperation" "requestTag" "I" (.int (74 : Int32)))(Fb6 : Fld Z h0 b6 "com/example/keyward/keyward/LdapOperation" "requestTag" "I" (.int (108 : Int32)))(Fb7 : Fld Z h0 b7 "com/example/keyward/keyward/LdapOperation" "requestTag" "I" (.int (110 : Int32)))(Fb8 : Fld Z h0 b8 "com/example/keyward/keyward/LdapOperation" "requestTag" "I" (.int (80 : Int32)))(Fb9 : Fld Z h0 b9 "com/example/keyward/keyward/LdapOperation" "requestTag" "I" (.int (119 : Int32))) :
    MetFree l (⟨"com/example/keyward/keyward/LdapOperation", "forRequestTag", "(I)Lcom/example/keyward/keyward/LdapOperation;"⟩ : MethodName) (head1 (Jvm.Cond.code (⟨"com/example/keyward/keyward/LdapOperation", "forRequestTag", "(I)Lcom/example/keyward/keyward/LdapOperation;"⟩ : MethodName) prog_16_method_4_code 5 (Option.some (Jvm.ClassFile.FieldType.object "com/example/keyward/keyward/LdapOperation")) :: ws) ({ frames := 2, cells := 1, slots := 10, locals := 25 } : Room)) (fun a U => a = #[(.int (80 : Int32))] ∧ Z.Warmed39 U.vm ∧ U.heap = h0) (fun _ _ _ _ _ => True) (fun _ U o U' => ∃ v L, o = .returned v ∧ Q_find_8 Z aV kV b0 b1 b2 b3 b4 b5 b6 b7 b8 b9 h0 n0 v U'.heap L ∧ FrameEnd U o U' L ({ frames := 2, cells := 1, slots := 10, locals := 25 } : Room).cells ({ frames := 2, cells := 1, slots := 10, locals := 25 } : Room).slots) := by
  refine MetFree.of_bodySF (plainFor_of_name pn_5) hisR ?_
  intro p e s m args below meth c s₁ Bd hml0 hP hK
  obtain ⟨rfl, hZ, hh⟩ := hP
  have hx := Bd.exec
  have hby := Bd.bytes
  have hml : c.maxLocals = 5 := hml0
  have hown : s.vm.findClass "com/example/keyward/keyward/LdapOperation" = some m.cls := findClass_of_methodNamed Bd.named
  have hnm := (name_of_methodNamed Bd.named Bd.method).1
  have X0 : Stand p l e ({ frames := 2, cells := 1, slots := 10, locals := 25 } : Room) s m #[(.int (80 : Int32))] below meth c s₁ [] 0 0 := Stand.of_body Bd
  have e0 : s₁.heap = h0 := by rw [← hh, Bd.state]; rfl
  have N0 := Fr.nil n0
  have pre0 : ∀ t, Steps p.tables e below (s₁.setTop (mkF m 0 #[.val (.int (80 : Int32)), .unset, .unset, .unset, .unset] [])) t → Steps p.tables e below (s₁.setTop (entryFrame m #[(.int (80 : Int32))] 5)) t := fun t k => castTop (ef_27 m (80 : Int32)) k
  obtain ⟨_, _, ⟨T1, L1, k1, n1⟩, -, X1, ⟨Lc1, hQ1, l1, y1, z1⟩, st1⟩ := Jvm.LawKit.callS X0 hx (y := (⟨"com/example/keyward/keyward/LdapOperation", "values", "()[Lcom/example/keyward/keyward/LdapOperation;"⟩ : MethodName)) hown (mvT hZ (hw _ (List.mem_of_getElem? (i := 5) rfl))) (mvT hZ (hw _ (List.mem_of_getElem? (i := 6) rfl))) (mvT hZ (hw _ (List.mem_of_getElem? (i := 3) rfl))) (mvT hZ (hw _ (List.mem_of_getElem? (i := 7) rfl))) (by decide) (backOf (W := 0) (values_0 l Z a0 hw [] aV kV b0 b1 b2 b3 b4 b5 b6 b7 b8 b9 h0 n0 Z0 SaV VaV EaV) hZ (hw _ (List.mem_of_getElem? (i := 7) rfl)) (hw _ (List.mem_of_getElem? (i := 3) rfl)) (by decide) (by decide)) (g := (mkF m 0 #[.val (.int (80 : Int32)), .unset, .unset, .unset, .unset] [])) rfl (by rw [hml]; rfl) (argsL := []) (rest := []) (lenOf pd_7 rfl) rfl (by show 2 * 0 + _ ≤ _; exact Nat.le_of_eq rfl) (hb hby d_prog_16_method_4_code_0) (fun _ _ => ⟨rfl, e0, (by decide : 0 + 1 ≤ _), (by decide : 0 + 10 ≤ _)⟩)
  dsimp only [Pt.U, Pt.locs, Pt.cells, Pt.slots] at X1 l1 y1 z1 st1 hQ1
  subst l1 y1 z1
  obtain ⟨rfl, N1q, Ex1, V1⟩ := hQ1
  have N1 := Fr.app N0 N1q
  obtain ⟨cl, Ar, -, Sz, Ng, Hs, -⟩ := V1
  have hlen : cl.slots.size.toInt32 = (10 : Int32) := len_of Sz Ng
  obtain ⟨T2, X2, e2, st2⟩ := getF X1 hx hZ hown (host := "") (Or.inl (hw _ (List.mem_of_getElem? (i := 30) rfl))) Via.refl rfl (Fb0.ext Ex1) (g := (mkF m 21 #[.val (.int (80 : Int32)), .val (.ref h0.size), .val (.int (10 : Int32)), .val (.int (0 : Int32)), .val (.ref b0)] [(.ref b0)])) rfl rfl (hb hby d_prog_16_method_4_code_21)
  obtain ⟨T3, X3, e3, st3⟩ := getF X2 hx hZ hown (host := "") (Or.inl (hw _ (List.mem_of_getElem? (i := 30) rfl))) Via.refl e2 (Fb1.ext Ex1) (g := (mkF m 21 #[.val (.int (80 : Int32)), .val (.ref h0.size), .val (.int (10 : Int32)), .val (.int (1 : Int32)), .val (.ref b1)] [(.ref b1)])) rfl rfl (hb hby d_prog_16_method_4_code_21)
  obtain ⟨T4, X4, e4, st4⟩ := getF X3 hx hZ hown (host := "") (Or.inl (hw _ (List.mem_of_getElem? (i := 30) rfl))) Via.refl e3 (Fb2.ext Ex1) (g := (mkF m 21 #[.val (.int (80 : Int32)), .val (.ref h0.size), .val (.int (10 : Int32)), .val (.int (2 : Int32)), .val (.ref b2)] [(.ref b2)])) rfl rfl (hb hby d_prog_16_method_4_code_21)
  obtain ⟨T5, X5, e5, st5⟩ := getF X4 hx hZ hown (host := "") (Or.inl (hw _ (List.mem_of_getElem? (i := 30) rfl))) Via.refl e4 (Fb3.ext Ex1) (g := (mkF m 21 #[.val (.int (80 : Int32)), .val (.ref h0.size), .val (.int (10 : Int32)), .val (.int (3 : Int32)), .val (.ref b3)] [(.ref b3)])) rfl rfl (hb hby d_prog_16_method_4_code_21)
  obtain ⟨T6, X6, e6, st6⟩ := getF X5 hx hZ hown (host := "") (Or.inl (hw _ (List.mem_of_getElem? (i := 30) rfl))) Via.refl e5 (Fb4.ext Ex1) (g := (mkF m 21 #[.val (.int (80 : Int32)), .val (.ref h0.size), .val (.int (10 : Int32)), .val (.int (4 : Int32)), .val (.ref b4)] [(.ref b4)])) rfl rfl (hb hby d_prog_16_method_4_code_21)
  obtain ⟨T7, X7, e7, st7⟩ := getF X6 hx hZ hown (host := "") (Or.inl (hw _ (List.mem_of_getElem? (i := 30) rfl))) Via.refl e6 (Fb5.ext Ex1) (g := (mkF m 21 #[.val (.int (80 : Int32)), .val (.ref h0.size), .val (.int (10 : Int32)), .val (.int (5 : Int32)), .val (.ref b5)] [(.ref b5)])) rfl rfl (hb hby d_prog_16_method_4_code_21)
  obtain ⟨T8, X8, e8, st8⟩ := getF X7 hx hZ hown (host := "") (Or.inl (hw _ (List.mem_of_getElem? (i := 30) rfl))) Via.refl e7 (Fb6.ext Ex1) (g := (mkF m 21 #[.val (.int (80 : Int32)), .val (.ref h0.size), .val (.int (10 : Int32)), .val (.int (6 : Int32)), .val (.ref b6)] [(.ref b6)])) rfl rfl (hb hby d_prog_16_method_4_code_21)
  obtain ⟨T9, X9, e9, st9⟩ := getF X8 hx hZ hown (host := "") (Or.inl (hw _ (List.mem_of_getElem? (i := 30) rfl))) Via.refl e8 (Fb7.ext Ex1) (g := (mkF m 21 #[.val (.int (80 : Int32)), .val (.ref h0.size), .val (.int (10 : Int32)), .val (.int (7 : Int32)), .val (.ref b7)] [(.ref b7)])) rfl rfl (hb hby d_prog_16_method_4_code_21)
  obtain ⟨T10, X10, e10, st10⟩ := getF X9 hx hZ hown (host := "") (Or.inl (hw _ (List.mem_of_getElem? (i := 30) rfl))) Via.refl e9 (Fb8.ext Ex1) (g := (mkF m 21 #[.val (.int (80 : Int32)), .val (.ref h0.size), .val (.int (10 : Int32)), .val (.int (8 : Int32)), .val (.ref b8)] [(.ref b8)])) rfl rfl (hb hby d_prog_16_method_4_code_21)
  obtain ⟨fs, hr, hrun, hended, hW, hsame⟩ := X10.leave (v := some (.ref b8)) (fun h => by rw [Bd.returns] at h; cases h)
  refine ⟨_, _, pre0 _ ?_, hrun, hended, _, _, rfl, ?_, ⟨_, rfl⟩, hW, hsame.mono (by decide) (by decide)⟩
  · show Steps p.tables e below (s₁.setTop (mkF m 0 #[.val (.int (80 : Int32)), .unset, .unset, .unset, .unset] [])) _
    refine st1 _ ?_
    show Steps p.tables e below (T1.setTop (mkF m 3 #[.val (.int (80 : Int32)), .unset, .unset, .unset, .unset] [(.ref h0.size)])) _
    refine XS.astoreN X1.here hx rfl (hb hby d_prog_16_method_4_code_3) rfl rfl (l' := #[.val (.int (80 : Int32)), .val (.ref h0.size), .unset, .unset, .unset]) rfl ?_
    show Steps p.tables e below (T1.setTop (mkF m 4 #[.val (.int (80 : Int32)), .val (.ref h0.size), .unset, .unset, .unset] [])) _
    refine XS.aloadN X1.here hx rfl (hb hby d_prog_16_method_4_code_4) rfl rfl ?_
    show Steps p.tables e below (T1.setTop (mkF m 5 #[.val (.int (80 : Int32)), .val (.ref h0.size), .unset, .unset, .unset] [(.ref h0.size)])) _
    refine X1.arraylength hx (by first | exact Ar.1 | (rw [rfl]; exact Ar.1)) (State.isArrayOf_alike hZ.alike Ar.2.1) (g := (mkF m 5 #[.val (.int (80 : Int32)), .val (.ref h0.size), .unset, .unset, .unset] [(.ref h0.size)])) rfl rfl (hb hby d_prog_16_method_4_code_5) _ ?_
    show Steps p.tables e below (T1.setTop (mkF m 6 #[.val (.int (80 : Int32)), .val (.ref h0.size), .unset, .unset, .unset] [(.int cl.slots.size.toInt32)])) _
    rw [hlen]
    show Steps p.tables e below (T1.setTop (mkF m 6 #[.val (.int (80 : Int32)), .val (.ref h0.size), .unset, .unset, .unset] [(.int (10 : Int32))])) _
    refine XS.istoreN X1.here hx rfl (hb hby d_prog_16_method_4_code_6) rfl (l' := #[.val (.int (80 : Int32)), .val (.ref h0.size), .val (.int (10 : Int32)), .unset, .unset]) rfl ?_
    show Steps p.tables e below (T1.setTop (mkF m 7 #[.val (.int (80 : Int32)), .val (.ref h0.size), .val (.int (10 : Int32)), .unset, .unset] [])) _
    refine XT.iconstV X1.here hx rfl (0 : Int32) (hb hby d_prog_16_method_4_code_7) (by decide) ?_
    show Steps p.tables e below (T1.setTop (mkF m 8 #[.val (.int (80 : Int32)), .val (.ref h0.size), .val (.int (10 : Int32)), .unset, .unset] [(.int (0 : Int32))])) _
    refine XS.istoreN X1.here hx rfl (hb hby d_prog_16_method_4_code_8) rfl (l' := #[.val (.int (80 : Int32)), .val (.ref h0.size), .val (.int (10 : Int32)), .val (.int (0 : Int32)), .unset]) rfl ?_
    show Steps p.tables e below (T1.setTop (mkF m 9 #[.val (.int (80 : Int32)), .val (.ref h0.size), .val (.int (10 : Int32)), .val (.int (0 : Int32)), .unset] [])) _
    refine XS.iloadN X1.here hx rfl (hb hby d_prog_16_method_4_code_9) rfl ?_
    show Steps p.tables e below (T1.setTop (mkF m 10 #[.val (.int (80 : Int32)), .val (.ref h0.size), .val (.int (10 : Int32)), .val (.int (0 : Int32)), .unset] [(.int (0 : Int32))])) _
    refine XS.iloadN X1.here hx rfl (hb hby d_prog_16_method_4_code_10) rfl ?_
    show Steps p.tables e below (T1.setTop (mkF m 11 #[.val (.int (80 : Int32)), .val (.ref h0.size), .val (.int (10 : Int32)), .val (.int (0 : Int32)), .unset] [(.int (10 : Int32)), (.int (0 : Int32))])) _
    refine XS.icmpNo X1.here hx rfl (hb hby d_prog_16_method_4_code_11) rfl (by decide) ?_
    show Steps p.tables e below (T1.setTop (mkF m 14 #[.val (.int (80 : Int32)), .val (.ref h0.size), .val (.int (10 : Int32)), .val (.int (0 : Int32)), .unset] [])) _
    refine XS.aloadN X1.here hx rfl (hb hby d_prog_16_method_4_code_14) rfl rfl ?_
    show Steps p.tables e below (T1.setTop (mkF m 15 #[.val (.int (80 : Int32)), .val (.ref h0.size), .val (.int (10 : Int32)), .val (.int (0 : Int32)), .unset] [(.ref h0.size)])) _
    refine XS.iloadN X1.here hx rfl (hb hby d_prog_16_method_4_code_15) rfl ?_
    show Steps p.tables e below (T1.setTop (mkF m 16 #[.val (.int (80 : Int32)), .val (.ref h0.size), .val (.int (10 : Int32)), .val (.int (0 : Int32)), .unset] [(.int (0 : Int32)), (.ref h0.size)])) _
    refine X1.aaload hx (j := (0 : Int32)) (v := (.ref b0)) (by first | exact Ar.1 | (rw [rfl]; exact Ar.1)) (State.isArrayOf_alike hZ.alike Ar.2.1) rfl Ar.2.2 (inb_of Sz ⟨by decide, by decide⟩) (Hs.at (inb_of Sz ⟨by decide, by decide⟩) rfl) (g := (mkF m 16 #[.val (.int (80 : Int32)), .val (.ref h0.size), .val (.int (10 : Int32)), .val (.int (0 : Int32)), .unset] [(.int (0 : Int32)), (.ref h0.size)])) rfl rfl (hb hby d_prog_16_method_4_code_16) _ ?_
    show Steps p.tables e below (T1.setTop (mkF m 17 #[.val (.int (80 : Int32)), .val (.ref h0.size), .val (.int (10 : Int32)), .val (.int (0 : Int32)), .unset] [(.ref b0)])) _
    refine XS.astore X1.here hx rfl (hb hby d_prog_16_method_4_code_17) rfl rfl (l' := #[.val (.int (80 : Int32)), .val (.ref h0.size), .val (.int (10 : Int32)), .val (.int (0 : Int32)), .val (.ref b0)]) rfl ?_
    show Steps p.tables e below (T1.setTop (mkF m 19 #[.val (.int (80 : Int32)), .val (.ref h0.size), .val (.int (10 : Int32)), .val (.int (0 : Int32)), .val (.ref b0)] [])) _
    refine XS.aload X1.here hx rfl (hb hby d_prog_16_method_4_code_19) rfl rfl ?_
    show Steps p.tables e below (T1.setTop (mkF m 21 #[.val (.int (80 : Int32)), .val (.ref h0.size), .val (.int (10 : Int32)), .val (.int (0 : Int32)), .val (.ref b0)] [(.ref b0)])) _
    refine st2 _ ?_
    show Steps p.tables e below (T2.setTop (mkF m 24 #[.val (.int (80 : Int32)), .val (.ref h0.size), .val (.int (10 : Int32)), .val (.int (0 : Int32)), .val (.ref b0)] [(.int (96 : Int32))])) _
    refine XS.iloadN X2.here hx rfl (hb hby d_prog_16_method_4_code_24) rfl ?_
    show Steps p.tables e below (T2.setTop (mkF m 25 #[.val (.int (80 : Int32)), .val (.ref h0.size), .val (.int (10 : Int32)), .val (.int (0 : Int32)), .val (.ref b0)] [(.int (80 : Int32)), (.int (96 : Int32))])) _
    refine XS.icmpYes X2.here hx rfl (pc0 := 25) (pc' := 31) rfl (hb hby d_prog_16_method_4_code_25) rfl (by decide) (by decide) (by decide) ?_
    show Steps p.tables e below (T2.setTop (mkF m 31 #[.val (.int (80 : Int32)), .val (.ref h0.size), .val (.int (10 : Int32)), .val (.int (0 : Int32)), .val (.ref b0)] [])) _
    refine XT.iincV X2.here hx rfl (1 : Int32) (hb hby d_prog_16_method_4_code_31) (by decide) rfl (l' := #[.val (.int (80 : Int32)), .val (.ref h0.size), .val (.int (10 : Int32)), .val (.int (1 : Int32)), .val (.ref b0)]) rfl ?_
    show Steps p.tables e below (T2.setTop (mkF m 34 #[.val (.int (80 : Int32)), .val (.ref h0.size), .val (.int (10 : Int32)), .val (.int (1 : Int32)), .val (.ref b0)] [])) _
    refine XS.goto X2.here hx rfl (pc0 := 34) (pc' := 9) rfl (hb hby d_prog_16_method_4_code_34) (by decide) (by decide) ?_
    show Steps p.tables e below (T2.setTop (mkF m 9 #[.val (.int (80 : Int32)), .val (.ref h0.size), .val (.int (10 : Int32)), .val (.int (1 : Int32)), .val (.ref b0)] [])) _
    refine XS.iloadN X2.here hx rfl (hb hby d_prog_16_method_4_code_9) rfl ?_
    show Steps p.tables e below (T2.setTop (mkF m 10 #[.val (.int (80 : Int32)), .val (.ref h0.size), .val (.int (10 : Int32)), .val (.int (1 : Int32)), .val (.ref b0)] [(.int (1 : Int32))])) _
    refine XS.iloadN X2.here hx rfl (hb hby d_prog_16_method_4_code_10) rfl ?_
    show Steps p.tables e below (T2.setTop (mkF m 11 #[.val (.int (80 : Int32)), .val (.ref h0.size), .val (.int (10 : Int32)), .val (.int (1 : Int32)), .val (.ref b0)] [(.int (10 : Int32)), (.int (1 : Int32))])) _
    refine XS.icmpNo X2.here hx rfl (hb hby d_prog_16_method_4_code_11) rfl (by decide) ?_
    show Steps p.tables e below (T2.setTop (mkF m 14 #[.val (.int (80 : Int32)), .val (.ref h0.size), .val (.int (10 : Int32)), .val (.int (1 : Int32)), .val (.ref b0)] [])) _
    refine XS.aloadN X2.here hx rfl (hb hby d_prog_16_method_4_code_14) rfl rfl ?_
    show Steps p.tables e below (T2.setTop (mkF m 15 #[.val (.int (80 : Int32)), .val (.ref h0.size), .val (.int (10 : Int32)), .val (.int (1 : Int32)), .val (.ref b0)] [(.ref h0.size)])) _
    refine XS.iloadN X2.here hx rfl (hb hby d_prog_16_method_4_code_15) rfl ?_
    show Steps p.tables e below (T2.setTop (mkF m 16 #[.val (.int (80 : Int32)), .val (.ref h0.size), .val (.int (10 : Int32)), .val (.int (1 : Int32)), .val (.ref b0)] [(.int (1 : Int32)), (.ref h0.size)])) _
    refine X2.aaload hx (j := (1 : Int32)) (v := (.ref b1)) (by first | exact Ar.1 | (rw [e2]; exact Ar.1)) (State.isArrayOf_alike hZ.alike Ar.2.1) rfl Ar.2.2 (inb_of Sz ⟨by decide, by decide⟩) (Hs.at (inb_of Sz ⟨by decide, by decide⟩) rfl) (g := (mkF m 16 #[.val (.int (80 : Int32)), .val (.ref h0.size), .val (.int (10 : Int32)), .val (.int (1 : Int32)), .val (.ref b0)] [(.int (1 : Int32)), (.ref h0.size)])) rfl rfl (hb hby d_prog_16_method_4_code_16) _ ?_
    show Steps p.tables e below (T2.setTop (mkF m 17 #[.val (.int (80 : Int32)), .val (.ref h0.size), .val (.int (10 : Int32)), .val (.int (1 : Int32)), .val (.ref b0)] [(.ref b1)])) _
    refine XS.astore X2.here hx rfl (hb hby d_prog_16_method_4_code_17) rfl rfl (l' := #[.val (.int (80 : Int32)), .val (.ref h0.size), .val (.int (10 : Int32)), .val (.int (1 : Int32)), .val (.ref b1)]) rfl ?_
    show Steps p.tables e below (T2.setTop (mkF m 19 #[.val (.int (80 : Int32)), .val (.ref h0.size), .val (.int (10 : Int32)), .val (.int (1 : Int32)), .val (.ref b1)] [])) _
    refine XS.aload X2.here hx rfl (hb hby d_prog_16_method_4_code_19) rfl rfl ?_
    show Steps p.tables e below (T2.setTop (mkF m 21 #[.val (.int (80 : Int32)), .val (.ref h0.size), .val (.int (10 : Int32)), .val (.int (1 : Int32)), .val (.ref b1)] [(.ref b1)])) _
    refine st3 _ ?_
    show Steps p.tables e below (T3.setTop (mkF m 24 #[.val (.int (80 : Int32)), .val (.ref h0.size), .val (.int (10 : Int32)), .val (.int (1 : Int32)), .val (.ref b1)] [(.int (66 : Int32))])) _
    refine XS.iloadN X3.here hx rfl (hb hby d_prog_16_method_4_code_24) rfl ?_
    show Steps p.tables e below (T3.setTop (mkF m 25 #[.val (.int (80 : Int32)), .val (.ref h0.size), .val (.int (10 : Int32)), .val (.int (1 : Int32)), .val (.ref b1)] [(.int (80 : Int32)), (.int (66 : Int32))])) _
    refine XS.icmpYes X3.here hx rfl (pc0 := 25) (pc' := 31) rfl (hb hby d_prog_16_method_4_code_25) rfl (by decide) (by decide) (by decide) ?_
    show Steps p.tables e below (T3.setTop (mkF m 31 #[.val (.int (80 : Int32)), .val (.ref h0.size), .val (.int (10 : Int32)), .val (.int (1 : Int32)), .val (.ref b1)] [])) _
    refine XT.iincV X3.here hx rfl (1 : Int32) (hb hby d_prog_16_method_4_code_31) (by decide) rfl (l' := #[.val (.int (80 : Int32)), .val (.ref h0.size), .val (.int (10 : Int32)), .val (.int (2 : Int32)), .val (.ref b1)]) rfl ?_
    show Steps p.tables e below (T3.setTop (mkF m 34 #[.val (.int (80 : Int32)), .val (.ref h0.size), .val (.int (10 : Int32)), .val (.int (2 : Int32)), .val (.ref b1)] [])) _
    refine XS.goto X3.here hx rfl (pc0 := 34) (pc' := 9) rfl (hb hby d_prog_16_method_4_code_34) (by decide) (by decide) ?_
    show Steps p.tables e below (T3.setTop (mkF m 9 #[.val (.int (80 : Int32)), .val (.ref h0.size), .val (.int (10 : Int32)), .val (.int (2 : Int32)), .val (.ref b1)] [])) _
    refine XS.iloadN X3.here hx rfl (hb hby d_prog_16_method_4_code_9) rfl ?_
    show Steps p.tables e below (T3.setTop (mkF m 10 #[.val (.int (80 : Int32)), .val (.ref h0.size), .val (.int (10 : Int32)), .val (.int (2 : Int32)), .val (.ref b1)] [(.int (2 : Int32))])) _
    refine XS.iloadN X3.here hx rfl (hb hby d_prog_16_method_4_code_10) rfl ?_
    show Steps p.tables e below (T3.setTop (mkF m 11 #[.val (.int (80 : Int32)), .val (.ref h0.size), .val (.int (10 : Int32)), .val (.int (2 : Int32)), .val (.ref b1)] [(.int (10 : Int32)), (.int (2 : Int32))])) _
    refine XS.icmpNo X3.here hx rfl (hb hby d_prog_16_method_4_code_11) rfl (by decide) ?_
    show Steps p.tables e below (T3.setTop (mkF m 14 #[.val (.int (80 : Int32)), .val (.ref h0.size), .val (.int (10 : Int32)), .val (.int (2 : Int32)), .val (.ref b1)] [])) _
    refine XS.aloadN X3.here hx rfl (hb hby d_prog_16_method_4_code_14) rfl rfl ?_
    show Steps p.tables e below (T3.setTop (mkF m 15 #[.val (.int (80 : Int32)), .val (.ref h0.size), .val (.int (10 : Int32)), .val (.int (2 : Int32)), .val (.ref b1)] [(.ref h0.size)])) _
    refine XS.iloadN X3.here hx rfl (hb hby d_prog_16_method_4_code_15) rfl ?_
    show Steps p.tables e below (T3.setTop (mkF m 16 #[.val (.int (80 : Int32)), .val (.ref h0.size), .val (.int (10 : Int32)), .val (.int (2 : Int32)), .val (.ref b1)] [(.int (2 : Int32)), (.ref h0.size)])) _
    refine X3.aaload hx (j := (2 : Int32)) (v := (.ref b2)) (by first | exact Ar.1 | (rw [e3]; exact Ar.1)) (State.isArrayOf_alike hZ.alike Ar.2.1) rfl Ar.2.2 (inb_of Sz ⟨by decide, by decide⟩) (Hs.at (inb_of Sz ⟨by decide, by decide⟩) rfl) (g := (mkF m 16 #[.val (.int (80 : Int32)), .val (.ref h0.size), .val (.int (10 : Int32)), .val (.int (2 : Int32)), .val (.ref b1)] [(.int (2 : Int32)), (.ref h0.size)])) rfl rfl (hb hby d_prog_16_method_4_code_16) _ ?_
    show Steps p.tables e below (T3.setTop (mkF m 17 #[.val (.int (80 : Int32)), .val (.ref h0.size), .val (.int (10 : Int32)), .val (.int (2 : Int32)), .val (.ref b1)] [(.ref b2)])) _
    refine XS.astore X3.here hx rfl (hb hby d_prog_16_method_4_code_17) rfl rfl (l' := #[.val (.int (80 : Int32)), .val (.ref h0.size), .val (.int (10 : Int32)), .val (.int (2 : Int32)), .val (.ref b2)]) rfl ?_
    show Steps p.tables e below (T3.setTop (mkF m 19 #[.val (.int (80 : Int32)), .val (.ref h0.size), .val (.int (10 : Int32)), .val (.int (2 : Int32)), .val (.ref b2)] [])) _
    refine XS.aload X3.here hx rfl (hb hby d_prog_16_method_4_code_19) rfl rfl ?_
    show Steps p.tables e below (T3.setTop (mkF m 21 #[.val (.int (80 : Int32)), .val (.ref h0.size), .val (.int (10 : Int32)), .val (.int (2 : Int32)), .val (.ref b2)] [(.ref b2)])) _
    refine st4 _ ?_
    show Steps p.tables e below (T4.setTop (mkF m 24 #[.val (.int (80 : Int32)), .val (.ref h0.size), .val (.int (10 : Int32)), .val (.int (2 : Int32)), .val (.ref b2)] [(.int (99 : Int32))])) _
    refine XS.iloadN X4.here hx rfl (hb hby d_prog_16_method_4_code_24) rfl ?_
    show Steps p.tables e below (T4.setTop (mkF m 25 #[.val (.int (80 : Int32)), .val (.ref h0.size), .val (.int (10 : Int32)), .val (.int (2 : Int32)), .val (.ref b2)] [(.int (80 : Int32)), (.int (99 : Int32))])) _
    refine XS.icmpYes X4.here hx rfl (pc0 := 25) (pc' := 31) rfl (hb hby d_prog_16_method_4_code_25) rfl (by decide) (by decide) (by decide) ?_
    show Steps p.tables e below (T4.setTop (mkF m 31 #[.val (.int (80 : Int32)), .val (.ref h0.size), .val (.int (10 : Int32)), .val (.int (2 : Int32)), .val (.ref b2)] [])) _
    refine XT.iincV X4.here hx rfl (1 : Int32) (hb hby d_prog_16_method_4_code_31) (by decide) rfl (l' := #[.val (.int (80 : Int32)), .val (.ref h0.size), .val (.int (10 : Int32)), .val (.int (3 : Int32)), .val (.ref b2)]) rfl ?_
    show Steps p.tables e below (T4.setTop (mkF m 34 #[.val (.int (80 : Int32)), .val (.ref h0.size), .val (.int (10 : Int32)), .val (.int (3 : Int32)), .val (.ref b2)] [])) _
    refine XS.goto X4.here hx rfl (pc0 := 34) (pc' := 9) rfl (hb hby d_prog_16_method_4_code_34) (by decide) (by decide) ?_
    show Steps p.tables e below (T4.setTop (mkF m 9 #[.val (.int (80 : Int32)), .val (.ref h0.size), .val (.int (10 : Int32)), .val (.int (3 : Int32)), .val (.ref b2)] [])) _
    refine XS.iloadN X4.here hx rfl (hb hby d_prog_16_method_4_code_9) rfl ?_
    show Steps p.tables e below (T4.setTop (mkF m 10 #[.val (.int (80 : Int32)), .val (.ref h0.size), .val (.int (10 : Int32)), .val (.int (3 : Int32)), .val (.ref b2)] [(.int (3 : Int32))])) _
    refine XS.iloadN X4.here hx rfl (hb hby d_prog_16_method_4_code_10) rfl ?_
    show Steps p.tables e below (T4.setTop (mkF m 11 #[.val (.int (80 : Int32)), .val (.ref h0.size), .val (.int (10 : Int32)), .val (.int (3 : Int32)), .val (.ref b2)] [(.int (10 : Int32)), (.int (3 : Int32))])) _
    refine XS.icmpNo X4.here hx rfl (hb hby d_prog_16_method_4_code_11) rfl (by decide) ?_
    show Steps p.tables e below (T4.setTop (mkF m 14 #[.val (.int (80 : Int32)), .val (.ref h0.size), .val (.int (10 : Int32)), .val (.int (3 : Int32)), .val (.ref b2)] [])) _
    refine XS.aloadN X4.here hx rfl (hb hby d_prog_16_method_4_code_14) rfl rfl ?_
    show Steps p.tables e below (T4.setTop (mkF m 15 #[.val (.int (80 : Int32)), .val (.ref h0.size), .val (.int (10 : Int32)), .val (.int (3 : Int32)), .val (.ref b2)] [(.ref h0.size)])) _
    refine XS.iloadN X4.here hx rfl (hb hby d_prog_16_method_4_code_15) rfl ?_
    show Steps p.tables e below (T4.setTop (mkF m 16 #[.val (.int (80 : Int32)), .val (.ref h0.size), .val (.int (10 : Int32)), .val (.int (3 : Int32)), .val (.ref b2)] [(.int (3 : Int32)), (.ref h0.size)])) _
    refine X4.aaload hx (j := (3 : Int32)) (v := (.ref b3)) (by first | exact Ar.1 | (rw [e4]; exact Ar.1)) (State.isArrayOf_alike hZ.alike Ar.2.1) rfl Ar.2.2 (inb_of Sz ⟨by decide, by decide⟩) (Hs.at (inb_of Sz ⟨by decide, by decide⟩) rfl) (g := (mkF m 16 #[.val (.int (80 : Int32)), .val (.ref h0.size), .val (.int (10 : Int32)), .val (.int (3 : Int32)), .val (.ref b2)] [(.int (3 : Int32)), (.ref h0.size)])) rfl rfl (hb hby d_prog_16_method_4_code_16) _ ?_
    show Steps p.tables e below (T4.setTop (mkF m 17 #[.val (.int (80 : Int32)), .val (.ref h0.size), .val (.int (10 : Int32)), .val (.int (3 : Int32)), .val (.ref b2)] [(.ref b3)])) _
    refine XS.astore X4.here hx rfl (hb hby d_prog_16_method_4_code_17) rfl rfl (l' := #[.val (.int (80 : Int32)), .val (.ref h0.size), .val (.int (10 : Int32)), .val (.int (3 : Int32)), .val (.ref b3)]) rfl ?_
    show Steps p.tables e below (T4.setTop (mkF m 19 #[.val (.int (80 : Int32)), .val (.ref h0.size), .val (.int (10 : Int32)), .val (.int (3 : Int32)), .val (.ref b3)] [])) _
    refine XS.aload X4.here hx rfl (hb hby d_prog_16_method_4_code_19) rfl rfl ?_
    show Steps p.tables e below (T4.setTop (mkF m 21 #[.val (.int (80 : Int32)), .val (.ref h0.size), .val (.int (10 : Int32)), .val (.int (3 : Int32)), .val (.ref b3)] [(.ref b3)])) _
    refine st5 _ ?_
    show Steps p.tables e below (T5.setTop (mkF m 24 #[.val (.int (80 : Int32)), .val (.ref h0.size), .val (.int (10 : Int32)), .val (.int (3 : Int32)), .val (.ref b3)] [(.int (102 : Int32))])) _
    refine XS.iloadN X5.here hx rfl (hb hby d_prog_16_method_4_code_24) rfl ?_
    show Steps p.tables e below (T5.setTop (mkF m 25 #[.val (.int (80 : Int32)), .val (.ref h0.size), .val (.int (10 : Int32)), .val (.int (3 : Int32)), .val (.ref b3)] [(.int (80 : Int32)), (.int (102 : Int32))])) _
    refine XS.icmpYes X5.here hx rfl (pc0 := 25) (pc' := 31) rfl (hb hby d_prog_16_method_4_code_25) rfl (by decide) (by decide) (by decide) ?_
    show Steps p.tables e below (T5.setTop (mkF m 31 #[.val (.int (80 : Int32)), .val (.ref h0.size), .val (.int (10 : Int32)), .val (.int (3 : Int32)), .val (.ref b3)] [])) _
    refine XT.iincV X5.here hx rfl (1 : Int32) (hb hby d_prog_16_method_4_code_31) (by decide) rfl (l' := #[.val (.int (80 : Int32)), .val (.ref h0.size), .val (.int (10 : Int32)), .val (.int (4 : Int32)), .val (.ref b3)]) rfl ?_
    show Steps p.tables e below (T5.setTop (mkF m 34 #[.val (.int (80 : Int32)), .val (.ref h0.size), .val (.int (10 : Int32)), .val (.int (4 : Int32)), .val (.ref b3)] [])) _
    refine XS.goto X5.here hx rfl (pc0 := 34) (pc' := 9) rfl (hb hby d_prog_16_method_4_code_34) (by decide) (by decide) ?_
    show Steps p.tables e below (T5.setTop (mkF m 9 #[.val (.int (80 : Int32)), .val (.ref h0.size), .val (.int (10 : Int32)), .val (.int (4 : Int32)), .val (.ref b3)] [])) _
    refine XS.iloadN X5.here hx rfl (hb hby d_prog_16_method_4_code_9) rfl ?_
    show Steps p.tables e below (T5.setTop (mkF m 10 #[.val (.int (80 : Int32)), .val (.ref h0.size), .val (.int (10 : Int32)), .val (.int (4 : Int32)), .val (.ref b3)] [(.int (4 : Int32))])) _
    refine XS.iloadN X5.here hx rfl (hb hby d_prog_16_method_4_code_10) rfl ?_
    show Steps p.tables e below (T5.setTop (mkF m 11 #[.val (.int (80 : Int32)), .val (.ref h0.size), .val (.int (10 : Int32)), .val (.int (4 : Int32)), .val (.ref b3)] [(.int (10 : Int32)), (.int (4 : Int32))])) _
    refine XS.icmpNo X5.here hx rfl (hb hby d_prog_16_method_4_code_11) rfl (by decide) ?_
    show Steps p.tables e below (T5.setTop (mkF m 14 #[.val (.int (80 : Int32)), .val (.ref h0.size), .val (.int (10 : Int32)), .val (.int (4 : Int32)), .val (.ref b3)] [])) _
    refine XS.aloadN X5.here hx rfl (hb hby d_prog_16_method_4_code_14) rfl rfl ?_
    show Steps p.tables e below (T5.setTop (mkF m 15 #[.val (.int (80 : Int32)), .val (.ref h0.size), .val (.int (10 : Int32)), .val (.int (4 : Int32)), .val (.ref b3)] [(.ref h0.size)])) _
    refine XS.iloadN X5.here hx rfl (hb hby d_prog_16_method_4_code_15) rfl ?_
    show Steps p.tables e below (T5.setTop (mkF m 16 #[.val (.int (80 : Int32)), .val (.ref h0.size), .val (.int (10 : Int32)), .val (.int (4 : Int32)), .val (.ref b3)] [(.int (4 : Int32)), (.ref h0.size)])) _
    refine X5.aaload hx (j := (4 : Int32)) (v := (.ref b4)) (by first | exact Ar.1 | (rw [e5]; exact Ar.1)) (State.isArrayOf_alike hZ.alike Ar.2.1) rfl Ar.2.2 (inb_of Sz ⟨by decide, by decide⟩) (Hs.at (inb_of Sz ⟨by decide, by decide⟩) rfl) (g := (mkF m 16 #[.val (.int (80 : Int32)), .val (.ref h0.size), .val (.int (10 : Int32)), .val (.int (4 : Int32)), .val (.ref b3)] [(.int (4 : Int32)), (.ref h0.size)])) rfl rfl (hb hby d_prog_16_method_4_code_16) _ ?_
    show Steps p.tables e below (T5.setTop (mkF m 17 #[.val (.int (80 : Int32)), .val (.ref h0.size), .val (.int (10 : Int32)), .val (.int (4 : Int32)), .val (.ref b3)] [(.ref b4)])) _
    refine XS.astore X5.here hx rfl (hb hby d_prog_16_method_4_code_17) rfl rfl (l' := #[.val (.int (80 : Int32)), .val (.ref h0.size), .val (.int (10 : Int32)), .val (.int (4 : Int32)), .val (.ref b4)]) rfl ?_
    show Steps p.tables e below (T5.setTop (mkF m 19 #[.val (.int (80 : Int32)), .val (.ref h0.size), .val (.int (10 : Int32)), .val (.int (4 : Int32)), .val (.ref b4)] [])) _
    refine XS.aload X5.here hx rfl (hb hby d_prog_16_method_4_code_19) rfl rfl ?_
    show Steps p.tables e below (T5.setTop (mkF m 21 #[.val (.int (80 : Int32)), .val (.ref h0.size), .val (.int (10 : Int32)), .val (.int (4 : Int32)), .val (.ref b4)] [(.ref b4)])) _
    refine st6 _ ?_
    show Steps p.tables e below (T6.setTop (mkF m 24 #[.val (.int (80 : Int32)), .val (.ref h0.size), .val (.int (10 : Int32)), .val (.int (4 : Int32)), .val (.ref b4)] [(.int (104 : Int32))])) _
    refine XS.iloadN X6.here hx rfl (hb hby d_prog_16_method_4_code_24) rfl ?_
    show Steps p.tables e below (T6.setTop (mkF m 25 #[.val (.int (80 : Int32)), .val (.ref h0.size), .val (.int (10 : Int32)), .val (.int (4 : Int32)), .val (.ref b4)] [(.int (80 : Int32)), (.int (104 : Int32))])) _
    refine XS.icmpYes X6.here hx rfl (pc0 := 25) (pc' := 31) rfl (hb hby d_prog_16_method_4_code_25) rfl (by decide) (by decide) (by decide) ?_
    show Steps p.tables e below (T6.setTop (mkF m 31 #[.val (.int (80 : Int32)), .val (.ref h0.size), .val (.int (10 : Int32)), .val (.int (4 : Int32)), .val (.ref b4)] [])) _
    refine XT.iincV X6.here hx rfl (1 : Int32) (hb hby d_prog_16_method_4_code_31) (by decide) rfl (l' := #[.val (.int (80 : Int32)), .val (.ref h0.size), .val (.int (10 : Int32)), .val (.int (5 : Int32)), .val (.ref b4)]) rfl ?_
    show Steps p.tables e below (T6.setTop (mkF m 34 #[.val (.int (80 : Int32)), .val (.ref h0.size), .val (.int (10 : Int32)), .val (.int (5 : Int32)), .val (.ref b4)] [])) _
    refine XS.goto X6.here hx rfl (pc0 := 34) (pc' := 9) rfl (hb hby d_prog_16_method_4_code_34) (by decide) (by decide) ?_
    show Steps p.tables e below (T6.setTop (mkF m 9 #[.val (.int (80 : Int32)), .val (.ref h0.size), .val (.int (10 : Int32)), .val (.int (5 : Int32)), .val (.ref b4)] [])) _
    refine XS.iloadN X6.here hx rfl (hb hby d_prog_16_method_4_code_9) rfl ?_
    show Steps p.tables e below (T6.setTop (mkF m 10 #[.val (.int (80 : Int32)), .val (.ref h0.size), .val (.int (10 : Int32)), .val (.int (5 : Int32)), .val (.ref b4)] [(.int (5 : Int32))])) _
    refine XS.iloadN X6.here hx rfl (hb hby d_prog_16_method_4_code_10) rfl ?_
    show Steps p.tables e below (T6.setTop (mkF m 11 #[.val (.int (80 : Int32)), .val (.ref h0.size), .val (.int (10 : Int32)), .val (.int (5 : Int32)), .val (.ref b4)] [(.int (10 : Int32)), (.int (5 : Int32))])) _
    refine XS.icmpNo X6.here hx rfl (hb hby d_prog_16_method_4_code_11) rfl (by decide) ?_
    show Steps p.tables e below (T6.setTop (mkF m 14 #[.val (.int (80 : Int32)), .val (.ref h0.size), .val (.int (10 : Int32)), .val (.int (5 : Int32)), .val (.ref b4)] [])) _
    refine XS.aloadN X6.here hx rfl (hb hby d_prog_16_method_4_code_14) rfl rfl ?_
    show Steps p.tables e below (T6.setTop (mkF m 15 #[.val (.int (80 : Int32)), .val (.ref h0.size), .val (.int (10 : Int32)), .val (.int (5 : Int32)), .val (.ref b4)] [(.ref h0.size)])) _
    refine XS.iloadN X6.here hx rfl (hb hby d_prog_16_method_4_code_15) rfl ?_
    show Steps p.tables e below (T6.setTop (mkF m 16 #[.val (.int (80 : Int32)), .val (.ref h0.size), .val (.int (10 : Int32)), .val (.int (5 : Int32)), .val (.ref b4)] [(.int (5 : Int32)), (.ref h0.size)])) _
    refine X6.aaload hx (j := (5 : Int32)) (v := (.ref b5)) (by first | exact Ar.1 | (rw [e6]; exact Ar.1)) (State.isArrayOf_alike hZ.alike Ar.2.1) rfl Ar.2.2 (inb_of Sz ⟨by decide, by decide⟩) (Hs.at (inb_of Sz ⟨by decide, by decide⟩) rfl) (g := (mkF m 16 #[.val (.int (80 : Int32)), .val (.ref h0.size), .val (.int (10 : Int32)), .val (.int (5 : Int32)), .val (.ref b4)] [(.int (5 : Int32)), (.ref h0.size)])) rfl rfl (hb hby d_prog_16_method_4_code_16) _ ?_
    show Steps p.tables e below (T6.setTop (mkF m 17 #[.val (.int (80 : Int32)), .val (.ref h0.size), .val (.int (10 : Int32)), .val (.int (5 : Int32)), .val (.ref b4)] [(.ref b5)])) _
    refine XS.astore X6.here hx rfl (hb hby d_prog_16_method_4_code_17) rfl rfl (l' := #[.val (.int (80 : Int32)), .val (.ref h0.size), .val (.int (10 : Int32)), .val (.int (5 : Int32)), .val (.ref b5)]) rfl ?_
    show Steps p.tables e below (T6.setTop (mkF m 19 #[.val (.int (80 : Int32)), .val (.ref h0.size), .val (.int (10 : Int32)), .val (.int (5 : Int32)), .val (.ref b5)] [])) _
    refine XS.aload X6.here hx rfl (hb hby d_prog_16_method_4_code_19) rfl rfl ?_
    show Steps p.tables e below (T6.setTop (mkF m 21 #[.val (.int (80 : Int32)), .val (.ref h0.size), .val (.int (10 : Int32)), .val (.int (5 : Int32)), .val (.ref b5)] [(.ref b5)])) _
    refine st7 _ ?_
    show Steps p.tables e below (T7.setTop (mkF m 24 #[.val (.int (80 : Int32)), .val (.ref h0.size), .val (.int (10 : Int32)), .val (.int (5 : Int32)), .val (.ref b5)] [(.int (74 : Int32))])) _
    refine XS.iloadN X7.here hx rfl (hb hby d_prog_16_method_4_code_24) rfl ?_
    show Steps p.tables e below (T7.setTop (mkF m 25 #[.val (.int (80 : Int32)), .val (.ref h0.size), .val (.int (10 : Int32)), .val (.int (5 : Int32)), .val (.ref b5)] [(.int (80 : Int32)), (.int (74 : Int32))])) _
    refine XS.icmpYes X7.here hx rfl (pc0 := 25) (pc' := 31) rfl (hb hby d_prog_16_method_4_code_25) rfl (by decide) (by decide) (by decide) ?_
    show Steps p.tables e below (T7.setTop (mkF m 31 #[.val (.int (80 : Int32)), .val (.ref h0.size), .val (.int (10 : Int32)), .val (.int (5 : Int32)), .val (.ref b5)] [])) _
    refine XT.iincV X7.here hx rfl (1 : Int32) (hb hby d_prog_16_method_4_code_31) (by decide) rfl (l' := #[.val (.int (80 : Int32)), .val (.ref h0.size), .val (.int (10 : Int32)), .val (.int (6 : Int32)), .val (.ref b5)]) rfl ?_
    show Steps p.tables e below (T7.setTop (mkF m 34 #[.val (.int (80 : Int32)), .val (.ref h0.size), .val (.int (10 : Int32)), .val (.int (6 : Int32)), .val (.ref b5)] [])) _
    refine XS.goto X7.here hx rfl (pc0 := 34) (pc' := 9) rfl (hb hby d_prog_16_method_4_code_34) (by decide) (by decide) ?_
    show Steps p.tables e below (T7.setTop (mkF m 9 #[.val (.int (80 : Int32)), .val (.ref h0.size), .val (.int (10 : Int32)), .val (.int (6 : Int32)), .val (.ref b5)] [])) _
    refine XS.iloadN X7.here hx rfl (hb hby d_prog_16_method_4_code_9) rfl ?_
    show Steps p.tables e below (T7.setTop (mkF m 10 #[.val (.int (80 : Int32)), .val (.ref h0.size), .val (.int (10 : Int32)), .val (.int (6 : Int32)), .val (.ref b5)] [(.int (6 : Int32))])) _
    refine XS.iloadN X7.here hx rfl (hb hby d_prog_16_method_4_code_10) rfl ?_
    show Steps p.tables e below (T7.setTop (mkF m 11 #[.val (.int (80 : Int32)), .val (.ref h0.size), .val (.int (10 : Int32)), .val (.int (6 : Int32)), .val (.ref b5)] [(.int (10 : Int32)), (.int (6 : Int32))])) _
    refine XS.icmpNo X7.here hx rfl (hb hby d_prog_16_method_4_code_11) rfl (by decide) ?_
    show Steps p.tables e below (T7.setTop (mkF m 14 #[.val (.int (80 : Int32)), .val (.ref h0.size), .val (.int (10 : Int32)), .val (.int (6 : Int32)), .val (.ref b5)] [])) _
    refine XS.aloadN X7.here hx rfl (hb hby d_prog_16_method_4_code_14) rfl rfl ?_
    show Steps p.tables e below (T7.setTop (mkF m 15 #[.val (.int (80 : Int32)), .val (.ref h0.size), .val (.int (10 : Int32)), .val (.int (6 : Int32)), .val (.ref b5)] [(.ref h0.size)])) _
    refine XS.iloadN X7.here hx rfl (hb hby d_prog_16_method_4_code_15) rfl ?_
    show Steps p.tables e below (T7.setTop (mkF m 16 #[.val (.int (80 : Int32)), .val (.ref h0.size), .val (.int (10 : Int32)), .val (.int (6 : Int32)), .val (.ref b5)] [(.int (6 : Int32)), (.ref h0.size)])) _
    refine X7.aaload hx (j := (6 : Int32)) (v := (.ref b6)) (by first | exact Ar.1 | (rw [e7]; exact Ar.1)) (State.isArrayOf_alike hZ.alike Ar.2.1) rfl Ar.2.2 (inb_of Sz ⟨by decide, by decide⟩) (Hs.at (inb_of Sz ⟨by decide, by decide⟩) rfl) (g := (mkF m 16 #[.val (.int (80 : Int32)), .val (.ref h0.size), .val (.int (10 : Int32)), .val (.int (6 : Int32)), .val (.ref b5)] [(.int (6 : Int32)), (.ref h0.size)])) rfl rfl (hb hby d_prog_16_method_4_code_16) _ ?_
    show Steps p.tables e below (T7.setTop (mkF m 17 #[.val (.int (80 : Int32)), .val (.ref h0.size), .val (.int (10 : Int32)), .val (.int (6 : Int32)), .val (.ref b5)] [(.ref b6)])) _
    refine XS.astore X7.here hx rfl (hb hby d_prog_16_method_4_code_17) rfl rfl (l' := #[.val (.int (80 : Int32)), .val (.ref h0.size), .val (.int (10 : Int32)), .val (.int (6 : Int32)), .val (.ref b6)]) rfl ?_
    show Steps p.tables e below (T7.setTop (mkF m 19 #[.val (.int (80 : Int32)), .val (.ref h0.size), .val (.int (10 : Int32)), .val (.int (6 : Int32)), .val (.ref b6)] [])) _
    refine XS.aload X7.here hx rfl (hb hby d_prog_16_method_4_code_19) rfl rfl ?_
    show Steps p.tables e below (T7.setTop (mkF m 21 #[.val (.int (80 : Int32)), .val (.ref h0.size), .val (.int (10 : Int32)), .val (.int (6 : Int32)), .val (.ref b6)] [(.ref b6)])) _
    refine st8 _ ?_
    show Steps p.tables e below (T8.setTop (mkF m 24 #[.val (.int (80 : Int32)), .val (.ref h0.size), .val (.int (10 : Int32)), .val (.int (6 : Int32)), .val (.ref b6)] [(.int (108 : Int32))])) _
    refine XS.iloadN X8.here hx rfl (hb hby d_prog_16_method_4_code_24) rfl ?_
    show Steps p.tables e below (T8.setTop (mkF m 25 #[.val (.int (80 : Int32)), .val (.ref h0.size), .val (.int (10 : Int32)), .val (.int (6 : Int32)), .val (.ref b6)] [(.int (80 : Int32)), (.int (108 : Int32))])) _
    refine XS.icmpYes X8.here hx rfl (pc0 := 25) (pc' := 31) rfl (hb hby d_prog_16_method_4_code_25) rfl (by decide) (by decide) (by decide) ?_
    show Steps p.tables e below (T8.setTop (mkF m 31 #[.val (.int (80 : Int32)), .val (.ref h0.size), .val (.int (10 : Int32)), .val (.int (6 : Int32)), .val (.ref b6)] [])) _
    refine XT.iincV X8.here hx rfl (1 : Int32) (hb hby d_prog_16_method_4_code_31) (by decide) rfl (l' := #[.val (.int (80 : Int32)), .val (.ref h0.size), .val (.int (10 : Int32)), .val (.int (7 : Int32)), .val (.ref b6)]) rfl ?_
    show Steps p.tables e below (T8.setTop (mkF m 34 #[.val (.int (80 : Int32)), .val (.ref h0.size), .val (.int (10 : Int32)), .val (.int (7 : Int32)), .val (.ref b6)] [])) _
    refine XS.goto X8.here hx rfl (pc0 := 34) (pc' := 9) rfl (hb hby d_prog_16_method_4_code_34) (by decide) (by decide) ?_
    show Steps p.tables e below (T8.setTop (mkF m 9 #[.val (.int (80 : Int32)), .val (.ref h0.size), .val (.int (10 : Int32)), .val (.int (7 : Int32)), .val (.ref b6)] [])) _
    refine XS.iloadN X8.here hx rfl (hb hby d_prog_16_method_4_code_9) rfl ?_
    show Steps p.tables e below (T8.setTop (mkF m 10 #[.val (.int (80 : Int32)), .val (.ref h0.size), .val (.int (10 : Int32)), .val (.int (7 : Int32)), .val (.ref b6)] [(.int (7 : Int32))])) _
    refine XS.iloadN X8.here hx rfl (hb hby d_prog_16_method_4_code_10) rfl ?_
    show Steps p.tables e below (T8.setTop (mkF m 11 #[.val (.int (80 : Int32)), .val (.ref h0.size), .val (.int (10 : Int32)), .val (.int (7 : Int32)), .val (.ref b6)] [(.int (10 : Int32)), (.int (7 : Int32))])) _
    refine XS.icmpNo X8.here hx rfl (hb hby d_prog_16_method_4_code_11) rfl (by decide) ?_
    show Steps p.tables e below (T8.setTop (mkF m 14 #[.val (.int (80 : Int32)), .val (.ref h0.size), .val (.int (10 : Int32)), .val (.int (7 : Int32)), .val (.ref b6)] [])) _
    refine XS.aloadN X8.here hx rfl (hb hby d_prog_16_method_4_code_14) rfl rfl ?_
    show Steps p.tables e below (T8.setTop (mkF m 15 #[.val (.int (80 : Int32)), .val (.ref h0.size), .val (.int (10 : Int32)), .val (.int (7 : Int32)), .val (.ref b6)] [(.ref h0.size)])) _
    refine XS.iloadN X8.here hx rfl (hb hby d_prog_16_method_4_code_15) rfl ?_
    show Steps p.tables e below (T8.setTop (mkF m 16 #[.val (.int (80 : Int32)), .val (.ref h0.size), .val (.int (10 : Int32)), .val (.int (7 : Int32)), .val (.ref b6)] [(.int (7 : Int32)), (.ref h0.size)])) _
    refine X8.aaload hx (j := (7 : Int32)) (v := (.ref b7)) (by first | exact Ar.1 | (rw [e8]; exact Ar.1)) (State.isArrayOf_alike hZ.alike Ar.2.1) rfl Ar.2.2 (inb_of Sz ⟨by decide, by decide⟩) (Hs.at (inb_of Sz ⟨by decide, by decide⟩) rfl) (g := (mkF m 16 #[.val (.int (80 : Int32)), .val (.ref h0.size), .val (.int (10 : Int32)), .val (.int (7 : Int32)), .val (.ref b6)] [(.int (7 : Int32)), (.ref h0.size)])) rfl rfl (hb hby d_prog_16_method_4_code_16) _ ?_
    show Steps p.tables e below (T8.setTop (mkF m 17 #[.val (.int (80 : Int32)), .val (.ref h0.size), .val (.int (10 : Int32)), .val (.int (7 : Int32)), .val (.ref b6)] [(.ref b7)])) _
    refine XS.astore X8.here hx rfl (hb hby d_prog_16_method_4_code_17) rfl rfl (l' := #[.val (.int (80 : Int32)), .val (.ref h0.size), .val (.int (10 : Int32)), .val (.int (7 : Int32)), .val (.ref b7)]) rfl ?_
    show Steps p.tables e below (T8.setTop (mkF m 19 #[.val (.int (80 : Int32)), .val (.ref h0.size), .val (.int (10 : Int32)), .val (.int (7 : Int32)), .val (.ref b7)] [])) _
    refine XS.aload X8.here hx rfl (hb hby d_prog_16_method_4_code_19) rfl rfl ?_
    show Steps p.tables e below (T8.setTop (mkF m 21 #[.val (.int (80 : Int32)), .val (.ref h0.size), .val (.int (10 : Int32)), .val (.int (7 : Int32)), .val (.ref b7)] [(.ref b7)])) _
    refine st9 _ ?_
    show Steps p.tables e below (T9.setTop (mkF m 24 #[.val (.int (80 : Int32)), .val (.ref h0.size), .val (.int (10 : Int32)), .val (.int (7 : Int32)), .val (.ref b7)] [(.int (110 : Int32))])) _
    refine XS.iloadN X9.here hx rfl (hb hby d_prog_16_method_4_code_24) rfl ?_
    show Steps p.tables e below (T9.setTop (mkF m 25 #[.val (.int (80 : Int32)), .val (.ref h0.size), .val (.int (10 : Int32)), .val (.int (7 : Int32)), .val (.ref b7)] [(.int (80 : Int32)), (.int (110 : Int32))])) _
    refine XS.icmpYes X9.here hx rfl (pc0 := 25) (pc' := 31) rfl (hb hby d_prog_16_method_4_code_25) rfl (by decide) (by decide) (by decide) ?_
    show Steps p.tables e below (T9.setTop (mkF m 31 #[.val (.int (80 : Int32)), .val (.ref h0.size), .val (.int (10 : Int32)), .val (.int (7 : Int32)), .val (.ref b7)] [])) _
    refine XT.iincV X9.here hx rfl (1 : Int32) (hb hby d_prog_16_method_4_code_31) (by decide) rfl (l' := #[.val (.int (80 : Int32)), .val (.ref h0.size), .val (.int (10 : Int32)), .val (.int (8 : Int32)), .val (.ref b7)]) rfl ?_
    show Steps p.tables e below (T9.setTop (mkF m 34 #[.val (.int (80 : Int32)), .val (.ref h0.size), .val (.int (10 : Int32)), .val (.int (8 : Int32)), .val (.ref b7)] [])) _
    refine XS.goto X9.here hx rfl (pc0 := 34) (pc' := 9) rfl (hb hby d_prog_16_method_4_code_34) (by decide) (by decide) ?_
    show Steps p.tables e below (T9.setTop (mkF m 9 #[.val (.int (80 : Int32)), .val (.ref h0.size), .val (.int (10 : Int32)), .val (.int (8 : Int32)), .val (.ref b7)] [])) _
    refine XS.iloadN X9.here hx rfl (hb hby d_prog_16_method_4_code_9) rfl ?_
    show Steps p.tables e below (T9.setTop (mkF m 10 #[.val (.int (80 : Int32)), .val (.ref h0.size), .val (.int (10 : Int32)), .val (.int (8 : Int32)), .val (.ref b7)] [(.int (8 : Int32))])) _
    refine XS.iloadN X9.here hx rfl (hb hby d_prog_16_method_4_code_10) rfl ?_
    show Steps p.tables e below (T9.setTop (mkF m 11 #[.val (.int (80 : Int32)), .val (.ref h0.size), .val (.int (10 : Int32)), .val (.int (8 : Int32)), .val (.ref b7)] [(.int (10 : Int32)), (.int (8 : Int32))])) _
    refine XS.icmpNo X9.here hx rfl (hb hby d_prog_16_method_4_code_11) rfl (by decide) ?_
    show Steps p.tables e below (T9.setTop (mkF m 14 #[.val (.int (80 : Int32)), .val (.ref h0.size), .val (.int (10 : Int32)), .val (.int (8 : Int32)), .val (.ref b7)] [])) _
    refine XS.aloadN X9.here hx rfl (hb hby d_prog_16_method_4_code_14) rfl rfl ?_
    show Steps p.tables e below (T9.setTop (mkF m 15 #[.val (.int (80 : Int32)), .val (.ref h0.size), .val (.int (10 : Int32)), .val (.int (8 : Int32)), .val (.ref b7)] [(.ref h0.size)])) _
    refine XS.iloadN X9.here hx rfl (hb hby d_prog_16_method_4_code_15) rfl ?_
    show Steps p.tables e below (T9.setTop (mkF m 16 #[.val (.int (80 : Int32)), .val (.ref h0.size), .val (.int (10 : Int32)), .val (.int (8 : Int32)), .val (.ref b7)] [(.int (8 : Int32)), (.ref h0.size)])) _
    refine X9.aaload hx (j := (8 : Int32)) (v := (.ref b8)) (by first | exact Ar.1 | (rw [e9]; exact Ar.1)) (State.isArrayOf_alike hZ.alike Ar.2.1) rfl Ar.2.2 (inb_of Sz ⟨by decide, by decide⟩) (Hs.at (inb_of Sz ⟨by decide, by decide⟩) rfl) (g := (mkF m 16 #[.val (.int (80 : Int32)), .val (.ref h0.size), .val (.int (10 : Int32)), .val (.int (8 : Int32)), .val (.ref b7)] [(.int (8 : Int32)), (.ref h0.size)])) rfl rfl (hb hby d_prog_16_method_4_code_16) _ ?_
    show Steps p.tables e below (T9.setTop (mkF m 17 #[.val (.int (80 : Int32)), .val (.ref h0.size), .val (.int (10 : Int32)), .val (.int (8 : Int32)), .val (.ref b7)] [(.ref b8)])) _
    refine XS.astore X9.here hx rfl (hb hby d_prog_16_method_4_code_17) rfl rfl (l' := #[.val (.int (80 : Int32)), .val (.ref h0.size), .val (.int (10 : Int32)), .val (.int (8 : Int32)), .val (.ref b8)]) rfl ?_
    show Steps p.tables e below (T9.setTop (mkF m 19 #[.val (.int (80 : Int32)), .val (.ref h0.size), .val (.int (10 : Int32)), .val (.int (8 : Int32)), .val (.ref b8)] [])) _
    refine XS.aload X9.here hx rfl (hb hby d_prog_16_method_4_code_19) rfl rfl ?_
    show Steps p.tables e below (T9.setTop (mkF m 21 #[.val (.int (80 : Int32)), .val (.ref h0.size), .val (.int (10 : Int32)), .val (.int (8 : Int32)), .val (.ref b8)] [(.ref b8)])) _
    refine st10 _ ?_
    show Steps p.tables e below (T10.setTop (mkF m 24 #[.val (.int (80 : Int32)), .val (.ref h0.size), .val (.int (10 : Int32)), .val (.int (8 : Int32)), .val (.ref b8)] [(.int (80 : Int32))])) _
    refine XS.iloadN X10.here hx rfl (hb hby d_prog_16_method_4_code_24) rfl ?_
    show Steps p.tables e below (T10.setTop (mkF m 25 #[.val (.int (80 : Int32)), .val (.ref h0.size), .val (.int (10 : Int32)), .val (.int (8 : Int32)), .val (.ref b8)] [(.int (80 : Int32)), (.int (80 : Int32))])) _
    refine XS.icmpNo X10.here hx rfl (hb hby d_prog_16_method_4_code_25) rfl (by decide) ?_
    show Steps p.tables e below (T10.setTop (mkF m 28 #[.val (.int (80 : Int32)), .val (.ref h0.size), .val (.int (10 : Int32)), .val (.int (8 : Int32)), .val (.ref b8)] [])) _
    refine XS.aload X10.here hx rfl (hb hby d_prog_16_method_4_code_28) rfl rfl ?_
    show Steps p.tables e below (T10.setTop (mkF m 30 #[.val (.int (80 : Int32)), .val (.ref h0.size), .val (.int (10 : Int32)), .val (.int (8 : Int32)), .val (.ref b8)] [(.ref b8)])) _
    exact retOut X10 hx Bd.returns rfl (Or.inr (Or.inr (Or.inr (Or.inr ⟨rfl, rfl, rfl⟩)))) (hb hby d_prog_16_method_4_code_30) hr
  · exact ⟨rfl, N1, by show Ext h0 T10.heap; rw [e10]; exact Ex1⟩
theorem d_method_2_code_80 : decode method_2_code 80 = .ok (.iload_n 0, 1) := by decide +kernel
theorem d_method_2_code_81 : decode method_2_code 81 = .ok (.bipush 80, 2) := by decide +kernel
theorem d_method_2_code_83 : decode method_2_code 83 = .ok (.if_icmp .ne 7, 3) := by decide +kernel
theorem d_method_2_code_86 : decode method_2_code 86 = .ok (.getstatic 34, 3) := by decide +kernel
theorem d_method_2_code_89 : decode method_2_code 89 = .ok (.areturn, 1) := by decide +kernel
def Q_exp_8 (Z : State) (b8 : Addr) (h0 : Heap) (n0 : Nat) (v : Option Value) (h : Heap) (L : List Loc) : Prop := v = some (.ref b8) ∧ Fr n0 L ∧ h = h0
set_option maxRecDepth 65536 in
set_option maxHeartbeats 40000000 in
theorem exp_8 (l : Launch) (Z : State) (a0 : Array Value) (hw : ∀ d ∈ tables_1, d.before a0 Z = true) (ws : List Jvm.Cond) (b8 : Addr) (h0 : Heap) (n0 : Nat) (Z0 : n0 ≤ h0.size) (Sb8 : Sta Z h0 "com/example/keyward/keyward/LdapOperation" "ABANDON" "Lcom/example/keyward/keyward/LdapOperation;" (.ref b8)) :
    MetFree l (⟨"com/example/keyward/keyward/LdapOperationForRequestTagPinLaw", "expected", "(I)Lcom/example/keyward/keyward/LdapOperation;"⟩ : MethodName) (head1 (Jvm.Cond.code (⟨"com/example/keyward/keyward/LdapOperationForRequestTagPinLaw", "expected", "(I)Lcom/example/keyward/keyward/LdapOperation;"⟩ : MethodName) method_2_code 1 (Option.some (Jvm.ClassFile.FieldType.object "com/example/keyward/keyward/LdapOperation")) :: ws) ({ frames := 0, cells := 0, slots := 0, locals := 0 } : Room)) (fun a U => a = #[(.int (80 : Int32))] ∧ Z.Warmed39 U.vm ∧ U.heap = h0) (fun _ _ _ _ _ => True) (fun _ U o U' => ∃ v L, o = .returned v ∧ Q_exp_8 Z b8 h0 n0 v U'.heap L ∧ FrameEnd U o U' L ({ frames := 0, cells := 0, slots := 0, locals := 0 } : Room).cells ({ frames := 0, cells := 0, slots := 0, locals := 0 } : Room).slots) := by
  refine MetFree.of_bodySF (plainFor_of_name pn_34) hisR ?_
  intro p e s m args below meth c s₁ Bd hml0 hP hK
  obtain ⟨rfl, hZ, hh⟩ := hP
  have hx := Bd.exec
  have hby := Bd.bytes
  have hml : c.maxLocals = 1 := hml0
  have hown : s.vm.findClass "com/example/keyward/keyward/LdapOperationForRequestTagPinLaw" = some m.cls := findClass_of_methodNamed Bd.named
  have hnm := (name_of_methodNamed Bd.named Bd.method).1
  have X0 : Stand p l e ({ frames := 0, cells := 0, slots := 0, locals := 0 } : Room) s m #[(.int (80 : Int32))] below meth c s₁ [] 0 0 := Stand.of_body Bd
  have e0 : s₁.heap = h0 := by rw [← hh, Bd.state]; rfl
  have N0 := Fr.nil n0
  have pre0 : ∀ t, Steps p.tables e below (s₁.setTop (mkF m 0 #[.val (.int (80 : Int32))] [])) t → Steps p.tables e below (s₁.setTop (entryFrame m #[(.int (80 : Int32))] 1)) t := fun t k => castTop (ef_33 m (80 : Int32)) k
  obtain ⟨T1, X1, e1, st1⟩ := getS X0 hx hZ (host := "") hown (hw _ (List.mem_of_getElem? (i := 44) rfl)) Via.refl e0 Sb8 (g := (mkF m 86 #[.val (.int (80 : Int32))] [])) rfl (hb hby d_method_2_code_86)
  obtain ⟨fs, hr, hrun, hended, hW, hsame⟩ := X1.leave (v := some (.ref b8)) (fun h => by rw [Bd.returns] at h; cases h)
  refine ⟨_, _, pre0 _ ?_, hrun, hended, _, _, rfl, ?_, ⟨_, rfl⟩, hW, hsame.mono (by decide) (by decide)⟩
  · show Steps p.tables e below (s₁.setTop (mkF m 0 #[.val (.int (80 : Int32))] [])) _
    refine XS.iloadN X0.here hx rfl (hb hby d_method_2_code_0) rfl ?_
    show Steps p.tables e below (s₁.setTop (mkF m 1 #[.val (.int (80 : Int32))] [(.int (80 : Int32))])) _
    refine XT.bipushV X0.here hx rfl (96 : Int32) (hb hby d_method_2_code_1) (by decide) ?_
    show Steps p.tables e below (s₁.setTop (mkF m 3 #[.val (.int (80 : Int32))] [(.int (96 : Int32)), (.int (80 : Int32))])) _
    refine XS.icmpYes X0.here hx rfl (pc0 := 3) (pc' := 10) rfl (hb hby d_method_2_code_3) rfl (by decide) (by decide) (by decide) ?_
    show Steps p.tables e below (s₁.setTop (mkF m 10 #[.val (.int (80 : Int32))] [])) _
    refine XS.iloadN X0.here hx rfl (hb hby d_method_2_code_10) rfl ?_
    show Steps p.tables e below (s₁.setTop (mkF m 11 #[.val (.int (80 : Int32))] [(.int (80 : Int32))])) _
    refine XT.bipushV X0.here hx rfl (66 : Int32) (hb hby d_method_2_code_11) (by decide) ?_
    show Steps p.tables e below (s₁.setTop (mkF m 13 #[.val (.int (80 : Int32))] [(.int (66 : Int32)), (.int (80 : Int32))])) _
    refine XS.icmpYes X0.here hx rfl (pc0 := 13) (pc' := 20) rfl (hb hby d_method_2_code_13) rfl (by decide) (by decide) (by decide) ?_
    show Steps p.tables e below (s₁.setTop (mkF m 20 #[.val (.int (80 : Int32))] [])) _
    refine XS.iloadN X0.here hx rfl (hb hby d_method_2_code_20) rfl ?_
    show Steps p.tables e below (s₁.setTop (mkF m 21 #[.val (.int (80 : Int32))] [(.int (80 : Int32))])) _
    refine XT.bipushV X0.here hx rfl (99 : Int32) (hb hby d_method_2_code_21) (by decide) ?_
    show Steps p.tables e below (s₁.setTop (mkF m 23 #[.val (.int (80 : Int32))] [(.int (99 : Int32)), (.int (80 : Int32))])) _
    refine XS.icmpYes X0.here hx rfl (pc0 := 23) (pc' := 30) rfl (hb hby d_method_2_code_23) rfl (by decide) (by decide) (by decide) ?_
    show Steps p.tables e below (s₁.setTop (mkF m 30 #[.val (.int (80 : Int32))] [])) _
    refine XS.iloadN X0.here hx rfl (hb hby d_method_2_code_30) rfl ?_
    show Steps p.tables e below (s₁.setTop (mkF m 31 #[.val (.int (80 : Int32))] [(.int (80 : Int32))])) _
    refine XT.bipushV X0.here hx rfl (102 : Int32) (hb hby d_method_2_code_31) (by decide) ?_
    show Steps p.tables e below (s₁.setTop (mkF m 33 #[.val (.int (80 : Int32))] [(.int (102 : Int32)), (.int (80 : Int32))])) _
    refine XS.icmpYes X0.here hx rfl (pc0 := 33) (pc' := 40) rfl (hb hby d_method_2_code_33) rfl (by decide) (by decide) (by decide) ?_
    show Steps p.tables e below (s₁.setTop (mkF m 40 #[.val (.int (80 : Int32))] [])) _
    refine XS.iloadN X0.here hx rfl (hb hby d_method_2_code_40) rfl ?_
    show Steps p.tables e below (s₁.setTop (mkF m 41 #[.val (.int (80 : Int32))] [(.int (80 : Int32))])) _
    refine XT.bipushV X0.here hx rfl (104 : Int32) (hb hby d_method_2_code_41) (by decide) ?_
    show Steps p.tables e below (s₁.setTop (mkF m 43 #[.val (.int (80 : Int32))] [(.int (104 : Int32)), (.int (80 : Int32))])) _
    refine XS.icmpYes X0.here hx rfl (pc0 := 43) (pc' := 50) rfl (hb hby d_method_2_code_43) rfl (by decide) (by decide) (by decide) ?_
    show Steps p.tables e below (s₁.setTop (mkF m 50 #[.val (.int (80 : Int32))] [])) _
    refine XS.iloadN X0.here hx rfl (hb hby d_method_2_code_50) rfl ?_
    show Steps p.tables e below (s₁.setTop (mkF m 51 #[.val (.int (80 : Int32))] [(.int (80 : Int32))])) _
    refine XT.bipushV X0.here hx rfl (74 : Int32) (hb hby d_method_2_code_51) (by decide) ?_
    show Steps p.tables e below (s₁.setTop (mkF m 53 #[.val (.int (80 : Int32))] [(.int (74 : Int32)), (.int (80 : Int32))])) _
    refine XS.icmpYes X0.here hx rfl (pc0 := 53) (pc' := 60) rfl (hb hby d_method_2_code_53) rfl (by decide) (by decide) (by decide) ?_
    show Steps p.tables e below (s₁.setTop (mkF m 60 #[.val (.int (80 : Int32))] [])) _
    refine XS.iloadN X0.here hx rfl (hb hby d_method_2_code_60) rfl ?_
    show Steps p.tables e below (s₁.setTop (mkF m 61 #[.val (.int (80 : Int32))] [(.int (80 : Int32))])) _
    refine XT.bipushV X0.here hx rfl (108 : Int32) (hb hby d_method_2_code_61) (by decide) ?_
    show Steps p.tables e below (s₁.setTop (mkF m 63 #[.val (.int (80 : Int32))] [(.int (108 : Int32)), (.int (80 : Int32))])) _
    refine XS.icmpYes X0.here hx rfl (pc0 := 63) (pc' := 70) rfl (hb hby d_method_2_code_63) rfl (by decide) (by decide) (by decide) ?_
    show Steps p.tables e below (s₁.setTop (mkF m 70 #[.val (.int (80 : Int32))] [])) _
    refine XS.iloadN X0.here hx rfl (hb hby d_method_2_code_70) rfl ?_
    show Steps p.tables e below (s₁.setTop (mkF m 71 #[.val (.int (80 : Int32))] [(.int (80 : Int32))])) _
    refine XT.bipushV X0.here hx rfl (110 : Int32) (hb hby d_method_2_code_71) (by decide) ?_
    show Steps p.tables e below (s₁.setTop (mkF m 73 #[.val (.int (80 : Int32))] [(.int (110 : Int32)), (.int (80 : Int32))])) _
    refine XS.icmpYes X0.here hx rfl (pc0 := 73) (pc' := 80) rfl (hb hby d_method_2_code_73) rfl (by decide) (by decide) (by decide) ?_
    show Steps p.tables e below (s₁.setTop (mkF m 80 #[.val (.int (80 : Int32))] [])) _
    refine XS.iloadN X0.here hx rfl (hb hby d_method_2_code_80) rfl ?_
    show Steps p.tables e below (s₁.setTop (mkF m 81 #[.val (.int (80 : Int32))] [(.int (80 : Int32))])) _
    refine XT.bipushV X0.here hx rfl (80 : Int32) (hb hby d_method_2_code_81) (by decide) ?_
    show Steps p.tables e below (s₁.setTop (mkF m 83 #[.val (.int (80 : Int32))] [(.int (80 : Int32)), (.int (80 : Int32))])) _
    refine XS.icmpNo X0.here hx rfl (hb hby d_method_2_code_83) rfl (by decide) ?_
    show Steps p.tables e below (s₁.setTop (mkF m 86 #[.val (.int (80 : Int32))] [])) _
    refine st1 _ ?_
    show Steps p.tables e below (T1.setTop (mkF m 89 #[.val (.int (80 : Int32))] [(.ref b8)])) _
    exact retOut X1 hx Bd.returns rfl (Or.inr (Or.inr (Or.inr (Or.inr ⟨rfl, rfl, rfl⟩)))) (hb hby d_method_2_code_89) hr
  · exact ⟨rfl, N0, e1⟩
def Q_find_9 (Z : State) (aV : Addr) (kV : ClassId) (b0 b1 b2 b3 b4 b5 b6 b7 b8 b9 : Addr) (h0 : Heap) (n0 : Nat) (v : Option Value) (h : Heap) (L : List Loc) : Prop := v = some (.ref b9) ∧ Fr n0 L ∧ Ext h0 h
set_option maxRecDepth 65536 in
set_option maxHeartbeats 40000000 in
theorem find_9 (l : Launch) (Z : State) (a0 : Array Value) (hw : ∀ d ∈ tables_1, d.before a0 Z = true) (ws : List Jvm.Cond) (aV : Addr) (kV : ClassId) (b0 b1 b2 b3 b4 b5 b6 b7 b8 b9 : Addr) (h0 : Heap) (n0 : Nat) (Z0 : n0 ≤ h0.size) (SaV : Sta Z h0 "com/example/keyward/keyward/LdapOperation" "$VALUES" "[Lcom/example/keyward/keyward/LdapOperation;" (.ref aV)) (VaV : Arv Z h0 aV kV (.object "com/example/keyward/keyward/LdapOperation") (10 : Int32) [(.ref b0), (.ref b1), (.ref b2), (.ref b3), (.ref b4), (.ref b5), (.ref b6), (.ref b7), (.ref b8), (.ref b9)] .null) (EaV : Exa Z h0 aV "[Lcom/example/keyward/keyward/LdapOperation;")(Fb0 : Fld Z h0 b0 "com/example/keyward/keyward/LdapOperation" "requestTag" "I" (.int (96 : Int32)))(Fb1 : Fld Z h0 b1 "com/example/keyward/keyward/LdapOperation" "requestTag" "I" (.int (66 : Int32)))(Fb2 : Fld Z h0 b2 "com/example/keyward/keyward/LdapOperation" "requestTag" "I" (.int (99 : Int32)))(Fb3 : Fld Z h0 b3 "com/example/keyward/keyward/LdapOperation" "requestTag" "I" (.int (102 : Int32)))(Fb4 : Fld Z h0 b4 "com/example/keyward/keyward/LdapOperation" "requestTag" "I" (.int (104 : Int32)))(Fb5 : Fld Z h0 b5 "com/example/keyward/keyward/LdapOperation" "requestTag" "I" (.int (74 : Int32)))(Fb6 : Fld Z h0 b6 "com/example/keyward/keyward/LdapOperation" "requestTag" "I" (.int (108 : Int32)))(Fb7 : Fld Z h0 b7 "com/example/keyward/keyward/LdapOperation" "requestTag" "I" (.int (110 : Int32)))(Fb8 : Fld Z h0 b8 "com/example/keyward/keyward/LdapOperation" "requestTag" "I" (.int (80 : Int32)))(Fb9 : Fld Z h0 b9 "com/example/keyward/keyward/LdapOperation" "requestTag" "I" (.int (119 : Int32))) :
    MetFree l (⟨"com/example/keyward/keyward/LdapOperation", "forRequestTag", "(I)Lcom/example/keyward/keyward/LdapOperation;"⟩ : MethodName) (head1 (Jvm.Cond.code (⟨"com/example/keyward/keyward/LdapOperation", "forRequestTag", "(I)Lcom/example/keyward/keyward/LdapOperation;"⟩ : MethodName) prog_16_method_4_code 5 (Option.some (Jvm.ClassFile.FieldType.object "com/example/keyward/keyward/LdapOperation")) :: ws) ({ frames := 2, cells := 1, slots := 10, locals := 25 } : Room)) (fun a U => a = #[(.int (119 : Int32))] ∧ Z.Warmed39 U.vm ∧ U.heap = h0) (fun _ _ _ _ _ => True) (fun _ U o U' => ∃ v L, o = .returned v ∧ Q_find_9 Z aV kV b0 b1 b2 b3 b4 b5 b6 b7 b8 b9 h0 n0 v U'.heap L ∧ FrameEnd U o U' L ({ frames := 2, cells := 1, slots := 10, locals := 25 } : Room).cells ({ frames := 2, cells := 1, slots := 10, locals := 25 } : Room).slots) := by
  refine MetFree.of_bodySF (plainFor_of_name pn_5) hisR ?_
  intro p e s m args below meth c s₁ Bd hml0 hP hK
  obtain ⟨rfl, hZ, hh⟩ := hP
  have hx := Bd.exec
  have hby := Bd.bytes
  have hml : c.maxLocals = 5 := hml0
  have hown : s.vm.findClass "com/example/keyward/keyward/LdapOperation" = some m.cls := findClass_of_methodNamed Bd.named
  have hnm := (name_of_methodNamed Bd.named Bd.method).1
  have X0 : Stand p l e ({ frames := 2, cells := 1, slots := 10, locals := 25 } : Room) s m #[(.int (119 : Int32))] below meth c s₁ [] 0 0 := Stand.of_body Bd
  have e0 : s₁.heap = h0 := by rw [← hh, Bd.state]; rfl
  have N0 := Fr.nil n0
  have pre0 : ∀ t, Steps p.tables e below (s₁.setTop (mkF m 0 #[.val (.int (119 : Int32)), .unset, .unset, .unset, .unset] [])) t → Steps p.tables e below (s₁.setTop (entryFrame m #[(.int (119 : Int32))] 5)) t := fun t k => castTop (ef_27 m (119 : Int32)) k
  obtain ⟨_, _, ⟨T1, L1, k1, n1⟩, -, X1, ⟨Lc1, hQ1, l1, y1, z1⟩, st1⟩ := Jvm.LawKit.callS X0 hx (y := (⟨"com/example/keyward/keyward/LdapOperation", "values", "()[Lcom/example/keyward/keyward/LdapOperation;"⟩ : MethodName)) hown (mvT hZ (hw _ (List.mem_of_getElem? (i := 5) rfl))) (mvT hZ (hw _ (List.mem_of_getElem? (i := 6) rfl))) (mvT hZ (hw _ (List.mem_of_getElem? (i := 3) rfl))) (mvT hZ (hw _ (List.mem_of_getElem? (i := 7) rfl))) (by decide) (backOf (W := 0) (values_0 l Z a0 hw [] aV kV b0 b1 b2 b3 b4 b5 b6 b7 b8 b9 h0 n0 Z0 SaV VaV EaV) hZ (hw _ (List.mem_of_getElem? (i := 7) rfl)) (hw _ (List.mem_of_getElem? (i := 3) rfl)) (by decide) (by decide)) (g := (mkF m 0 #[.val (.int (119 : Int32)), .unset, .unset, .unset, .unset] [])) rfl (by rw [hml]; rfl) (argsL := []) (rest := []) (lenOf pd_7 rfl) rfl (by show 2 * 0 + _ ≤ _; exact Nat.le_of_eq rfl) (hb hby d_prog_16_method_4_code_0) (fun _ _ => ⟨rfl, e0, (by decide : 0 + 1 ≤ _), (by decide : 0 + 10 ≤ _)⟩)
  dsimp only [Pt.U, Pt.locs, Pt.cells, Pt.slots] at X1 l1 y1 z1 st1 hQ1
  subst l1 y1 z1
  obtain ⟨rfl, N1q, Ex1, V1⟩ := hQ1
  have N1 := Fr.app N0 N1q
  obtain ⟨cl, Ar, -, Sz, Ng, Hs, -⟩ := V1
  have hlen : cl.slots.size.toInt32 = (10 : Int32) := len_of Sz Ng
  obtain ⟨T2, X2, e2, st2⟩ := getF X1 hx hZ hown (host := "") (Or.inl (hw _ (List.mem_of_getElem? (i := 30) rfl))) Via.refl rfl (Fb0.ext Ex1) (g := (mkF m 21 #[.val (.int (119 : Int32)), .val (.ref h0.size), .val (.int (10 : Int32)), .val (.int (0 : Int32)), .val (.ref b0)] [(.ref b0)])) rfl rfl (hb hby d_prog_16_method_4_code_21)
  obtain ⟨T3, X3, e3, st3⟩ := getF X2 hx hZ hown (host := "") (Or.inl (hw _ (List.mem_of_getElem? (i := 30) rfl))) Via.refl e2 (Fb1.ext Ex1) (g := (mkF m 21 #[.val (.int (119 : Int32)), .val (.ref h0.size), .val (.int (10 : Int32)), .val (.int (1 : Int32)), .val (.ref b1)] [(.ref b1)])) rfl rfl (hb hby d_prog_16_method_4_code_21)
  obtain ⟨T4, X4, e4, st4⟩ := getF X3 hx hZ hown (host := "") (Or.inl (hw _ (List.mem_of_getElem? (i := 30) rfl))) Via.refl e3 (Fb2.ext Ex1) (g := (mkF m 21 #[.val (.int (119 : Int32)), .val (.ref h0.size), .val (.int (10 : Int32)), .val (.int (2 : Int32)), .val (.ref b2)] [(.ref b2)])) rfl rfl (hb hby d_prog_16_method_4_code_21)
  obtain ⟨T5, X5, e5, st5⟩ := getF X4 hx hZ hown (host := "") (Or.inl (hw _ (List.mem_of_getElem? (i := 30) rfl))) Via.refl e4 (Fb3.ext Ex1) (g := (mkF m 21 #[.val (.int (119 : Int32)), .val (.ref h0.size), .val (.int (10 : Int32)), .val (.int (3 : Int32)), .val (.ref b3)] [(.ref b3)])) rfl rfl (hb hby d_prog_16_method_4_code_21)
  obtain ⟨T6, X6, e6, st6⟩ := getF X5 hx hZ hown (host := "") (Or.inl (hw _ (List.mem_of_getElem? (i := 30) rfl))) Via.refl e5 (Fb4.ext Ex1) (g := (mkF m 21 #[.val (.int (119 : Int32)), .val (.ref h0.size), .val (.int (10 : Int32)), .val (.int (4 : Int32)), .val (.ref b4)] [(.ref b4)])) rfl rfl (hb hby d_prog_16_method_4_code_21)
  obtain ⟨T7, X7, e7, st7⟩ := getF X6 hx hZ hown (host := "") (Or.inl (hw _ (List.mem_of_getElem? (i := 30) rfl))) Via.refl e6 (Fb5.ext Ex1) (g := (mkF m 21 #[.val (.int (119 : Int32)), .val (.ref h0.size), .val (.int (10 : Int32)), .val (.int (5 : Int32)), .val (.ref b5)] [(.ref b5)])) rfl rfl (hb hby d_prog_16_method_4_code_21)
  obtain ⟨T8, X8, e8, st8⟩ := getF X7 hx hZ hown (host := "") (Or.inl (hw _ (List.mem_of_getElem? (i := 30) rfl))) Via.refl e7 (Fb6.ext Ex1) (g := (mkF m 21 #[.val (.int (119 : Int32)), .val (.ref h0.size), .val (.int (10 : Int32)), .val (.int (6 : Int32)), .val (.ref b6)] [(.ref b6)])) rfl rfl (hb hby d_prog_16_method_4_code_21)
  obtain ⟨T9, X9, e9, st9⟩ := getF X8 hx hZ hown (host := "") (Or.inl (hw _ (List.mem_of_getElem? (i := 30) rfl))) Via.refl e8 (Fb7.ext Ex1) (g := (mkF m 21 #[.val (.int (119 : Int32)), .val (.ref h0.size), .val (.int (10 : Int32)), .val (.int (7 : Int32)), .val (.ref b7)] [(.ref b7)])) rfl rfl (hb hby d_prog_16_method_4_code_21)
  obtain ⟨T10, X10, e10, st10⟩ := getF X9 hx hZ hown (host := "") (Or.inl (hw _ (List.mem_of_getElem? (i := 30) rfl))) Via.refl e9 (Fb8.ext Ex1) (g := (mkF m 21 #[.val (.int (119 : Int32)), .val (.ref h0.size), .val (.int (10 : Int32)), .val (.int (8 : Int32)), .val (.ref b8)] [(.ref b8)])) rfl rfl (hb hby d_prog_16_method_4_code_21)
  obtain ⟨T11, X11, e11, st11⟩ := getF X10 hx hZ hown (host := "") (Or.inl (hw _ (List.mem_of_getElem? (i := 30) rfl))) Via.refl e10 (Fb9.ext Ex1) (g := (mkF m 21 #[.val (.int (119 : Int32)), .val (.ref h0.size), .val (.int (10 : Int32)), .val (.int (9 : Int32)), .val (.ref b9)] [(.ref b9)])) rfl rfl (hb hby d_prog_16_method_4_code_21)
  obtain ⟨fs, hr, hrun, hended, hW, hsame⟩ := X11.leave (v := some (.ref b9)) (fun h => by rw [Bd.returns] at h; cases h)
  refine ⟨_, _, pre0 _ ?_, hrun, hended, _, _, rfl, ?_, ⟨_, rfl⟩, hW, hsame.mono (by decide) (by decide)⟩
  · show Steps p.tables e below (s₁.setTop (mkF m 0 #[.val (.int (119 : Int32)), .unset, .unset, .unset, .unset] [])) _
    refine st1 _ ?_
    show Steps p.tables e below (T1.setTop (mkF m 3 #[.val (.int (119 : Int32)), .unset, .unset, .unset, .unset] [(.ref h0.size)])) _
    refine XS.astoreN X1.here hx rfl (hb hby d_prog_16_method_4_code_3) rfl rfl (l' := #[.val (.int (119 : Int32)), .val (.ref h0.size), .unset, .unset, .unset]) rfl ?_
    show Steps p.tables e below (T1.setTop (mkF m 4 #[.val (.int (119 : Int32)), .val (.ref h0.size), .unset, .unset, .unset] [])) _
    refine XS.aloadN X1.here hx rfl (hb hby d_prog_16_method_4_code_4) rfl rfl ?_
    show Steps p.tables e below (T1.setTop (mkF m 5 #[.val (.int (119 : Int32)), .val (.ref h0.size), .unset, .unset, .unset] [(.ref h0.size)])) _
    refine X1.arraylength hx (by first | exact Ar.1 | (rw [rfl]; exact Ar.1)) (State.isArrayOf_alike hZ.alike Ar.2.1) (g := (mkF m 5 #[.val (.int (119 : Int32)), .val (.ref h0.size), .unset, .unset, .unset] [(.ref h0.size)])) rfl rfl (hb hby d_prog_16_method_4_code_5) _ ?_
    show Steps p.tables e below (T1.setTop (mkF m 6 #[.val (.int (119 : Int32)), .val (.ref h0.size), .unset, .unset, .unset] [(.int cl.slots.size.toInt32)])) _
    rw [hlen]
    show Steps p.tables e below (T1.setTop (mkF m 6 #[.val (.int (119 : Int32)), .val (.ref h0.size), .unset, .unset, .unset] [(.int (10 : Int32))])) _
    refine XS.istoreN X1.here hx rfl (hb hby d_prog_16_method_4_code_6) rfl (l' := #[.val (.int (119 : Int32)), .val (.ref h0.size), .val (.int (10 : Int32)), .unset, .unset]) rfl ?_
    show Steps p.tables e below (T1.setTop (mkF m 7 #[.val (.int (119 : Int32)), .val (.ref h0.size), .val (.int (10 : Int32)), .unset, .unset] [])) _
    refine XT.iconstV X1.here hx rfl (0 : Int32) (hb hby d_prog_16_method_4_code_7) (by decide) ?_
    show Steps p.tables e below (T1.setTop (mkF m 8 #[.val (.int (119 : Int32)), .val (.ref h0.size), .val (.int (10 : Int32)), .unset, .unset] [(.int (0 : Int32))])) _
    refine XS.istoreN X1.here hx rfl (hb hby d_prog_16_method_4_code_8) rfl (l' := #[.val (.int (119 : Int32)), .val (.ref h0.size), .val (.int (10 : Int32)), .val (.int (0 : Int32)), .unset]) rfl ?_
    show Steps p.tables e below (T1.setTop (mkF m 9 #[.val (.int (119 : Int32)), .val (.ref h0.size), .val (.int (10 : Int32)), .val (.int (0 : Int32)), .unset] [])) _
    refine XS.iloadN X1.here hx rfl (hb hby d_prog_16_method_4_code_9) rfl ?_
    show Steps p.tables e below (T1.setTop (mkF m 10 #[.val (.int (119 : Int32)), .val (.ref h0.size), .val (.int (10 : Int32)), .val (.int (0 : Int32)), .unset] [(.int (0 : Int32))])) _
    refine XS.iloadN X1.here hx rfl (hb hby d_prog_16_method_4_code_10) rfl ?_
    show Steps p.tables e below (T1.setTop (mkF m 11 #[.val (.int (119 : Int32)), .val (.ref h0.size), .val (.int (10 : Int32)), .val (.int (0 : Int32)), .unset] [(.int (10 : Int32)), (.int (0 : Int32))])) _
    refine XS.icmpNo X1.here hx rfl (hb hby d_prog_16_method_4_code_11) rfl (by decide) ?_
    show Steps p.tables e below (T1.setTop (mkF m 14 #[.val (.int (119 : Int32)), .val (.ref h0.size), .val (.int (10 : Int32)), .val (.int (0 : Int32)), .unset] [])) _
    refine XS.aloadN X1.here hx rfl (hb hby d_prog_16_method_4_code_14) rfl rfl ?_
    show Steps p.tables e below (T1.setTop (mkF m 15 #[.val (.int (119 : Int32)), .val (.ref h0.size), .val (.int (10 : Int32)), .val (.int (0 : Int32)), .unset] [(.ref h0.size)])) _
    refine XS.iloadN X1.here hx rfl (hb hby d_prog_16_method_4_code_15) rfl ?_
    show Steps p.tables e below (T1.setTop (mkF m 16 #[.val (.int (119 : Int32)), .val (.ref h0.size), .val (.int (10 : Int32)), .val (.int (0 : Int32)), .unset] [(.int (0 : Int32)), (.ref h0.size)])) _
    refine X1.aaload hx (j := (0 : Int32)) (v := (.ref b0)) (by first | exact Ar.1 | (rw [rfl]; exact Ar.1)) (State.isArrayOf_alike hZ.alike Ar.2.1) rfl Ar.2.2 (inb_of Sz ⟨by decide, by decide⟩) (Hs.at (inb_of Sz ⟨by decide, by decide⟩) rfl) (g := (mkF m 16 #[.val (.int (119 : Int32)), .val (.ref h0.size), .val (.int (10 : Int32)), .val (.int (0 : Int32)), .unset] [(.int (0 : Int32)), (.ref h0.size)])) rfl rfl (hb hby d_prog_16_method_4_code_16) _ ?_
    show Steps p.tables e below (T1.setTop (mkF m 17 #[.val (.int (119 : Int32)), .val (.ref h0.size), .val (.int (10 : Int32)), .val (.int (0 : Int32)), .unset] [(.ref b0)])) _
    refine XS.astore X1.here hx rfl (hb hby d_prog_16_method_4_code_17) rfl rfl (l' := #[.val (.int (119 : Int32)), .val (.ref h0.size), .val (.int (10 : Int32)), .val (.int (0 : Int32)), .val (.ref b0)]) rfl ?_
    show Steps p.tables e below (T1.setTop (mkF m 19 #[.val (.int (119 : Int32)), .val (.ref h0.size), .val (.int (10 : Int32)), .val (.int (0 : Int32)), .val (.ref b0)] [])) _
    refine XS.aload X1.here hx rfl (hb hby d_prog_16_method_4_code_19) rfl rfl ?_
    show Steps p.tables e below (T1.setTop (mkF m 21 #[.val (.int (119 : Int32)), .val (.ref h0.size), .val (.int (10 : Int32)), .val (.int (0 : Int32)), .val (.ref b0)] [(.ref b0)])) _
    refine st2 _ ?_
    show Steps p.tables e below (T2.setTop (mkF m 24 #[.val (.int (119 : Int32)), .val (.ref h0.size), .val (.int (10 : Int32)), .val (.int (0 : Int32)), .val (.ref b0)] [(.int (96 : Int32))])) _
    refine XS.iloadN X2.here hx rfl (hb hby d_prog_16_method_4_code_24) rfl ?_
    show Steps p.tables e below (T2.setTop (mkF m 25 #[.val (.int (119 : Int32)), .val (.ref h0.size), .val (.int (10 : Int32)), .val (.int (0 : Int32)), .val (.ref b0)] [(.int (119 : Int32)), (.int (96 : Int32))])) _
    refine XS.icmpYes X2.here hx rfl (pc0 := 25) (pc' := 31) rfl (hb hby d_prog_16_method_4_code_25) rfl (by decide) (by decide) (by decide) ?_
    show Steps p.tables e below (T2.setTop (mkF m 31 #[.val (.int (119 : Int32)), .val (.ref h0.size), .val (.int (10 : Int32)), .val (.int (0 : Int32)), .val (.ref b0)] [])) _
    refine XT.iincV X2.here hx rfl (1 : Int32) (hb hby d_prog_16_method_4_code_31) (by decide) rfl (l' := #[.val (.int (119 : Int32)), .val (.ref h0.size), .val (.int (10 : Int32)), .val (.int (1 : Int32)), .val (.ref b0)]) rfl ?_
    show Steps p.tables e below (T2.setTop (mkF m 34 #[.val (.int (119 : Int32)), .val (.ref h0.size), .val (.int (10 : Int32)), .val (.int (1 : Int32)), .val (.ref b0)] [])) _
    refine XS.goto X2.here hx rfl (pc0 := 34) (pc' := 9) rfl (hb hby d_prog_16_method_4_code_34) (by decide) (by decide) ?_
    show Steps p.tables e below (T2.setTop (mkF m 9 #[.val (.int (119 : Int32)), .val (.ref h0.size), .val (.int (10 : Int32)), .val (.int (1 : Int32)), .val (.ref b0)] [])) _
    refine XS.iloadN X2.here hx rfl (hb hby d_prog_16_method_4_code_9) rfl ?_
    show Steps p.tables e below (T2.setTop (mkF m 10 #[.val (.int (119 : Int32)), .val (.ref h0.size), .val (.int (10 : Int32)), .val (.int (1 : Int32)), .val (.ref b0)] [(.int (1 : Int32))])) _
    refine XS.iloadN X2.here hx rfl (hb hby d_prog_16_method_4_code_10) rfl ?_
    show Steps p.tables e below (T2.setTop (mkF m 11 #[.val (.int (119 : Int32)), .val (.ref h0.size), .val (.int (10 : Int32)), .val (.int (1 : Int32)), .val (.ref b0)] [(.int (10 : Int32)), (.int (1 : Int32))])) _
    refine XS.icmpNo X2.here hx rfl (hb hby d_prog_16_method_4_code_11) rfl (by decide) ?_
    show Steps p.tables e below (T2.setTop (mkF m 14 #[.val (.int (119 : Int32)), .val (.ref h0.size), .val (.int (10 : Int32)), .val (.int (1 : Int32)), .val (.ref b0)] [])) _
    refine XS.aloadN X2.here hx rfl (hb hby d_prog_16_method_4_code_14) rfl rfl ?_
    show Steps p.tables e below (T2.setTop (mkF m 15 #[.val (.int (119 : Int32)), .val (.ref h0.size), .val (.int (10 : Int32)), .val (.int (1 : Int32)), .val (.ref b0)] [(.ref h0.size)])) _
    refine XS.iloadN X2.here hx rfl (hb hby d_prog_16_method_4_code_15) rfl ?_
    show Steps p.tables e below (T2.setTop (mkF m 16 #[.val (.int (119 : Int32)), .val (.ref h0.size), .val (.int (10 : Int32)), .val (.int (1 : Int32)), .val (.ref b0)] [(.int (1 : Int32)), (.ref h0.size)])) _
    refine X2.aaload hx (j := (1 : Int32)) (v := (.ref b1)) (by first | exact Ar.1 | (rw [e2]; exact Ar.1)) (State.isArrayOf_alike hZ.alike Ar.2.1) rfl Ar.2.2 (inb_of Sz ⟨by decide, by decide⟩) (Hs.at (inb_of Sz ⟨by decide, by decide⟩) rfl) (g := (mkF m 16 #[.val (.int (119 : Int32)), .val (.ref h0.size), .val (.int (10 : Int32)), .val (.int (1 : Int32)), .val (.ref b0)] [(.int (1 : Int32)), (.ref h0.size)])) rfl rfl (hb hby d_prog_16_method_4_code_16) _ ?_
    show Steps p.tables e below (T2.setTop (mkF m 17 #[.val (.int (119 : Int32)), .val (.ref h0.size), .val (.int (10 : Int32)), .val (.int (1 : Int32)), .val (.ref b0)] [(.ref b1)])) _
    refine XS.astore X2.here hx rfl (hb hby d_prog_16_method_4_code_17) rfl rfl (l' := #[.val (.int (119 : Int32)), .val (.ref h0.size), .val (.int (10 : Int32)), .val (.int (1 : Int32)), .val (.ref b1)]) rfl ?_
    show Steps p.tables e below (T2.setTop (mkF m 19 #[.val (.int (119 : Int32)), .val (.ref h0.size), .val (.int (10 : Int32)), .val (.int (1 : Int32)), .val (.ref b1)] [])) _
    refine XS.aload X2.here hx rfl (hb hby d_prog_16_method_4_code_19) rfl rfl ?_
    show Steps p.tables e below (T2.setTop (mkF m 21 #[.val (.int (119 : Int32)), .val (.ref h0.size), .val (.int (10 : Int32)), .val (.int (1 : Int32)), .val (.ref b1)] [(.ref b1)])) _
    refine st3 _ ?_
    show Steps p.tables e below (T3.setTop (mkF m 24 #[.val (.int (119 : Int32)), .val (.ref h0.size), .val (.int (10 : Int32)), .val (.int (1 : Int32)), .val (.ref b1)] [(.int (66 : Int32))])) _
    refine XS.iloadN X3.here hx rfl (hb hby d_prog_16_method_4_code_24) rfl ?_
    show Steps p.tables e below (T3.setTop (mkF m 25 #[.val (.int (119 : Int32)), .val (.ref h0.size), .val (.int (10 : Int32)), .val (.int (1 : Int32)), .val (.ref b1)] [(.int (119 : Int32)), (.int (66 : Int32))])) _
    refine XS.icmpYes X3.here hx rfl (pc0 := 25) (pc' := 31) rfl (hb hby d_prog_16_method_4_code_25) rfl (by decide) (by decide) (by decide) ?_
    show Steps p.tables e below (T3.setTop (mkF m 31 #[.val (.int (119 : Int32)), .val (.ref h0.size), .val (.int (10 : Int32)), .val (.int (1 : Int32)), .val (.ref b1)] [])) _
    refine XT.iincV X3.here hx rfl (1 : Int32) (hb hby d_prog_16_method_4_code_31) (by decide) rfl (l' := #[.val (.int (119 : Int32)), .val (.ref h0.size), .val (.int (10 : Int32)), .val (.int (2 : Int32)), .val (.ref b1)]) rfl ?_
    show Steps p.tables e below (T3.setTop (mkF m 34 #[.val (.int (119 : Int32)), .val (.ref h0.size), .val (.int (10 : Int32)), .val (.int (2 : Int32)), .val (.ref b1)] [])) _
    refine XS.goto X3.here hx rfl (pc0 := 34) (pc' := 9) rfl (hb hby d_prog_16_method_4_code_34) (by decide) (by decide) ?_
    show Steps p.tables e below (T3.setTop (mkF m 9 #[.val (.int (119 : Int32)), .val (.ref h0.size), .val (.int (10 : Int32)), .val (.int (2 : Int32)), .val (.ref b1)] [])) _
    refine XS.iloadN X3.here hx rfl (hb hby d_prog_16_method_4_code_9) rfl ?_
    show Steps p.tables e below (T3.setTop (mkF m 10 #[.val (.int (119 : Int32)), .val (.ref h0.size), .val (.int (10 : Int32)), .val (.int (2 : Int32)), .val (.ref b1)] [(.int (2 : Int32))])) _
    refine XS.iloadN X3.here hx rfl (hb hby d_prog_16_method_4_code_10) rfl ?_
    show Steps p.tables e below (T3.setTop (mkF m 11 #[.val (.int (119 : Int32)), .val (.ref h0.size), .val (.int (10 : Int32)), .val (.int (2 : Int32)), .val (.ref b1)] [(.int (10 : Int32)), (.int (2 : Int32))])) _
    refine XS.icmpNo X3.here hx rfl (hb hby d_prog_16_method_4_code_11) rfl (by decide) ?_
    show Steps p.tables e below (T3.setTop (mkF m 14 #[.val (.int (119 : Int32)), .val (.ref h0.size), .val (.int (10 : Int32)), .val (.int (2 : Int32)), .val (.ref b1)] [])) _
    refine XS.aloadN X3.here hx rfl (hb hby d_prog_16_method_4_code_14) rfl rfl ?_
    show Steps p.tables e below (T3.setTop (mkF m 15 #[.val (.int (119 : Int32)), .val (.ref h0.size), .val (.int (10 : Int32)), .val (.int (2 : Int32)), .val (.ref b1)] [(.ref h0.size)])) _
    refine XS.iloadN X3.here hx rfl (hb hby d_prog_16_method_4_code_15) rfl ?_
    show Steps p.tables e below (T3.setTop (mkF m 16 #[.val (.int (119 : Int32)), .val (.ref h0.size), .val (.int (10 : Int32)), .val (.int (2 : Int32)), .val (.ref b1)] [(.int (2 : Int32)), (.ref h0.size)])) _
    refine X3.aaload hx (j := (2 : Int32)) (v := (.ref b2)) (by first | exact Ar.1 | (rw [e3]; exact Ar.1)) (State.isArrayOf_alike hZ.alike Ar.2.1) rfl Ar.2.2 (inb_of Sz ⟨by decide, by decide⟩) (Hs.at (inb_of Sz ⟨by decide, by decide⟩) rfl) (g := (mkF m 16 #[.val (.int (119 : Int32)), .val (.ref h0.size), .val (.int (10 : Int32)), .val (.int (2 : Int32)), .val (.ref b1)] [(.int (2 : Int32)), (.ref h0.size)])) rfl rfl (hb hby d_prog_16_method_4_code_16) _ ?_
    show Steps p.tables e below (T3.setTop (mkF m 17 #[.val (.int (119 : Int32)), .val (.ref h0.size), .val (.int (10 : Int32)), .val (.int (2 : Int32)), .val (.ref b1)] [(.ref b2)])) _
    refine XS.astore X3.here hx rfl (hb hby d_prog_16_method_4_code_17) rfl rfl (l' := #[.val (.int (119 : Int32)), .val (.ref h0.size), .val (.int (10 : Int32)), .val (.int (2 : Int32)), .val (.ref b2)]) rfl ?_
    show Steps p.tables e below (T3.setTop (mkF m 19 #[.val (.int (119 : Int32)), .val (.ref h0.size), .val (.int (10 : Int32)), .val (.int (2 : Int32)), .val (.ref b2)] [])) _
    refine XS.aload X3.here hx rfl (hb hby d_prog_16_method_4_code_19) rfl rfl ?_
    show Steps p.tables e below (T3.setTop (mkF m 21 #[.val (.int (119 : Int32)), .val (.ref h0.size), .val (.int (10 : Int32)), .val (.int (2 : Int32)), .val (.ref b2)] [(.ref b2)])) _
    refine st4 _ ?_
    show Steps p.tables e below (T4.setTop (mkF m 24 #[.val (.int (119 : Int32)), .val (.ref h0.size), .val (.int (10 : Int32)), .val (.int (2 : Int32)), .val (.ref b2)] [(.int (99 : Int32))])) _
    refine XS.iloadN X4.here hx rfl (hb hby d_prog_16_method_4_code_24) rfl ?_
    show Steps p.tables e below (T4.setTop (mkF m 25 #[.val (.int (119 : Int32)), .val (.ref h0.size), .val (.int (10 : Int32)), .val (.int (2 : Int32)), .val (.ref b2)] [(.int (119 : Int32)), (.int (99 : Int32))])) _
    refine XS.icmpYes X4.here hx rfl (pc0 := 25) (pc' := 31) rfl (hb hby d_prog_16_method_4_code_25) rfl (by decide) (by decide) (by decide) ?_
    show Steps p.tables e below (T4.setTop (mkF m 31 #[.val (.int (119 : Int32)), .val (.ref h0.size), .val (.int (10 : Int32)), .val (.int (2 : Int32)), .val (.ref b2)] [])) _
    refine XT.iincV X4.here hx rfl (1 : Int32) (hb hby d_prog_16_method_4_code_31) (by decide) rfl (l' := #[.val (.int (119 : Int32)), .val (.ref h0.size), .val (.int (10 : Int32)), .val (.int (3 : Int32)), .val (.ref b2)]) rfl ?_
    show Steps p.tables e below (T4.setTop (mkF m 34 #[.val (.int (119 : Int32)), .val (.ref h0.size), .val (.int (10 : Int32)), .val (.int (3 : Int32)), .val (.ref b2)] [])) _
    refine XS.goto X4.here hx rfl (pc0 := 34) (pc' := 9) rfl (hb hby d_prog_16_method_4_code_34) (by decide) (by decide) ?_
    show Steps p.tables e below (T4.setTop (mkF m 9 #[.val (.int (119 : Int32)), .val (.ref h0.size), .val (.int (10 : Int32)), .val (.int (3 : Int32)), .val (.ref b2)] [])) _
    refine XS.iloadN X4.here hx rfl (hb hby d_prog_16_method_4_code_9) rfl ?_
    show Steps p.tables e below (T4.setTop (mkF m 10 #[.val (.int (119 : Int32)), .val (.ref h0.size), .val (.int (10 : Int32)), .val (.int (3 : Int32)), .val (.ref b2)] [(.int (3 : Int32))])) _
    refine XS.iloadN X4.here hx rfl (hb hby d_prog_16_method_4_code_10) rfl ?_
    show Steps p.tables e below (T4.setTop (mkF m 11 #[.val (.int (119 : Int32)), .val (.ref h0.size), .val (.int (10 : Int32)), .val (.int (3 : Int32)), .val (.ref b2)] [(.int (10 : Int32)), (.int (3 : Int32))])) _
    refine XS.icmpNo X4.here hx rfl (hb hby d_prog_16_method_4_code_11) rfl (by decide) ?_
    show Steps p.tables e below (T4.setTop (mkF m 14 #[.val (.int (119 : Int32)), .val (.ref h0.size), .val (.int (10 : Int32)), .val (.int (3 : Int32)), .val (.ref b2)] [])) _
    refine XS.aloadN X4.here hx rfl (hb hby d_prog_16_method_4_code_14) rfl rfl ?_
    show Steps p.tables e below (T4.setTop (mkF m 15 #[.val (.int (119 : Int32)), .val (.ref h0.size), .val (.int (10 : Int32)), .val (.int (3 : Int32)), .val (.ref b2)] [(.ref h0.size)])) _
    refine XS.iloadN X4.here hx rfl (hb hby d_prog_16_method_4_code_15) rfl ?_
    show Steps p.tables e below (T4.setTop (mkF m 16 #[.val (.int (119 : Int32)), .val (.ref h0.size), .val (.int (10 : Int32)), .val (.int (3 : Int32)), .val (.ref b2)] [(.int (3 : Int32)), (.ref h0.size)])) _
    refine X4.aaload hx (j := (3 : Int32)) (v := (.ref b3)) (by first | exact Ar.1 | (rw [e4]; exact Ar.1)) (State.isArrayOf_alike hZ.alike Ar.2.1) rfl Ar.2.2 (inb_of Sz ⟨by decide, by decide⟩) (Hs.at (inb_of Sz ⟨by decide, by decide⟩) rfl) (g := (mkF m 16 #[.val (.int (119 : Int32)), .val (.ref h0.size), .val (.int (10 : Int32)), .val (.int (3 : Int32)), .val (.ref b2)] [(.int (3 : Int32)), (.ref h0.size)])) rfl rfl (hb hby d_prog_16_method_4_code_16) _ ?_
    show Steps p.tables e below (T4.setTop (mkF m 17 #[.val (.int (119 : Int32)), .val (.ref h0.size), .val (.int (10 : Int32)), .val (.int (3 : Int32)), .val (.ref b2)] [(.ref b3)])) _
    refine XS.astore X4.here hx rfl (hb hby d_prog_16_method_4_code_17) rfl rfl (l' := #[.val (.int (119 : Int32)), .val (.ref h0.size), .val (.int (10 : Int32)), .val (.int (3 : Int32)), .val (.ref b3)]) rfl ?_
    show Steps p.tables e below (T4.setTop (mkF m 19 #[.val (.int (119 : Int32)), .val (.ref h0.size), .val (.int (10 : Int32)), .val (.int (3 : Int32)), .val (.ref b3)] [])) _
    refine XS.aload X4.here hx rfl (hb hby d_prog_16_method_4_code_19) rfl rfl ?_
    show Steps p.tables e below (T4.setTop (mkF m 21 #[.val (.int (119 : Int32)), .val (.ref h0.size), .val (.int (10 : Int32)), .val (.int (3 : Int32)), .val (.ref b3)] [(.ref b3)])) _
    refine st5 _ ?_
    show Steps p.tables e below (T5.setTop (mkF m 24 #[.val (.int (119 : Int32)), .val (.ref h0.size), .val (.int (10 : Int32)), .val (.int (3 : Int32)), .val (.ref b3)] [(.int (102 : Int32))])) _
    refine XS.iloadN X5.here hx rfl (hb hby d_prog_16_method_4_code_24) rfl ?_
    show Steps p.tables e below (T5.setTop (mkF m 25 #[.val (.int (119 : Int32)), .val (.ref h0.size), .val (.int (10 : Int32)), .val (.int (3 : Int32)), .val (.ref b3)] [(.int (119 : Int32)), (.int (102 : Int32))])) _
    refine XS.icmpYes X5.here hx rfl (pc0 := 25) (pc' := 31) rfl (hb hby d_prog_16_method_4_code_25) rfl (by decide) (by decide) (by decide) ?_
    show Steps p.tables e below (T5.setTop (mkF m 31 #[.val (.int (119 : Int32)), .val (.ref h0.size), .val (.int (10 : Int32)), .val (.int (3 : Int32)), .val (.ref b3)] [])) _
    refine XT.iincV X5.here hx rfl (1 : Int32) (hb hby d_prog_16_method_4_code_31) (by decide) rfl (l' := #[.val (.int (119 : Int32)), .val (.ref h0.size), .val (.int (10 : Int32)), .val (.int (4 : Int32)), .val (.ref b3)]) rfl ?_
    show Steps p.tables e below (T5.setTop (mkF m 34 #[.val (.int (119 : Int32)), .val (.ref h0.size), .val (.int (10 : Int32)), .val (.int (4 : Int32)), .val (.ref b3)] [])) _
    refine XS.goto X5.here hx rfl (pc0 := 34) (pc' := 9) rfl (hb hby d_prog_16_method_4_code_34) (by decide) (by decide) ?_
    show Steps p.tables e below (T5.setTop (mkF m 9 #[.val (.int (119 : Int32)), .val (.ref h0.size), .val (.int (10 : Int32)), .val (.int (4 : Int32)), .val (.ref b3)] [])) _
    refine XS.iloadN X5.here hx rfl (hb hby d_prog_16_method_4_code_9) rfl ?_
    show Steps p.tables e below (T5.setTop (mkF m 10 #[.val (.int (119 : Int32)), .val (.ref h0.size), .val (.int (10 : Int32)), .val (.int (4 : Int32)), .val (.ref b3)] [(.int (4 : Int32))])) _
    refine XS.iloadN X5.here hx rfl (hb hby d_prog_16_method_4_code_10) rfl ?_
    show Steps p.tables e below (T5.setTop (mkF m 11 #[.val (.int (119 : Int32)), .val (.ref h0.size), .val (.int (10 : Int32)), .val (.int (4 : Int32)), .val (.ref b3)] [(.int (10 : Int32)), (.int (4 : Int32))])) _
    refine XS.icmpNo X5.here hx rfl (hb hby d_prog_16_method_4_code_11) rfl (by decide) ?_
    show Steps p.tables e below (T5.setTop (mkF m 14 #[.val (.int (119 : Int32)), .val (.ref h0.size), .val (.int (10 : Int32)), .val (.int (4 : Int32)), .val (.ref b3)] [])) _
    refine XS.aloadN X5.here hx rfl (hb hby d_prog_16_method_4_code_14) rfl rfl ?_
    show Steps p.tables e below (T5.setTop (mkF m 15 #[.val (.int (119 : Int32)), .val (.ref h0.size), .val (.int (10 : Int32)), .val (.int (4 : Int32)), .val (.ref b3)] [(.ref h0.size)])) _
    refine XS.iloadN X5.here hx rfl (hb hby d_prog_16_method_4_code_15) rfl ?_
    show Steps p.tables e below (T5.setTop (mkF m 16 #[.val (.int (119 : Int32)), .val (.ref h0.size), .val (.int (10 : Int32)), .val (.int (4 : Int32)), .val (.ref b3)] [(.int (4 : Int32)), (.ref h0.size)])) _
    refine X5.aaload hx (j := (4 : Int32)) (v := (.ref b4)) (by first | exact Ar.1 | (rw [e5]; exact Ar.1)) (State.isArrayOf_alike hZ.alike Ar.2.1) rfl Ar.2.2 (inb_of Sz ⟨by decide, by decide⟩) (Hs.at (inb_of Sz ⟨by decide, by decide⟩) rfl) (g := (mkF m 16 #[.val (.int (119 : Int32)), .val (.ref h0.size), .val (.int (10 : Int32)), .val (.int (4 : Int32)), .val (.ref b3)] [(.int (4 : Int32)), (.ref h0.size)])) rfl rfl (hb hby d_prog_16_method_4_code_16) _ ?_
    show Steps p.tables e below (T5.setTop (mkF m 17 #[.val (.int (119 : Int32)), .val (.ref h0.size), .val (.int (10 : Int32)), .val (.int (4 : Int32)), .val (.ref b3)] [(.ref b4)])) _
    refine XS.astore X5.here hx rfl (hb hby d_prog_16_method_4_code_17) rfl rfl (l' := #[.val (.int (119 : Int32)), .val (.ref h0.size), .val (.int (10 : Int32)), .val (.int (4 : Int32)), .val (.ref b4)]) rfl ?_
    show Steps p.tables e below (T5.setTop (mkF m 19 #[.val (.int (119 : Int32)), .val (.ref h0.size), .val (.int (10 : Int32)), .val (.int (4 : Int32)), .val (.ref b4)] [])) _
    refine XS.aload X5.here hx rfl (hb hby d_prog_16_method_4_code_19) rfl rfl ?_
    show Steps p.tables e below (T5.setTop (mkF m 21 #[.val (.int (119 : Int32)), .val (.ref h0.size), .val (.int (10 : Int32)), .val (.int (4 : Int32)), .val (.ref b4)] [(.ref b4)])) _
    refine st6 _ ?_
    show Steps p.tables e below (T6.setTop (mkF m 24 #[.val (.int (119 : Int32)), .val (.ref h0.size), .val (.int (10 : Int32)), .val (.int (4 : Int32)), .val (.ref b4)] [(.int (104 : Int32))])) _
    refine XS.iloadN X6.here hx rfl (hb hby d_prog_16_method_4_code_24) rfl ?_
    show Steps p.tables e below (T6.setTop (mkF m 25 #[.val (.int (119 : Int32)), .val (.ref h0.size), .val (.int (10 : Int32)), .val (.int (4 : Int32)), .val (.ref b4)] [(.int (119 : Int32)), (.int (104 : Int32))])) _
    refine XS.icmpYes X6.here hx rfl (pc0 := 25) (pc' := 31) rfl (hb hby d_prog_16_method_4_code_25) rfl (by decide) (by decide) (by decide) ?_
    show Steps p.tables e below (T6.setTop (mkF m 31 #[.val (.int (119 : Int32)), .val (.ref h0.size), .val (.int (10 : Int32)), .val (.int (4 : Int32)), .val (.ref b4)] [])) _
    refine XT.iincV X6.here hx rfl (1 : Int32) (hb hby d_prog_16_method_4_code_31) (by decide) rfl (l' := #[.val (.int (119 : Int32)), .val (.ref h0.size), .val (.int (10 : Int32)), .val (.int (5 : Int32)), .val (.ref b4)]) rfl ?_
    show Steps p.tables e below (T6.setTop (mkF m 34 #[.val (.int (119 : Int32)), .val (.ref h0.size), .val (.int (10 : Int32)), .val (.int (5 : Int32)), .val (.ref b4)] [])) _
    refine XS.goto X6.here hx rfl (pc0 := 34) (pc' := 9) rfl (hb hby d_prog_16_method_4_code_34) (by decide) (by decide) ?_
    show Steps p.tables e below (T6.setTop (mkF m 9 #[.val (.int (119 : Int32)), .val (.ref h0.size), .val (.int (10 : Int32)), .val (.int (5 : Int32)), .val (.ref b4)] [])) _
    refine XS.iloadN X6.here hx rfl (hb hby d_prog_16_method_4_code_9) rfl ?_
    show Steps p.tables e below (T6.setTop (mkF m 10 #[.val (.int (119 : Int32)), .val (.ref h0.size), .val (.int (10 : Int32)), .val (.int (5 : Int32)), .val (.ref b4)] [(.int (5 : Int32))])) _
    refine XS.iloadN X6.here hx rfl (hb hby d_prog_16_method_4_code_10) rfl ?_
    show Steps p.tables e below (T6.setTop (mkF m 11 #[.val (.int (119 : Int32)), .val (.ref h0.size), .val (.int (10 : Int32)), .val (.int (5 : Int32)), .val (.ref b4)] [(.int (10 : Int32)), (.int (5 : Int32))])) _
    refine XS.icmpNo X6.here hx rfl (hb hby d_prog_16_method_4_code_11) rfl (by decide) ?_
    show Steps p.tables e below (T6.setTop (mkF m 14 #[.val (.int (119 : Int32)), .val (.ref h0.size), .val (.int (10 : Int32)), .val (.int (5 : Int32)), .val (.ref b4)] [])) _
    refine XS.aloadN X6.here hx rfl (hb hby d_prog_16_method_4_code_14) rfl rfl ?_
    show Steps p.tables e below (T6.setTop (mkF m 15 #[.val (.int (119 : Int32)), .val (.ref h0.size), .val (.int (10 : Int32)), .val (.int (5 : Int32)), .val (.ref b4)] [(.ref h0.size)])) _
    refine XS.iloadN X6.here hx rfl (hb hby d_prog_16_method_4_code_15) rfl ?_
    show Steps p.tables e below (T6.setTop (mkF m 16 #[.val (.int (119 : Int32)), .val (.ref h0.size), .val (.int (10 : Int32)), .val (.int (5 : Int32)), .val (.ref b4)] [(.int (5 : Int32)), (.ref h0.size)])) _
    refine X6.aaload hx (j := (5 : Int32)) (v := (.ref b5)) (by first | exact Ar.1 | (rw [e6]; exact Ar.1)) (State.isArrayOf_alike hZ.alike Ar.2.1) rfl Ar.2.2 (inb_of Sz ⟨by decide, by decide⟩) (Hs.at (inb_of Sz ⟨by decide, by decide⟩) rfl) (g := (mkF m 16 #[.val (.int (119 : Int32)), .val (.ref h0.size), .val (.int (10 : Int32)), .val (.int (5 : Int32)), .val (.ref b4)] [(.int (5 : Int32)), (.ref h0.size)])) rfl rfl (hb hby d_prog_16_method_4_code_16) _ ?_
    show Steps p.tables e below (T6.setTop (mkF m 17 #[.val (.int (119 : Int32)), .val (.ref h0.size), .val (.int (10 : Int32)), .val (.int (5 : Int32)), .val (.ref b4)] [(.ref b5)])) _
    refine XS.astore X6.here hx rfl (hb hby d_prog_16_method_4_code_17) rfl rfl (l' := #[.val (.int (119 : Int32)), .val (.ref h0.size), .val (.int (10 : Int32)), .val (.int (5 : Int32)), .val (.ref b5)]) rfl ?_
    show Steps p.tables e below (T6.setTop (mkF m 19 #[.val (.int (119 : Int32)), .val (.ref h0.size), .val (.int (10 : Int32)), .val (.int (5 : Int32)), .val (.ref b5)] [])) _
    refine XS.aload X6.here hx rfl (hb hby d_prog_16_method_4_code_19) rfl rfl ?_
    show Steps p.tables e below (T6.setTop (mkF m 21 #[.val (.int (119 : Int32)), .val (.ref h0.size), .val (.int (10 : Int32)), .val (.int (5 : Int32)), .val (.ref b5)] [(.ref b5)])) _
    refine st7 _ ?_
    show Steps p.tables e below (T7.setTop (mkF m 24 #[.val (.int (119 : Int32)), .val (.ref h0.size), .val (.int (10 : Int32)), .val (.int (5 : Int32)), .val (.ref b5)] [(.int (74 : Int32))])) _
    refine XS.iloadN X7.here hx rfl (hb hby d_prog_16_method_4_code_24) rfl ?_
    show Steps p.tables e below (T7.setTop (mkF m 25 #[.val (.int (119 : Int32)), .val (.ref h0.size), .val (.int (10 : Int32)), .val (.int (5 : Int32)), .val (.ref b5)] [(.int (119 : Int32)), (.int (74 : Int32))])) _
    refine XS.icmpYes X7.here hx rfl (pc0 := 25) (pc' := 31) rfl (hb hby d_prog_16_method_4_code_25) rfl (by decide) (by decide) (by decide) ?_
    show Steps p.tables e below (T7.setTop (mkF m 31 #[.val (.int (119 : Int32)), .val (.ref h0.size), .val (.int (10 : Int32)), .val (.int (5 : Int32)), .val (.ref b5)] [])) _
    refine XT.iincV X7.here hx rfl (1 : Int32) (hb hby d_prog_16_method_4_code_31) (by decide) rfl (l' := #[.val (.int (119 : Int32)), .val (.ref h0.size), .val (.int (10 : Int32)), .val (.int (6 : Int32)), .val (.ref b5)]) rfl ?_
    show Steps p.tables e below (T7.setTop (mkF m 34 #[.val (.int (119 : Int32)), .val (.ref h0.size), .val (.int (10 : Int32)), .val (.int (6 : Int32)), .val (.ref b5)] [])) _
    refine XS.goto X7.here hx rfl (pc0 := 34) (pc' := 9) rfl (hb hby d_prog_16_method_4_code_34) (by decide) (by decide) ?_
    show Steps p.tables e below (T7.setTop (mkF m 9 #[.val (.int (119 : Int32)), .val (.ref h0.size), .val (.int (10 : Int32)), .val (.int (6 : Int32)), .val (.ref b5)] [])) _
    refine XS.iloadN X7.here hx rfl (hb hby d_prog_16_method_4_code_9) rfl ?_
    show Steps p.tables e below (T7.setTop (mkF m 10 #[.val (.int (119 : Int32)), .val (.ref h0.size), .val (.int (10 : Int32)), .val (.int (6 : Int32)), .val (.ref b5)] [(.int (6 : Int32))])) _
    refine XS.iloadN X7.here hx rfl (hb hby d_prog_16_method_4_code_10) rfl ?_
    show Steps p.tables e below (T7.setTop (mkF m 11 #[.val (.int (119 : Int32)), .val (.ref h0.size), .val (.int (10 : Int32)), .val (.int (6 : Int32)), .val (.ref b5)] [(.int (10 : Int32)), (.int (6 : Int32))])) _
    refine XS.icmpNo X7.here hx rfl (hb hby d_prog_16_method_4_code_11) rfl (by decide) ?_
    show Steps p.tables e below (T7.setTop (mkF m 14 #[.val (.int (119 : Int32)), .val (.ref h0.size), .val (.int (10 : Int32)), .val (.int (6 : Int32)), .val (.ref b5)] [])) _
    refine XS.aloadN X7.here hx rfl (hb hby d_prog_16_method_4_code_14) rfl rfl ?_
    show Steps p.tables e below (T7.setTop (mkF m 15 #[.val (.int (119 : Int32)), .val (.ref h0.size), .val (.int (10 : Int32)), .val (.int (6 : Int32)), .val (.ref b5)] [(.ref h0.size)])) _
    refine XS.iloadN X7.here hx rfl (hb hby d_prog_16_method_4_code_15) rfl ?_
    show Steps p.tables e below (T7.setTop (mkF m 16 #[.val (.int (119 : Int32)), .val (.ref h0.size), .val (.int (10 : Int32)), .val (.int (6 : Int32)), .val (.ref b5)] [(.int (6 : Int32)), (.ref h0.size)])) _
    refine X7.aaload hx (j := (6 : Int32)) (v := (.ref b6)) (by first | exact Ar.1 | (rw [e7]; exact Ar.1)) (State.isArrayOf_alike hZ.alike Ar.2.1) rfl Ar.2.2 (inb_of Sz ⟨by decide, by decide⟩) (Hs.at (inb_of Sz ⟨by decide, by decide⟩) rfl) (g := (mkF m 16 #[.val (.int (119 : Int32)), .val (.ref h0.size), .val (.int (10 : Int32)), .val (.int (6 : Int32)), .val (.ref b5)] [(.int (6 : Int32)), (.ref h0.size)])) rfl rfl (hb hby d_prog_16_method_4_code_16) _ ?_
    show Steps p.tables e below (T7.setTop (mkF m 17 #[.val (.int (119 : Int32)), .val (.ref h0.size), .val (.int (10 : Int32)), .val (.int (6 : Int32)), .val (.ref b5)] [(.ref b6)])) _
    refine XS.astore X7.here hx rfl (hb hby d_prog_16_method_4_code_17) rfl rfl (l' := #[.val (.int (119 : Int32)), .val (.ref h0.size), .val (.int (10 : Int32)), .val (.int (6 : Int32)), .val (.ref b6)]) rfl ?_
    show Steps p.tables e below (T7.setTop (mkF m 19 #[.val (.int (119 : Int32)), .val (.ref h0.size), .val (.int (10 : Int32)), .val (.int (6 : Int32)), .val (.ref b6)] [])) _
    refine XS.aload X7.here hx rfl (hb hby d_prog_16_method_4_code_19) rfl rfl ?_
    show Steps p.tables e below (T7.setTop (mkF m 21 #[.val (.int (119 : Int32)), .val (.ref h0.size), .val (.int (10 : Int32)), .val (.int (6 : Int32)), .val (.ref b6)] [(.ref b6)])) _
    refine st8 _ ?_
    show Steps p.tables e below (T8.setTop (mkF m 24 #[.val (.int (119 : Int32)), .val (.ref h0.size), .val (.int (10 : Int32)), .val (.int (6 : Int32)), .val (.ref b6)] [(.int (108 : Int32))])) _
    refine XS.iloadN X8.here hx rfl (hb hby d_prog_16_method_4_code_24) rfl ?_
    show Steps p.tables e below (T8.setTop (mkF m 25 #[.val (.int (119 : Int32)), .val (.ref h0.size), .val (.int (10 : Int32)), .val (.int (6 : Int32)), .val (.ref b6)] [(.int (119 : Int32)), (.int (108 : Int32))])) _
    refine XS.icmpYes X8.here hx rfl (pc0 := 25) (pc' := 31) rfl (hb hby d_prog_16_method_4_code_25) rfl (by decide) (by decide) (by decide) ?_
    show Steps p.tables e below (T8.setTop (mkF m 31 #[.val (.int (119 : Int32)), .val (.ref h0.size), .val (.int (10 : Int32)), .val (.int (6 : Int32)), .val (.ref b6)] [])) _
    refine XT.iincV X8.here hx rfl (1 : Int32) (hb hby d_prog_16_method_4_code_31) (by decide) rfl (l' := #[.val (.int (119 : Int32)), .val (.ref h0.size), .val (.int (10 : Int32)), .val (.int (7 : Int32)), .val (.ref b6)]) rfl ?_
    show Steps p.tables e below (T8.setTop (mkF m 34 #[.val (.int (119 : Int32)), .val (.ref h0.size), .val (.int (10 : Int32)), .val (.int (7 : Int32)), .val (.ref b6)] [])) _
    refine XS.goto X8.here hx rfl (pc0 := 34) (pc' := 9) rfl (hb hby d_prog_16_method_4_code_34) (by decide) (by decide) ?_
    show Steps p.tables e below (T8.setTop (mkF m 9 #[.val (.int (119 : Int32)), .val (.ref h0.size), .val (.int (10 : Int32)), .val (.int (7 : Int32)), .val (.ref b6)] [])) _
    refine XS.iloadN X8.here hx rfl (hb hby d_prog_16_method_4_code_9) rfl ?_
    show Steps p.tables e below (T8.setTop (mkF m 10 #[.val (.int (119 : Int32)), .val (.ref h0.size), .val (.int (10 : Int32)), .val (.int (7 : Int32)), .val (.ref b6)] [(.int (7 : Int32))])) _
    refine XS.iloadN X8.here hx rfl (hb hby d_prog_16_method_4_code_10) rfl ?_
    show Steps p.tables e below (T8.setTop (mkF m 11 #[.val (.int (119 : Int32)), .val (.ref h0.size), .val (.int (10 : Int32)), .val (.int (7 : Int32)), .val (.ref b6)] [(.int (10 : Int32)), (.int (7 : Int32))])) _
    refine XS.icmpNo X8.here hx rfl (hb hby d_prog_16_method_4_code_11) rfl (by decide) ?_
    show Steps p.tables e below (T8.setTop (mkF m 14 #[.val (.int (119 : Int32)), .val (.ref h0.size), .val (.int (10 : Int32)), .val (.int (7 : Int32)), .val (.ref b6)] [])) _
    refine XS.aloadN X8.here hx rfl (hb hby d_prog_16_method_4_code_14) rfl rfl ?_
    show Steps p.tables e below (T8.setTop (mkF m 15 #[.val (.int (119 : Int32)), .val (.ref h0.size), .val (.int (10 : Int32)), .val (.int (7 : Int32)), .val (.ref b6)] [(.ref h0.size)])) _
    refine XS.iloadN X8.here hx rfl (hb hby d_prog_16_method_4_code_15) rfl ?_
    show Steps p.tables e below (T8.setTop (mkF m 16 #[.val (.int (119 : Int32)), .val (.ref h0.size), .val (.int (10 : Int32)), .val (.int (7 : Int32)), .val (.ref b6)] [(.int (7 : Int32)), (.ref h0.size)])) _
    refine X8.aaload hx (j := (7 : Int32)) (v := (.ref b7)) (by first | exact Ar.1 | (rw [e8]; exact Ar.1)) (State.isArrayOf_alike hZ.alike Ar.2.1) rfl Ar.2.2 (inb_of Sz ⟨by decide, by decide⟩) (Hs.at (inb_of Sz ⟨by decide, by decide⟩) rfl) (g := (mkF m 16 #[.val (.int (119 : Int32)), .val (.ref h0.size), .val (.int (10 : Int32)), .val (.int (7 : Int32)), .val (.ref b6)] [(.int (7 : Int32)), (.ref h0.size)])) rfl rfl (hb hby d_prog_16_method_4_code_16) _ ?_
    show Steps p.tables e below (T8.setTop (mkF m 17 #[.val (.int (119 : Int32)), .val (.ref h0.size), .val (.int (10 : Int32)), .val (.int (7 : Int32)), .val (.ref b6)] [(.ref b7)])) _
    refine XS.astore X8.here hx rfl (hb hby d_prog_16_method_4_code_17) rfl rfl (l' := #[.val (.int (119 : Int32)), .val (.ref h0.size), .val (.int (10 : Int32)), .val (.int (7 : Int32)), .val (.ref b7)]) rfl ?_
    show Steps p.tables e below (T8.setTop (mkF m 19 #[.val (.int (119 : Int32)), .val (.ref h0.size), .val (.int (10 : Int32)), .val (.int (7 : Int32)), .val (.ref b7)] [])) _
    refine XS.aload X8.here hx rfl (hb hby d_prog_16_method_4_code_19) rfl rfl ?_
    show Steps p.tables e below (T8.setTop (mkF m 21 #[.val (.int (119 : Int32)), .val (.ref h0.size), .val (.int (10 : Int32)), .val (.int (7 : Int32)), .val (.ref b7)] [(.ref b7)])) _
    refine st9 _ ?_
    show Steps p.tables e below (T9.setTop (mkF m 24 #[.val (.int (119 : Int32)), .val (.ref h0.size), .val (.int (10 : Int32)), .val (.int (7 : Int32)), .val (.ref b7)] [(.int (110 : Int32))])) _
    refine XS.iloadN X9.here hx rfl (hb hby d_prog_16_method_4_code_24) rfl ?_
    show Steps p.tables e below (T9.setTop (mkF m 25 #[.val (.int (119 : Int32)), .val (.ref h0.size), .val (.int (10 : Int32)), .val (.int (7 : Int32)), .val (.ref b7)] [(.int (119 : Int32)), (.int (110 : Int32))])) _
    refine XS.icmpYes X9.here hx rfl (pc0 := 25) (pc' := 31) rfl (hb hby d_prog_16_method_4_code_25) rfl (by decide) (by decide) (by decide) ?_
    show Steps p.tables e below (T9.setTop (mkF m 31 #[.val (.int (119 : Int32)), .val (.ref h0.size), .val (.int (10 : Int32)), .val (.int (7 : Int32)), .val (.ref b7)] [])) _
    refine XT.iincV X9.here hx rfl (1 : Int32) (hb hby d_prog_16_method_4_code_31) (by decide) rfl (l' := #[.val (.int (119 : Int32)), .val (.ref h0.size), .val (.int (10 : Int32)), .val (.int (8 : Int32)), .val (.ref b7)]) rfl ?_
    show Steps p.tables e below (T9.setTop (mkF m 34 #[.val (.int (119 : Int32)), .val (.ref h0.size), .val (.int (10 : Int32)), .val (.int (8 : Int32)), .val (.ref b7)] [])) _
    refine XS.goto X9.here hx rfl (pc0 := 34) (pc' := 9) rfl (hb hby d_prog_16_method_4_code_34) (by decide) (by decide) ?_
    show Steps p.tables e below (T9.setTop (mkF m 9 #[.val (.int (119 : Int32)), .val (.ref h0.size), .val (.int (10 : Int32)), .val (.int (8 : Int32)), .val (.ref b7)] [])) _
    refine XS.iloadN X9.here hx rfl (hb hby d_prog_16_method_4_code_9) rfl ?_
    show Steps p.tables e below (T9.setTop (mkF m 10 #[.val (.int (119 : Int32)), .val (.ref h0.size), .val (.int (10 : Int32)), .val (.int (8 : Int32)), .val (.ref b7)] [(.int (8 : Int32))])) _
    refine XS.iloadN X9.here hx rfl (hb hby d_prog_16_method_4_code_10) rfl ?_
    show Steps p.tables e below (T9.setTop (mkF m 11 #[.val (.int (119 : Int32)), .val (.ref h0.size), .val (.int (10 : Int32)), .val (.int (8 : Int32)), .val (.ref b7)] [(.int (10 : Int32)), (.int (8 : Int32))])) _
    refine XS.icmpNo X9.here hx rfl (hb hby d_prog_16_method_4_code_11) rfl (by decide) ?_
    show Steps p.tables e below (T9.setTop (mkF m 14 #[.val (.int (119 : Int32)), .val (.ref h0.size), .val (.int (10 : Int32)), .val (.int (8 : Int32)), .val (.ref b7)] [])) _
    refine XS.aloadN X9.here hx rfl (hb hby d_prog_16_method_4_code_14) rfl rfl ?_
    show Steps p.tables e below (T9.setTop (mkF m 15 #[.val (.int (119 : Int32)), .val (.ref h0.size), .val (.int (10 : Int32)), .val (.int (8 : Int32)), .val (.ref b7)] [(.ref h0.size)])) _
    refine XS.iloadN X9.here hx rfl (hb hby d_prog_16_method_4_code_15) rfl ?_
    show Steps p.tables e below (T9.setTop (mkF m 16 #[.val (.int (119 : Int32)), .val (.ref h0.size), .val (.int (10 : Int32)), .val (.int (8 : Int32)), .val (.ref b7)] [(.int (8 : Int32)), (.ref h0.size)])) _
    refine X9.aaload hx (j := (8 : Int32)) (v := (.ref b8)) (by first | exact Ar.1 | (rw [e9]; exact Ar.1)) (State.isArrayOf_alike hZ.alike Ar.2.1) rfl Ar.2.2 (inb_of Sz ⟨by decide, by decide⟩) (Hs.at (inb_of Sz ⟨by decide, by decide⟩) rfl) (g := (mkF m 16 #[.val (.int (119 : Int32)), .val (.ref h0.size), .val (.int (10 : Int32)), .val (.int (8 : Int32)), .val (.ref b7)] [(.int (8 : Int32)), (.ref h0.size)])) rfl rfl (hb hby d_prog_16_method_4_code_16) _ ?_
    show Steps p.tables e below (T9.setTop (mkF m 17 #[.val (.int (119 : Int32)), .val (.ref h0.size), .val (.int (10 : Int32)), .val (.int (8 : Int32)), .val (.ref b7)] [(.ref b8)])) _
    refine XS.astore X9.here hx rfl (hb hby d_prog_16_method_4_code_17) rfl rfl (l' := #[.val (.int (119 : Int32)), .val (.ref h0.size), .val (.int (10 : Int32)), .val (.int (8 : Int32)), .val (.ref b8)]) rfl ?_
    show Steps p.tables e below (T9.setTop (mkF m 19 #[.val (.int (119 : Int32)), .val (.ref h0.size), .val (.int (10 : Int32)), .val (.int (8 : Int32)), .val (.ref b8)] [])) _
    refine XS.aload X9.here hx rfl (hb hby d_prog_16_method_4_code_19) rfl rfl ?_
    show Steps p.tables e below (T9.setTop (mkF m 21 #[.val (.int (119 : Int32)), .val (.ref h0.size), .val (.int (10 : Int32)), .val (.int (8 : Int32)), .val (.ref b8)] [(.ref b8)])) _
    refine st10 _ ?_
    show Steps p.tables e below (T10.setTop (mkF m 24 #[.val (.int (119 : Int32)), .val (.ref h0.size), .val (.int (10 : Int32)), .val (.int (8 : Int32)), .val (.ref b8)] [(.int (80 : Int32))])) _
    refine XS.iloadN X10.here hx rfl (hb hby d_prog_16_method_4_code_24) rfl ?_
    show Steps p.tables e below (T10.setTop (mkF m 25 #[.val (.int (119 : Int32)), .val (.ref h0.size), .val (.int (10 : Int32)), .val (.int (8 : Int32)), .val (.ref b8)] [(.int (119 : Int32)), (.int (80 : Int32))])) _
    refine XS.icmpYes X10.here hx rfl (pc0 := 25) (pc' := 31) rfl (hb hby d_prog_16_method_4_code_25) rfl (by decide) (by decide) (by decide) ?_
    show Steps p.tables e below (T10.setTop (mkF m 31 #[.val (.int (119 : Int32)), .val (.ref h0.size), .val (.int (10 : Int32)), .val (.int (8 : Int32)), .val (.ref b8)] [])) _
    refine XT.iincV X10.here hx rfl (1 : Int32) (hb hby d_prog_16_method_4_code_31) (by decide) rfl (l' := #[.val (.int (119 : Int32)), .val (.ref h0.size), .val (.int (10 : Int32)), .val (.int (9 : Int32)), .val (.ref b8)]) rfl ?_
    show Steps p.tables e below (T10.setTop (mkF m 34 #[.val (.int (119 : Int32)), .val (.ref h0.size), .val (.int (10 : Int32)), .val (.int (9 : Int32)), .val (.ref b8)] [])) _
    refine XS.goto X10.here hx rfl (pc0 := 34) (pc' := 9) rfl (hb hby d_prog_16_method_4_code_34) (by decide) (by decide) ?_
    show Steps p.tables e below (T10.setTop (mkF m 9 #[.val (.int (119 : Int32)), .val (.ref h0.size), .val (.int (10 : Int32)), .val (.int (9 : Int32)), .val (.ref b8)] [])) _
    refine XS.iloadN X10.here hx rfl (hb hby d_prog_16_method_4_code_9) rfl ?_
    show Steps p.tables e below (T10.setTop (mkF m 10 #[.val (.int (119 : Int32)), .val (.ref h0.size), .val (.int (10 : Int32)), .val (.int (9 : Int32)), .val (.ref b8)] [(.int (9 : Int32))])) _
    refine XS.iloadN X10.here hx rfl (hb hby d_prog_16_method_4_code_10) rfl ?_
    show Steps p.tables e below (T10.setTop (mkF m 11 #[.val (.int (119 : Int32)), .val (.ref h0.size), .val (.int (10 : Int32)), .val (.int (9 : Int32)), .val (.ref b8)] [(.int (10 : Int32)), (.int (9 : Int32))])) _
    refine XS.icmpNo X10.here hx rfl (hb hby d_prog_16_method_4_code_11) rfl (by decide) ?_
    show Steps p.tables e below (T10.setTop (mkF m 14 #[.val (.int (119 : Int32)), .val (.ref h0.size), .val (.int (10 : Int32)), .val (.int (9 : Int32)), .val (.ref b8)] [])) _
    refine XS.aloadN X10.here hx rfl (hb hby d_prog_16_method_4_code_14) rfl rfl ?_
    show Steps p.tables e below (T10.setTop (mkF m 15 #[.val (.int (119 : Int32)), .val (.ref h0.size), .val (.int (10 : Int32)), .val (.int (9 : Int32)), .val (.ref b8)] [(.ref h0.size)])) _
    refine XS.iloadN X10.here hx rfl (hb hby d_prog_16_method_4_code_15) rfl ?_
    show Steps p.tables e below (T10.setTop (mkF m 16 #[.val (.int (119 : Int32)), .val (.ref h0.size), .val (.int (10 : Int32)), .val (.int (9 : Int32)), .val (.ref b8)] [(.int (9 : Int32)), (.ref h0.size)])) _
    refine X10.aaload hx (j := (9 : Int32)) (v := (.ref b9)) (by first | exact Ar.1 | (rw [e10]; exact Ar.1)) (State.isArrayOf_alike hZ.alike Ar.2.1) rfl Ar.2.2 (inb_of Sz ⟨by decide, by decide⟩) (Hs.at (inb_of Sz ⟨by decide, by decide⟩) rfl) (g := (mkF m 16 #[.val (.int (119 : Int32)), .val (.ref h0.size), .val (.int (10 : Int32)), .val (.int (9 : Int32)), .val (.ref b8)] [(.int (9 : Int32)), (.ref h0.size)])) rfl rfl (hb hby d_prog_16_method_4_code_16) _ ?_
    show Steps p.tables e below (T10.setTop (mkF m 17 #[.val (.int (119 : Int32)), .val (.ref h0.size), .val (.int (10 : Int32)), .val (.int (9 : Int32)), .val (.ref b8)] [(.ref b9)])) _
    refine XS.astore X10.here hx rfl (hb hby d_prog_16_method_4_code_17) rfl rfl (l' := #[.val (.int (119 : Int32)), .val (.ref h0.size), .val (.int (10 : Int32)), .val (.int (9 : Int32)), .val (.ref b9)]) rfl ?_
    show Steps p.tables e below (T10.setTop (mkF m 19 #[.val (.int (119 : Int32)), .val (.ref h0.size), .val (.int (10 : Int32)), .val (.int (9 : Int32)), .val (.ref b9)] [])) _
    refine XS.aload X10.here hx rfl (hb hby d_prog_16_method_4_code_19) rfl rfl ?_
    show Steps p.tables e below (T10.setTop (mkF m 21 #[.val (.int (119 : Int32)), .val (.ref h0.size), .val (.int (10 : Int32)), .val (.int (9 : Int32)), .val (.ref b9)] [(.ref b9)])) _
    refine st11 _ ?_
    show Steps p.tables e below (T11.setTop (mkF m 24 #[.val (.int (119 : Int32)), .val (.ref h0.size), .val (.int (10 : Int32)), .val (.int (9 : Int32)), .val (.ref b9)] [(.int (119 : Int32))])) _
    refine XS.iloadN X11.here hx rfl (hb hby d_prog_16_method_4_code_24) rfl ?_
    show Steps p.tables e below (T11.setTop (mkF m 25 #[.val (.int (119 : Int32)), .val (.ref h0.size), .val (.int (10 : Int32)), .val (.int (9 : Int32)), .val (.ref b9)] [(.int (119 : Int32)), (.int (119 : Int32))])) _
    refine XS.icmpNo X11.here hx rfl (hb hby d_prog_16_method_4_code_25) rfl (by decide) ?_
    show Steps p.tables e below (T11.setTop (mkF m 28 #[.val (.int (119 : Int32)), .val (.ref h0.size), .val (.int (10 : Int32)), .val (.int (9 : Int32)), .val (.ref b9)] [])) _
    refine XS.aload X11.here hx rfl (hb hby d_prog_16_method_4_code_28) rfl rfl ?_
    show Steps p.tables e below (T11.setTop (mkF m 30 #[.val (.int (119 : Int32)), .val (.ref h0.size), .val (.int (10 : Int32)), .val (.int (9 : Int32)), .val (.ref b9)] [(.ref b9)])) _
    exact retOut X11 hx Bd.returns rfl (Or.inr (Or.inr (Or.inr (Or.inr ⟨rfl, rfl, rfl⟩)))) (hb hby d_prog_16_method_4_code_30) hr
  · exact ⟨rfl, N1, by show Ext h0 T11.heap; rw [e11]; exact Ex1⟩
theorem d_method_2_code_90 : decode method_2_code 90 = .ok (.iload_n 0, 1) := by decide +kernel
theorem d_method_2_code_91 : decode method_2_code 91 = .ok (.bipush 119, 2) := by decide +kernel
theorem d_method_2_code_93 : decode method_2_code 93 = .ok (.if_icmp .ne 7, 3) := by decide +kernel
theorem d_method_2_code_96 : decode method_2_code 96 = .ok (.getstatic 37, 3) := by decide +kernel
theorem d_method_2_code_99 : decode method_2_code 99 = .ok (.areturn, 1) := by decide +kernel
def Q_exp_9 (Z : State) (b9 : Addr) (h0 : Heap) (n0 : Nat) (v : Option Value) (h : Heap) (L : List Loc) : Prop := v = some (.ref b9) ∧ Fr n0 L ∧ h = h0
set_option maxRecDepth 65536 in
set_option maxHeartbeats 40000000 in
theorem exp_9 (l : Launch) (Z : State) (a0 : Array Value) (hw : ∀ d ∈ tables_1, d.before a0 Z = true) (ws : List Jvm.Cond) (b9 : Addr) (h0 : Heap) (n0 : Nat) (Z0 : n0 ≤ h0.size) (Sb9 : Sta Z h0 "com/example/keyward/keyward/LdapOperation" "EXTENDED" "Lcom/example/keyward/keyward/LdapOperation;" (.ref b9)) :
    MetFree l (⟨"com/example/keyward/keyward/LdapOperationForRequestTagPinLaw", "expected", "(I)Lcom/example/keyward/keyward/LdapOperation;"⟩ : MethodName) (head1 (Jvm.Cond.code (⟨"com/example/keyward/keyward/LdapOperationForRequestTagPinLaw", "expected", "(I)Lcom/example/keyward/keyward/LdapOperation;"⟩ : MethodName) method_2_code 1 (Option.some (Jvm.ClassFile.FieldType.object "com/example/keyward/keyward/LdapOperation")) :: ws) ({ frames := 0, cells := 0, slots := 0, locals := 0 } : Room)) (fun a U => a = #[(.int (119 : Int32))] ∧ Z.Warmed39 U.vm ∧ U.heap = h0) (fun _ _ _ _ _ => True) (fun _ U o U' => ∃ v L, o = .returned v ∧ Q_exp_9 Z b9 h0 n0 v U'.heap L ∧ FrameEnd U o U' L ({ frames := 0, cells := 0, slots := 0, locals := 0 } : Room).cells ({ frames := 0, cells := 0, slots := 0, locals := 0 } : Room).slots) := by
  refine MetFree.of_bodySF (plainFor_of_name pn_34) hisR ?_
  intro p e s m args below meth c s₁ Bd hml0 hP hK
  obtain ⟨rfl, hZ, hh⟩ := hP
  have hx := Bd.exec
  have hby := Bd.bytes
  have hml : c.maxLocals = 1 := hml0
  have hown : s.vm.findClass "com/example/keyward/keyward/LdapOperationForRequestTagPinLaw" = some m.cls := findClass_of_methodNamed Bd.named
  have hnm := (name_of_methodNamed Bd.named Bd.method).1
  have X0 : Stand p l e ({ frames := 0, cells := 0, slots := 0, locals := 0 } : Room) s m #[(.int (119 : Int32))] below meth c s₁ [] 0 0 := Stand.of_body Bd
  have e0 : s₁.heap = h0 := by rw [← hh, Bd.state]; rfl
  have N0 := Fr.nil n0
  have pre0 : ∀ t, Steps p.tables e below (s₁.setTop (mkF m 0 #[.val (.int (119 : Int32))] [])) t → Steps p.tables e below (s₁.setTop (entryFrame m #[(.int (119 : Int32))] 1)) t := fun t k => castTop (ef_33 m (119 : Int32)) k
  obtain ⟨T1, X1, e1, st1⟩ := getS X0 hx hZ (host := "") hown (hw _ (List.mem_of_getElem? (i := 41) rfl)) Via.refl e0 Sb9 (g := (mkF m 96 #[.val (.int (119 : Int32))] [])) rfl (hb hby d_method_2_code_96)
  obtain ⟨fs, hr, hrun, hended, hW, hsame⟩ := X1.leave (v := some (.ref b9)) (fun h => by rw [Bd.returns] at h; cases h)
  refine ⟨_, _, pre0 _ ?_, hrun, hended, _, _, rfl, ?_, ⟨_, rfl⟩, hW, hsame.mono (by decide) (by decide)⟩
  · show Steps p.tables e below (s₁.setTop (mkF m 0 #[.val (.int (119 : Int32))] [])) _
    refine XS.iloadN X0.here hx rfl (hb hby d_method_2_code_0) rfl ?_
    show Steps p.tables e below (s₁.setTop (mkF m 1 #[.val (.int (119 : Int32))] [(.int (119 : Int32))])) _
    refine XT.bipushV X0.here hx rfl (96 : Int32) (hb hby d_method_2_code_1) (by decide) ?_
    show Steps p.tables e below (s₁.setTop (mkF m 3 #[.val (.int (119 : Int32))] [(.int (96 : Int32)), (.int (119 : Int32))])) _
    refine XS.icmpYes X0.here hx rfl (pc0 := 3) (pc' := 10) rfl (hb hby d_method_2_code_3) rfl (by decide) (by decide) (by decide) ?_
    show Steps p.tables e below (s₁.setTop (mkF m 10 #[.val (.int (119 : Int32))] [])) _
    refine XS.iloadN X0.here hx rfl (hb hby d_method_2_code_10) rfl ?_
    show Steps p.tables e below (s₁.setTop (mkF m 11 #[.val (.int (119 : Int32))] [(.int (119 : Int32))])) _
    refine XT.bipushV X0.here hx rfl (66 : Int32) (hb hby d_method_2_code_11) (by decide) ?_
    show Steps p.tables e below (s₁.setTop (mkF m 13 #[.val (.int (119 : Int32))] [(.int (66 : Int32)), (.int (119 : Int32))])) _
    refine XS.icmpYes X0.here hx rfl (pc0 := 13) (pc' := 20) rfl (hb hby d_method_2_code_13) rfl (by decide) (by decide) (by decide) ?_
    show Steps p.tables e below (s₁.setTop (mkF m 20 #[.val (.int (119 : Int32))] [])) _
    refine XS.iloadN X0.here hx rfl (hb hby d_method_2_code_20) rfl ?_
    show Steps p.tables e below (s₁.setTop (mkF m 21 #[.val (.int (119 : Int32))] [(.int (119 : Int32))])) _
    refine XT.bipushV X0.here hx rfl (99 : Int32) (hb hby d_method_2_code_21) (by decide) ?_
    show Steps p.tables e below (s₁.setTop (mkF m 23 #[.val (.int (119 : Int32))] [(.int (99 : Int32)), (.int (119 : Int32))])) _
    refine XS.icmpYes X0.here hx rfl (pc0 := 23) (pc' := 30) rfl (hb hby d_method_2_code_23) rfl (by decide) (by decide) (by decide) ?_
    show Steps p.tables e below (s₁.setTop (mkF m 30 #[.val (.int (119 : Int32))] [])) _
    refine XS.iloadN X0.here hx rfl (hb hby d_method_2_code_30) rfl ?_
    show Steps p.tables e below (s₁.setTop (mkF m 31 #[.val (.int (119 : Int32))] [(.int (119 : Int32))])) _
    refine XT.bipushV X0.here hx rfl (102 : Int32) (hb hby d_method_2_code_31) (by decide) ?_
    show Steps p.tables e below (s₁.setTop (mkF m 33 #[.val (.int (119 : Int32))] [(.int (102 : Int32)), (.int (119 : Int32))])) _
    refine XS.icmpYes X0.here hx rfl (pc0 := 33) (pc' := 40) rfl (hb hby d_method_2_code_33) rfl (by decide) (by decide) (by decide) ?_
    show Steps p.tables e below (s₁.setTop (mkF m 40 #[.val (.int (119 : Int32))] [])) _
    refine XS.iloadN X0.here hx rfl (hb hby d_method_2_code_40) rfl ?_
    show Steps p.tables e below (s₁.setTop (mkF m 41 #[.val (.int (119 : Int32))] [(.int (119 : Int32))])) _
    refine XT.bipushV X0.here hx rfl (104 : Int32) (hb hby d_method_2_code_41) (by decide) ?_
    show Steps p.tables e below (s₁.setTop (mkF m 43 #[.val (.int (119 : Int32))] [(.int (104 : Int32)), (.int (119 : Int32))])) _
    refine XS.icmpYes X0.here hx rfl (pc0 := 43) (pc' := 50) rfl (hb hby d_method_2_code_43) rfl (by decide) (by decide) (by decide) ?_
    show Steps p.tables e below (s₁.setTop (mkF m 50 #[.val (.int (119 : Int32))] [])) _
    refine XS.iloadN X0.here hx rfl (hb hby d_method_2_code_50) rfl ?_
    show Steps p.tables e below (s₁.setTop (mkF m 51 #[.val (.int (119 : Int32))] [(.int (119 : Int32))])) _
    refine XT.bipushV X0.here hx rfl (74 : Int32) (hb hby d_method_2_code_51) (by decide) ?_
    show Steps p.tables e below (s₁.setTop (mkF m 53 #[.val (.int (119 : Int32))] [(.int (74 : Int32)), (.int (119 : Int32))])) _
    refine XS.icmpYes X0.here hx rfl (pc0 := 53) (pc' := 60) rfl (hb hby d_method_2_code_53) rfl (by decide) (by decide) (by decide) ?_
    show Steps p.tables e below (s₁.setTop (mkF m 60 #[.val (.int (119 : Int32))] [])) _
    refine XS.iloadN X0.here hx rfl (hb hby d_method_2_code_60) rfl ?_
    show Steps p.tables e below (s₁.setTop (mkF m 61 #[.val (.int (119 : Int32))] [(.int (119 : Int32))])) _
    refine XT.bipushV X0.here hx rfl (108 : Int32) (hb hby d_method_2_code_61) (by decide) ?_
    show Steps p.tables e below (s₁.setTop (mkF m 63 #[.val (.int (119 : Int32))] [(.int (108 : Int32)), (.int (119 : Int32))])) _
    refine XS.icmpYes X0.here hx rfl (pc0 := 63) (pc' := 70) rfl (hb hby d_method_2_code_63) rfl (by decide) (by decide) (by decide) ?_
    show Steps p.tables e below (s₁.setTop (mkF m 70 #[.val (.int (119 : Int32))] [])) _
    refine XS.iloadN X0.here hx rfl (hb hby d_method_2_code_70) rfl ?_
    show Steps p.tables e below (s₁.setTop (mkF m 71 #[.val (.int (119 : Int32))] [(.int (119 : Int32))])) _
    refine XT.bipushV X0.here hx rfl (110 : Int32) (hb hby d_method_2_code_71) (by decide) ?_
    show Steps p.tables e below (s₁.setTop (mkF m 73 #[.val (.int (119 : Int32))] [(.int (110 : Int32)), (.int (119 : Int32))])) _
    refine XS.icmpYes X0.here hx rfl (pc0 := 73) (pc' := 80) rfl (hb hby d_method_2_code_73) rfl (by decide) (by decide) (by decide) ?_
    show Steps p.tables e below (s₁.setTop (mkF m 80 #[.val (.int (119 : Int32))] [])) _
    refine XS.iloadN X0.here hx rfl (hb hby d_method_2_code_80) rfl ?_
    show Steps p.tables e below (s₁.setTop (mkF m 81 #[.val (.int (119 : Int32))] [(.int (119 : Int32))])) _
    refine XT.bipushV X0.here hx rfl (80 : Int32) (hb hby d_method_2_code_81) (by decide) ?_
    show Steps p.tables e below (s₁.setTop (mkF m 83 #[.val (.int (119 : Int32))] [(.int (80 : Int32)), (.int (119 : Int32))])) _
    refine XS.icmpYes X0.here hx rfl (pc0 := 83) (pc' := 90) rfl (hb hby d_method_2_code_83) rfl (by decide) (by decide) (by decide) ?_
    show Steps p.tables e below (s₁.setTop (mkF m 90 #[.val (.int (119 : Int32))] [])) _
    refine XS.iloadN X0.here hx rfl (hb hby d_method_2_code_90) rfl ?_
    show Steps p.tables e below (s₁.setTop (mkF m 91 #[.val (.int (119 : Int32))] [(.int (119 : Int32))])) _
    refine XT.bipushV X0.here hx rfl (119 : Int32) (hb hby d_method_2_code_91) (by decide) ?_
    show Steps p.tables e below (s₁.setTop (mkF m 93 #[.val (.int (119 : Int32))] [(.int (119 : Int32)), (.int (119 : Int32))])) _
    refine XS.icmpNo X0.here hx rfl (hb hby d_method_2_code_93) rfl (by decide) ?_
    show Steps p.tables e below (s₁.setTop (mkF m 96 #[.val (.int (119 : Int32))] [])) _
    refine st1 _ ?_
    show Steps p.tables e below (T1.setTop (mkF m 99 #[.val (.int (119 : Int32))] [(.ref b9)])) _
    exact retOut X1 hx Bd.returns rfl (Or.inr (Or.inr (Or.inr (Or.inr ⟨rfl, rfl, rfl⟩)))) (hb hby d_method_2_code_99) hr
  · exact ⟨rfl, N0, e1⟩
theorem d_prog_16_method_4_code_37 : decode prog_16_method_4_code 37 = .ok (.aconst_null, 1) := by decide +kernel
theorem d_prog_16_method_4_code_38 : decode prog_16_method_4_code 38 = .ok (.areturn, 1) := by decide +kernel
def Q_find_none (Z : State) (tg : Int32) (aV : Addr) (kV : ClassId) (b0 b1 b2 b3 b4 b5 b6 b7 b8 b9 : Addr) (h0 : Heap) (n0 : Nat) (v : Option Value) (h : Heap) (L : List Loc) : Prop := v = some .null ∧ Fr n0 L ∧ Ext h0 h
set_option maxRecDepth 65536 in
set_option maxHeartbeats 40000000 in
theorem find_none (l : Launch) (Z : State) (a0 : Array Value) (hw : ∀ d ∈ tables_1, d.before a0 Z = true) (ws : List Jvm.Cond) (tg : Int32) (aV : Addr) (kV : ClassId) (b0 b1 b2 b3 b4 b5 b6 b7 b8 b9 : Addr) (h0 : Heap) (n0 : Nat) (Z0 : n0 ≤ h0.size) (SaV : Sta Z h0 "com/example/keyward/keyward/LdapOperation" "$VALUES" "[Lcom/example/keyward/keyward/LdapOperation;" (.ref aV)) (VaV : Arv Z h0 aV kV (.object "com/example/keyward/keyward/LdapOperation") (10 : Int32) [(.ref b0), (.ref b1), (.ref b2), (.ref b3), (.ref b4), (.ref b5), (.ref b6), (.ref b7), (.ref b8), (.ref b9)] .null) (EaV : Exa Z h0 aV "[Lcom/example/keyward/keyward/LdapOperation;")(Fb0 : Fld Z h0 b0 "com/example/keyward/keyward/LdapOperation" "requestTag" "I" (.int (96 : Int32)))(Fb1 : Fld Z h0 b1 "com/example/keyward/keyward/LdapOperation" "requestTag" "I" (.int (66 : Int32)))(Fb2 : Fld Z h0 b2 "com/example/keyward/keyward/LdapOperation" "requestTag" "I" (.int (99 : Int32)))(Fb3 : Fld Z h0 b3 "com/example/keyward/keyward/LdapOperation" "requestTag" "I" (.int (102 : Int32)))(Fb4 : Fld Z h0 b4 "com/example/keyward/keyward/LdapOperation" "requestTag" "I" (.int (104 : Int32)))(Fb5 : Fld Z h0 b5 "com/example/keyward/keyward/LdapOperation" "requestTag" "I" (.int (74 : Int32)))(Fb6 : Fld Z h0 b6 "com/example/keyward/keyward/LdapOperation" "requestTag" "I" (.int (108 : Int32)))(Fb7 : Fld Z h0 b7 "com/example/keyward/keyward/LdapOperation" "requestTag" "I" (.int (110 : Int32)))(Fb8 : Fld Z h0 b8 "com/example/keyward/keyward/LdapOperation" "requestTag" "I" (.int (80 : Int32)))(Fb9 : Fld Z h0 b9 "com/example/keyward/keyward/LdapOperation" "requestTag" "I" (.int (119 : Int32)))(q0 : ¬ tg = (96 : Int32))(q1 : ¬ tg = (66 : Int32))(q2 : ¬ tg = (99 : Int32))(q3 : ¬ tg = (102 : Int32))(q4 : ¬ tg = (104 : Int32))(q5 : ¬ tg = (74 : Int32))(q6 : ¬ tg = (108 : Int32))(q7 : ¬ tg = (110 : Int32))(q8 : ¬ tg = (80 : Int32))(q9 : ¬ tg = (119 : Int32)) :
    MetFree l (⟨"com/example/keyward/keyward/LdapOperation", "forRequestTag", "(I)Lcom/example/keyward/keyward/LdapOperation;"⟩ : MethodName) (head1 (Jvm.Cond.code (⟨"com/example/keyward/keyward/LdapOperation", "forRequestTag", "(I)Lcom/example/keyward/keyward/LdapOperation;"⟩ : MethodName) prog_16_method_4_code 5 (Option.some (Jvm.ClassFile.FieldType.object "com/example/keyward/keyward/LdapOperation")) :: ws) ({ frames := 2, cells := 1, slots := 10, locals := 25 } : Room)) (fun a U => a = #[(.int tg)] ∧ Z.Warmed39 U.vm ∧ U.heap = h0) (fun _ _ _ _ _ => True) (fun _ U o U' => ∃ v L, o = .returned v ∧ Q_find_none Z tg aV kV b0 b1 b2 b3 b4 b5 b6 b7 b8 b9 h0 n0 v U'.heap L ∧ FrameEnd U o U' L ({ frames := 2, cells := 1, slots := 10, locals := 25 } : Room).cells ({ frames := 2, cells := 1, slots := 10, locals := 25 } : Room).slots) := by
  refine MetFree.of_bodySF (plainFor_of_name pn_5) hisR ?_
  intro p e s m args below meth c s₁ Bd hml0 hP hK
  obtain ⟨rfl, hZ, hh⟩ := hP
  have hx := Bd.exec
  have hby := Bd.bytes
  have hml : c.maxLocals = 5 := hml0
  have hown : s.vm.findClass "com/example/keyward/keyward/LdapOperation" = some m.cls := findClass_of_methodNamed Bd.named
  have hnm := (name_of_methodNamed Bd.named Bd.method).1
  have X0 : Stand p l e ({ frames := 2, cells := 1, slots := 10, locals := 25 } : Room) s m #[(.int tg)] below meth c s₁ [] 0 0 := Stand.of_body Bd
  have e0 : s₁.heap = h0 := by rw [← hh, Bd.state]; rfl
  have N0 := Fr.nil n0
  have pre0 : ∀ t, Steps p.tables e below (s₁.setTop (mkF m 0 #[.val (.int tg), .unset, .unset, .unset, .unset] [])) t → Steps p.tables e below (s₁.setTop (entryFrame m #[(.int tg)] 5)) t := fun t k => castTop (ef_27 m tg) k
  obtain ⟨_, _, ⟨T1, L1, k1, n1⟩, -, X1, ⟨Lc1, hQ1, l1, y1, z1⟩, st1⟩ := Jvm.LawKit.callS X0 hx (y := (⟨"com/example/keyward/keyward/LdapOperation", "values", "()[Lcom/example/keyward/keyward/LdapOperation;"⟩ : MethodName)) hown (mvT hZ (hw _ (List.mem_of_getElem? (i := 5) rfl))) (mvT hZ (hw _ (List.mem_of_getElem? (i := 6) rfl))) (mvT hZ (hw _ (List.mem_of_getElem? (i := 3) rfl))) (mvT hZ (hw _ (List.mem_of_getElem? (i := 7) rfl))) (by decide) (backOf (W := 0) (values_0 l Z a0 hw [] aV kV b0 b1 b2 b3 b4 b5 b6 b7 b8 b9 h0 n0 Z0 SaV VaV EaV) hZ (hw _ (List.mem_of_getElem? (i := 7) rfl)) (hw _ (List.mem_of_getElem? (i := 3) rfl)) (by decide) (by decide)) (g := (mkF m 0 #[.val (.int tg), .unset, .unset, .unset, .unset] [])) rfl (by rw [hml]; rfl) (argsL := []) (rest := []) (lenOf pd_7 rfl) rfl (by show 2 * 0 + _ ≤ _; exact Nat.le_of_eq rfl) (hb hby d_prog_16_method_4_code_0) (fun _ _ => ⟨rfl, e0, (by decide : 0 + 1 ≤ _), (by decide : 0 + 10 ≤ _)⟩)
  dsimp only [Pt.U, Pt.locs, Pt.cells, Pt.slots] at X1 l1 y1 z1 st1 hQ1
  subst l1 y1 z1
  obtain ⟨rfl, N1q, Ex1, V1⟩ := hQ1
  have N1 := Fr.app N0 N1q
  obtain ⟨cl, Ar, -, Sz, Ng, Hs, -⟩ := V1
  have hlen : cl.slots.size.toInt32 = (10 : Int32) := len_of Sz Ng
  obtain ⟨T2, X2, e2, st2⟩ := getF X1 hx hZ hown (host := "") (Or.inl (hw _ (List.mem_of_getElem? (i := 30) rfl))) Via.refl rfl (Fb0.ext Ex1) (g := (mkF m 21 #[.val (.int tg), .val (.ref h0.size), .val (.int (10 : Int32)), .val (.int (0 : Int32)), .val (.ref b0)] [(.ref b0)])) rfl rfl (hb hby d_prog_16_method_4_code_21)
  obtain ⟨T3, X3, e3, st3⟩ := getF X2 hx hZ hown (host := "") (Or.inl (hw _ (List.mem_of_getElem? (i := 30) rfl))) Via.refl e2 (Fb1.ext Ex1) (g := (mkF m 21 #[.val (.int tg), .val (.ref h0.size), .val (.int (10 : Int32)), .val (.int (1 : Int32)), .val (.ref b1)] [(.ref b1)])) rfl rfl (hb hby d_prog_16_method_4_code_21)
  obtain ⟨T4, X4, e4, st4⟩ := getF X3 hx hZ hown (host := "") (Or.inl (hw _ (List.mem_of_getElem? (i := 30) rfl))) Via.refl e3 (Fb2.ext Ex1) (g := (mkF m 21 #[.val (.int tg), .val (.ref h0.size), .val (.int (10 : Int32)), .val (.int (2 : Int32)), .val (.ref b2)] [(.ref b2)])) rfl rfl (hb hby d_prog_16_method_4_code_21)
  obtain ⟨T5, X5, e5, st5⟩ := getF X4 hx hZ hown (host := "") (Or.inl (hw _ (List.mem_of_getElem? (i := 30) rfl))) Via.refl e4 (Fb3.ext Ex1) (g := (mkF m 21 #[.val (.int tg), .val (.ref h0.size), .val (.int (10 : Int32)), .val (.int (3 : Int32)), .val (.ref b3)] [(.ref b3)])) rfl rfl (hb hby d_prog_16_method_4_code_21)
  obtain ⟨T6, X6, e6, st6⟩ := getF X5 hx hZ hown (host := "") (Or.inl (hw _ (List.mem_of_getElem? (i := 30) rfl))) Via.refl e5 (Fb4.ext Ex1) (g := (mkF m 21 #[.val (.int tg), .val (.ref h0.size), .val (.int (10 : Int32)), .val (.int (4 : Int32)), .val (.ref b4)] [(.ref b4)])) rfl rfl (hb hby d_prog_16_method_4_code_21)
  obtain ⟨T7, X7, e7, st7⟩ := getF X6 hx hZ hown (host := "") (Or.inl (hw _ (List.mem_of_getElem? (i := 30) rfl))) Via.refl e6 (Fb5.ext Ex1) (g := (mkF m 21 #[.val (.int tg), .val (.ref h0.size), .val (.int (10 : Int32)), .val (.int (5 : Int32)), .val (.ref b5)] [(.ref b5)])) rfl rfl (hb hby d_prog_16_method_4_code_21)
  obtain ⟨T8, X8, e8, st8⟩ := getF X7 hx hZ hown (host := "") (Or.inl (hw _ (List.mem_of_getElem? (i := 30) rfl))) Via.refl e7 (Fb6.ext Ex1) (g := (mkF m 21 #[.val (.int tg), .val (.ref h0.size), .val (.int (10 : Int32)), .val (.int (6 : Int32)), .val (.ref b6)] [(.ref b6)])) rfl rfl (hb hby d_prog_16_method_4_code_21)
  obtain ⟨T9, X9, e9, st9⟩ := getF X8 hx hZ hown (host := "") (Or.inl (hw _ (List.mem_of_getElem? (i := 30) rfl))) Via.refl e8 (Fb7.ext Ex1) (g := (mkF m 21 #[.val (.int tg), .val (.ref h0.size), .val (.int (10 : Int32)), .val (.int (7 : Int32)), .val (.ref b7)] [(.ref b7)])) rfl rfl (hb hby d_prog_16_method_4_code_21)
  obtain ⟨T10, X10, e10, st10⟩ := getF X9 hx hZ hown (host := "") (Or.inl (hw _ (List.mem_of_getElem? (i := 30) rfl))) Via.refl e9 (Fb8.ext Ex1) (g := (mkF m 21 #[.val (.int tg), .val (.ref h0.size), .val (.int (10 : Int32)), .val (.int (8 : Int32)), .val (.ref b8)] [(.ref b8)])) rfl rfl (hb hby d_prog_16_method_4_code_21)
  obtain ⟨T11, X11, e11, st11⟩ := getF X10 hx hZ hown (host := "") (Or.inl (hw _ (List.mem_of_getElem? (i := 30) rfl))) Via.refl e10 (Fb9.ext Ex1) (g := (mkF m 21 #[.val (.int tg), .val (.ref h0.size), .val (.int (10 : Int32)), .val (.int (9 : Int32)), .val (.ref b9)] [(.ref b9)])) rfl rfl (hb hby d_prog_16_method_4_code_21)
  obtain ⟨fs, hr, hrun, hended, hW, hsame⟩ := X11.leave (v := some .null) (fun h => by rw [Bd.returns] at h; cases h)
  refine ⟨_, _, pre0 _ ?_, hrun, hended, _, _, rfl, ?_, ⟨_, rfl⟩, hW, hsame.mono (by decide) (by decide)⟩
  · show Steps p.tables e below (s₁.setTop (mkF m 0 #[.val (.int tg), .unset, .unset, .unset, .unset] [])) _
    refine st1 _ ?_
    show Steps p.tables e below (T1.setTop (mkF m 3 #[.val (.int tg), .unset, .unset, .unset, .unset] [(.ref h0.size)])) _
    refine XS.astoreN X1.here hx rfl (hb hby d_prog_16_method_4_code_3) rfl rfl (l' := #[.val (.int tg), .val (.ref h0.size), .unset, .unset, .unset]) rfl ?_
    show Steps p.tables e below (T1.setTop (mkF m 4 #[.val (.int tg), .val (.ref h0.size), .unset, .unset, .unset] [])) _
    refine XS.aloadN X1.here hx rfl (hb hby d_prog_16_method_4_code_4) rfl rfl ?_
    show Steps p.tables e below (T1.setTop (mkF m 5 #[.val (.int tg), .val (.ref h0.size), .unset, .unset, .unset] [(.ref h0.size)])) _
    refine X1.arraylength hx (by first | exact Ar.1 | (rw [rfl]; exact Ar.1)) (State.isArrayOf_alike hZ.alike Ar.2.1) (g := (mkF m 5 #[.val (.int tg), .val (.ref h0.size), .unset, .unset, .unset] [(.ref h0.size)])) rfl rfl (hb hby d_prog_16_method_4_code_5) _ ?_
    show Steps p.tables e below (T1.setTop (mkF m 6 #[.val (.int tg), .val (.ref h0.size), .unset, .unset, .unset] [(.int cl.slots.size.toInt32)])) _
    rw [hlen]
    show Steps p.tables e below (T1.setTop (mkF m 6 #[.val (.int tg), .val (.ref h0.size), .unset, .unset, .unset] [(.int (10 : Int32))])) _
    refine XS.istoreN X1.here hx rfl (hb hby d_prog_16_method_4_code_6) rfl (l' := #[.val (.int tg), .val (.ref h0.size), .val (.int (10 : Int32)), .unset, .unset]) rfl ?_
    show Steps p.tables e below (T1.setTop (mkF m 7 #[.val (.int tg), .val (.ref h0.size), .val (.int (10 : Int32)), .unset, .unset] [])) _
    refine XT.iconstV X1.here hx rfl (0 : Int32) (hb hby d_prog_16_method_4_code_7) (by decide) ?_
    show Steps p.tables e below (T1.setTop (mkF m 8 #[.val (.int tg), .val (.ref h0.size), .val (.int (10 : Int32)), .unset, .unset] [(.int (0 : Int32))])) _
    refine XS.istoreN X1.here hx rfl (hb hby d_prog_16_method_4_code_8) rfl (l' := #[.val (.int tg), .val (.ref h0.size), .val (.int (10 : Int32)), .val (.int (0 : Int32)), .unset]) rfl ?_
    show Steps p.tables e below (T1.setTop (mkF m 9 #[.val (.int tg), .val (.ref h0.size), .val (.int (10 : Int32)), .val (.int (0 : Int32)), .unset] [])) _
    refine XS.iloadN X1.here hx rfl (hb hby d_prog_16_method_4_code_9) rfl ?_
    show Steps p.tables e below (T1.setTop (mkF m 10 #[.val (.int tg), .val (.ref h0.size), .val (.int (10 : Int32)), .val (.int (0 : Int32)), .unset] [(.int (0 : Int32))])) _
    refine XS.iloadN X1.here hx rfl (hb hby d_prog_16_method_4_code_10) rfl ?_
    show Steps p.tables e below (T1.setTop (mkF m 11 #[.val (.int tg), .val (.ref h0.size), .val (.int (10 : Int32)), .val (.int (0 : Int32)), .unset] [(.int (10 : Int32)), (.int (0 : Int32))])) _
    refine XS.icmpNo X1.here hx rfl (hb hby d_prog_16_method_4_code_11) rfl (by decide) ?_
    show Steps p.tables e below (T1.setTop (mkF m 14 #[.val (.int tg), .val (.ref h0.size), .val (.int (10 : Int32)), .val (.int (0 : Int32)), .unset] [])) _
    refine XS.aloadN X1.here hx rfl (hb hby d_prog_16_method_4_code_14) rfl rfl ?_
    show Steps p.tables e below (T1.setTop (mkF m 15 #[.val (.int tg), .val (.ref h0.size), .val (.int (10 : Int32)), .val (.int (0 : Int32)), .unset] [(.ref h0.size)])) _
    refine XS.iloadN X1.here hx rfl (hb hby d_prog_16_method_4_code_15) rfl ?_
    show Steps p.tables e below (T1.setTop (mkF m 16 #[.val (.int tg), .val (.ref h0.size), .val (.int (10 : Int32)), .val (.int (0 : Int32)), .unset] [(.int (0 : Int32)), (.ref h0.size)])) _
    refine X1.aaload hx (j := (0 : Int32)) (v := (.ref b0)) (by first | exact Ar.1 | (rw [rfl]; exact Ar.1)) (State.isArrayOf_alike hZ.alike Ar.2.1) rfl Ar.2.2 (inb_of Sz ⟨by decide, by decide⟩) (Hs.at (inb_of Sz ⟨by decide, by decide⟩) rfl) (g := (mkF m 16 #[.val (.int tg), .val (.ref h0.size), .val (.int (10 : Int32)), .val (.int (0 : Int32)), .unset] [(.int (0 : Int32)), (.ref h0.size)])) rfl rfl (hb hby d_prog_16_method_4_code_16) _ ?_
    show Steps p.tables e below (T1.setTop (mkF m 17 #[.val (.int tg), .val (.ref h0.size), .val (.int (10 : Int32)), .val (.int (0 : Int32)), .unset] [(.ref b0)])) _
    refine XS.astore X1.here hx rfl (hb hby d_prog_16_method_4_code_17) rfl rfl (l' := #[.val (.int tg), .val (.ref h0.size), .val (.int (10 : Int32)), .val (.int (0 : Int32)), .val (.ref b0)]) rfl ?_
    show Steps p.tables e below (T1.setTop (mkF m 19 #[.val (.int tg), .val (.ref h0.size), .val (.int (10 : Int32)), .val (.int (0 : Int32)), .val (.ref b0)] [])) _
    refine XS.aload X1.here hx rfl (hb hby d_prog_16_method_4_code_19) rfl rfl ?_
    show Steps p.tables e below (T1.setTop (mkF m 21 #[.val (.int tg), .val (.ref h0.size), .val (.int (10 : Int32)), .val (.int (0 : Int32)), .val (.ref b0)] [(.ref b0)])) _
    refine st2 _ ?_
    show Steps p.tables e below (T2.setTop (mkF m 24 #[.val (.int tg), .val (.ref h0.size), .val (.int (10 : Int32)), .val (.int (0 : Int32)), .val (.ref b0)] [(.int (96 : Int32))])) _
    refine XS.iloadN X2.here hx rfl (hb hby d_prog_16_method_4_code_24) rfl ?_
    show Steps p.tables e below (T2.setTop (mkF m 25 #[.val (.int tg), .val (.ref h0.size), .val (.int (10 : Int32)), .val (.int (0 : Int32)), .val (.ref b0)] [(.int tg), (.int (96 : Int32))])) _
    refine XS.icmpYes X2.here hx rfl (pc0 := 25) (pc' := 31) rfl (hb hby d_prog_16_method_4_code_25) rfl (feq (fun e => q0 e.symm)).2 (by decide) (by decide) ?_
    show Steps p.tables e below (T2.setTop (mkF m 31 #[.val (.int tg), .val (.ref h0.size), .val (.int (10 : Int32)), .val (.int (0 : Int32)), .val (.ref b0)] [])) _
    refine XT.iincV X2.here hx rfl (1 : Int32) (hb hby d_prog_16_method_4_code_31) (by decide) rfl (l' := #[.val (.int tg), .val (.ref h0.size), .val (.int (10 : Int32)), .val (.int (1 : Int32)), .val (.ref b0)]) rfl ?_
    show Steps p.tables e below (T2.setTop (mkF m 34 #[.val (.int tg), .val (.ref h0.size), .val (.int (10 : Int32)), .val (.int (1 : Int32)), .val (.ref b0)] [])) _
    refine XS.goto X2.here hx rfl (pc0 := 34) (pc' := 9) rfl (hb hby d_prog_16_method_4_code_34) (by decide) (by decide) ?_
    show Steps p.tables e below (T2.setTop (mkF m 9 #[.val (.int tg), .val (.ref h0.size), .val (.int (10 : Int32)), .val (.int (1 : Int32)), .val (.ref b0)] [])) _
    refine XS.iloadN X2.here hx rfl (hb hby d_prog_16_method_4_code_9) rfl ?_
    show Steps p.tables e below (T2.setTop (mkF m 10 #[.val (.int tg), .val (.ref h0.size), .val (.int (10 : Int32)), .val (.int (1 : Int32)), .val (.ref b0)] [(.int (1 : Int32))])) _
    refine XS.iloadN X2.here hx rfl (hb hby d_prog_16_method_4_code_10) rfl ?_
    show Steps p.tables e below (T2.setTop (mkF m 11 #[.val (.int tg), .val (.ref h0.size), .val (.int (10 : Int32)), .val (.int (1 : Int32)), .val (.ref b0)] [(.int (10 : Int32)), (.int (1 : Int32))])) _
    refine XS.icmpNo X2.here hx rfl (hb hby d_prog_16_method_4_code_11) rfl (by decide) ?_
    show Steps p.tables e below (T2.setTop (mkF m 14 #[.val (.int tg), .val (.ref h0.size), .val (.int (10 : Int32)), .val (.int (1 : Int32)), .val (.ref b0)] [])) _
    refine XS.aloadN X2.here hx rfl (hb hby d_prog_16_method_4_code_14) rfl rfl ?_
    show Steps p.tables e below (T2.setTop (mkF m 15 #[.val (.int tg), .val (.ref h0.size), .val (.int (10 : Int32)), .val (.int (1 : Int32)), .val (.ref b0)] [(.ref h0.size)])) _
    refine XS.iloadN X2.here hx rfl (hb hby d_prog_16_method_4_code_15) rfl ?_
    show Steps p.tables e below (T2.setTop (mkF m 16 #[.val (.int tg), .val (.ref h0.size), .val (.int (10 : Int32)), .val (.int (1 : Int32)), .val (.ref b0)] [(.int (1 : Int32)), (.ref h0.size)])) _
    refine X2.aaload hx (j := (1 : Int32)) (v := (.ref b1)) (by first | exact Ar.1 | (rw [e2]; exact Ar.1)) (State.isArrayOf_alike hZ.alike Ar.2.1) rfl Ar.2.2 (inb_of Sz ⟨by decide, by decide⟩) (Hs.at (inb_of Sz ⟨by decide, by decide⟩) rfl) (g := (mkF m 16 #[.val (.int tg), .val (.ref h0.size), .val (.int (10 : Int32)), .val (.int (1 : Int32)), .val (.ref b0)] [(.int (1 : Int32)), (.ref h0.size)])) rfl rfl (hb hby d_prog_16_method_4_code_16) _ ?_
    show Steps p.tables e below (T2.setTop (mkF m 17 #[.val (.int tg), .val (.ref h0.size), .val (.int (10 : Int32)), .val (.int (1 : Int32)), .val (.ref b0)] [(.ref b1)])) _
    refine XS.astore X2.here hx rfl (hb hby d_prog_16_method_4_code_17) rfl rfl (l' := #[.val (.int tg), .val (.ref h0.size), .val (.int (10 : Int32)), .val (.int (1 : Int32)), .val (.ref b1)]) rfl ?_
    show Steps p.tables e below (T2.setTop (mkF m 19 #[.val (.int tg), .val (.ref h0.size), .val (.int (10 : Int32)), .val (.int (1 : Int32)), .val (.ref b1)] [])) _
    refine XS.aload X2.here hx rfl (hb hby d_prog_16_method_4_code_19) rfl rfl ?_
    show Steps p.tables e below (T2.setTop (mkF m 21 #[.val (.int tg), .val (.ref h0.size), .val (.int (10 : Int32)), .val (.int (1 : Int32)), .val (.ref b1)] [(.ref b1)])) _
    refine st3 _ ?_
    show Steps p.tables e below (T3.setTop (mkF m 24 #[.val (.int tg), .val (.ref h0.size), .val (.int (10 : Int32)), .val (.int (1 : Int32)), .val (.ref b1)] [(.int (66 : Int32))])) _
    refine XS.iloadN X3.here hx rfl (hb hby d_prog_16_method_4_code_24) rfl ?_
    show Steps p.tables e below (T3.setTop (mkF m 25 #[.val (.int tg), .val (.ref h0.size), .val (.int (10 : Int32)), .val (.int (1 : Int32)), .val (.ref b1)] [(.int tg), (.int (66 : Int32))])) _
    refine XS.icmpYes X3.here hx rfl (pc0 := 25) (pc' := 31) rfl (hb hby d_prog_16_method_4_code_25) rfl (feq (fun e => q1 e.symm)).2 (by decide) (by decide) ?_
    show Steps p.tables e below (T3.setTop (mkF m 31 #[.val (.int tg), .val (.ref h0.size), .val (.int (10 : Int32)), .val (.int (1 : Int32)), .val (.ref b1)] [])) _
    refine XT.iincV X3.here hx rfl (1 : Int32) (hb hby d_prog_16_method_4_code_31) (by decide) rfl (l' := #[.val (.int tg), .val (.ref h0.size), .val (.int (10 : Int32)), .val (.int (2 : Int32)), .val (.ref b1)]) rfl ?_
    show Steps p.tables e below (T3.setTop (mkF m 34 #[.val (.int tg), .val (.ref h0.size), .val (.int (10 : Int32)), .val (.int (2 : Int32)), .val (.ref b1)] [])) _
    refine XS.goto X3.here hx rfl (pc0 := 34) (pc' := 9) rfl (hb hby d_prog_16_method_4_code_34) (by decide) (by decide) ?_
    show Steps p.tables e below (T3.setTop (mkF m 9 #[.val (.int tg), .val (.ref h0.size), .val (.int (10 : Int32)), .val (.int (2 : Int32)), .val (.ref b1)] [])) _
    refine XS.iloadN X3.here hx rfl (hb hby d_prog_16_method_4_code_9) rfl ?_
    show Steps p.tables e below (T3.setTop (mkF m 10 #[.val (.int tg), .val (.ref h0.size), .val (.int (10 : Int32)), .val (.int (2 : Int32)), .val (.ref b1)] [(.int (2 : Int32))])) _
    refine XS.iloadN X3.here hx rfl (hb hby d_prog_16_method_4_code_10) rfl ?_
    show Steps p.tables e below (T3.setTop (mkF m 11 #[.val (.int tg), .val (.ref h0.size), .val (.int (10 : Int32)), .val (.int (2 : Int32)), .val (.ref b1)] [(.int (10 : Int32)), (.int (2 : Int32))])) _
    refine XS.icmpNo X3.here hx rfl (hb hby d_prog_16_method_4_code_11) rfl (by decide) ?_
    show Steps p.tables e below (T3.setTop (mkF m 14 #[.val (.int tg), .val (.ref h0.size), .val (.int (10 : Int32)), .val (.int (2 : Int32)), .val (.ref b1)] [])) _
    refine XS.aloadN X3.here hx rfl (hb hby d_prog_16_method_4_code_14) rfl rfl ?_
    show Steps p.tables e below (T3.setTop (mkF m 15 #[.val (.int tg), .val (.ref h0.size), .val (.int (10 : Int32)), .val (.int (2 : Int32)), .val (.ref b1)] [(.ref h0.size)])) _
    refine XS.iloadN X3.here hx rfl (hb hby d_prog_16_method_4_code_15) rfl ?_
    show Steps p.tables e below (T3.setTop (mkF m 16 #[.val (.int tg), .val (.ref h0.size), .val (.int (10 : Int32)), .val (.int (2 : Int32)), .val (.ref b1)] [(.int (2 : Int32)), (.ref h0.size)])) _
    refine X3.aaload hx (j := (2 : Int32)) (v := (.ref b2)) (by first | exact Ar.1 | (rw [e3]; exact Ar.1)) (State.isArrayOf_alike hZ.alike Ar.2.1) rfl Ar.2.2 (inb_of Sz ⟨by decide, by decide⟩) (Hs.at (inb_of Sz ⟨by decide, by decide⟩) rfl) (g := (mkF m 16 #[.val (.int tg), .val (.ref h0.size), .val (.int (10 : Int32)), .val (.int (2 : Int32)), .val (.ref b1)] [(.int (2 : Int32)), (.ref h0.size)])) rfl rfl (hb hby d_prog_16_method_4_code_16) _ ?_
    show Steps p.tables e below (T3.setTop (mkF m 17 #[.val (.int tg), .val (.ref h0.size), .val (.int (10 : Int32)), .val (.int (2 : Int32)), .val (.ref b1)] [(.ref b2)])) _
    refine XS.astore X3.here hx rfl (hb hby d_prog_16_method_4_code_17) rfl rfl (l' := #[.val (.int tg), .val (.ref h0.size), .val (.int (10 : Int32)), .val (.int (2 : Int32)), .val (.ref b2)]) rfl ?_
    show Steps p.tables e below (T3.setTop (mkF m 19 #[.val (.int tg), .val (.ref h0.size), .val (.int (10 : Int32)), .val (.int (2 : Int32)), .val (.ref b2)] [])) _
    refine XS.aload X3.here hx rfl (hb hby d_prog_16_method_4_code_19) rfl rfl ?_
    show Steps p.tables e below (T3.setTop (mkF m 21 #[.val (.int tg), .val (.ref h0.size), .val (.int (10 : Int32)), .val (.int (2 : Int32)), .val (.ref b2)] [(.ref b2)])) _
    refine st4 _ ?_
    show Steps p.tables e below (T4.setTop (mkF m 24 #[.val (.int tg), .val (.ref h0.size), .val (.int (10 : Int32)), .val (.int (2 : Int32)), .val (.ref b2)] [(.int (99 : Int32))])) _
    refine XS.iloadN X4.here hx rfl (hb hby d_prog_16_method_4_code_24) rfl ?_
    show Steps p.tables e below (T4.setTop (mkF m 25 #[.val (.int tg), .val (.ref h0.size), .val (.int (10 : Int32)), .val (.int (2 : Int32)), .val (.ref b2)] [(.int tg), (.int (99 : Int32))])) _
    refine XS.icmpYes X4.here hx rfl (pc0 := 25) (pc' := 31) rfl (hb hby d_prog_16_method_4_code_25) rfl (feq (fun e => q2 e.symm)).2 (by decide) (by decide) ?_
    show Steps p.tables e below (T4.setTop (mkF m 31 #[.val (.int tg), .val (.ref h0.size), .val (.int (10 : Int32)), .val (.int (2 : Int32)), .val (.ref b2)] [])) _
    refine XT.iincV X4.here hx rfl (1 : Int32) (hb hby d_prog_16_method_4_code_31) (by decide) rfl (l' := #[.val (.int tg), .val (.ref h0.size), .val (.int (10 : Int32)), .val (.int (3 : Int32)), .val (.ref b2)]) rfl ?_
    show Steps p.tables e below (T4.setTop (mkF m 34 #[.val (.int tg), .val (.ref h0.size), .val (.int (10 : Int32)), .val (.int (3 : Int32)), .val (.ref b2)] [])) _
    refine XS.goto X4.here hx rfl (pc0 := 34) (pc' := 9) rfl (hb hby d_prog_16_method_4_code_34) (by decide) (by decide) ?_
    show Steps p.tables e below (T4.setTop (mkF m 9 #[.val (.int tg), .val (.ref h0.size), .val (.int (10 : Int32)), .val (.int (3 : Int32)), .val (.ref b2)] [])) _
    refine XS.iloadN X4.here hx rfl (hb hby d_prog_16_method_4_code_9) rfl ?_
    show Steps p.tables e below (T4.setTop (mkF m 10 #[.val (.int tg), .val (.ref h0.size), .val (.int (10 : Int32)), .val (.int (3 : Int32)), .val (.ref b2)] [(.int (3 : Int32))])) _
    refine XS.iloadN X4.here hx rfl (hb hby d_prog_16_method_4_code_10) rfl ?_
    show Steps p.tables e below (T4.setTop (mkF m 11 #[.val (.int tg), .val (.ref h0.size), .val (.int (10 : Int32)), .val (.int (3 : Int32)), .val (.ref b2)] [(.int (10 : Int32)), (.int (3 : Int32))])) _
    refine XS.icmpNo X4.here hx rfl (hb hby d_prog_16_method_4_code_11) rfl (by decide) ?_
    show Steps p.tables e below (T4.setTop (mkF m 14 #[.val (.int tg), .val (.ref h0.size), .val (.int (10 : Int32)), .val (.int (3 : Int32)), .val (.ref b2)] [])) _
    refine XS.aloadN X4.here hx rfl (hb hby d_prog_16_method_4_code_14) rfl rfl ?_
    show Steps p.tables e below (T4.setTop (mkF m 15 #[.val (.int tg), .val (.ref h0.size), .val (.int (10 : Int32)), .val (.int (3 : Int32)), .val (.ref b2)] [(.ref h0.size)])) _
    refine XS.iloadN X4.here hx rfl (hb hby d_prog_16_method_4_code_15) rfl ?_
    show Steps p.tables e below (T4.setTop (mkF m 16 #[.val (.int tg), .val (.ref h0.size), .val (.int (10 : Int32)), .val (.int (3 : Int32)), .val (.ref b2)] [(.int (3 : Int32)), (.ref h0.size)])) _
    refine X4.aaload hx (j := (3 : Int32)) (v := (.ref b3)) (by first | exact Ar.1 | (rw [e4]; exact Ar.1)) (State.isArrayOf_alike hZ.alike Ar.2.1) rfl Ar.2.2 (inb_of Sz ⟨by decide, by decide⟩) (Hs.at (inb_of Sz ⟨by decide, by decide⟩) rfl) (g := (mkF m 16 #[.val (.int tg), .val (.ref h0.size), .val (.int (10 : Int32)), .val (.int (3 : Int32)), .val (.ref b2)] [(.int (3 : Int32)), (.ref h0.size)])) rfl rfl (hb hby d_prog_16_method_4_code_16) _ ?_
    show Steps p.tables e below (T4.setTop (mkF m 17 #[.val (.int tg), .val (.ref h0.size), .val (.int (10 : Int32)), .val (.int (3 : Int32)), .val (.ref b2)] [(.ref b3)])) _
    refine XS.astore X4.here hx rfl (hb hby d_prog_16_method_4_code_17) rfl rfl (l' := #[.val (.int tg), .val (.ref h0.size), .val (.int (10 : Int32)), .val (.int (3 : Int32)), .val (.ref b3)]) rfl ?_
    show Steps p.tables e below (T4.setTop (mkF m 19 #[.val (.int tg), .val (.ref h0.size), .val (.int (10 : Int32)), .val (.int (3 : Int32)), .val (.ref b3)] [])) _
    refine XS.aload X4.here hx rfl (hb hby d_prog_16_method_4_code_19) rfl rfl ?_
    show Steps p.tables e below (T4.setTop (mkF m 21 #[.val (.int tg), .val (.ref h0.size), .val (.int (10 : Int32)), .val (.int (3 : Int32)), .val (.ref b3)] [(.ref b3)])) _
    refine st5 _ ?_
    show Steps p.tables e below (T5.setTop (mkF m 24 #[.val (.int tg), .val (.ref h0.size), .val (.int (10 : Int32)), .val (.int (3 : Int32)), .val (.ref b3)] [(.int (102 : Int32))])) _
    refine XS.iloadN X5.here hx rfl (hb hby d_prog_16_method_4_code_24) rfl ?_
    show Steps p.tables e below (T5.setTop (mkF m 25 #[.val (.int tg), .val (.ref h0.size), .val (.int (10 : Int32)), .val (.int (3 : Int32)), .val (.ref b3)] [(.int tg), (.int (102 : Int32))])) _
    refine XS.icmpYes X5.here hx rfl (pc0 := 25) (pc' := 31) rfl (hb hby d_prog_16_method_4_code_25) rfl (feq (fun e => q3 e.symm)).2 (by decide) (by decide) ?_
    show Steps p.tables e below (T5.setTop (mkF m 31 #[.val (.int tg), .val (.ref h0.size), .val (.int (10 : Int32)), .val (.int (3 : Int32)), .val (.ref b3)] [])) _
    refine XT.iincV X5.here hx rfl (1 : Int32) (hb hby d_prog_16_method_4_code_31) (by decide) rfl (l' := #[.val (.int tg), .val (.ref h0.size), .val (.int (10 : Int32)), .val (.int (4 : Int32)), .val (.ref b3)]) rfl ?_
    show Steps p.tables e below (T5.setTop (mkF m 34 #[.val (.int tg), .val (.ref h0.size), .val (.int (10 : Int32)), .val (.int (4 : Int32)), .val (.ref b3)] [])) _
    refine XS.goto X5.here hx rfl (pc0 := 34) (pc' := 9) rfl (hb hby d_prog_16_method_4_code_34) (by decide) (by decide) ?_
    show Steps p.tables e below (T5.setTop (mkF m 9 #[.val (.int tg), .val (.ref h0.size), .val (.int (10 : Int32)), .val (.int (4 : Int32)), .val (.ref b3)] [])) _
    refine XS.iloadN X5.here hx rfl (hb hby d_prog_16_method_4_code_9) rfl ?_
    show Steps p.tables e below (T5.setTop (mkF m 10 #[.val (.int tg), .val (.ref h0.size), .val (.int (10 : Int32)), .val (.int (4 : Int32)), .val (.ref b3)] [(.int (4 : Int32))])) _
    refine XS.iloadN X5.here hx rfl (hb hby d_prog_16_method_4_code_10) rfl ?_
    show Steps p.tables e below (T5.setTop (mkF m 11 #[.val (.int tg), .val (.ref h0.size), .val (.int (10 : Int32)), .val (.int (4 : Int32)), .val (.ref b3)] [(.int (10 : Int32)), (.int (4 : Int32))])) _
    refine XS.icmpNo X5.here hx rfl (hb hby d_prog_16_method_4_code_11) rfl (by decide) ?_
    show Steps p.tables e below (T5.setTop (mkF m 14 #[.val (.int tg), .val (.ref h0.size), .val (.int (10 : Int32)), .val (.int (4 : Int32)), .val (.ref b3)] [])) _
    refine XS.aloadN X5.here hx rfl (hb hby d_prog_16_method_4_code_14) rfl rfl ?_
    show Steps p.tables e below (T5.setTop (mkF m 15 #[.val (.int tg), .val (.ref h0.size), .val (.int (10 : Int32)), .val (.int (4 : Int32)), .val (.ref b3)] [(.ref h0.size)])) _
    refine XS.iloadN X5.here hx rfl (hb hby d_prog_16_method_4_code_15) rfl ?_
    show Steps p.tables e below (T5.setTop (mkF m 16 #[.val (.int tg), .val (.ref h0.size), .val (.int (10 : Int32)), .val (.int (4 : Int32)), .val (.ref b3)] [(.int (4 : Int32)), (.ref h0.size)])) _
    refine X5.aaload hx (j := (4 : Int32)) (v := (.ref b4)) (by first | exact Ar.1 | (rw [e5]; exact Ar.1)) (State.isArrayOf_alike hZ.alike Ar.2.1) rfl Ar.2.2 (inb_of Sz ⟨by decide, by decide⟩) (Hs.at (inb_of Sz ⟨by decide, by decide⟩) rfl) (g := (mkF m 16 #[.val (.int tg), .val (.ref h0.size), .val (.int (10 : Int32)), .val (.int (4 : Int32)), .val (.ref b3)] [(.int (4 : Int32)), (.ref h0.size)])) rfl rfl (hb hby d_prog_16_method_4_code_16) _ ?_
    show Steps p.tables e below (T5.setTop (mkF m 17 #[.val (.int tg), .val (.ref h0.size), .val (.int (10 : Int32)), .val (.int (4 : Int32)), .val (.ref b3)] [(.ref b4)])) _
    refine XS.astore X5.here hx rfl (hb hby d_prog_16_method_4_code_17) rfl rfl (l' := #[.val (.int tg), .val (.ref h0.size), .val (.int (10 : Int32)), .val (.int (4 : Int32)), .val (.ref b4)]) rfl ?_
    show Steps p.tables e below (T5.setTop (mkF m 19 #[.val (.int tg), .val (.ref h0.size), .val (.int (10 : Int32)), .val (.int (4 : Int32)), .val (.ref b4)] [])) _
    refine XS.aload X5.here hx rfl (hb hby d_prog_16_method_4_code_19) rfl rfl ?_
    show Steps p.tables e below (T5.setTop (mkF m 21 #[.val (.int tg), .val (.ref h0.size), .val (.int (10 : Int32)), .val (.int (4 : Int32)), .val (.ref b4)] [(.ref b4)])) _
    refine st6 _ ?_
    show Steps p.tables e below (T6.setTop (mkF m 24 #[.val (.int tg), .val (.ref h0.size), .val (.int (10 : Int32)), .val (.int (4 : Int32)), .val (.ref b4)] [(.int (104 : Int32))])) _
    refine XS.iloadN X6.here hx rfl (hb hby d_prog_16_method_4_code_24) rfl ?_
    show Steps p.tables e below (T6.setTop (mkF m 25 #[.val (.int tg), .val (.ref h0.size), .val (.int (10 : Int32)), .val (.int (4 : Int32)), .val (.ref b4)] [(.int tg), (.int (104 : Int32))])) _
    refine XS.icmpYes X6.here hx rfl (pc0 := 25) (pc' := 31) rfl (hb hby d_prog_16_method_4_code_25) rfl (feq (fun e => q4 e.symm)).2 (by decide) (by decide) ?_
    show Steps p.tables e below (T6.setTop (mkF m 31 #[.val (.int tg), .val (.ref h0.size), .val (.int (10 : Int32)), .val (.int (4 : Int32)), .val (.ref b4)] [])) _
    refine XT.iincV X6.here hx rfl (1 : Int32) (hb hby d_prog_16_method_4_code_31) (by decide) rfl (l' := #[.val (.int tg), .val (.ref h0.size), .val (.int (10 : Int32)), .val (.int (5 : Int32)), .val (.ref b4)]) rfl ?_
    show Steps p.tables e below (T6.setTop (mkF m 34 #[.val (.int tg), .val (.ref h0.size), .val (.int (10 : Int32)), .val (.int (5 : Int32)), .val (.ref b4)] [])) _
    refine XS.goto X6.here hx rfl (pc0 := 34) (pc' := 9) rfl (hb hby d_prog_16_method_4_code_34) (by decide) (by decide) ?_
    show Steps p.tables e below (T6.setTop (mkF m 9 #[.val (.int tg), .val (.ref h0.size), .val (.int (10 : Int32)), .val (.int (5 : Int32)), .val (.ref b4)] [])) _
    refine XS.iloadN X6.here hx rfl (hb hby d_prog_16_method_4_code_9) rfl ?_
    show Steps p.tables e below (T6.setTop (mkF m 10 #[.val (.int tg), .val (.ref h0.size), .val (.int (10 : Int32)), .val (.int (5 : Int32)), .val (.ref b4)] [(.int (5 : Int32))])) _
    refine XS.iloadN X6.here hx rfl (hb hby d_prog_16_method_4_code_10) rfl ?_
    show Steps p.tables e below (T6.setTop (mkF m 11 #[.val (.int tg), .val (.ref h0.size), .val (.int (10 : Int32)), .val (.int (5 : Int32)), .val (.ref b4)] [(.int (10 : Int32)), (.int (5 : Int32))])) _
    refine XS.icmpNo X6.here hx rfl (hb hby d_prog_16_method_4_code_11) rfl (by decide) ?_
    show Steps p.tables e below (T6.setTop (mkF m 14 #[.val (.int tg), .val (.ref h0.size), .val (.int (10 : Int32)), .val (.int (5 : Int32)), .val (.ref b4)] [])) _
    refine XS.aloadN X6.here hx rfl (hb hby d_prog_16_method_4_code_14) rfl rfl ?_
    show Steps p.tables e below (T6.setTop (mkF m 15 #[.val (.int tg), .val (.ref h0.size), .val (.int (10 : Int32)), .val (.int (5 : Int32)), .val (.ref b4)] [(.ref h0.size)])) _
    refine XS.iloadN X6.here hx rfl (hb hby d_prog_16_method_4_code_15) rfl ?_
    show Steps p.tables e below (T6.setTop (mkF m 16 #[.val (.int tg), .val (.ref h0.size), .val (.int (10 : Int32)), .val (.int (5 : Int32)), .val (.ref b4)] [(.int (5 : Int32)), (.ref h0.size)])) _
    refine X6.aaload hx (j := (5 : Int32)) (v := (.ref b5)) (by first | exact Ar.1 | (rw [e6]; exact Ar.1)) (State.isArrayOf_alike hZ.alike Ar.2.1) rfl Ar.2.2 (inb_of Sz ⟨by decide, by decide⟩) (Hs.at (inb_of Sz ⟨by decide, by decide⟩) rfl) (g := (mkF m 16 #[.val (.int tg), .val (.ref h0.size), .val (.int (10 : Int32)), .val (.int (5 : Int32)), .val (.ref b4)] [(.int (5 : Int32)), (.ref h0.size)])) rfl rfl (hb hby d_prog_16_method_4_code_16) _ ?_
    show Steps p.tables e below (T6.setTop (mkF m 17 #[.val (.int tg), .val (.ref h0.size), .val (.int (10 : Int32)), .val (.int (5 : Int32)), .val (.ref b4)] [(.ref b5)])) _
    refine XS.astore X6.here hx rfl (hb hby d_prog_16_method_4_code_17) rfl rfl (l' := #[.val (.int tg), .val (.ref h0.size), .val (.int (10 : Int32)), .val (.int (5 : Int32)), .val (.ref b5)]) rfl ?_
    show Steps p.tables e below (T6.setTop (mkF m 19 #[.val (.int tg), .val (.ref h0.size), .val (.int (10 : Int32)), .val (.int (5 : Int32)), .val (.ref b5)] [])) _
    refine XS.aload X6.here hx rfl (hb hby d_prog_16_method_4_code_19) rfl rfl ?_
    show Steps p.tables e below (T6.setTop (mkF m 21 #[.val (.int tg), .val (.ref h0.size), .val (.int (10 : Int32)), .val (.int (5 : Int32)), .val (.ref b5)] [(.ref b5)])) _
    refine st7 _ ?_
    show Steps p.tables e below (T7.setTop (mkF m 24 #[.val (.int tg), .val (.ref h0.size), .val (.int (10 : Int32)), .val (.int (5 : Int32)), .val (.ref b5)] [(.int (74 : Int32))])) _
    refine XS.iloadN X7.here hx rfl (hb hby d_prog_16_method_4_code_24) rfl ?_
    show Steps p.tables e below (T7.setTop (mkF m 25 #[.val (.int tg), .val (.ref h0.size), .val (.int (10 : Int32)), .val (.int (5 : Int32)), .val (.ref b5)] [(.int tg), (.int (74 : Int32))])) _
    refine XS.icmpYes X7.here hx rfl (pc0 := 25) (pc' := 31) rfl (hb hby d_prog_16_method_4_code_25) rfl (feq (fun e => q5 e.symm)).2 (by decide) (by decide) ?_
    show Steps p.tables e below (T7.setTop (mkF m 31 #[.val (.int tg), .val (.ref h0.size), .val (.int (10 : Int32)), .val (.int (5 : Int32)), .val (.ref b5)] [])) _
    refine XT.iincV X7.here hx rfl (1 : Int32) (hb hby d_prog_16_method_4_code_31) (by decide) rfl (l' := #[.val (.int tg), .val (.ref h0.size), .val (.int (10 : Int32)), .val (.int (6 : Int32)), .val (.ref b5)]) rfl ?_
    show Steps p.tables e below (T7.setTop (mkF m 34 #[.val (.int tg), .val (.ref h0.size), .val (.int (10 : Int32)), .val (.int (6 : Int32)), .val (.ref b5)] [])) _
    refine XS.goto X7.here hx rfl (pc0 := 34) (pc' := 9) rfl (hb hby d_prog_16_method_4_code_34) (by decide) (by decide) ?_
    show Steps p.tables e below (T7.setTop (mkF m 9 #[.val (.int tg), .val (.ref h0.size), .val (.int (10 : Int32)), .val (.int (6 : Int32)), .val (.ref b5)] [])) _
    refine XS.iloadN X7.here hx rfl (hb hby d_prog_16_method_4_code_9) rfl ?_
    show Steps p.tables e below (T7.setTop (mkF m 10 #[.val (.int tg), .val (.ref h0.size), .val (.int (10 : Int32)), .val (.int (6 : Int32)), .val (.ref b5)] [(.int (6 : Int32))])) _
    refine XS.iloadN X7.here hx rfl (hb hby d_prog_16_method_4_code_10) rfl ?_
    show Steps p.tables e below (T7.setTop (mkF m 11 #[.val (.int tg), .val (.ref h0.size), .val (.int (10 : Int32)), .val (.int (6 : Int32)), .val (.ref b5)] [(.int (10 : Int32)), (.int (6 : Int32))])) _
    refine XS.icmpNo X7.here hx rfl (hb hby d_prog_16_method_4_code_11) rfl (by decide) ?_
    show Steps p.tables e below (T7.setTop (mkF m 14 #[.val (.int tg), .val (.ref h0.size), .val (.int (10 : Int32)), .val (.int (6 : Int32)), .val (.ref b5)] [])) _
    refine XS.aloadN X7.here hx rfl (hb hby d_prog_16_method_4_code_14) rfl rfl ?_
    show Steps p.tables e below (T7.setTop (mkF m 15 #[.val (.int tg), .val (.ref h0.size), .val (.int (10 : Int32)), .val (.int (6 : Int32)), .val (.ref b5)] [(.ref h0.size)])) _
    refine XS.iloadN X7.here hx rfl (hb hby d_prog_16_method_4_code_15) rfl ?_
    show Steps p.tables e below (T7.setTop (mkF m 16 #[.val (.int tg), .val (.ref h0.size), .val (.int (10 : Int32)), .val (.int (6 : Int32)), .val (.ref b5)] [(.int (6 : Int32)), (.ref h0.size)])) _
    refine X7.aaload hx (j := (6 : Int32)) (v := (.ref b6)) (by first | exact Ar.1 | (rw [e7]; exact Ar.1)) (State.isArrayOf_alike hZ.alike Ar.2.1) rfl Ar.2.2 (inb_of Sz ⟨by decide, by decide⟩) (Hs.at (inb_of Sz ⟨by decide, by decide⟩) rfl) (g := (mkF m 16 #[.val (.int tg), .val (.ref h0.size), .val (.int (10 : Int32)), .val (.int (6 : Int32)), .val (.ref b5)] [(.int (6 : Int32)), (.ref h0.size)])) rfl rfl (hb hby d_prog_16_method_4_code_16) _ ?_
    show Steps p.tables e below (T7.setTop (mkF m 17 #[.val (.int tg), .val (.ref h0.size), .val (.int (10 : Int32)), .val (.int (6 : Int32)), .val (.ref b5)] [(.ref b6)])) _
    refine XS.astore X7.here hx rfl (hb hby d_prog_16_method_4_code_17) rfl rfl (l' := #[.val (.int tg), .val (.ref h0.size), .val (.int (10 : Int32)), .val (.int (6 : Int32)), .val (.ref b6)]) rfl ?_
    show Steps p.tables e below (T7.setTop (mkF m 19 #[.val (.int tg), .val (.ref h0.size), .val (.int (10 : Int32)), .val (.int (6 : Int32)), .val (.ref b6)] [])) _
    refine XS.aload X7.here hx rfl (hb hby d_prog_16_method_4_code_19) rfl rfl ?_
    show Steps p.tables e below (T7.setTop (mkF m 21 #[.val (.int tg), .val (.ref h0.size), .val (.int (10 : Int32)), .val (.int (6 : Int32)), .val (.ref b6)] [(.ref b6)])) _
    refine st8 _ ?_
    show Steps p.tables e below (T8.setTop (mkF m 24 #[.val (.int tg), .val (.ref h0.size), .val (.int (10 : Int32)), .val (.int (6 : Int32)), .val (.ref b6)] [(.int (108 : Int32))])) _
    refine XS.iloadN X8.here hx rfl (hb hby d_prog_16_method_4_code_24) rfl ?_
    show Steps p.tables e below (T8.setTop (mkF m 25 #[.val (.int tg), .val (.ref h0.size), .val (.int (10 : Int32)), .val (.int (6 : Int32)), .val (.ref b6)] [(.int tg), (.int (108 : Int32))])) _
    refine XS.icmpYes X8.here hx rfl (pc0 := 25) (pc' := 31) rfl (hb hby d_prog_16_method_4_code_25) rfl (feq (fun e => q6 e.symm)).2 (by decide) (by decide) ?_
    show Steps p.tables e below (T8.setTop (mkF m 31 #[.val (.int tg), .val (.ref h0.size), .val (.int (10 : Int32)), .val (.int (6 : Int32)), .val (.ref b6)] [])) _
    refine XT.iincV X8.here hx rfl (1 : Int32) (hb hby d_prog_16_method_4_code_31) (by decide) rfl (l' := #[.val (.int tg), .val (.ref h0.size), .val (.int (10 : Int32)), .val (.int (7 : Int32)), .val (.ref b6)]) rfl ?_
    show Steps p.tables e below (T8.setTop (mkF m 34 #[.val (.int tg), .val (.ref h0.size), .val (.int (10 : Int32)), .val (.int (7 : Int32)), .val (.ref b6)] [])) _
    refine XS.goto X8.here hx rfl (pc0 := 34) (pc' := 9) rfl (hb hby d_prog_16_method_4_code_34) (by decide) (by decide) ?_
    show Steps p.tables e below (T8.setTop (mkF m 9 #[.val (.int tg), .val (.ref h0.size), .val (.int (10 : Int32)), .val (.int (7 : Int32)), .val (.ref b6)] [])) _
    refine XS.iloadN X8.here hx rfl (hb hby d_prog_16_method_4_code_9) rfl ?_
    show Steps p.tables e below (T8.setTop (mkF m 10 #[.val (.int tg), .val (.ref h0.size), .val (.int (10 : Int32)), .val (.int (7 : Int32)), .val (.ref b6)] [(.int (7 : Int32))])) _
    refine XS.iloadN X8.here hx rfl (hb hby d_prog_16_method_4_code_10) rfl ?_
    show Steps p.tables e below (T8.setTop (mkF m 11 #[.val (.int tg), .val (.ref h0.size), .val (.int (10 : Int32)), .val (.int (7 : Int32)), .val (.ref b6)] [(.int (10 : Int32)), (.int (7 : Int32))])) _
    refine XS.icmpNo X8.here hx rfl (hb hby d_prog_16_method_4_code_11) rfl (by decide) ?_
    show Steps p.tables e below (T8.setTop (mkF m 14 #[.val (.int tg), .val (.ref h0.size), .val (.int (10 : Int32)), .val (.int (7 : Int32)), .val (.ref b6)] [])) _
    refine XS.aloadN X8.here hx rfl (hb hby d_prog_16_method_4_code_14) rfl rfl ?_
    show Steps p.tables e below (T8.setTop (mkF m 15 #[.val (.int tg), .val (.ref h0.size), .val (.int (10 : Int32)), .val (.int (7 : Int32)), .val (.ref b6)] [(.ref h0.size)])) _
    refine XS.iloadN X8.here hx rfl (hb hby d_prog_16_method_4_code_15) rfl ?_
    show Steps p.tables e below (T8.setTop (mkF m 16 #[.val (.int tg), .val (.ref h0.size), .val (.int (10 : Int32)), .val (.int (7 : Int32)), .val (.ref b6)] [(.int (7 : Int32)), (.ref h0.size)])) _
    refine X8.aaload hx (j := (7 : Int32)) (v := (.ref b7)) (by first | exact Ar.1 | (rw [e8]; exact Ar.1)) (State.isArrayOf_alike hZ.alike Ar.2.1) rfl Ar.2.2 (inb_of Sz ⟨by decide, by decide⟩) (Hs.at (inb_of Sz ⟨by decide, by decide⟩) rfl) (g := (mkF m 16 #[.val (.int tg), .val (.ref h0.size), .val (.int (10 : Int32)), .val (.int (7 : Int32)), .val (.ref b6)] [(.int (7 : Int32)), (.ref h0.size)])) rfl rfl (hb hby d_prog_16_method_4_code_16) _ ?_
    show Steps p.tables e below (T8.setTop (mkF m 17 #[.val (.int tg), .val (.ref h0.size), .val (.int (10 : Int32)), .val (.int (7 : Int32)), .val (.ref b6)] [(.ref b7)])) _
    refine XS.astore X8.here hx rfl (hb hby d_prog_16_method_4_code_17) rfl rfl (l' := #[.val (.int tg), .val (.ref h0.size), .val (.int (10 : Int32)), .val (.int (7 : Int32)), .val (.ref b7)]) rfl ?_
    show Steps p.tables e below (T8.setTop (mkF m 19 #[.val (.int tg), .val (.ref h0.size), .val (.int (10 : Int32)), .val (.int (7 : Int32)), .val (.ref b7)] [])) _
    refine XS.aload X8.here hx rfl (hb hby d_prog_16_method_4_code_19) rfl rfl ?_
    show Steps p.tables e below (T8.setTop (mkF m 21 #[.val (.int tg), .val (.ref h0.size), .val (.int (10 : Int32)), .val (.int (7 : Int32)), .val (.ref b7)] [(.ref b7)])) _
    refine st9 _ ?_
    show Steps p.tables e below (T9.setTop (mkF m 24 #[.val (.int tg), .val (.ref h0.size), .val (.int (10 : Int32)), .val (.int (7 : Int32)), .val (.ref b7)] [(.int (110 : Int32))])) _
    refine XS.iloadN X9.here hx rfl (hb hby d_prog_16_method_4_code_24) rfl ?_
    show Steps p.tables e below (T9.setTop (mkF m 25 #[.val (.int tg), .val (.ref h0.size), .val (.int (10 : Int32)), .val (.int (7 : Int32)), .val (.ref b7)] [(.int tg), (.int (110 : Int32))])) _
    refine XS.icmpYes X9.here hx rfl (pc0 := 25) (pc' := 31) rfl (hb hby d_prog_16_method_4_code_25) rfl (feq (fun e => q7 e.symm)).2 (by decide) (by decide) ?_
    show Steps p.tables e below (T9.setTop (mkF m 31 #[.val (.int tg), .val (.ref h0.size), .val (.int (10 : Int32)), .val (.int (7 : Int32)), .val (.ref b7)] [])) _
    refine XT.iincV X9.here hx rfl (1 : Int32) (hb hby d_prog_16_method_4_code_31) (by decide) rfl (l' := #[.val (.int tg), .val (.ref h0.size), .val (.int (10 : Int32)), .val (.int (8 : Int32)), .val (.ref b7)]) rfl ?_
    show Steps p.tables e below (T9.setTop (mkF m 34 #[.val (.int tg), .val (.ref h0.size), .val (.int (10 : Int32)), .val (.int (8 : Int32)), .val (.ref b7)] [])) _
    refine XS.goto X9.here hx rfl (pc0 := 34) (pc' := 9) rfl (hb hby d_prog_16_method_4_code_34) (by decide) (by decide) ?_
    show Steps p.tables e below (T9.setTop (mkF m 9 #[.val (.int tg), .val (.ref h0.size), .val (.int (10 : Int32)), .val (.int (8 : Int32)), .val (.ref b7)] [])) _
    refine XS.iloadN X9.here hx rfl (hb hby d_prog_16_method_4_code_9) rfl ?_
    show Steps p.tables e below (T9.setTop (mkF m 10 #[.val (.int tg), .val (.ref h0.size), .val (.int (10 : Int32)), .val (.int (8 : Int32)), .val (.ref b7)] [(.int (8 : Int32))])) _
    refine XS.iloadN X9.here hx rfl (hb hby d_prog_16_method_4_code_10) rfl ?_
    show Steps p.tables e below (T9.setTop (mkF m 11 #[.val (.int tg), .val (.ref h0.size), .val (.int (10 : Int32)), .val (.int (8 : Int32)), .val (.ref b7)] [(.int (10 : Int32)), (.int (8 : Int32))])) _
    refine XS.icmpNo X9.here hx rfl (hb hby d_prog_16_method_4_code_11) rfl (by decide) ?_
    show Steps p.tables e below (T9.setTop (mkF m 14 #[.val (.int tg), .val (.ref h0.size), .val (.int (10 : Int32)), .val (.int (8 : Int32)), .val (.ref b7)] [])) _
    refine XS.aloadN X9.here hx rfl (hb hby d_prog_16_method_4_code_14) rfl rfl ?_
    show Steps p.tables e below (T9.setTop (mkF m 15 #[.val (.int tg), .val (.ref h0.size), .val (.int (10 : Int32)), .val (.int (8 : Int32)), .val (.ref b7)] [(.ref h0.size)])) _
    refine XS.iloadN X9.here hx rfl (hb hby d_prog_16_method_4_code_15) rfl ?_
    show Steps p.tables e below (T9.setTop (mkF m 16 #[.val (.int tg), .val (.ref h0.size), .val (.int (10 : Int32)), .val (.int (8 : Int32)), .val (.ref b7)] [(.int (8 : Int32)), (.ref h0.size)])) _
    refine X9.aaload hx (j := (8 : Int32)) (v := (.ref b8)) (by first | exact Ar.1 | (rw [e9]; exact Ar.1)) (State.isArrayOf_alike hZ.alike Ar.2.1) rfl Ar.2.2 (inb_of Sz ⟨by decide, by decide⟩) (Hs.at (inb_of Sz ⟨by decide, by decide⟩) rfl) (g := (mkF m 16 #[.val (.int tg), .val (.ref h0.size), .val (.int (10 : Int32)), .val (.int (8 : Int32)), .val (.ref b7)] [(.int (8 : Int32)), (.ref h0.size)])) rfl rfl (hb hby d_prog_16_method_4_code_16) _ ?_
    show Steps p.tables e below (T9.setTop (mkF m 17 #[.val (.int tg), .val (.ref h0.size), .val (.int (10 : Int32)), .val (.int (8 : Int32)), .val (.ref b7)] [(.ref b8)])) _
    refine XS.astore X9.here hx rfl (hb hby d_prog_16_method_4_code_17) rfl rfl (l' := #[.val (.int tg), .val (.ref h0.size), .val (.int (10 : Int32)), .val (.int (8 : Int32)), .val (.ref b8)]) rfl ?_
    show Steps p.tables e below (T9.setTop (mkF m 19 #[.val (.int tg), .val (.ref h0.size), .val (.int (10 : Int32)), .val (.int (8 : Int32)), .val (.ref b8)] [])) _
    refine XS.aload X9.here hx rfl (hb hby d_prog_16_method_4_code_19) rfl rfl ?_
    show Steps p.tables e below (T9.setTop (mkF m 21 #[.val (.int tg), .val (.ref h0.size), .val (.int (10 : Int32)), .val (.int (8 : Int32)), .val (.ref b8)] [(.ref b8)])) _
    refine st10 _ ?_
    show Steps p.tables e below (T10.setTop (mkF m 24 #[.val (.int tg), .val (.ref h0.size), .val (.int (10 : Int32)), .val (.int (8 : Int32)), .val (.ref b8)] [(.int (80 : Int32))])) _
    refine XS.iloadN X10.here hx rfl (hb hby d_prog_16_method_4_code_24) rfl ?_
    show Steps p.tables e below (T10.setTop (mkF m 25 #[.val (.int tg), .val (.ref h0.size), .val (.int (10 : Int32)), .val (.int (8 : Int32)), .val (.ref b8)] [(.int tg), (.int (80 : Int32))])) _
    refine XS.icmpYes X10.here hx rfl (pc0 := 25) (pc' := 31) rfl (hb hby d_prog_16_method_4_code_25) rfl (feq (fun e => q8 e.symm)).2 (by decide) (by decide) ?_
    show Steps p.tables e below (T10.setTop (mkF m 31 #[.val (.int tg), .val (.ref h0.size), .val (.int (10 : Int32)), .val (.int (8 : Int32)), .val (.ref b8)] [])) _
    refine XT.iincV X10.here hx rfl (1 : Int32) (hb hby d_prog_16_method_4_code_31) (by decide) rfl (l' := #[.val (.int tg), .val (.ref h0.size), .val (.int (10 : Int32)), .val (.int (9 : Int32)), .val (.ref b8)]) rfl ?_
    show Steps p.tables e below (T10.setTop (mkF m 34 #[.val (.int tg), .val (.ref h0.size), .val (.int (10 : Int32)), .val (.int (9 : Int32)), .val (.ref b8)] [])) _
    refine XS.goto X10.here hx rfl (pc0 := 34) (pc' := 9) rfl (hb hby d_prog_16_method_4_code_34) (by decide) (by decide) ?_
    show Steps p.tables e below (T10.setTop (mkF m 9 #[.val (.int tg), .val (.ref h0.size), .val (.int (10 : Int32)), .val (.int (9 : Int32)), .val (.ref b8)] [])) _
    refine XS.iloadN X10.here hx rfl (hb hby d_prog_16_method_4_code_9) rfl ?_
    show Steps p.tables e below (T10.setTop (mkF m 10 #[.val (.int tg), .val (.ref h0.size), .val (.int (10 : Int32)), .val (.int (9 : Int32)), .val (.ref b8)] [(.int (9 : Int32))])) _
    refine XS.iloadN X10.here hx rfl (hb hby d_prog_16_method_4_code_10) rfl ?_
    show Steps p.tables e below (T10.setTop (mkF m 11 #[.val (.int tg), .val (.ref h0.size), .val (.int (10 : Int32)), .val (.int (9 : Int32)), .val (.ref b8)] [(.int (10 : Int32)), (.int (9 : Int32))])) _
    refine XS.icmpNo X10.here hx rfl (hb hby d_prog_16_method_4_code_11) rfl (by decide) ?_
    show Steps p.tables e below (T10.setTop (mkF m 14 #[.val (.int tg), .val (.ref h0.size), .val (.int (10 : Int32)), .val (.int (9 : Int32)), .val (.ref b8)] [])) _
    refine XS.aloadN X10.here hx rfl (hb hby d_prog_16_method_4_code_14) rfl rfl ?_
    show Steps p.tables e below (T10.setTop (mkF m 15 #[.val (.int tg), .val (.ref h0.size), .val (.int (10 : Int32)), .val (.int (9 : Int32)), .val (.ref b8)] [(.ref h0.size)])) _
    refine XS.iloadN X10.here hx rfl (hb hby d_prog_16_method_4_code_15) rfl ?_
    show Steps p.tables e below (T10.setTop (mkF m 16 #[.val (.int tg), .val (.ref h0.size), .val (.int (10 : Int32)), .val (.int (9 : Int32)), .val (.ref b8)] [(.int (9 : Int32)), (.ref h0.size)])) _
    refine X10.aaload hx (j := (9 : Int32)) (v := (.ref b9)) (by first | exact Ar.1 | (rw [e10]; exact Ar.1)) (State.isArrayOf_alike hZ.alike Ar.2.1) rfl Ar.2.2 (inb_of Sz ⟨by decide, by decide⟩) (Hs.at (inb_of Sz ⟨by decide, by decide⟩) rfl) (g := (mkF m 16 #[.val (.int tg), .val (.ref h0.size), .val (.int (10 : Int32)), .val (.int (9 : Int32)), .val (.ref b8)] [(.int (9 : Int32)), (.ref h0.size)])) rfl rfl (hb hby d_prog_16_method_4_code_16) _ ?_
    show Steps p.tables e below (T10.setTop (mkF m 17 #[.val (.int tg), .val (.ref h0.size), .val (.int (10 : Int32)), .val (.int (9 : Int32)), .val (.ref b8)] [(.ref b9)])) _
    refine XS.astore X10.here hx rfl (hb hby d_prog_16_method_4_code_17) rfl rfl (l' := #[.val (.int tg), .val (.ref h0.size), .val (.int (10 : Int32)), .val (.int (9 : Int32)), .val (.ref b9)]) rfl ?_
    show Steps p.tables e below (T10.setTop (mkF m 19 #[.val (.int tg), .val (.ref h0.size), .val (.int (10 : Int32)), .val (.int (9 : Int32)), .val (.ref b9)] [])) _
    refine XS.aload X10.here hx rfl (hb hby d_prog_16_method_4_code_19) rfl rfl ?_
    show Steps p.tables e below (T10.setTop (mkF m 21 #[.val (.int tg), .val (.ref h0.size), .val (.int (10 : Int32)), .val (.int (9 : Int32)), .val (.ref b9)] [(.ref b9)])) _
    refine st11 _ ?_
    show Steps p.tables e below (T11.setTop (mkF m 24 #[.val (.int tg), .val (.ref h0.size), .val (.int (10 : Int32)), .val (.int (9 : Int32)), .val (.ref b9)] [(.int (119 : Int32))])) _
    refine XS.iloadN X11.here hx rfl (hb hby d_prog_16_method_4_code_24) rfl ?_
    show Steps p.tables e below (T11.setTop (mkF m 25 #[.val (.int tg), .val (.ref h0.size), .val (.int (10 : Int32)), .val (.int (9 : Int32)), .val (.ref b9)] [(.int tg), (.int (119 : Int32))])) _
    refine XS.icmpYes X11.here hx rfl (pc0 := 25) (pc' := 31) rfl (hb hby d_prog_16_method_4_code_25) rfl (feq (fun e => q9 e.symm)).2 (by decide) (by decide) ?_
    show Steps p.tables e below (T11.setTop (mkF m 31 #[.val (.int tg), .val (.ref h0.size), .val (.int (10 : Int32)), .val (.int (9 : Int32)), .val (.ref b9)] [])) _
    refine XT.iincV X11.here hx rfl (1 : Int32) (hb hby d_prog_16_method_4_code_31) (by decide) rfl (l' := #[.val (.int tg), .val (.ref h0.size), .val (.int (10 : Int32)), .val (.int (10 : Int32)), .val (.ref b9)]) rfl ?_
    show Steps p.tables e below (T11.setTop (mkF m 34 #[.val (.int tg), .val (.ref h0.size), .val (.int (10 : Int32)), .val (.int (10 : Int32)), .val (.ref b9)] [])) _
    refine XS.goto X11.here hx rfl (pc0 := 34) (pc' := 9) rfl (hb hby d_prog_16_method_4_code_34) (by decide) (by decide) ?_
    show Steps p.tables e below (T11.setTop (mkF m 9 #[.val (.int tg), .val (.ref h0.size), .val (.int (10 : Int32)), .val (.int (10 : Int32)), .val (.ref b9)] [])) _
    refine XS.iloadN X11.here hx rfl (hb hby d_prog_16_method_4_code_9) rfl ?_
    show Steps p.tables e below (T11.setTop (mkF m 10 #[.val (.int tg), .val (.ref h0.size), .val (.int (10 : Int32)), .val (.int (10 : Int32)), .val (.ref b9)] [(.int (10 : Int32))])) _
    refine XS.iloadN X11.here hx rfl (hb hby d_prog_16_method_4_code_10) rfl ?_
    show Steps p.tables e below (T11.setTop (mkF m 11 #[.val (.int tg), .val (.ref h0.size), .val (.int (10 : Int32)), .val (.int (10 : Int32)), .val (.ref b9)] [(.int (10 : Int32)), (.int (10 : Int32))])) _
    refine XS.icmpYes X11.here hx rfl (pc0 := 11) (pc' := 37) rfl (hb hby d_prog_16_method_4_code_11) rfl (by decide) (by decide) (by decide) ?_
    show Steps p.tables e below (T11.setTop (mkF m 37 #[.val (.int tg), .val (.ref h0.size), .val (.int (10 : Int32)), .val (.int (10 : Int32)), .val (.ref b9)] [])) _
    refine XS.aconstNull X11.here hx rfl (hb hby d_prog_16_method_4_code_37) ?_
    show Steps p.tables e below (T11.setTop (mkF m 38 #[.val (.int tg), .val (.ref h0.size), .val (.int (10 : Int32)), .val (.int (10 : Int32)), .val (.ref b9)] [.null])) _
    exact retOut X11 hx Bd.returns rfl (Or.inr (Or.inr (Or.inr (Or.inr ⟨rfl, rfl, rfl⟩)))) (hb hby d_prog_16_method_4_code_38) hr
  · exact ⟨rfl, N1, by show Ext h0 T11.heap; rw [e11]; exact Ex1⟩
theorem d_method_2_code_100 : decode method_2_code 100 = .ok (.aconst_null, 1) := by decide +kernel
theorem d_method_2_code_101 : decode method_2_code 101 = .ok (.areturn, 1) := by decide +kernel
def Q_exp_none (Z : State) (tg : Int32) (h0 : Heap) (n0 : Nat) (v : Option Value) (h : Heap) (L : List Loc) : Prop := v = some .null ∧ Fr n0 L ∧ h = h0
set_option maxRecDepth 65536 in
set_option maxHeartbeats 40000000 in
theorem exp_none (l : Launch) (Z : State) (a0 : Array Value) (hw : ∀ d ∈ tables_1, d.before a0 Z = true) (ws : List Jvm.Cond) (tg : Int32) (h0 : Heap) (n0 : Nat) (Z0 : n0 ≤ h0.size) (q0 : ¬ tg = (96 : Int32))(q1 : ¬ tg = (66 : Int32))(q2 : ¬ tg = (99 : Int32))(q3 : ¬ tg = (102 : Int32))(q4 : ¬ tg = (104 : Int32))(q5 : ¬ tg = (74 : Int32))(q6 : ¬ tg = (108 : Int32))(q7 : ¬ tg = (110 : Int32))(q8 : ¬ tg = (80 : Int32))(q9 : ¬ tg = (119 : Int32)) :
    MetFree l (⟨"com/example/keyward/keyward/LdapOperationForRequestTagPinLaw", "expected", "(I)Lcom/example/keyward/keyward/LdapOperation;"⟩ : MethodName) (head1 (Jvm.Cond.code (⟨"com/example/keyward/keyward/LdapOperationForRequestTagPinLaw", "expected", "(I)Lcom/example/keyward/keyward/LdapOperation;"⟩ : MethodName) method_2_code 1 (Option.some (Jvm.ClassFile.FieldType.object "com/example/keyward/keyward/LdapOperation")) :: ws) ({ frames := 0, cells := 0, slots := 0, locals := 0 } : Room)) (fun a U => a = #[(.int tg)] ∧ Z.Warmed39 U.vm ∧ U.heap = h0) (fun _ _ _ _ _ => True) (fun _ U o U' => ∃ v L, o = .returned v ∧ Q_exp_none Z tg h0 n0 v U'.heap L ∧ FrameEnd U o U' L ({ frames := 0, cells := 0, slots := 0, locals := 0 } : Room).cells ({ frames := 0, cells := 0, slots := 0, locals := 0 } : Room).slots) := by
  refine MetFree.of_bodySF (plainFor_of_name pn_34) hisR ?_
  intro p e s m args below meth c s₁ Bd hml0 hP hK
  obtain ⟨rfl, hZ, hh⟩ := hP
  have hx := Bd.exec
  have hby := Bd.bytes
  have hml : c.maxLocals = 1 := hml0
  have hown : s.vm.findClass "com/example/keyward/keyward/LdapOperationForRequestTagPinLaw" = some m.cls := findClass_of_methodNamed Bd.named
  have hnm := (name_of_methodNamed Bd.named Bd.method).1
  have X0 : Stand p l e ({ frames := 0, cells := 0, slots := 0, locals := 0 } : Room) s m #[(.int tg)] below meth c s₁ [] 0 0 := Stand.of_body Bd
  have e0 : s₁.heap = h0 := by rw [← hh, Bd.state]; rfl
  have N0 := Fr.nil n0
  have pre0 : ∀ t, Steps p.tables e below (s₁.setTop (mkF m 0 #[.val (.int tg)] [])) t → Steps p.tables e below (s₁.setTop (entryFrame m #[(.int tg)] 1)) t := fun t k => castTop (ef_33 m tg) k
  obtain ⟨fs, hr, hrun, hended, hW, hsame⟩ := X0.leave (v := some .null) (fun h => by rw [Bd.returns] at h; cases h)
  refine ⟨_, _, pre0 _ ?_, hrun, hended, _, _, rfl, ?_, ⟨_, rfl⟩, hW, hsame.mono (by decide) (by decide)⟩
  · show Steps p.tables e below (s₁.setTop (mkF m 0 #[.val (.int tg)] [])) _
    refine XS.iloadN X0.here hx rfl (hb hby d_method_2_code_0) rfl ?_
    show Steps p.tables e below (s₁.setTop (mkF m 1 #[.val (.int tg)] [(.int tg)])) _
    refine XT.bipushV X0.here hx rfl (96 : Int32) (hb hby d_method_2_code_1) (by decide) ?_
    show Steps p.tables e below (s₁.setTop (mkF m 3 #[.val (.int tg)] [(.int (96 : Int32)), (.int tg)])) _
    refine XS.icmpYes X0.here hx rfl (pc0 := 3) (pc' := 10) rfl (hb hby d_method_2_code_3) rfl (feq q0).2 (by decide) (by decide) ?_
    show Steps p.tables e below (s₁.setTop (mkF m 10 #[.val (.int tg)] [])) _
    refine XS.iloadN X0.here hx rfl (hb hby d_method_2_code_10) rfl ?_
    show Steps p.tables e below (s₁.setTop (mkF m 11 #[.val (.int tg)] [(.int tg)])) _
    refine XT.bipushV X0.here hx rfl (66 : Int32) (hb hby d_method_2_code_11) (by decide) ?_
    show Steps p.tables e below (s₁.setTop (mkF m 13 #[.val (.int tg)] [(.int (66 : Int32)), (.int tg)])) _
    refine XS.icmpYes X0.here hx rfl (pc0 := 13) (pc' := 20) rfl (hb hby d_method_2_code_13) rfl (feq q1).2 (by decide) (by decide) ?_
    show Steps p.tables e below (s₁.setTop (mkF m 20 #[.val (.int tg)] [])) _
    refine XS.iloadN X0.here hx rfl (hb hby d_method_2_code_20) rfl ?_
    show Steps p.tables e below (s₁.setTop (mkF m 21 #[.val (.int tg)] [(.int tg)])) _
    refine XT.bipushV X0.here hx rfl (99 : Int32) (hb hby d_method_2_code_21) (by decide) ?_
    show Steps p.tables e below (s₁.setTop (mkF m 23 #[.val (.int tg)] [(.int (99 : Int32)), (.int tg)])) _
    refine XS.icmpYes X0.here hx rfl (pc0 := 23) (pc' := 30) rfl (hb hby d_method_2_code_23) rfl (feq q2).2 (by decide) (by decide) ?_
    show Steps p.tables e below (s₁.setTop (mkF m 30 #[.val (.int tg)] [])) _
    refine XS.iloadN X0.here hx rfl (hb hby d_method_2_code_30) rfl ?_
    show Steps p.tables e below (s₁.setTop (mkF m 31 #[.val (.int tg)] [(.int tg)])) _
    refine XT.bipushV X0.here hx rfl (102 : Int32) (hb hby d_method_2_code_31) (by decide) ?_
    show Steps p.tables e below (s₁.setTop (mkF m 33 #[.val (.int tg)] [(.int (102 : Int32)), (.int tg)])) _
    refine XS.icmpYes X0.here hx rfl (pc0 := 33) (pc' := 40) rfl (hb hby d_method_2_code_33) rfl (feq q3).2 (by decide) (by decide) ?_
    show Steps p.tables e below (s₁.setTop (mkF m 40 #[.val (.int tg)] [])) _
    refine XS.iloadN X0.here hx rfl (hb hby d_method_2_code_40) rfl ?_
    show Steps p.tables e below (s₁.setTop (mkF m 41 #[.val (.int tg)] [(.int tg)])) _
    refine XT.bipushV X0.here hx rfl (104 : Int32) (hb hby d_method_2_code_41) (by decide) ?_
    show Steps p.tables e below (s₁.setTop (mkF m 43 #[.val (.int tg)] [(.int (104 : Int32)), (.int tg)])) _
    refine XS.icmpYes X0.here hx rfl (pc0 := 43) (pc' := 50) rfl (hb hby d_method_2_code_43) rfl (feq q4).2 (by decide) (by decide) ?_
    show Steps p.tables e below (s₁.setTop (mkF m 50 #[.val (.int tg)] [])) _
    refine XS.iloadN X0.here hx rfl (hb hby d_method_2_code_50) rfl ?_
    show Steps p.tables e below (s₁.setTop (mkF m 51 #[.val (.int tg)] [(.int tg)])) _
    refine XT.bipushV X0.here hx rfl (74 : Int32) (hb hby d_method_2_code_51) (by decide) ?_
    show Steps p.tables e below (s₁.setTop (mkF m 53 #[.val (.int tg)] [(.int (74 : Int32)), (.int tg)])) _
    refine XS.icmpYes X0.here hx rfl (pc0 := 53) (pc' := 60) rfl (hb hby d_method_2_code_53) rfl (feq q5).2 (by decide) (by decide) ?_
    show Steps p.tables e below (s₁.setTop (mkF m 60 #[.val (.int tg)] [])) _
    refine XS.iloadN X0.here hx rfl (hb hby d_method_2_code_60) rfl ?_
    show Steps p.tables e below (s₁.setTop (mkF m 61 #[.val (.int tg)] [(.int tg)])) _
    refine XT.bipushV X0.here hx rfl (108 : Int32) (hb hby d_method_2_code_61) (by decide) ?_
    show Steps p.tables e below (s₁.setTop (mkF m 63 #[.val (.int tg)] [(.int (108 : Int32)), (.int tg)])) _
    refine XS.icmpYes X0.here hx rfl (pc0 := 63) (pc' := 70) rfl (hb hby d_method_2_code_63) rfl (feq q6).2 (by decide) (by decide) ?_
    show Steps p.tables e below (s₁.setTop (mkF m 70 #[.val (.int tg)] [])) _
    refine XS.iloadN X0.here hx rfl (hb hby d_method_2_code_70) rfl ?_
    show Steps p.tables e below (s₁.setTop (mkF m 71 #[.val (.int tg)] [(.int tg)])) _
    refine XT.bipushV X0.here hx rfl (110 : Int32) (hb hby d_method_2_code_71) (by decide) ?_
    show Steps p.tables e below (s₁.setTop (mkF m 73 #[.val (.int tg)] [(.int (110 : Int32)), (.int tg)])) _
    refine XS.icmpYes X0.here hx rfl (pc0 := 73) (pc' := 80) rfl (hb hby d_method_2_code_73) rfl (feq q7).2 (by decide) (by decide) ?_
    show Steps p.tables e below (s₁.setTop (mkF m 80 #[.val (.int tg)] [])) _
    refine XS.iloadN X0.here hx rfl (hb hby d_method_2_code_80) rfl ?_
    show Steps p.tables e below (s₁.setTop (mkF m 81 #[.val (.int tg)] [(.int tg)])) _
    refine XT.bipushV X0.here hx rfl (80 : Int32) (hb hby d_method_2_code_81) (by decide) ?_
    show Steps p.tables e below (s₁.setTop (mkF m 83 #[.val (.int tg)] [(.int (80 : Int32)), (.int tg)])) _
    refine XS.icmpYes X0.here hx rfl (pc0 := 83) (pc' := 90) rfl (hb hby d_method_2_code_83) rfl (feq q8).2 (by decide) (by decide) ?_
    show Steps p.tables e below (s₁.setTop (mkF m 90 #[.val (.int tg)] [])) _
    refine XS.iloadN X0.here hx rfl (hb hby d_method_2_code_90) rfl ?_
    show Steps p.tables e below (s₁.setTop (mkF m 91 #[.val (.int tg)] [(.int tg)])) _
    refine XT.bipushV X0.here hx rfl (119 : Int32) (hb hby d_method_2_code_91) (by decide) ?_
    show Steps p.tables e below (s₁.setTop (mkF m 93 #[.val (.int tg)] [(.int (119 : Int32)), (.int tg)])) _
    refine XS.icmpYes X0.here hx rfl (pc0 := 93) (pc' := 100) rfl (hb hby d_method_2_code_93) rfl (feq q9).2 (by decide) (by decide) ?_
    show Steps p.tables e below (s₁.setTop (mkF m 100 #[.val (.int tg)] [])) _
    refine XS.aconstNull X0.here hx rfl (hb hby d_method_2_code_100) ?_
    show Steps p.tables e below (s₁.setTop (mkF m 101 #[.val (.int tg)] [.null])) _
    exact retOut X0 hx Bd.returns rfl (Or.inr (Or.inr (Or.inr (Or.inr ⟨rfl, rfl, rfl⟩)))) (hb hby d_method_2_code_101) hr
  · exact ⟨rfl, N0, e0⟩
theorem pd_86 : parseMethodDescriptor "(I)Lcom/example/keyward/keyward/LdapOperation;" = some ⟨[.int], some (.object "com/example/keyward/keyward/LdapOperation")⟩ := by decide +kernel
theorem ef_87 (m : MethodId) (x0 : Int32) (x1 : Int32) : entryFrame m #[(.int x0), (.int x1)] 5 = mkF m 0 #[.val (.int x0), .val (.int x1), .unset, .unset, .unset] [] := by first | (simp [entryFrame, mkF, argsToLocals, Value.category]; done) | rfl
set_option maxRecDepth 65536 in
set_option maxHeartbeats 80000000 in
theorem rm_law (l : Launch) (Z : State) (a0 : Array Value) (hw : ∀ d ∈ tables_1, d.before a0 Z = true) (ws : List Jvm.Cond) (p1 p2 : Int32) (aV : Addr) (kV : ClassId) (b0 b1 b2 b3 b4 b5 b6 b7 b8 b9 : Addr) (h0 : Heap) (n0 : Nat) (Z0 : n0 ≤ h0.size) (SaV : Sta Z h0 "com/example/keyward/keyward/LdapOperation" "$VALUES" "[Lcom/example/keyward/keyward/LdapOperation;" (.ref aV)) (VaV : Arv Z h0 aV kV (.object "com/example/keyward/keyward/LdapOperation") (10 : Int32) [(.ref b0), (.ref b1), (.ref b2), (.ref b3), (.ref b4), (.ref b5), (.ref b6), (.ref b7), (.ref b8), (.ref b9)] .null) (EaV : Exa Z h0 aV "[Lcom/example/keyward/keyward/LdapOperation;")(Fb0 : Fld Z h0 b0 "com/example/keyward/keyward/LdapOperation" "requestTag" "I" (.int (96 : Int32)))(Fb1 : Fld Z h0 b1 "com/example/keyward/keyward/LdapOperation" "requestTag" "I" (.int (66 : Int32)))(Fb2 : Fld Z h0 b2 "com/example/keyward/keyward/LdapOperation" "requestTag" "I" (.int (99 : Int32)))(Fb3 : Fld Z h0 b3 "com/example/keyward/keyward/LdapOperation" "requestTag" "I" (.int (102 : Int32)))(Fb4 : Fld Z h0 b4 "com/example/keyward/keyward/LdapOperation" "requestTag" "I" (.int (104 : Int32)))(Fb5 : Fld Z h0 b5 "com/example/keyward/keyward/LdapOperation" "requestTag" "I" (.int (74 : Int32)))(Fb6 : Fld Z h0 b6 "com/example/keyward/keyward/LdapOperation" "requestTag" "I" (.int (108 : Int32)))(Fb7 : Fld Z h0 b7 "com/example/keyward/keyward/LdapOperation" "requestTag" "I" (.int (110 : Int32)))(Fb8 : Fld Z h0 b8 "com/example/keyward/keyward/LdapOperation" "requestTag" "I" (.int (80 : Int32)))(Fb9 : Fld Z h0 b9 "com/example/keyward/keyward/LdapOperation" "requestTag" "I" (.int (119 : Int32)))(Sb0 : Sta Z h0 "com/example/keyward/keyward/LdapOperation" "BIND" "Lcom/example/keyward/keyward/LdapOperation;" (.ref b0))(Sb1 : Sta Z h0 "com/example/keyward/keyward/LdapOperation" "UNBIND" "Lcom/example/keyward/keyward/LdapOperation;" (.ref b1))(Sb2 : Sta Z h0 "com/example/keyward/keyward/LdapOperation" "SEARCH" "Lcom/example/keyward/keyward/LdapOperation;" (.ref b2))(Sb3 : Sta Z h0 "com/example/keyward/keyward/LdapOperation" "MODIFY" "Lcom/example/keyward/keyward/LdapOperation;" (.ref b3))(Sb4 : Sta Z h0 "com/example/keyward/keyward/LdapOperation" "ADD" "Lcom/example/keyward/keyward/LdapOperation;" (.ref b4))(Sb5 : Sta Z h0 "com/example/keyward/keyward/LdapOperation" "DELETE" "Lcom/example/keyward/keyward/LdapOperation;" (.ref b5))(Sb6 : Sta Z h0 "com/example/keyward/keyward/LdapOperation" "MODIFY_DN" "Lcom/example/keyward/keyward/LdapOperation;" (.ref b6))(Sb7 : Sta Z h0 "com/example/keyward/keyward/LdapOperation" "COMPARE" "Lcom/example/keyward/keyward/LdapOperation;" (.ref b7))(Sb8 : Sta Z h0 "com/example/keyward/keyward/LdapOperation" "ABANDON" "Lcom/example/keyward/keyward/LdapOperation;" (.ref b8))(Sb9 : Sta Z h0 "com/example/keyward/keyward/LdapOperation" "EXTENDED" "Lcom/example/keyward/keyward/LdapOperation;" (.ref b9)) :
    MetFree l x (head1 (Jvm.Cond.code x code maxLocals ret :: ws) room_1) (fun a U => a = #[.int p1, .int p2] ∧ Z.Warmed39 U.vm ∧ U.heap = h0) (fun _ _ _ _ _ => True) (fun _ U o U' => ∃ v L, o = .returned v ∧ (fun (v : Option Value) (h : Heap) (L : List Loc) => v = some (.int 1) ∧ Fr n0 L ∧ True) v U'.heap L ∧ FrameEnd U o U' L 16 128) := by
  refine MetFree.of_bodySF (plainFor_of_name pn_34) hisR ?_
  intro p e s m args below meth c s₁ Bd hml0 hP hK
  obtain ⟨rfl, hZ, hh⟩ := hP
  have hx := Bd.exec
  have hby := Bd.bytes
  have hml : c.maxLocals = 5 := hml0
  have hown : s.vm.findClass "com/example/keyward/keyward/LdapOperationForRequestTagPinLaw" = some m.cls := findClass_of_methodNamed Bd.named
  have X0 : Stand p l e room_1 s m #[.int p1, .int p2] below meth c s₁ [] 0 0 := Stand.of_body Bd
  have e0 : s₁.heap = h0 := by rw [← hh, Bd.state]; rfl
  have N0 := Fr.nil n0
  have pre0 : ∀ t, Steps p.tables e below (s₁.setTop (mkF m 0 #[.val (.int p1), .val (.int p2), .unset, .unset, .unset] [])) t → Steps p.tables e below (s₁.setTop (entryFrame m #[.int p1, .int p2] maxLocals)) t := fun t k => castTop (ef_87 m p1 p2) k
  obtain ⟨T1, h1, k1, X1, e1, E1, A1, st1⟩ := newP X0 hx hZ (hw _ (List.mem_of_getElem? (i := 0) rfl)) e0 (g := (mkF m 2 #[.val (.int p1), .val (.int p2), .unset, .unset, .unset] [(.int (16 : Int32))])) rfl (hb hby at_2) rfl (by decide) (cap := 16) (by decide) (by decide) (by decide) (by decide)
  obtain ⟨ar, gar⟩ : ∃ z, z = h0.size := ⟨_, rfl⟩
  rw [← gar] at A1 st1
  have nar : n0 ≤ ar := by rw [gar]; exact Z0
  have V0 : Arv Z h1 ar k1 .int (16 : Int32) [] (.int (0 : Int32)) := Arv.new A1 (by decide)
  have U0 : Arv Z h1 ar k1 .int (16 : Int32) (List.replicate 16 (.int (0 : Int32))) (.int (0 : Int32)) := V0.pad (pad_rep [] (.int (0 : Int32)) 16)
  have Y0 : Ext h0 h1 := E1
  have K0 : Keep h0 h1 [] := (Keep.refl h0 []).ext E1
  obtain ⟨cl2, Ar2, qc2, Sz2, Ng2, Hs2, Ft2⟩ := U0
  obtain ⟨T2, h2, X2, e2, W2, st2⟩ := stI X1 hx hZ e1 Ar2 (j := (0 : Int32)) (inb_of Sz2 ⟨by decide, by decide⟩) (g := (mkF m 8 #[.val (.int p1), .val (.int p2), .unset, .unset, .unset] [(.int (96 : Int32)), (.int (0 : Int32)), (.ref ar), (.ref ar)])) rfl rfl (hb hby at_8)
  have N2 := Fr.snoc X2 N0 nar
  have U1 : Arv Z h2 ar k1 .int (16 : Int32) [(.int (96 : Int32)), (.int (0 : Int32)), (.int (0 : Int32)), (.int (0 : Int32)), (.int (0 : Int32)), (.int (0 : Int32)), (.int (0 : Int32)), (.int (0 : Int32)), (.int (0 : Int32)), (.int (0 : Int32)), (.int (0 : Int32)), (.int (0 : Int32)), (.int (0 : Int32)), (.int (0 : Int32)), (.int (0 : Int32)), (.int (0 : Int32))] (.int (0 : Int32)) := Arv.set Ar2 qc2 Sz2 Ng2 Hs2 Ft2 rfl W2 0 rfl (by decide)
  have K1 : Keep h0 h2 [] := K0.wr W2 (Or.inr (by rw [gar]; exact Nat.le_refl _))
  obtain ⟨cl3, Ar3, qc3, Sz3, Ng3, Hs3, Ft3⟩ := U1
  obtain ⟨T3, h3, X3, e3, W3, st3⟩ := stI X2 hx hZ e2 Ar3 (j := (1 : Int32)) (inb_of Sz3 ⟨by decide, by decide⟩) (g := (mkF m 13 #[.val (.int p1), .val (.int p2), .unset, .unset, .unset] [(.int (66 : Int32)), (.int (1 : Int32)), (.ref ar), (.ref ar)])) rfl rfl (hb hby at_13)
  have N3 := Fr.snoc X3 N2 nar
  have U2 : Arv Z h3 ar k1 .int (16 : Int32) [(.int (96 : Int32)), (.int (66 : Int32)), (.int (0 : Int32)), (.int (0 : Int32)), (.int (0 : Int32)), (.int (0 : Int32)), (.int (0 : Int32)), (.int (0 : Int32)), (.int (0 : Int32)), (.int (0 : Int32)), (.int (0 : Int32)), (.int (0 : Int32)), (.int (0 : Int32)), (.int (0 : Int32)), (.int (0 : Int32)), (.int (0 : Int32))] (.int (0 : Int32)) := Arv.set Ar3 qc3 Sz3 Ng3 Hs3 Ft3 rfl W3 1 rfl (by decide)
  have K2 : Keep h0 h3 [] := K1.wr W3 (Or.inr (by rw [gar]; exact Nat.le_refl _))
  obtain ⟨cl4, Ar4, qc4, Sz4, Ng4, Hs4, Ft4⟩ := U2
  obtain ⟨T4, h4, X4, e4, W4, st4⟩ := stI X3 hx hZ e3 Ar4 (j := (2 : Int32)) (inb_of Sz4 ⟨by decide, by decide⟩) (g := (mkF m 18 #[.val (.int p1), .val (.int p2), .unset, .unset, .unset] [(.int (99 : Int32)), (.int (2 : Int32)), (.ref ar), (.ref ar)])) rfl rfl (hb hby at_18)
  have N4 := Fr.snoc X4 N3 nar
  have U3 : Arv Z h4 ar k1 .int (16 : Int32) [(.int (96 : Int32)), (.int (66 : Int32)), (.int (99 : Int32)), (.int (0 : Int32)), (.int (0 : Int32)), (.int (0 : Int32)), (.int (0 : Int32)), (.int (0 : Int32)), (.int (0 : Int32)), (.int (0 : Int32)), (.int (0 : Int32)), (.int (0 : Int32)), (.int (0 : Int32)), (.int (0 : Int32)), (.int (0 : Int32)), (.int (0 : Int32))] (.int (0 : Int32)) := Arv.set Ar4 qc4 Sz4 Ng4 Hs4 Ft4 rfl W4 2 rfl (by decide)
  have K3 : Keep h0 h4 [] := K2.wr W4 (Or.inr (by rw [gar]; exact Nat.le_refl _))
  obtain ⟨cl5, Ar5, qc5, Sz5, Ng5, Hs5, Ft5⟩ := U3
  obtain ⟨T5, h5, X5, e5, W5, st5⟩ := stI X4 hx hZ e4 Ar5 (j := (3 : Int32)) (inb_of Sz5 ⟨by decide, by decide⟩) (g := (mkF m 23 #[.val (.int p1), .val (.int p2), .unset, .unset, .unset] [(.int (102 : Int32)), (.int (3 : Int32)), (.ref ar), (.ref ar)])) rfl rfl (hb hby at_23)
  have N5 := Fr.snoc X5 N4 nar
  have U4 : Arv Z h5 ar k1 .int (16 : Int32) [(.int (96 : Int32)), (.int (66 : Int32)), (.int (99 : Int32)), (.int (102 : Int32)), (.int (0 : Int32)), (.int (0 : Int32)), (.int (0 : Int32)), (.int (0 : Int32)), (.int (0 : Int32)), (.int (0 : Int32)), (.int (0 : Int32)), (.int (0 : Int32)), (.int (0 : Int32)), (.int (0 : Int32)), (.int (0 : Int32)), (.int (0 : Int32))] (.int (0 : Int32)) := Arv.set Ar5 qc5 Sz5 Ng5 Hs5 Ft5 rfl W5 3 rfl (by decide)
  have K4 : Keep h0 h5 [] := K3.wr W5 (Or.inr (by rw [gar]; exact Nat.le_refl _))
  obtain ⟨cl6, Ar6, qc6, Sz6, Ng6, Hs6, Ft6⟩ := U4
  obtain ⟨T6, h6, X6, e6, W6, st6⟩ := stI X5 hx hZ e5 Ar6 (j := (4 : Int32)) (inb_of Sz6 ⟨by decide, by decide⟩) (g := (mkF m 28 #[.val (.int p1), .val (.int p2), .unset, .unset, .unset] [(.int (104 : Int32)), (.int (4 : Int32)), (.ref ar), (.ref ar)])) rfl rfl (hb hby at_28)
  have N6 := Fr.snoc X6 N5 nar
  have U5 : Arv Z h6 ar k1 .int (16 : Int32) [(.int (96 : Int32)), (.int (66 : Int32)), (.int (99 : Int32)), (.int (102 : Int32)), (.int (104 : Int32)), (.int (0 : Int32)), (.int (0 : Int32)), (.int (0 : Int32)), (.int (0 : Int32)), (.int (0 : Int32)), (.int (0 : Int32)), (.int (0 : Int32)), (.int (0 : Int32)), (.int (0 : Int32)), (.int (0 : Int32)), (.int (0 : Int32))] (.int (0 : Int32)) := Arv.set Ar6 qc6 Sz6 Ng6 Hs6 Ft6 rfl W6 4 rfl (by decide)
  have K5 : Keep h0 h6 [] := K4.wr W6 (Or.inr (by rw [gar]; exact Nat.le_refl _))
  obtain ⟨cl7, Ar7, qc7, Sz7, Ng7, Hs7, Ft7⟩ := U5
  obtain ⟨T7, h7, X7, e7, W7, st7⟩ := stI X6 hx hZ e6 Ar7 (j := (5 : Int32)) (inb_of Sz7 ⟨by decide, by decide⟩) (g := (mkF m 33 #[.val (.int p1), .val (.int p2), .unset, .unset, .unset] [(.int (74 : Int32)), (.int (5 : Int32)), (.ref ar), (.ref ar)])) rfl rfl (hb hby at_33)
  have N7 := Fr.snoc X7 N6 nar
  have U6 : Arv Z h7 ar k1 .int (16 : Int32) [(.int (96 : Int32)), (.int (66 : Int32)), (.int (99 : Int32)), (.int (102 : Int32)), (.int (104 : Int32)), (.int (74 : Int32)), (.int (0 : Int32)), (.int (0 : Int32)), (.int (0 : Int32)), (.int (0 : Int32)), (.int (0 : Int32)), (.int (0 : Int32)), (.int (0 : Int32)), (.int (0 : Int32)), (.int (0 : Int32)), (.int (0 : Int32))] (.int (0 : Int32)) := Arv.set Ar7 qc7 Sz7 Ng7 Hs7 Ft7 rfl W7 5 rfl (by decide)
  have K6 : Keep h0 h7 [] := K5.wr W7 (Or.inr (by rw [gar]; exact Nat.le_refl _))
  obtain ⟨cl8, Ar8, qc8, Sz8, Ng8, Hs8, Ft8⟩ := U6
  obtain ⟨T8, h8, X8, e8, W8, st8⟩ := stI X7 hx hZ e7 Ar8 (j := (6 : Int32)) (inb_of Sz8 ⟨by decide, by decide⟩) (g := (mkF m 39 #[.val (.int p1), .val (.int p2), .unset, .unset, .unset] [(.int (108 : Int32)), (.int (6 : Int32)), (.ref ar), (.ref ar)])) rfl rfl (hb hby at_39)
  have N8 := Fr.snoc X8 N7 nar
  have U7 : Arv Z h8 ar k1 .int (16 : Int32) [(.int (96 : Int32)), (.int (66 : Int32)), (.int (99 : Int32)), (.int (102 : Int32)), (.int (104 : Int32)), (.int (74 : Int32)), (.int (108 : Int32)), (.int (0 : Int32)), (.int (0 : Int32)), (.int (0 : Int32)), (.int (0 : Int32)), (.int (0 : Int32)), (.int (0 : Int32)), (.int (0 : Int32)), (.int (0 : Int32)), (.int (0 : Int32))] (.int (0 : Int32)) := Arv.set Ar8 qc8 Sz8 Ng8 Hs8 Ft8 rfl W8 6 rfl (by decide)
  have K7 : Keep h0 h8 [] := K6.wr W8 (Or.inr (by rw [gar]; exact Nat.le_refl _))
  obtain ⟨cl9, Ar9, qc9, Sz9, Ng9, Hs9, Ft9⟩ := U7
  obtain ⟨T9, h9, X9, e9, W9, st9⟩ := stI X8 hx hZ e8 Ar9 (j := (7 : Int32)) (inb_of Sz9 ⟨by decide, by decide⟩) (g := (mkF m 45 #[.val (.int p1), .val (.int p2), .unset, .unset, .unset] [(.int (110 : Int32)), (.int (7 : Int32)), (.ref ar), (.ref ar)])) rfl rfl (hb hby at_45)
  have N9 := Fr.snoc X9 N8 nar
  have U8 : Arv Z h9 ar k1 .int (16 : Int32) [(.int (96 : Int32)), (.int (66 : Int32)), (.int (99 : Int32)), (.int (102 : Int32)), (.int (104 : Int32)), (.int (74 : Int32)), (.int (108 : Int32)), (.int (110 : Int32)), (.int (0 : Int32)), (.int (0 : Int32)), (.int (0 : Int32)), (.int (0 : Int32)), (.int (0 : Int32)), (.int (0 : Int32)), (.int (0 : Int32)), (.int (0 : Int32))] (.int (0 : Int32)) := Arv.set Ar9 qc9 Sz9 Ng9 Hs9 Ft9 rfl W9 7 rfl (by decide)
  have K8 : Keep h0 h9 [] := K7.wr W9 (Or.inr (by rw [gar]; exact Nat.le_refl _))
  obtain ⟨cl10, Ar10, qc10, Sz10, Ng10, Hs10, Ft10⟩ := U8
  obtain ⟨T10, h10, X10, e10, W10, st10⟩ := stI X9 hx hZ e9 Ar10 (j := (8 : Int32)) (inb_of Sz10 ⟨by decide, by decide⟩) (g := (mkF m 51 #[.val (.int p1), .val (.int p2), .unset, .unset, .unset] [(.int (80 : Int32)), (.int (8 : Int32)), (.ref ar), (.ref ar)])) rfl rfl (hb hby at_51)
  have N10 := Fr.snoc X10 N9 nar
  have U9 : Arv Z h10 ar k1 .int (16 : Int32) [(.int (96 : Int32)), (.int (66 : Int32)), (.int (99 : Int32)), (.int (102 : Int32)), (.int (104 : Int32)), (.int (74 : Int32)), (.int (108 : Int32)), (.int (110 : Int32)), (.int (80 : Int32)), (.int (0 : Int32)), (.int (0 : Int32)), (.int (0 : Int32)), (.int (0 : Int32)), (.int (0 : Int32)), (.int (0 : Int32)), (.int (0 : Int32))] (.int (0 : Int32)) := Arv.set Ar10 qc10 Sz10 Ng10 Hs10 Ft10 rfl W10 8 rfl (by decide)
  have K9 : Keep h0 h10 [] := K8.wr W10 (Or.inr (by rw [gar]; exact Nat.le_refl _))
  obtain ⟨cl11, Ar11, qc11, Sz11, Ng11, Hs11, Ft11⟩ := U9
  obtain ⟨T11, h11, X11, e11, W11, st11⟩ := stI X10 hx hZ e10 Ar11 (j := (9 : Int32)) (inb_of Sz11 ⟨by decide, by decide⟩) (g := (mkF m 57 #[.val (.int p1), .val (.int p2), .unset, .unset, .unset] [(.int (119 : Int32)), (.int (9 : Int32)), (.ref ar), (.ref ar)])) rfl rfl (hb hby at_57)
  have N11 := Fr.snoc X11 N10 nar
  have U10 : Arv Z h11 ar k1 .int (16 : Int32) [(.int (96 : Int32)), (.int (66 : Int32)), (.int (99 : Int32)), (.int (102 : Int32)), (.int (104 : Int32)), (.int (74 : Int32)), (.int (108 : Int32)), (.int (110 : Int32)), (.int (80 : Int32)), (.int (119 : Int32)), (.int (0 : Int32)), (.int (0 : Int32)), (.int (0 : Int32)), (.int (0 : Int32)), (.int (0 : Int32)), (.int (0 : Int32))] (.int (0 : Int32)) := Arv.set Ar11 qc11 Sz11 Ng11 Hs11 Ft11 rfl W11 9 rfl (by decide)
  have K10 : Keep h0 h11 [] := K9.wr W11 (Or.inr (by rw [gar]; exact Nat.le_refl _))
  obtain ⟨cl12, Ar12, qc12, Sz12, Ng12, Hs12, Ft12⟩ := U10
  obtain ⟨T12, h12, X12, e12, W12, st12⟩ := stI X11 hx hZ e11 Ar12 (j := (10 : Int32)) (inb_of Sz12 ⟨by decide, by decide⟩) (g := (mkF m 63 #[.val (.int p1), .val (.int p2), .unset, .unset, .unset] [(.int (97 : Int32)), (.int (10 : Int32)), (.ref ar), (.ref ar)])) rfl rfl (hb hby at_63)
  have N12 := Fr.snoc X12 N11 nar
  have U11 : Arv Z h12 ar k1 .int (16 : Int32) [(.int (96 : Int32)), (.int (66 : Int32)), (.int (99 : Int32)), (.int (102 : Int32)), (.int (104 : Int32)), (.int (74 : Int32)), (.int (108 : Int32)), (.int (110 : Int32)), (.int (80 : Int32)), (.int (119 : Int32)), (.int (97 : Int32)), (.int (0 : Int32)), (.int (0 : Int32)), (.int (0 : Int32)), (.int (0 : Int32)), (.int (0 : Int32))] (.int (0 : Int32)) := Arv.set Ar12 qc12 Sz12 Ng12 Hs12 Ft12 rfl W12 10 rfl (by decide)
  have K11 : Keep h0 h12 [] := K10.wr W12 (Or.inr (by rw [gar]; exact Nat.le_refl _))
  obtain ⟨cl13, Ar13, qc13, Sz13, Ng13, Hs13, Ft13⟩ := U11
  obtain ⟨T13, h13, X13, e13, W13, st13⟩ := stI X12 hx hZ e12 Ar13 (j := (11 : Int32)) (inb_of Sz13 ⟨by decide, by decide⟩) (g := (mkF m 69 #[.val (.int p1), .val (.int p2), .unset, .unset, .unset] [(.int (107 : Int32)), (.int (11 : Int32)), (.ref ar), (.ref ar)])) rfl rfl (hb hby at_69)
  have N13 := Fr.snoc X13 N12 nar
  have U12 : Arv Z h13 ar k1 .int (16 : Int32) [(.int (96 : Int32)), (.int (66 : Int32)), (.int (99 : Int32)), (.int (102 : Int32)), (.int (104 : Int32)), (.int (74 : Int32)), (.int (108 : Int32)), (.int (110 : Int32)), (.int (80 : Int32)), (.int (119 : Int32)), (.int (97 : Int32)), (.int (107 : Int32)), (.int (0 : Int32)), (.int (0 : Int32)), (.int (0 : Int32)), (.int (0 : Int32))] (.int (0 : Int32)) := Arv.set Ar13 qc13 Sz13 Ng13 Hs13 Ft13 rfl W13 11 rfl (by decide)
  have K12 : Keep h0 h13 [] := K11.wr W13 (Or.inr (by rw [gar]; exact Nat.le_refl _))
  obtain ⟨cl14, Ar14, qc14, Sz14, Ng14, Hs14, Ft14⟩ := U12
  obtain ⟨T14, h14, X14, e14, W14, st14⟩ := stI X13 hx hZ e13 Ar14 (j := (12 : Int32)) (inb_of Sz14 ⟨by decide, by decide⟩) (g := (mkF m 75 #[.val (.int p1), .val (.int p2), .unset, .unset, .unset] [(.int (120 : Int32)), (.int (12 : Int32)), (.ref ar), (.ref ar)])) rfl rfl (hb hby at_75)
  have N14 := Fr.snoc X14 N13 nar
  have U13 : Arv Z h14 ar k1 .int (16 : Int32) [(.int (96 : Int32)), (.int (66 : Int32)), (.int (99 : Int32)), (.int (102 : Int32)), (.int (104 : Int32)), (.int (74 : Int32)), (.int (108 : Int32)), (.int (110 : Int32)), (.int (80 : Int32)), (.int (119 : Int32)), (.int (97 : Int32)), (.int (107 : Int32)), (.int (120 : Int32)), (.int (0 : Int32)), (.int (0 : Int32)), (.int (0 : Int32))] (.int (0 : Int32)) := Arv.set Ar14 qc14 Sz14 Ng14 Hs14 Ft14 rfl W14 12 rfl (by decide)
  have K13 : Keep h0 h14 [] := K12.wr W14 (Or.inr (by rw [gar]; exact Nat.le_refl _))
  obtain ⟨cl15, Ar15, qc15, Sz15, Ng15, Hs15, Ft15⟩ := U13
  obtain ⟨T15, h15, X15, e15, W15, st15⟩ := stI X14 hx hZ e14 Ar15 (j := (13 : Int32)) (inb_of Sz15 ⟨by decide, by decide⟩) (g := (mkF m 80 #[.val (.int p1), .val (.int p2), .unset, .unset, .unset] [(.int (-1 : Int32)), (.int (13 : Int32)), (.ref ar), (.ref ar)])) rfl rfl (hb hby at_80)
  have N15 := Fr.snoc X15 N14 nar
  have U14 : Arv Z h15 ar k1 .int (16 : Int32) [(.int (96 : Int32)), (.int (66 : Int32)), (.int (99 : Int32)), (.int (102 : Int32)), (.int (104 : Int32)), (.int (74 : Int32)), (.int (108 : Int32)), (.int (110 : Int32)), (.int (80 : Int32)), (.int (119 : Int32)), (.int (97 : Int32)), (.int (107 : Int32)), (.int (120 : Int32)), (.int (-1 : Int32)), (.int (0 : Int32)), (.int (0 : Int32))] (.int (0 : Int32)) := Arv.set Ar15 qc15 Sz15 Ng15 Hs15 Ft15 rfl W15 13 rfl (by decide)
  have K14 : Keep h0 h15 [] := K13.wr W15 (Or.inr (by rw [gar]; exact Nat.le_refl _))
  obtain ⟨cl16, Ar16, qc16, Sz16, Ng16, Hs16, Ft16⟩ := U14
  obtain ⟨T16, h16, X16, e16, W16, st16⟩ := stI X15 hx hZ e15 Ar16 (j := (14 : Int32)) (inb_of Sz16 ⟨by decide, by decide⟩) (g := (mkF m 87 #[.val (.int p1), .val (.int p2), .unset, .unset, .unset] [(.int (352 : Int32)), (.int (14 : Int32)), (.ref ar), (.ref ar)])) rfl rfl (hb hby at_87)
  have N16 := Fr.snoc X16 N15 nar
  have U15 : Arv Z h16 ar k1 .int (16 : Int32) [(.int (96 : Int32)), (.int (66 : Int32)), (.int (99 : Int32)), (.int (102 : Int32)), (.int (104 : Int32)), (.int (74 : Int32)), (.int (108 : Int32)), (.int (110 : Int32)), (.int (80 : Int32)), (.int (119 : Int32)), (.int (97 : Int32)), (.int (107 : Int32)), (.int (120 : Int32)), (.int (-1 : Int32)), (.int (352 : Int32)), (.int (0 : Int32))] (.int (0 : Int32)) := Arv.set Ar16 qc16 Sz16 Ng16 Hs16 Ft16 rfl W16 14 rfl (by decide)
  have K15 : Keep h0 h16 [] := K14.wr W16 (Or.inr (by rw [gar]; exact Nat.le_refl _))
  obtain ⟨cl17, Ar17, qc17, Sz17, Ng17, Hs17, Ft17⟩ := U15
  obtain ⟨T17, h17, X17, e17, W17, st17⟩ := stI X16 hx hZ e16 Ar17 (j := (15 : Int32)) (inb_of Sz17 ⟨by decide, by decide⟩) (g := (mkF m 94 #[.val (.int p1), .val (.int p2), .unset, .unset, .unset] [(.int (-160 : Int32)), (.int (15 : Int32)), (.ref ar), (.ref ar)])) rfl rfl (hb hby at_94)
  have N17 := Fr.snoc X17 N16 nar
  have U16 : Arv Z h17 ar k1 .int (16 : Int32) [(.int (96 : Int32)), (.int (66 : Int32)), (.int (99 : Int32)), (.int (102 : Int32)), (.int (104 : Int32)), (.int (74 : Int32)), (.int (108 : Int32)), (.int (110 : Int32)), (.int (80 : Int32)), (.int (119 : Int32)), (.int (97 : Int32)), (.int (107 : Int32)), (.int (120 : Int32)), (.int (-1 : Int32)), (.int (352 : Int32)), (.int (-160 : Int32))] (.int (0 : Int32)) := Arv.set Ar17 qc17 Sz17 Ng17 Hs17 Ft17 rfl W17 15 rfl (by decide)
  have K16 : Keep h0 h17 [] := K15.wr W17 (Or.inr (by rw [gar]; exact Nat.le_refl _))
  have pre1 : ∀ t, Steps p.tables e below (T17.setTop (mkF m 96 #[.val (.int p1), .val (.int p2), .val (.ref ar), .unset, .unset] [])) t → Steps p.tables e below (s₁.setTop (mkF m 0 #[.val (.int p1), .val (.int p2), .unset, .unset, .unset] [])) t := by
    intro t kk
    show Steps p.tables e below (s₁.setTop (mkF m 0 #[.val (.int p1), .val (.int p2), .unset, .unset, .unset] [])) _
    refine XT.bipushV X0.here hx rfl (16 : Int32) (hb hby at_0) (by decide) ?_
    show Steps p.tables e below (s₁.setTop (mkF m 2 #[.val (.int p1), .val (.int p2), .unset, .unset, .unset] [(.int (16 : Int32))])) _
    refine st1 _ ?_
    show Steps p.tables e below (T1.setTop (mkF m 4 #[.val (.int p1), .val (.int p2), .unset, .unset, .unset] [(.ref ar)])) _
    refine XS.dup X1.here hx rfl (hb hby at_4) rfl rfl ?_
    show Steps p.tables e below (T1.setTop (mkF m 5 #[.val (.int p1), .val (.int p2), .unset, .unset, .unset] [(.ref ar), (.ref ar)])) _
    refine XT.iconstV X1.here hx rfl (0 : Int32) (hb hby at_5) (by decide) ?_
    show Steps p.tables e below (T1.setTop (mkF m 6 #[.val (.int p1), .val (.int p2), .unset, .unset, .unset] [(.int (0 : Int32)), (.ref ar), (.ref ar)])) _
    refine XT.bipushV X1.here hx rfl (96 : Int32) (hb hby at_6) (by decide) ?_
    show Steps p.tables e below (T1.setTop (mkF m 8 #[.val (.int p1), .val (.int p2), .unset, .unset, .unset] [(.int (96 : Int32)), (.int (0 : Int32)), (.ref ar), (.ref ar)])) _
    refine st2 _ ?_
    show Steps p.tables e below (T2.setTop (mkF m 9 #[.val (.int p1), .val (.int p2), .unset, .unset, .unset] [(.ref ar)])) _
    refine XS.dup X2.here hx rfl (hb hby at_9) rfl rfl ?_
    show Steps p.tables e below (T2.setTop (mkF m 10 #[.val (.int p1), .val (.int p2), .unset, .unset, .unset] [(.ref ar), (.ref ar)])) _
    refine XT.iconstV X2.here hx rfl (1 : Int32) (hb hby at_10) (by decide) ?_
    show Steps p.tables e below (T2.setTop (mkF m 11 #[.val (.int p1), .val (.int p2), .unset, .unset, .unset] [(.int (1 : Int32)), (.ref ar), (.ref ar)])) _
    refine XT.bipushV X2.here hx rfl (66 : Int32) (hb hby at_11) (by decide) ?_
    show Steps p.tables e below (T2.setTop (mkF m 13 #[.val (.int p1), .val (.int p2), .unset, .unset, .unset] [(.int (66 : Int32)), (.int (1 : Int32)), (.ref ar), (.ref ar)])) _
    refine st3 _ ?_
    show Steps p.tables e below (T3.setTop (mkF m 14 #[.val (.int p1), .val (.int p2), .unset, .unset, .unset] [(.ref ar)])) _
    refine XS.dup X3.here hx rfl (hb hby at_14) rfl rfl ?_
    show Steps p.tables e below (T3.setTop (mkF m 15 #[.val (.int p1), .val (.int p2), .unset, .unset, .unset] [(.ref ar), (.ref ar)])) _
    refine XT.iconstV X3.here hx rfl (2 : Int32) (hb hby at_15) (by decide) ?_
    show Steps p.tables e below (T3.setTop (mkF m 16 #[.val (.int p1), .val (.int p2), .unset, .unset, .unset] [(.int (2 : Int32)), (.ref ar), (.ref ar)])) _
    refine XT.bipushV X3.here hx rfl (99 : Int32) (hb hby at_16) (by decide) ?_
    show Steps p.tables e below (T3.setTop (mkF m 18 #[.val (.int p1), .val (.int p2), .unset, .unset, .unset] [(.int (99 : Int32)), (.int (2 : Int32)), (.ref ar), (.ref ar)])) _
    refine st4 _ ?_
    show Steps p.tables e below (T4.setTop (mkF m 19 #[.val (.int p1), .val (.int p2), .unset, .unset, .unset] [(.ref ar)])) _
    refine XS.dup X4.here hx rfl (hb hby at_19) rfl rfl ?_
    show Steps p.tables e below (T4.setTop (mkF m 20 #[.val (.int p1), .val (.int p2), .unset, .unset, .unset] [(.ref ar), (.ref ar)])) _
    refine XT.iconstV X4.here hx rfl (3 : Int32) (hb hby at_20) (by decide) ?_
    show Steps p.tables e below (T4.setTop (mkF m 21 #[.val (.int p1), .val (.int p2), .unset, .unset, .unset] [(.int (3 : Int32)), (.ref ar), (.ref ar)])) _
    refine XT.bipushV X4.here hx rfl (102 : Int32) (hb hby at_21) (by decide) ?_
    show Steps p.tables e below (T4.setTop (mkF m 23 #[.val (.int p1), .val (.int p2), .unset, .unset, .unset] [(.int (102 : Int32)), (.int (3 : Int32)), (.ref ar), (.ref ar)])) _
    refine st5 _ ?_
    show Steps p.tables e below (T5.setTop (mkF m 24 #[.val (.int p1), .val (.int p2), .unset, .unset, .unset] [(.ref ar)])) _
    refine XS.dup X5.here hx rfl (hb hby at_24) rfl rfl ?_
    show Steps p.tables e below (T5.setTop (mkF m 25 #[.val (.int p1), .val (.int p2), .unset, .unset, .unset] [(.ref ar), (.ref ar)])) _
    refine XT.iconstV X5.here hx rfl (4 : Int32) (hb hby at_25) (by decide) ?_
    show Steps p.tables e below (T5.setTop (mkF m 26 #[.val (.int p1), .val (.int p2), .unset, .unset, .unset] [(.int (4 : Int32)), (.ref ar), (.ref ar)])) _
    refine XT.bipushV X5.here hx rfl (104 : Int32) (hb hby at_26) (by decide) ?_
    show Steps p.tables e below (T5.setTop (mkF m 28 #[.val (.int p1), .val (.int p2), .unset, .unset, .unset] [(.int (104 : Int32)), (.int (4 : Int32)), (.ref ar), (.ref ar)])) _
    refine st6 _ ?_
    show Steps p.tables e below (T6.setTop (mkF m 29 #[.val (.int p1), .val (.int p2), .unset, .unset, .unset] [(.ref ar)])) _
    refine XS.dup X6.here hx rfl (hb hby at_29) rfl rfl ?_
    show Steps p.tables e below (T6.setTop (mkF m 30 #[.val (.int p1), .val (.int p2), .unset, .unset, .unset] [(.ref ar), (.ref ar)])) _
    refine XT.iconstV X6.here hx rfl (5 : Int32) (hb hby at_30) (by decide) ?_
    show Steps p.tables e below (T6.setTop (mkF m 31 #[.val (.int p1), .val (.int p2), .unset, .unset, .unset] [(.int (5 : Int32)), (.ref ar), (.ref ar)])) _
    refine XT.bipushV X6.here hx rfl (74 : Int32) (hb hby at_31) (by decide) ?_
    show Steps p.tables e below (T6.setTop (mkF m 33 #[.val (.int p1), .val (.int p2), .unset, .unset, .unset] [(.int (74 : Int32)), (.int (5 : Int32)), (.ref ar), (.ref ar)])) _
    refine st7 _ ?_
    show Steps p.tables e below (T7.setTop (mkF m 34 #[.val (.int p1), .val (.int p2), .unset, .unset, .unset] [(.ref ar)])) _
    refine XS.dup X7.here hx rfl (hb hby at_34) rfl rfl ?_
    show Steps p.tables e below (T7.setTop (mkF m 35 #[.val (.int p1), .val (.int p2), .unset, .unset, .unset] [(.ref ar), (.ref ar)])) _
    refine XT.bipushV X7.here hx rfl (6 : Int32) (hb hby at_35) (by decide) ?_
    show Steps p.tables e below (T7.setTop (mkF m 37 #[.val (.int p1), .val (.int p2), .unset, .unset, .unset] [(.int (6 : Int32)), (.ref ar), (.ref ar)])) _
    refine XT.bipushV X7.here hx rfl (108 : Int32) (hb hby at_37) (by decide) ?_
    show Steps p.tables e below (T7.setTop (mkF m 39 #[.val (.int p1), .val (.int p2), .unset, .unset, .unset] [(.int (108 : Int32)), (.int (6 : Int32)), (.ref ar), (.ref ar)])) _
    refine st8 _ ?_
    show Steps p.tables e below (T8.setTop (mkF m 40 #[.val (.int p1), .val (.int p2), .unset, .unset, .unset] [(.ref ar)])) _
    refine XS.dup X8.here hx rfl (hb hby at_40) rfl rfl ?_
    show Steps p.tables e below (T8.setTop (mkF m 41 #[.val (.int p1), .val (.int p2), .unset, .unset, .unset] [(.ref ar), (.ref ar)])) _
    refine XT.bipushV X8.here hx rfl (7 : Int32) (hb hby at_41) (by decide) ?_
    show Steps p.tables e below (T8.setTop (mkF m 43 #[.val (.int p1), .val (.int p2), .unset, .unset, .unset] [(.int (7 : Int32)), (.ref ar), (.ref ar)])) _
    refine XT.bipushV X8.here hx rfl (110 : Int32) (hb hby at_43) (by decide) ?_
    show Steps p.tables e below (T8.setTop (mkF m 45 #[.val (.int p1), .val (.int p2), .unset, .unset, .unset] [(.int (110 : Int32)), (.int (7 : Int32)), (.ref ar), (.ref ar)])) _
    refine st9 _ ?_
    show Steps p.tables e below (T9.setTop (mkF m 46 #[.val (.int p1), .val (.int p2), .unset, .unset, .unset] [(.ref ar)])) _
    refine XS.dup X9.here hx rfl (hb hby at_46) rfl rfl ?_
    show Steps p.tables e below (T9.setTop (mkF m 47 #[.val (.int p1), .val (.int p2), .unset, .unset, .unset] [(.ref ar), (.ref ar)])) _
    refine XT.bipushV X9.here hx rfl (8 : Int32) (hb hby at_47) (by decide) ?_
    show Steps p.tables e below (T9.setTop (mkF m 49 #[.val (.int p1), .val (.int p2), .unset, .unset, .unset] [(.int (8 : Int32)), (.ref ar), (.ref ar)])) _
    refine XT.bipushV X9.here hx rfl (80 : Int32) (hb hby at_49) (by decide) ?_
    show Steps p.tables e below (T9.setTop (mkF m 51 #[.val (.int p1), .val (.int p2), .unset, .unset, .unset] [(.int (80 : Int32)), (.int (8 : Int32)), (.ref ar), (.ref ar)])) _
    refine st10 _ ?_
    show Steps p.tables e below (T10.setTop (mkF m 52 #[.val (.int p1), .val (.int p2), .unset, .unset, .unset] [(.ref ar)])) _
    refine XS.dup X10.here hx rfl (hb hby at_52) rfl rfl ?_
    show Steps p.tables e below (T10.setTop (mkF m 53 #[.val (.int p1), .val (.int p2), .unset, .unset, .unset] [(.ref ar), (.ref ar)])) _
    refine XT.bipushV X10.here hx rfl (9 : Int32) (hb hby at_53) (by decide) ?_
    show Steps p.tables e below (T10.setTop (mkF m 55 #[.val (.int p1), .val (.int p2), .unset, .unset, .unset] [(.int (9 : Int32)), (.ref ar), (.ref ar)])) _
    refine XT.bipushV X10.here hx rfl (119 : Int32) (hb hby at_55) (by decide) ?_
    show Steps p.tables e below (T10.setTop (mkF m 57 #[.val (.int p1), .val (.int p2), .unset, .unset, .unset] [(.int (119 : Int32)), (.int (9 : Int32)), (.ref ar), (.ref ar)])) _
    refine st11 _ ?_
    show Steps p.tables e below (T11.setTop (mkF m 58 #[.val (.int p1), .val (.int p2), .unset, .unset, .unset] [(.ref ar)])) _
    refine XS.dup X11.here hx rfl (hb hby at_58) rfl rfl ?_
    show Steps p.tables e below (T11.setTop (mkF m 59 #[.val (.int p1), .val (.int p2), .unset, .unset, .unset] [(.ref ar), (.ref ar)])) _
    refine XT.bipushV X11.here hx rfl (10 : Int32) (hb hby at_59) (by decide) ?_
    show Steps p.tables e below (T11.setTop (mkF m 61 #[.val (.int p1), .val (.int p2), .unset, .unset, .unset] [(.int (10 : Int32)), (.ref ar), (.ref ar)])) _
    refine XT.bipushV X11.here hx rfl (97 : Int32) (hb hby at_61) (by decide) ?_
    show Steps p.tables e below (T11.setTop (mkF m 63 #[.val (.int p1), .val (.int p2), .unset, .unset, .unset] [(.int (97 : Int32)), (.int (10 : Int32)), (.ref ar), (.ref ar)])) _
    refine st12 _ ?_
    show Steps p.tables e below (T12.setTop (mkF m 64 #[.val (.int p1), .val (.int p2), .unset, .unset, .unset] [(.ref ar)])) _
    refine XS.dup X12.here hx rfl (hb hby at_64) rfl rfl ?_
    show Steps p.tables e below (T12.setTop (mkF m 65 #[.val (.int p1), .val (.int p2), .unset, .unset, .unset] [(.ref ar), (.ref ar)])) _
    refine XT.bipushV X12.here hx rfl (11 : Int32) (hb hby at_65) (by decide) ?_
    show Steps p.tables e below (T12.setTop (mkF m 67 #[.val (.int p1), .val (.int p2), .unset, .unset, .unset] [(.int (11 : Int32)), (.ref ar), (.ref ar)])) _
    refine XT.bipushV X12.here hx rfl (107 : Int32) (hb hby at_67) (by decide) ?_
    show Steps p.tables e below (T12.setTop (mkF m 69 #[.val (.int p1), .val (.int p2), .unset, .unset, .unset] [(.int (107 : Int32)), (.int (11 : Int32)), (.ref ar), (.ref ar)])) _
    refine st13 _ ?_
    show Steps p.tables e below (T13.setTop (mkF m 70 #[.val (.int p1), .val (.int p2), .unset, .unset, .unset] [(.ref ar)])) _
    refine XS.dup X13.here hx rfl (hb hby at_70) rfl rfl ?_
    show Steps p.tables e below (T13.setTop (mkF m 71 #[.val (.int p1), .val (.int p2), .unset, .unset, .unset] [(.ref ar), (.ref ar)])) _
    refine XT.bipushV X13.here hx rfl (12 : Int32) (hb hby at_71) (by decide) ?_
    show Steps p.tables e below (T13.setTop (mkF m 73 #[.val (.int p1), .val (.int p2), .unset, .unset, .unset] [(.int (12 : Int32)), (.ref ar), (.ref ar)])) _
    refine XT.bipushV X13.here hx rfl (120 : Int32) (hb hby at_73) (by decide) ?_
    show Steps p.tables e below (T13.setTop (mkF m 75 #[.val (.int p1), .val (.int p2), .unset, .unset, .unset] [(.int (120 : Int32)), (.int (12 : Int32)), (.ref ar), (.ref ar)])) _
    refine st14 _ ?_
    show Steps p.tables e below (T14.setTop (mkF m 76 #[.val (.int p1), .val (.int p2), .unset, .unset, .unset] [(.ref ar)])) _
    refine XS.dup X14.here hx rfl (hb hby at_76) rfl rfl ?_
    show Steps p.tables e below (T14.setTop (mkF m 77 #[.val (.int p1), .val (.int p2), .unset, .unset, .unset] [(.ref ar), (.ref ar)])) _
    refine XT.bipushV X14.here hx rfl (13 : Int32) (hb hby at_77) (by decide) ?_
    show Steps p.tables e below (T14.setTop (mkF m 79 #[.val (.int p1), .val (.int p2), .unset, .unset, .unset] [(.int (13 : Int32)), (.ref ar), (.ref ar)])) _
    refine XT.iconstV X14.here hx rfl (-1 : Int32) (hb hby at_79) (by decide) ?_
    show Steps p.tables e below (T14.setTop (mkF m 80 #[.val (.int p1), .val (.int p2), .unset, .unset, .unset] [(.int (-1 : Int32)), (.int (13 : Int32)), (.ref ar), (.ref ar)])) _
    refine st15 _ ?_
    show Steps p.tables e below (T15.setTop (mkF m 81 #[.val (.int p1), .val (.int p2), .unset, .unset, .unset] [(.ref ar)])) _
    refine XS.dup X15.here hx rfl (hb hby at_81) rfl rfl ?_
    show Steps p.tables e below (T15.setTop (mkF m 82 #[.val (.int p1), .val (.int p2), .unset, .unset, .unset] [(.ref ar), (.ref ar)])) _
    refine XT.bipushV X15.here hx rfl (14 : Int32) (hb hby at_82) (by decide) ?_
    show Steps p.tables e below (T15.setTop (mkF m 84 #[.val (.int p1), .val (.int p2), .unset, .unset, .unset] [(.int (14 : Int32)), (.ref ar), (.ref ar)])) _
    refine XT.sipushV X15.here hx rfl (352 : Int32) (hb hby at_84) (by decide) ?_
    show Steps p.tables e below (T15.setTop (mkF m 87 #[.val (.int p1), .val (.int p2), .unset, .unset, .unset] [(.int (352 : Int32)), (.int (14 : Int32)), (.ref ar), (.ref ar)])) _
    refine st16 _ ?_
    show Steps p.tables e below (T16.setTop (mkF m 88 #[.val (.int p1), .val (.int p2), .unset, .unset, .unset] [(.ref ar)])) _
    refine XS.dup X16.here hx rfl (hb hby at_88) rfl rfl ?_
    show Steps p.tables e below (T16.setTop (mkF m 89 #[.val (.int p1), .val (.int p2), .unset, .unset, .unset] [(.ref ar), (.ref ar)])) _
    refine XT.bipushV X16.here hx rfl (15 : Int32) (hb hby at_89) (by decide) ?_
    show Steps p.tables e below (T16.setTop (mkF m 91 #[.val (.int p1), .val (.int p2), .unset, .unset, .unset] [(.int (15 : Int32)), (.ref ar), (.ref ar)])) _
    refine XT.sipushV X16.here hx rfl (-160 : Int32) (hb hby at_91) (by decide) ?_
    show Steps p.tables e below (T16.setTop (mkF m 94 #[.val (.int p1), .val (.int p2), .unset, .unset, .unset] [(.int (-160 : Int32)), (.int (15 : Int32)), (.ref ar), (.ref ar)])) _
    refine st17 _ ?_
    show Steps p.tables e below (T17.setTop (mkF m 95 #[.val (.int p1), .val (.int p2), .unset, .unset, .unset] [(.ref ar)])) _
    refine XS.astoreN X17.here hx rfl (hb hby at_95) rfl rfl (l' := #[.val (.int p1), .val (.int p2), .val (.ref ar), .unset, .unset]) rfl ?_
    show Steps p.tables e below (T17.setTop (mkF m 96 #[.val (.int p1), .val (.int p2), .val (.ref ar), .unset, .unset] [])) _
    exact kk
  obtain ⟨clF, ArF, -, SzF, NgF, HsF, FtF⟩ := U16
  have hand : 0 ≤ (p2 &&& (15 : Int32)).toInt ∧ (p2 &&& (15 : Int32)).toInt ≤ 15 := c_and p2 15 (by decide)
  have hinF : ¬ (p2 &&& (15 : Int32) < 0 ∨ clF.slots.size ≤ (p2 &&& (15 : Int32)).toNatClampNeg) := inb_of SzF ⟨fun q => by rw [Int32.lt_iff_toInt_lt] at q; have : (0 : Int32).toInt = 0 := rfl; omega, by rw [Int32.lt_iff_toInt_lt]; have : (16 : Int32).toInt = 16 := rfl; omega⟩
  obtain ⟨tgx, htg⟩ : ∃ tgx : Int32, clF.slots[(p2 &&& (15 : Int32)).toNatClampNeg]? = some (.int tgx) := by
    have hlt : (p2 &&& (15 : Int32)).toNatClampNeg < clF.slots.size := Nat.lt_of_not_le fun y => hinF (Or.inr y)
    obtain ⟨z, hz⟩ := fit_I (FtF _ hlt) (Or.inl rfl)
    exact ⟨z, by rw [HsF _ hlt, hz]⟩
  obtain ⟨tg, pre2⟩ : ∃ tg : Int32, ∀ t, Steps p.tables e below (T17.setTop (mkF m 114 #[.val (.int p1), .val (.int p2), .val (.ref ar), .val (.int tg), .unset] [])) t → Steps p.tables e below (s₁.setTop (mkF m 0 #[.val (.int p1), .val (.int p2), .unset, .unset, .unset] [])) t := by
    rcases and_one p1 with hb0 | hb0
    · refine ⟨tgx, fun t kk => pre1 t ?_⟩
      show Steps p.tables e below (T17.setTop (mkF m 96 #[.val (.int p1), .val (.int p2), .val (.ref ar), .unset, .unset] [])) _
      refine XS.iloadN X17.here hx rfl (hb hby at_96) rfl ?_
      show Steps p.tables e below (T17.setTop (mkF m 97 #[.val (.int p1), .val (.int p2), .val (.ref ar), .unset, .unset] [(.int p1)])) _
      refine XT.iconstV X17.here hx rfl (1 : Int32) (hb hby at_97) (by decide) ?_
      show Steps p.tables e below (T17.setTop (mkF m 98 #[.val (.int p1), .val (.int p2), .val (.ref ar), .unset, .unset] [(.int (1 : Int32)), (.int p1)])) _
      refine XS.iand X17.here hx rfl (hb hby at_98) rfl ?_
      show Steps p.tables e below (T17.setTop (mkF m 99 #[.val (.int p1), .val (.int p2), .val (.ref ar), .unset, .unset] [(.int (p1 &&& (1 : Int32)))])) _
      rw [hb0]
      show Steps p.tables e below (T17.setTop (mkF m 99 #[.val (.int p1), .val (.int p2), .val (.ref ar), .unset, .unset] [(.int (0 : Int32))])) _
      refine XS.ifYes X17.here hx rfl (pc0 := 99) (pc' := 107) rfl (hb hby at_99) rfl (by decide) (by decide) (by decide) ?_
      show Steps p.tables e below (T17.setTop (mkF m 107 #[.val (.int p1), .val (.int p2), .val (.ref ar), .unset, .unset] [])) _
      refine XS.aloadN X17.here hx rfl (hb hby at_107) rfl rfl ?_
      show Steps p.tables e below (T17.setTop (mkF m 108 #[.val (.int p1), .val (.int p2), .val (.ref ar), .unset, .unset] [(.ref ar)])) _
      refine XS.iloadN X17.here hx rfl (hb hby at_108) rfl ?_
      show Steps p.tables e below (T17.setTop (mkF m 109 #[.val (.int p1), .val (.int p2), .val (.ref ar), .unset, .unset] [(.int p2), (.ref ar)])) _
      refine XT.bipushV X17.here hx rfl (15 : Int32) (hb hby at_109) (by decide) ?_
      show Steps p.tables e below (T17.setTop (mkF m 111 #[.val (.int p1), .val (.int p2), .val (.ref ar), .unset, .unset] [(.int (15 : Int32)), (.int p2), (.ref ar)])) _
      refine XS.iand X17.here hx rfl (hb hby at_111) rfl ?_
      show Steps p.tables e below (T17.setTop (mkF m 112 #[.val (.int p1), .val (.int p2), .val (.ref ar), .unset, .unset] [(.int (p2 &&& (15 : Int32))), (.ref ar)])) _
      refine X17.iaload hx (j := (p2 &&& (15 : Int32))) (v := .int tgx) (by rw [e17]; exact ArF.1) (State.isArrayOf_alike hZ.alike ArF.2.1) ArF.2.2 hinF htg (g := (mkF m 112 #[.val (.int p1), .val (.int p2), .val (.ref ar), .unset, .unset] [(.int (p2 &&& (15 : Int32))), (.ref ar)])) rfl rfl (hb hby at_112) _ ?_
      show Steps p.tables e below (T17.setTop (mkF m 113 #[.val (.int p1), .val (.int p2), .val (.ref ar), .unset, .unset] [(.int tgx)])) _
      refine XS.istoreN X17.here hx rfl (hb hby at_113) rfl (l' := #[.val (.int p1), .val (.int p2), .val (.ref ar), .val (.int tgx), .unset]) rfl ?_
      show Steps p.tables e below (T17.setTop (mkF m 114 #[.val (.int p1), .val (.int p2), .val (.ref ar), .val (.int tgx), .unset] [])) _
      exact kk
    · refine ⟨p2, fun t kk => pre1 t ?_⟩
      show Steps p.tables e below (T17.setTop (mkF m 96 #[.val (.int p1), .val (.int p2), .val (.ref ar), .unset, .unset] [])) _
      refine XS.iloadN X17.here hx rfl (hb hby at_96) rfl ?_
      show Steps p.tables e below (T17.setTop (mkF m 97 #[.val (.int p1), .val (.int p2), .val (.ref ar), .unset, .unset] [(.int p1)])) _
      refine XT.iconstV X17.here hx rfl (1 : Int32) (hb hby at_97) (by decide) ?_
      show Steps p.tables e below (T17.setTop (mkF m 98 #[.val (.int p1), .val (.int p2), .val (.ref ar), .unset, .unset] [(.int (1 : Int32)), (.int p1)])) _
      refine XS.iand X17.here hx rfl (hb hby at_98) rfl ?_
      show Steps p.tables e below (T17.setTop (mkF m 99 #[.val (.int p1), .val (.int p2), .val (.ref ar), .unset, .unset] [(.int (p1 &&& (1 : Int32)))])) _
      rw [hb0]
      show Steps p.tables e below (T17.setTop (mkF m 99 #[.val (.int p1), .val (.int p2), .val (.ref ar), .unset, .unset] [(.int (1 : Int32))])) _
      refine XS.ifNo X17.here hx rfl (hb hby at_99) rfl (by decide) ?_
      show Steps p.tables e below (T17.setTop (mkF m 102 #[.val (.int p1), .val (.int p2), .val (.ref ar), .unset, .unset] [])) _
      refine XS.iloadN X17.here hx rfl (hb hby at_102) rfl ?_
      show Steps p.tables e below (T17.setTop (mkF m 103 #[.val (.int p1), .val (.int p2), .val (.ref ar), .unset, .unset] [(.int p2)])) _
      refine XS.istoreN X17.here hx rfl (hb hby at_103) rfl (l' := #[.val (.int p1), .val (.int p2), .val (.ref ar), .val (.int p2), .unset]) rfl ?_
      show Steps p.tables e below (T17.setTop (mkF m 104 #[.val (.int p1), .val (.int p2), .val (.ref ar), .val (.int p2), .unset] [])) _
      refine XS.goto X17.here hx rfl (pc0 := 104) (pc' := 114) rfl (hb hby at_104) (by decide) (by decide) ?_
      show Steps p.tables e below (T17.setTop (mkF m 114 #[.val (.int p1), .val (.int p2), .val (.ref ar), .val (.int p2), .unset] [])) _
      exact kk
  have ZF : n0 ≤ h17.size := Nat.le_trans Z0 K16.1
  have Gb0 := Fb0.keep K16 nin0
  have Tb0 : Sta Z h17 "com/example/keyward/keyward/LdapOperation" "BIND" "Lcom/example/keyward/keyward/LdapOperation;" (.ref b0) := own_sta_keep Sb0 K16
  have Gb1 := Fb1.keep K16 nin0
  have Tb1 : Sta Z h17 "com/example/keyward/keyward/LdapOperation" "UNBIND" "Lcom/example/keyward/keyward/LdapOperation;" (.ref b1) := own_sta_keep Sb1 K16
  have Gb2 := Fb2.keep K16 nin0
  have Tb2 : Sta Z h17 "com/example/keyward/keyward/LdapOperation" "SEARCH" "Lcom/example/keyward/keyward/LdapOperation;" (.ref b2) := own_sta_keep Sb2 K16
  have Gb3 := Fb3.keep K16 nin0
  have Tb3 : Sta Z h17 "com/example/keyward/keyward/LdapOperation" "MODIFY" "Lcom/example/keyward/keyward/LdapOperation;" (.ref b3) := own_sta_keep Sb3 K16
  have Gb4 := Fb4.keep K16 nin0
  have Tb4 : Sta Z h17 "com/example/keyward/keyward/LdapOperation" "ADD" "Lcom/example/keyward/keyward/LdapOperation;" (.ref b4) := own_sta_keep Sb4 K16
  have Gb5 := Fb5.keep K16 nin0
  have Tb5 : Sta Z h17 "com/example/keyward/keyward/LdapOperation" "DELETE" "Lcom/example/keyward/keyward/LdapOperation;" (.ref b5) := own_sta_keep Sb5 K16
  have Gb6 := Fb6.keep K16 nin0
  have Tb6 : Sta Z h17 "com/example/keyward/keyward/LdapOperation" "MODIFY_DN" "Lcom/example/keyward/keyward/LdapOperation;" (.ref b6) := own_sta_keep Sb6 K16
  have Gb7 := Fb7.keep K16 nin0
  have Tb7 : Sta Z h17 "com/example/keyward/keyward/LdapOperation" "COMPARE" "Lcom/example/keyward/keyward/LdapOperation;" (.ref b7) := own_sta_keep Sb7 K16
  have Gb8 := Fb8.keep K16 nin0
  have Tb8 : Sta Z h17 "com/example/keyward/keyward/LdapOperation" "ABANDON" "Lcom/example/keyward/keyward/LdapOperation;" (.ref b8) := own_sta_keep Sb8 K16
  have Gb9 := Fb9.keep K16 nin0
  have Tb9 : Sta Z h17 "com/example/keyward/keyward/LdapOperation" "EXTENDED" "Lcom/example/keyward/keyward/LdapOperation;" (.ref b9) := own_sta_keep Sb9 K16
  have TaV : Sta Z h17 "com/example/keyward/keyward/LdapOperation" "$VALUES" "[Lcom/example/keyward/keyward/LdapOperation;" (.ref aV) := own_sta_keep SaV K16
  have WaV := VaV.keep K16 nin0
  have GaV := EaV.keep K16
  rcases own_tags tg with rfl | rfl | rfl | rfl | rfl | rfl | rfl | rfl | rfl | rfl | ⟨q0, q1, q2, q3, q4, q5, q6, q7, q8, q9⟩
  · obtain ⟨_, _, ⟨T201, L201, k201, n201⟩, -, X201, ⟨Lc201, hQ201, l201, y201, z201⟩, st201⟩ := Jvm.LawKit.callS X17 hx (y := (⟨"com/example/keyward/keyward/LdapOperation", "forRequestTag", "(I)Lcom/example/keyward/keyward/LdapOperation;"⟩ : MethodName)) hown (mvT hZ (hw _ (List.mem_of_getElem? (i := 1) rfl))) (mvT hZ (hw _ (List.mem_of_getElem? (i := 2) rfl))) (mvT hZ (hw _ (List.mem_of_getElem? (i := 3) rfl))) (mvT hZ (hw _ (List.mem_of_getElem? (i := 4) rfl))) (by decide) (backOf (W := 0) (find_0 l Z a0 hw [] aV kV b0 b1 b2 b3 b4 b5 b6 b7 b8 b9 h17 n0 ZF TaV WaV GaV Gb0 Gb1 Gb2 Gb3 Gb4 Gb5 Gb6 Gb7 Gb8 Gb9 ) hZ (hw _ (List.mem_of_getElem? (i := 4) rfl)) (hw _ (List.mem_of_getElem? (i := 3) rfl)) (by decide) (by decide)) (g := (mkF m 115 #[.val (.int p1), .val (.int p2), .val (.ref ar), .val (.int (96 : Int32)), .unset] [(.int (96 : Int32))])) rfl (by rw [hml]; rfl) (argsL := [(.int (96 : Int32))]) (rest := []) (lenOf pd_86 rfl) rfl (by show 2 * 0 + _ ≤ _; exact Nat.le_of_eq rfl) (hb hby at_115) (fun _ _ => ⟨rfl, e17, (by decide : 1 + 1 ≤ _), (by decide : 16 + 10 ≤ _)⟩)
    dsimp only [Pt.U, Pt.locs, Pt.cells, Pt.slots] at X201 l201 y201 z201 st201 hQ201
    subst l201 y201 z201
    obtain ⟨rfl, N201q, Ex201⟩ := hQ201
    have N201 := Fr.app N17 N201q
    have ZG : n0 ≤ T201.heap.size := Nat.le_trans ZF Ex201.1
    obtain ⟨_, _, ⟨T202, L202, k202, n202⟩, -, X202, ⟨Lc202, hQ202, l202, y202, z202⟩, st202⟩ := Jvm.LawKit.callS X201 hx (y := (⟨"com/example/keyward/keyward/LdapOperationForRequestTagPinLaw", "expected", "(I)Lcom/example/keyward/keyward/LdapOperation;"⟩ : MethodName)) hown (mvT hZ (hw _ (List.mem_of_getElem? (i := 32) rfl))) (mvT hZ (hw _ (List.mem_of_getElem? (i := 33) rfl))) (mvT hZ (hw _ (List.mem_of_getElem? (i := 34) rfl))) (mvT hZ (hw _ (List.mem_of_getElem? (i := 35) rfl))) (by decide) (backOf (W := 1) (exp_0 l Z a0 hw [] b0 T201.heap n0 ZG (Tb0.ext Ex201)) hZ (hw _ (List.mem_of_getElem? (i := 35) rfl)) (hw _ (List.mem_of_getElem? (i := 34) rfl)) (by decide) (by decide)) (g := (mkF m 123 #[.val (.int p1), .val (.int p2), .val (.ref ar), .val (.int (96 : Int32)), .val (.ref b0)] [(.int (96 : Int32)), (.ref b0)])) rfl (by rw [hml]; rfl) (argsL := [(.int (96 : Int32))]) (rest := [(.ref b0)]) (lenOf pd_86 rfl) rfl (by show 2 * 0 + _ ≤ _; exact Nat.le_of_eq rfl) (hb hby at_123) (fun _ _ => ⟨rfl, rfl, (by decide : 2 + 0 ≤ _), (by decide : 26 + 0 ≤ _)⟩)
    dsimp only [Pt.U, Pt.locs, Pt.cells, Pt.slots] at X202 l202 y202 z202 st202 hQ202
    subst l202 y202 z202
    obtain ⟨rfl, N202q, e202⟩ := hQ202
    have N202 := Fr.app N201 N202q
    obtain ⟨fs, hr, hrun, hended, hW, hsame⟩ := X202.leave (v := some (.int (1 : Int32))) (fun h => by rw [Bd.returns] at h; cases h)
    refine ⟨_, _, pre0 _ (pre2 _ ?_), hrun, hended, _, _, rfl, ?_, ⟨_, rfl⟩, hW, hsame.mono (by decide) (by decide)⟩
    · show Steps p.tables e below (T17.setTop (mkF m 114 #[.val (.int p1), .val (.int p2), .val (.ref ar), .val (.int (96 : Int32)), .unset] [])) _
      refine XS.iloadN X17.here hx rfl (hb hby at_114) rfl ?_
      show Steps p.tables e below (T17.setTop (mkF m 115 #[.val (.int p1), .val (.int p2), .val (.ref ar), .val (.int (96 : Int32)), .unset] [(.int (96 : Int32))])) _
      refine st201 _ ?_
      show Steps p.tables e below (T201.setTop (mkF m 118 #[.val (.int p1), .val (.int p2), .val (.ref ar), .val (.int (96 : Int32)), .unset] [(.ref b0)])) _
      refine XS.astore X201.here hx rfl (hb hby at_118) rfl rfl (l' := #[.val (.int p1), .val (.int p2), .val (.ref ar), .val (.int (96 : Int32)), .val (.ref b0)]) rfl ?_
      show Steps p.tables e below (T201.setTop (mkF m 120 #[.val (.int p1), .val (.int p2), .val (.ref ar), .val (.int (96 : Int32)), .val (.ref b0)] [])) _
      refine XS.aload X201.here hx rfl (hb hby at_120) rfl rfl ?_
      show Steps p.tables e below (T201.setTop (mkF m 122 #[.val (.int p1), .val (.int p2), .val (.ref ar), .val (.int (96 : Int32)), .val (.ref b0)] [(.ref b0)])) _
      refine XS.iloadN X201.here hx rfl (hb hby at_122) rfl ?_
      show Steps p.tables e below (T201.setTop (mkF m 123 #[.val (.int p1), .val (.int p2), .val (.ref ar), .val (.int (96 : Int32)), .val (.ref b0)] [(.int (96 : Int32)), (.ref b0)])) _
      refine st202 _ ?_
      show Steps p.tables e below (T202.setTop (mkF m 126 #[.val (.int p1), .val (.int p2), .val (.ref ar), .val (.int (96 : Int32)), .val (.ref b0)] [(.ref b0), (.ref b0)])) _
      refine acmp X202 hx rfl rfl rfl (pc0 := 126) (pc' := 129) (same := true) rfl (hb hby at_126) rfl (decide_eq_true rfl) (by decide) (by decide) ?_
      show Steps p.tables e below (T202.setTop (mkF m 129 #[.val (.int p1), .val (.int p2), .val (.ref ar), .val (.int (96 : Int32)), .val (.ref b0)] [])) _
      refine XT.iconstV X202.here hx rfl (1 : Int32) (hb hby at_129) (by decide) ?_
      show Steps p.tables e below (T202.setTop (mkF m 130 #[.val (.int p1), .val (.int p2), .val (.ref ar), .val (.int (96 : Int32)), .val (.ref b0)] [(.int (1 : Int32))])) _
      refine XS.goto X202.here hx rfl (pc0 := 130) (pc' := 134) rfl (hb hby at_130) (by decide) (by decide) ?_
      show Steps p.tables e below (T202.setTop (mkF m 134 #[.val (.int p1), .val (.int p2), .val (.ref ar), .val (.int (96 : Int32)), .val (.ref b0)] [(.int (1 : Int32))])) _
      exact retN X202 hx (t := .boolean) Bd.returns (by simp) (hb hby at_134) hr
    · exact ⟨rfl, N202, trivial⟩
  · obtain ⟨_, _, ⟨T201, L201, k201, n201⟩, -, X201, ⟨Lc201, hQ201, l201, y201, z201⟩, st201⟩ := Jvm.LawKit.callS X17 hx (y := (⟨"com/example/keyward/keyward/LdapOperation", "forRequestTag", "(I)Lcom/example/keyward/keyward/LdapOperation;"⟩ : MethodName)) hown (mvT hZ (hw _ (List.mem_of_getElem? (i := 1) rfl))) (mvT hZ (hw _ (List.mem_of_getElem? (i := 2) rfl))) (mvT hZ (hw _ (List.mem_of_getElem? (i := 3) rfl))) (mvT hZ (hw _ (List.mem_of_getElem? (i := 4) rfl))) (by decide) (backOf (W := 0) (find_1 l Z a0 hw [] aV kV b0 b1 b2 b3 b4 b5 b6 b7 b8 b9 h17 n0 ZF TaV WaV GaV Gb0 Gb1 Gb2 Gb3 Gb4 Gb5 Gb6 Gb7 Gb8 Gb9 ) hZ (hw _ (List.mem_of_getElem? (i := 4) rfl)) (hw _ (List.mem_of_getElem? (i := 3) rfl)) (by decide) (by decide)) (g := (mkF m 115 #[.val (.int p1), .val (.int p2), .val (.ref ar), .val (.int (66 : Int32)), .unset] [(.int (66 : Int32))])) rfl (by rw [hml]; rfl) (argsL := [(.int (66 : Int32))]) (rest := []) (lenOf pd_86 rfl) rfl (by show 2 * 0 + _ ≤ _; exact Nat.le_of_eq rfl) (hb hby at_115) (fun _ _ => ⟨rfl, e17, (by decide : 1 + 1 ≤ _), (by decide : 16 + 10 ≤ _)⟩)
    dsimp only [Pt.U, Pt.locs, Pt.cells, Pt.slots] at X201 l201 y201 z201 st201 hQ201
    subst l201 y201 z201
    obtain ⟨rfl, N201q, Ex201⟩ := hQ201
    have N201 := Fr.app N17 N201q
    have ZG : n0 ≤ T201.heap.size := Nat.le_trans ZF Ex201.1
    obtain ⟨_, _, ⟨T202, L202, k202, n202⟩, -, X202, ⟨Lc202, hQ202, l202, y202, z202⟩, st202⟩ := Jvm.LawKit.callS X201 hx (y := (⟨"com/example/keyward/keyward/LdapOperationForRequestTagPinLaw", "expected", "(I)Lcom/example/keyward/keyward/LdapOperation;"⟩ : MethodName)) hown (mvT hZ (hw _ (List.mem_of_getElem? (i := 32) rfl))) (mvT hZ (hw _ (List.mem_of_getElem? (i := 33) rfl))) (mvT hZ (hw _ (List.mem_of_getElem? (i := 34) rfl))) (mvT hZ (hw _ (List.mem_of_getElem? (i := 35) rfl))) (by decide) (backOf (W := 1) (exp_1 l Z a0 hw [] b1 T201.heap n0 ZG (Tb1.ext Ex201)) hZ (hw _ (List.mem_of_getElem? (i := 35) rfl)) (hw _ (List.mem_of_getElem? (i := 34) rfl)) (by decide) (by decide)) (g := (mkF m 123 #[.val (.int p1), .val (.int p2), .val (.ref ar), .val (.int (66 : Int32)), .val (.ref b1)] [(.int (66 : Int32)), (.ref b1)])) rfl (by rw [hml]; rfl) (argsL := [(.int (66 : Int32))]) (rest := [(.ref b1)]) (lenOf pd_86 rfl) rfl (by show 2 * 0 + _ ≤ _; exact Nat.le_of_eq rfl) (hb hby at_123) (fun _ _ => ⟨rfl, rfl, (by decide : 2 + 0 ≤ _), (by decide : 26 + 0 ≤ _)⟩)
    dsimp only [Pt.U, Pt.locs, Pt.cells, Pt.slots] at X202 l202 y202 z202 st202 hQ202
    subst l202 y202 z202
    obtain ⟨rfl, N202q, e202⟩ := hQ202
    have N202 := Fr.app N201 N202q
    obtain ⟨fs, hr, hrun, hended, hW, hsame⟩ := X202.leave (v := some (.int (1 : Int32))) (fun h => by rw [Bd.returns] at h; cases h)
    refine ⟨_, _, pre0 _ (pre2 _ ?_), hrun, hended, _, _, rfl, ?_, ⟨_, rfl⟩, hW, hsame.mono (by decide) (by decide)⟩
    · show Steps p.tables e below (T17.setTop (mkF m 114 #[.val (.int p1), .val (.int p2), .val (.ref ar), .val (.int (66 : Int32)), .unset] [])) _
      refine XS.iloadN X17.here hx rfl (hb hby at_114) rfl ?_
      show Steps p.tables e below (T17.setTop (mkF m 115 #[.val (.int p1), .val (.int p2), .val (.ref ar), .val (.int (66 : Int32)), .unset] [(.int (66 : Int32))])) _
      refine st201 _ ?_
      show Steps p.tables e below (T201.setTop (mkF m 118 #[.val (.int p1), .val (.int p2), .val (.ref ar), .val (.int (66 : Int32)), .unset] [(.ref b1)])) _
      refine XS.astore X201.here hx rfl (hb hby at_118) rfl rfl (l' := #[.val (.int p1), .val (.int p2), .val (.ref ar), .val (.int (66 : Int32)), .val (.ref b1)]) rfl ?_
      show Steps p.tables e below (T201.setTop (mkF m 120 #[.val (.int p1), .val (.int p2), .val (.ref ar), .val (.int (66 : Int32)), .val (.ref b1)] [])) _
      refine XS.aload X201.here hx rfl (hb hby at_120) rfl rfl ?_
      show Steps p.tables e below (T201.setTop (mkF m 122 #[.val (.int p1), .val (.int p2), .val (.ref ar), .val (.int (66 : Int32)), .val (.ref b1)] [(.ref b1)])) _
      refine XS.iloadN X201.here hx rfl (hb hby at_122) rfl ?_
      show Steps p.tables e below (T201.setTop (mkF m 123 #[.val (.int p1), .val (.int p2), .val (.ref ar), .val (.int (66 : Int32)), .val (.ref b1)] [(.int (66 : Int32)), (.ref b1)])) _
      refine st202 _ ?_
      show Steps p.tables e below (T202.setTop (mkF m 126 #[.val (.int p1), .val (.int p2), .val (.ref ar), .val (.int (66 : Int32)), .val (.ref b1)] [(.ref b1), (.ref b1)])) _
      refine acmp X202 hx rfl rfl rfl (pc0 := 126) (pc' := 129) (same := true) rfl (hb hby at_126) rfl (decide_eq_true rfl) (by decide) (by decide) ?_
      show Steps p.tables e below (T202.setTop (mkF m 129 #[.val (.int p1), .val (.int p2), .val (.ref ar), .val (.int (66 : Int32)), .val (.ref b1)] [])) _
      refine XT.iconstV X202.here hx rfl (1 : Int32) (hb hby at_129) (by decide) ?_
      show Steps p.tables e below (T202.setTop (mkF m 130 #[.val (.int p1), .val (.int p2), .val (.ref ar), .val (.int (66 : Int32)), .val (.ref b1)] [(.int (1 : Int32))])) _
      refine XS.goto X202.here hx rfl (pc0 := 130) (pc' := 134) rfl (hb hby at_130) (by decide) (by decide) ?_
      show Steps p.tables e below (T202.setTop (mkF m 134 #[.val (.int p1), .val (.int p2), .val (.ref ar), .val (.int (66 : Int32)), .val (.ref b1)] [(.int (1 : Int32))])) _
      exact retN X202 hx (t := .boolean) Bd.returns (by simp) (hb hby at_134) hr
    · exact ⟨rfl, N202, trivial⟩
  · obtain ⟨_, _, ⟨T201, L201, k201, n201⟩, -, X201, ⟨Lc201, hQ201, l201, y201, z201⟩, st201⟩ := Jvm.LawKit.callS X17 hx (y := (⟨"com/example/keyward/keyward/LdapOperation", "forRequestTag", "(I)Lcom/example/keyward/keyward/LdapOperation;"⟩ : MethodName)) hown (mvT hZ (hw _ (List.mem_of_getElem? (i := 1) rfl))) (mvT hZ (hw _ (List.mem_of_getElem? (i := 2) rfl))) (mvT hZ (hw _ (List.mem_of_getElem? (i := 3) rfl))) (mvT hZ (hw _ (List.mem_of_getElem? (i := 4) rfl))) (by decide) (backOf (W := 0) (find_2 l Z a0 hw [] aV kV b0 b1 b2 b3 b4 b5 b6 b7 b8 b9 h17 n0 ZF TaV WaV GaV Gb0 Gb1 Gb2 Gb3 Gb4 Gb5 Gb6 Gb7 Gb8 Gb9 ) hZ (hw _ (List.mem_of_getElem? (i := 4) rfl)) (hw _ (List.mem_of_getElem? (i := 3) rfl)) (by decide) (by decide)) (g := (mkF m 115 #[.val (.int p1), .val (.int p2), .val (.ref ar), .val (.int (99 : Int32)), .unset] [(.int (99 : Int32))])) rfl (by rw [hml]; rfl) (argsL := [(.int (99 : Int32))]) (rest := []) (lenOf pd_86 rfl) rfl (by show 2 * 0 + _ ≤ _; exact Nat.le_of_eq rfl) (hb hby at_115) (fun _ _ => ⟨rfl, e17, (by decide : 1 + 1 ≤ _), (by decide : 16 + 10 ≤ _)⟩)
    dsimp only [Pt.U, Pt.locs, Pt.cells, Pt.slots] at X201 l201 y201 z201 st201 hQ201
    subst l201 y201 z201
    obtain ⟨rfl, N201q, Ex201⟩ := hQ201
    have N201 := Fr.app N17 N201q
    have ZG : n0 ≤ T201.heap.size := Nat.le_trans ZF Ex201.1
    obtain ⟨_, _, ⟨T202, L202, k202, n202⟩, -, X202, ⟨Lc202, hQ202, l202, y202, z202⟩, st202⟩ := Jvm.LawKit.callS X201 hx (y := (⟨"com/example/keyward/keyward/LdapOperationForRequestTagPinLaw", "expected", "(I)Lcom/example/keyward/keyward/LdapOperation;"⟩ : MethodName)) hown (mvT hZ (hw _ (List.mem_of_getElem? (i := 32) rfl))) (mvT hZ (hw _ (List.mem_of_getElem? (i := 33) rfl))) (mvT hZ (hw _ (List.mem_of_getElem? (i := 34) rfl))) (mvT hZ (hw _ (List.mem_of_getElem? (i := 35) rfl))) (by decide) (backOf (W := 1) (exp_2 l Z a0 hw [] b2 T201.heap n0 ZG (Tb2.ext Ex201)) hZ (hw _ (List.mem_of_getElem? (i := 35) rfl)) (hw _ (List.mem_of_getElem? (i := 34) rfl)) (by decide) (by decide)) (g := (mkF m 123 #[.val (.int p1), .val (.int p2), .val (.ref ar), .val (.int (99 : Int32)), .val (.ref b2)] [(.int (99 : Int32)), (.ref b2)])) rfl (by rw [hml]; rfl) (argsL := [(.int (99 : Int32))]) (rest := [(.ref b2)]) (lenOf pd_86 rfl) rfl (by show 2 * 0 + _ ≤ _; exact Nat.le_of_eq rfl) (hb hby at_123) (fun _ _ => ⟨rfl, rfl, (by decide : 2 + 0 ≤ _), (by decide : 26 + 0 ≤ _)⟩)
    dsimp only [Pt.U, Pt.locs, Pt.cells, Pt.slots] at X202 l202 y202 z202 st202 hQ202
    subst l202 y202 z202
    obtain ⟨rfl, N202q, e202⟩ := hQ202
    have N202 := Fr.app N201 N202q
    obtain ⟨fs, hr, hrun, hended, hW, hsame⟩ := X202.leave (v := some (.int (1 : Int32))) (fun h => by rw [Bd.returns] at h; cases h)
    refine ⟨_, _, pre0 _ (pre2 _ ?_), hrun, hended, _, _, rfl, ?_, ⟨_, rfl⟩, hW, hsame.mono (by decide) (by decide)⟩
    · show Steps p.tables e below (T17.setTop (mkF m 114 #[.val (.int p1), .val (.int p2), .val (.ref ar), .val (.int (99 : Int32)), .unset] [])) _
      refine XS.iloadN X17.here hx rfl (hb hby at_114) rfl ?_
      show Steps p.tables e below (T17.setTop (mkF m 115 #[.val (.int p1), .val (.int p2), .val (.ref ar), .val (.int (99 : Int32)), .unset] [(.int (99 : Int32))])) _
      refine st201 _ ?_
      show Steps p.tables e below (T201.setTop (mkF m 118 #[.val (.int p1), .val (.int p2), .val (.ref ar), .val (.int (99 : Int32)), .unset] [(.ref b2)])) _
      refine XS.astore X201.here hx rfl (hb hby at_118) rfl rfl (l' := #[.val (.int p1), .val (.int p2), .val (.ref ar), .val (.int (99 : Int32)), .val (.ref b2)]) rfl ?_
      show Steps p.tables e below (T201.setTop (mkF m 120 #[.val (.int p1), .val (.int p2), .val (.ref ar), .val (.int (99 : Int32)), .val (.ref b2)] [])) _
      refine XS.aload X201.here hx rfl (hb hby at_120) rfl rfl ?_
      show Steps p.tables e below (T201.setTop (mkF m 122 #[.val (.int p1), .val (.int p2), .val (.ref ar), .val (.int (99 : Int32)), .val (.ref b2)] [(.ref b2)])) _
      refine XS.iloadN X201.here hx rfl (hb hby at_122) rfl ?_
      show Steps p.tables e below (T201.setTop (mkF m 123 #[.val (.int p1), .val (.int p2), .val (.ref ar), .val (.int (99 : Int32)), .val (.ref b2)] [(.int (99 : Int32)), (.ref b2)])) _
      refine st202 _ ?_
      show Steps p.tables e below (T202.setTop (mkF m 126 #[.val (.int p1), .val (.int p2), .val (.ref ar), .val (.int (99 : Int32)), .val (.ref b2)] [(.ref b2), (.ref b2)])) _
      refine acmp X202 hx rfl rfl rfl (pc0 := 126) (pc' := 129) (same := true) rfl (hb hby at_126) rfl (decide_eq_true rfl) (by decide) (by decide) ?_
      show Steps p.tables e below (T202.setTop (mkF m 129 #[.val (.int p1), .val (.int p2), .val (.ref ar), .val (.int (99 : Int32)), .val (.ref b2)] [])) _
      refine XT.iconstV X202.here hx rfl (1 : Int32) (hb hby at_129) (by decide) ?_
      show Steps p.tables e below (T202.setTop (mkF m 130 #[.val (.int p1), .val (.int p2), .val (.ref ar), .val (.int (99 : Int32)), .val (.ref b2)] [(.int (1 : Int32))])) _
      refine XS.goto X202.here hx rfl (pc0 := 130) (pc' := 134) rfl (hb hby at_130) (by decide) (by decide) ?_
      show Steps p.tables e below (T202.setTop (mkF m 134 #[.val (.int p1), .val (.int p2), .val (.ref ar), .val (.int (99 : Int32)), .val (.ref b2)] [(.int (1 : Int32))])) _
      exact retN X202 hx (t := .boolean) Bd.returns (by simp) (hb hby at_134) hr
    · exact ⟨rfl, N202, trivial⟩
  · obtain ⟨_, _, ⟨T201, L201, k201, n201⟩, -, X201, ⟨Lc201, hQ201, l201, y201, z201⟩, st201⟩ := Jvm.LawKit.callS X17 hx (y := (⟨"com/example/keyward/keyward/LdapOperation", "forRequestTag", "(I)Lcom/example/keyward/keyward/LdapOperation;"⟩ : MethodName)) hown (mvT hZ (hw _ (List.mem_of_getElem? (i := 1) rfl))) (mvT hZ (hw _ (List.mem_of_getElem? (i := 2) rfl))) (mvT hZ (hw _ (List.mem_of_getElem? (i := 3) rfl))) (mvT hZ (hw _ (List.mem_of_getElem? (i := 4) rfl))) (by decide) (backOf (W := 0) (find_3 l Z a0 hw [] aV kV b0 b1 b2 b3 b4 b5 b6 b7 b8 b9 h17 n0 ZF TaV WaV GaV Gb0 Gb1 Gb2 Gb3 Gb4 Gb5 Gb6 Gb7 Gb8 Gb9 ) hZ (hw _ (List.mem_of_getElem? (i := 4) rfl)) (hw _ (List.mem_of_getElem? (i := 3) rfl)) (by decide) (by decide)) (g := (mkF m 115 #[.val (.int p1), .val (.int p2), .val (.ref ar), .val (.int (102 : Int32)), .unset] [(.int (102 : Int32))])) rfl (by rw [hml]; rfl) (argsL := [(.int (102 : Int32))]) (rest := []) (lenOf pd_86 rfl) rfl (by show 2 * 0 + _ ≤ _; exact Nat.le_of_eq rfl) (hb hby at_115) (fun _ _ => ⟨rfl, e17, (by decide : 1 + 1 ≤ _), (by decide : 16 + 10 ≤ _)⟩)
    dsimp only [Pt.U, Pt.locs, Pt.cells, Pt.slots] at X201 l201 y201 z201 st201 hQ201
    subst l201 y201 z201
    obtain ⟨rfl, N201q, Ex201⟩ := hQ201
    have N201 := Fr.app N17 N201q
    have ZG : n0 ≤ T201.heap.size := Nat.le_trans ZF Ex201.1
    obtain ⟨_, _, ⟨T202, L202, k202, n202⟩, -, X202, ⟨Lc202, hQ202, l202, y202, z202⟩, st202⟩ := Jvm.LawKit.callS X201 hx (y := (⟨"com/example/keyward/keyward/LdapOperationForRequestTagPinLaw", "expected", "(I)Lcom/example/keyward/keyward/LdapOperation;"⟩ : MethodName)) hown (mvT hZ (hw _ (List.mem_of_getElem? (i := 32) rfl))) (mvT hZ (hw _ (List.mem_of_getElem? (i := 33) rfl))) (mvT hZ (hw _ (List.mem_of_getElem? (i := 34) rfl))) (mvT hZ (hw _ (List.mem_of_getElem? (i := 35) rfl))) (by decide) (backOf (W := 1) (exp_3 l Z a0 hw [] b3 T201.heap n0 ZG (Tb3.ext Ex201)) hZ (hw _ (List.mem_of_getElem? (i := 35) rfl)) (hw _ (List.mem_of_getElem? (i := 34) rfl)) (by decide) (by decide)) (g := (mkF m 123 #[.val (.int p1), .val (.int p2), .val (.ref ar), .val (.int (102 : Int32)), .val (.ref b3)] [(.int (102 : Int32)), (.ref b3)])) rfl (by rw [hml]; rfl) (argsL := [(.int (102 : Int32))]) (rest := [(.ref b3)]) (lenOf pd_86 rfl) rfl (by show 2 * 0 + _ ≤ _; exact Nat.le_of_eq rfl) (hb hby at_123) (fun _ _ => ⟨rfl, rfl, (by decide : 2 + 0 ≤ _), (by decide : 26 + 0 ≤ _)⟩)
    dsimp only [Pt.U, Pt.locs, Pt.cells, Pt.slots] at X202 l202 y202 z202 st202 hQ202
    subst l202 y202 z202
    obtain ⟨rfl, N202q, e202⟩ := hQ202
    have N202 := Fr.app N201 N202q
    obtain ⟨fs, hr, hrun, hended, hW, hsame⟩ := X202.leave (v := some (.int (1 : Int32))) (fun h => by rw [Bd.returns] at h; cases h)
    refine ⟨_, _, pre0 _ (pre2 _ ?_), hrun, hended, _, _, rfl, ?_, ⟨_, rfl⟩, hW, hsame.mono (by decide) (by decide)⟩
    · show Steps p.tables e below (T17.setTop (mkF m 114 #[.val (.int p1), .val (.int p2), .val (.ref ar), .val (.int (102 : Int32)), .unset] [])) _
      refine XS.iloadN X17.here hx rfl (hb hby at_114) rfl ?_
      show Steps p.tables e below (T17.setTop (mkF m 115 #[.val (.int p1), .val (.int p2), .val (.ref ar), .val (.int (102 : Int32)), .unset] [(.int (102 : Int32))])) _
      refine st201 _ ?_
      show Steps p.tables e below (T201.setTop (mkF m 118 #[.val (.int p1), .val (.int p2), .val (.ref ar), .val (.int (102 : Int32)), .unset] [(.ref b3)])) _
      refine XS.astore X201.here hx rfl (hb hby at_118) rfl rfl (l' := #[.val (.int p1), .val (.int p2), .val (.ref ar), .val (.int (102 : Int32)), .val (.ref b3)]) rfl ?_
      show Steps p.tables e below (T201.setTop (mkF m 120 #[.val (.int p1), .val (.int p2), .val (.ref ar), .val (.int (102 : Int32)), .val (.ref b3)] [])) _
      refine XS.aload X201.here hx rfl (hb hby at_120) rfl rfl ?_
      show Steps p.tables e below (T201.setTop (mkF m 122 #[.val (.int p1), .val (.int p2), .val (.ref ar), .val (.int (102 : Int32)), .val (.ref b3)] [(.ref b3)])) _
      refine XS.iloadN X201.here hx rfl (hb hby at_122) rfl ?_
      show Steps p.tables e below (T201.setTop (mkF m 123 #[.val (.int p1), .val (.int p2), .val (.ref ar), .val (.int (102 : Int32)), .val (.ref b3)] [(.int (102 : Int32)), (.ref b3)])) _
      refine st202 _ ?_
      show Steps p.tables e below (T202.setTop (mkF m 126 #[.val (.int p1), .val (.int p2), .val (.ref ar), .val (.int (102 : Int32)), .val (.ref b3)] [(.ref b3), (.ref b3)])) _
      refine acmp X202 hx rfl rfl rfl (pc0 := 126) (pc' := 129) (same := true) rfl (hb hby at_126) rfl (decide_eq_true rfl) (by decide) (by decide) ?_
      show Steps p.tables e below (T202.setTop (mkF m 129 #[.val (.int p1), .val (.int p2), .val (.ref ar), .val (.int (102 : Int32)), .val (.ref b3)] [])) _
      refine XT.iconstV X202.here hx rfl (1 : Int32) (hb hby at_129) (by decide) ?_
      show Steps p.tables e below (T202.setTop (mkF m 130 #[.val (.int p1), .val (.int p2), .val (.ref ar), .val (.int (102 : Int32)), .val (.ref b3)] [(.int (1 : Int32))])) _
      refine XS.goto X202.here hx rfl (pc0 := 130) (pc' := 134) rfl (hb hby at_130) (by decide) (by decide) ?_
      show Steps p.tables e below (T202.setTop (mkF m 134 #[.val (.int p1), .val (.int p2), .val (.ref ar), .val (.int (102 : Int32)), .val (.ref b3)] [(.int (1 : Int32))])) _
      exact retN X202 hx (t := .boolean) Bd.returns (by simp) (hb hby at_134) hr
    · exact ⟨rfl, N202, trivial⟩
  · obtain ⟨_, _, ⟨T201, L201, k201, n201⟩, -, X201, ⟨Lc201, hQ201, l201, y201, z201⟩, st201⟩ := Jvm.LawKit.callS X17 hx (y := (⟨"com/example/keyward/keyward/LdapOperation", "forRequestTag", "(I)Lcom/example/keyward/keyward/LdapOperation;"⟩ : MethodName)) hown (mvT hZ (hw _ (List.mem_of_getElem? (i := 1) rfl))) (mvT hZ (hw _ (List.mem_of_getElem? (i := 2) rfl))) (mvT hZ (hw _ (List.mem_of_getElem? (i := 3) rfl))) (mvT hZ (hw _ (List.mem_of_getElem? (i := 4) rfl))) (by decide) (backOf (W := 0) (find_4 l Z a0 hw [] aV kV b0 b1 b2 b3 b4 b5 b6 b7 b8 b9 h17 n0 ZF TaV WaV GaV Gb0 Gb1 Gb2 Gb3 Gb4 Gb5 Gb6 Gb7 Gb8 Gb9 ) hZ (hw _ (List.mem_of_getElem? (i := 4) rfl)) (hw _ (List.mem_of_getElem? (i := 3) rfl)) (by decide) (by decide)) (g := (mkF m 115 #[.val (.int p1), .val (.int p2), .val (.ref ar), .val (.int (104 : Int32)), .unset] [(.int (104 : Int32))])) rfl (by rw [hml]; rfl) (argsL := [(.int (104 : Int32))]) (rest := []) (lenOf pd_86 rfl) rfl (by show 2 * 0 + _ ≤ _; exact Nat.le_of_eq rfl) (hb hby at_115) (fun _ _ => ⟨rfl, e17, (by decide : 1 + 1 ≤ _), (by decide : 16 + 10 ≤ _)⟩)
    dsimp only [Pt.U, Pt.locs, Pt.cells, Pt.slots] at X201 l201 y201 z201 st201 hQ201
    subst l201 y201 z201
    obtain ⟨rfl, N201q, Ex201⟩ := hQ201
    have N201 := Fr.app N17 N201q
    have ZG : n0 ≤ T201.heap.size := Nat.le_trans ZF Ex201.1
    obtain ⟨_, _, ⟨T202, L202, k202, n202⟩, -, X202, ⟨Lc202, hQ202, l202, y202, z202⟩, st202⟩ := Jvm.LawKit.callS X201 hx (y := (⟨"com/example/keyward/keyward/LdapOperationForRequestTagPinLaw", "expected", "(I)Lcom/example/keyward/keyward/LdapOperation;"⟩ : MethodName)) hown (mvT hZ (hw _ (List.mem_of_getElem? (i := 32) rfl))) (mvT hZ (hw _ (List.mem_of_getElem? (i := 33) rfl))) (mvT hZ (hw _ (List.mem_of_getElem? (i := 34) rfl))) (mvT hZ (hw _ (List.mem_of_getElem? (i := 35) rfl))) (by decide) (backOf (W := 1) (exp_4 l Z a0 hw [] b4 T201.heap n0 ZG (Tb4.ext Ex201)) hZ (hw _ (List.mem_of_getElem? (i := 35) rfl)) (hw _ (List.mem_of_getElem? (i := 34) rfl)) (by decide) (by decide)) (g := (mkF m 123 #[.val (.int p1), .val (.int p2), .val (.ref ar), .val (.int (104 : Int32)), .val (.ref b4)] [(.int (104 : Int32)), (.ref b4)])) rfl (by rw [hml]; rfl) (argsL := [(.int (104 : Int32))]) (rest := [(.ref b4)]) (lenOf pd_86 rfl) rfl (by show 2 * 0 + _ ≤ _; exact Nat.le_of_eq rfl) (hb hby at_123) (fun _ _ => ⟨rfl, rfl, (by decide : 2 + 0 ≤ _), (by decide : 26 + 0 ≤ _)⟩)
    dsimp only [Pt.U, Pt.locs, Pt.cells, Pt.slots] at X202 l202 y202 z202 st202 hQ202
    subst l202 y202 z202
    obtain ⟨rfl, N202q, e202⟩ := hQ202
    have N202 := Fr.app N201 N202q
    obtain ⟨fs, hr, hrun, hended, hW, hsame⟩ := X202.leave (v := some (.int (1 : Int32))) (fun h => by rw [Bd.returns] at h; cases h)
    refine ⟨_, _, pre0 _ (pre2 _ ?_), hrun, hended, _, _, rfl, ?_, ⟨_, rfl⟩, hW, hsame.mono (by decide) (by decide)⟩
    · show Steps p.tables e below (T17.setTop (mkF m 114 #[.val (.int p1), .val (.int p2), .val (.ref ar), .val (.int (104 : Int32)), .unset] [])) _
      refine XS.iloadN X17.here hx rfl (hb hby at_114) rfl ?_
      show Steps p.tables e below (T17.setTop (mkF m 115 #[.val (.int p1), .val (.int p2), .val (.ref ar), .val (.int (104 : Int32)), .unset] [(.int (104 : Int32))])) _
      refine st201 _ ?_
      show Steps p.tables e below (T201.setTop (mkF m 118 #[.val (.int p1), .val (.int p2), .val (.ref ar), .val (.int (104 : Int32)), .unset] [(.ref b4)])) _
      refine XS.astore X201.here hx rfl (hb hby at_118) rfl rfl (l' := #[.val (.int p1), .val (.int p2), .val (.ref ar), .val (.int (104 : Int32)), .val (.ref b4)]) rfl ?_
      show Steps p.tables e below (T201.setTop (mkF m 120 #[.val (.int p1), .val (.int p2), .val (.ref ar), .val (.int (104 : Int32)), .val (.ref b4)] [])) _
      refine XS.aload X201.here hx rfl (hb hby at_120) rfl rfl ?_
      show Steps p.tables e below (T201.setTop (mkF m 122 #[.val (.int p1), .val (.int p2), .val (.ref ar), .val (.int (104 : Int32)), .val (.ref b4)] [(.ref b4)])) _
      refine XS.iloadN X201.here hx rfl (hb hby at_122) rfl ?_
      show Steps p.tables e below (T201.setTop (mkF m 123 #[.val (.int p1), .val (.int p2), .val (.ref ar), .val (.int (104 : Int32)), .val (.ref b4)] [(.int (104 : Int32)), (.ref b4)])) _
      refine st202 _ ?_
      show Steps p.tables e below (T202.setTop (mkF m 126 #[.val (.int p1), .val (.int p2), .val (.ref ar), .val (.int (104 : Int32)), .val (.ref b4)] [(.ref b4), (.ref b4)])) _
      refine acmp X202 hx rfl rfl rfl (pc0 := 126) (pc' := 129) (same := true) rfl (hb hby at_126) rfl (decide_eq_true rfl) (by decide) (by decide) ?_
      show Steps p.tables e below (T202.setTop (mkF m 129 #[.val (.int p1), .val (.int p2), .val (.ref ar), .val (.int (104 : Int32)), .val (.ref b4)] [])) _
      refine XT.iconstV X202.here hx rfl (1 : Int32) (hb hby at_129) (by decide) ?_
      show Steps p.tables e below (T202.setTop (mkF m 130 #[.val (.int p1), .val (.int p2), .val (.ref ar), .val (.int (104 : Int32)), .val (.ref b4)] [(.int (1 : Int32))])) _
      refine XS.goto X202.here hx rfl (pc0 := 130) (pc' := 134) rfl (hb hby at_130) (by decide) (by decide) ?_
      show Steps p.tables e below (T202.setTop (mkF m 134 #[.val (.int p1), .val (.int p2), .val (.ref ar), .val (.int (104 : Int32)), .val (.ref b4)] [(.int (1 : Int32))])) _
      exact retN X202 hx (t := .boolean) Bd.returns (by simp) (hb hby at_134) hr
    · exact ⟨rfl, N202, trivial⟩
  · obtain ⟨_, _, ⟨T201, L201, k201, n201⟩, -, X201, ⟨Lc201, hQ201, l201, y201, z201⟩, st201⟩ := Jvm.LawKit.callS X17 hx (y := (⟨"com/example/keyward/keyward/LdapOperation", "forRequestTag", "(I)Lcom/example/keyward/keyward/LdapOperation;"⟩ : MethodName)) hown (mvT hZ (hw _ (List.mem_of_getElem? (i := 1) rfl))) (mvT hZ (hw _ (List.mem_of_getElem? (i := 2) rfl))) (mvT hZ (hw _ (List.mem_of_getElem? (i := 3) rfl))) (mvT hZ (hw _ (List.mem_of_getElem? (i := 4) rfl))) (by decide) (backOf (W := 0) (find_5 l Z a0 hw [] aV kV b0 b1 b2 b3 b4 b5 b6 b7 b8 b9 h17 n0 ZF TaV WaV GaV Gb0 Gb1 Gb2 Gb3 Gb4 Gb5 Gb6 Gb7 Gb8 Gb9 ) hZ (hw _ (List.mem_of_getElem? (i := 4) rfl)) (hw _ (List.mem_of_getElem? (i := 3) rfl)) (by decide) (by decide)) (g := (mkF m 115 #[.val (.int p1), .val (.int p2), .val (.ref ar), .val (.int (74 : Int32)), .unset] [(.int (74 : Int32))])) rfl (by rw [hml]; rfl) (argsL := [(.int (74 : Int32))]) (rest := []) (lenOf pd_86 rfl) rfl (by show 2 * 0 + _ ≤ _; exact Nat.le_of_eq rfl) (hb hby at_115) (fun _ _ => ⟨rfl, e17, (by decide : 1 + 1 ≤ _), (by decide : 16 + 10 ≤ _)⟩)
    dsimp only [Pt.U, Pt.locs, Pt.cells, Pt.slots] at X201 l201 y201 z201 st201 hQ201
    subst l201 y201 z201
    obtain ⟨rfl, N201q, Ex201⟩ := hQ201
    have N201 := Fr.app N17 N201q
    have ZG : n0 ≤ T201.heap.size := Nat.le_trans ZF Ex201.1
    obtain ⟨_, _, ⟨T202, L202, k202, n202⟩, -, X202, ⟨Lc202, hQ202, l202, y202, z202⟩, st202⟩ := Jvm.LawKit.callS X201 hx (y := (⟨"com/example/keyward/keyward/LdapOperationForRequestTagPinLaw", "expected", "(I)Lcom/example/keyward/keyward/LdapOperation;"⟩ : MethodName)) hown (mvT hZ (hw _ (List.mem_of_getElem? (i := 32) rfl))) (mvT hZ (hw _ (List.mem_of_getElem? (i := 33) rfl))) (mvT hZ (hw _ (List.mem_of_getElem? (i := 34) rfl))) (mvT hZ (hw _ (List.mem_of_getElem? (i := 35) rfl))) (by decide) (backOf (W := 1) (exp_5 l Z a0 hw [] b5 T201.heap n0 ZG (Tb5.ext Ex201)) hZ (hw _ (List.mem_of_getElem? (i := 35) rfl)) (hw _ (List.mem_of_getElem? (i := 34) rfl)) (by decide) (by decide)) (g := (mkF m 123 #[.val (.int p1), .val (.int p2), .val (.ref ar), .val (.int (74 : Int32)), .val (.ref b5)] [(.int (74 : Int32)), (.ref b5)])) rfl (by rw [hml]; rfl) (argsL := [(.int (74 : Int32))]) (rest := [(.ref b5)]) (lenOf pd_86 rfl) rfl (by show 2 * 0 + _ ≤ _; exact Nat.le_of_eq rfl) (hb hby at_123) (fun _ _ => ⟨rfl, rfl, (by decide : 2 + 0 ≤ _), (by decide : 26 + 0 ≤ _)⟩)
    dsimp only [Pt.U, Pt.locs, Pt.cells, Pt.slots] at X202 l202 y202 z202 st202 hQ202
    subst l202 y202 z202
    obtain ⟨rfl, N202q, e202⟩ := hQ202
    have N202 := Fr.app N201 N202q
    obtain ⟨fs, hr, hrun, hended, hW, hsame⟩ := X202.leave (v := some (.int (1 : Int32))) (fun h => by rw [Bd.returns] at h; cases h)
    refine ⟨_, _, pre0 _ (pre2 _ ?_), hrun, hended, _, _, rfl, ?_, ⟨_, rfl⟩, hW, hsame.mono (by decide) (by decide)⟩
    · show Steps p.tables e below (T17.setTop (mkF m 114 #[.val (.int p1), .val (.int p2), .val (.ref ar), .val (.int (74 : Int32)), .unset] [])) _
      refine XS.iloadN X17.here hx rfl (hb hby at_114) rfl ?_
      show Steps p.tables e below (T17.setTop (mkF m 115 #[.val (.int p1), .val (.int p2), .val (.ref ar), .val (.int (74 : Int32)), .unset] [(.int (74 : Int32))])) _
      refine st201 _ ?_
      show Steps p.tables e below (T201.setTop (mkF m 118 #[.val (.int p1), .val (.int p2), .val (.ref ar), .val (.int (74 : Int32)), .unset] [(.ref b5)])) _
      refine XS.astore X201.here hx rfl (hb hby at_118) rfl rfl (l' := #[.val (.int p1), .val (.int p2), .val (.ref ar), .val (.int (74 : Int32)), .val (.ref b5)]) rfl ?_
      show Steps p.tables e below (T201.setTop (mkF m 120 #[.val (.int p1), .val (.int p2), .val (.ref ar), .val (.int (74 : Int32)), .val (.ref b5)] [])) _
      refine XS.aload X201.here hx rfl (hb hby at_120) rfl rfl ?_
      show Steps p.tables e below (T201.setTop (mkF m 122 #[.val (.int p1), .val (.int p2), .val (.ref ar), .val (.int (74 : Int32)), .val (.ref b5)] [(.ref b5)])) _
      refine XS.iloadN X201.here hx rfl (hb hby at_122) rfl ?_
      show Steps p.tables e below (T201.setTop (mkF m 123 #[.val (.int p1), .val (.int p2), .val (.ref ar), .val (.int (74 : Int32)), .val (.ref b5)] [(.int (74 : Int32)), (.ref b5)])) _
      refine st202 _ ?_
      show Steps p.tables e below (T202.setTop (mkF m 126 #[.val (.int p1), .val (.int p2), .val (.ref ar), .val (.int (74 : Int32)), .val (.ref b5)] [(.ref b5), (.ref b5)])) _
      refine acmp X202 hx rfl rfl rfl (pc0 := 126) (pc' := 129) (same := true) rfl (hb hby at_126) rfl (decide_eq_true rfl) (by decide) (by decide) ?_
      show Steps p.tables e below (T202.setTop (mkF m 129 #[.val (.int p1), .val (.int p2), .val (.ref ar), .val (.int (74 : Int32)), .val (.ref b5)] [])) _
      refine XT.iconstV X202.here hx rfl (1 : Int32) (hb hby at_129) (by decide) ?_
      show Steps p.tables e below (T202.setTop (mkF m 130 #[.val (.int p1), .val (.int p2), .val (.ref ar), .val (.int (74 : Int32)), .val (.ref b5)] [(.int (1 : Int32))])) _
      refine XS.goto X202.here hx rfl (pc0 := 130) (pc' := 134) rfl (hb hby at_130) (by decide) (by decide) ?_
      show Steps p.tables e below (T202.setTop (mkF m 134 #[.val (.int p1), .val (.int p2), .val (.ref ar), .val (.int (74 : Int32)), .val (.ref b5)] [(.int (1 : Int32))])) _
      exact retN X202 hx (t := .boolean) Bd.returns (by simp) (hb hby at_134) hr
    · exact ⟨rfl, N202, trivial⟩
  · obtain ⟨_, _, ⟨T201, L201, k201, n201⟩, -, X201, ⟨Lc201, hQ201, l201, y201, z201⟩, st201⟩ := Jvm.LawKit.callS X17 hx (y := (⟨"com/example/keyward/keyward/LdapOperation", "forRequestTag", "(I)Lcom/example/keyward/keyward/LdapOperation;"⟩ : MethodName)) hown (mvT hZ (hw _ (List.mem_of_getElem? (i := 1) rfl))) (mvT hZ (hw _ (List.mem_of_getElem? (i := 2) rfl))) (mvT hZ (hw _ (List.mem_of_getElem? (i := 3) rfl))) (mvT hZ (hw _ (List.mem_of_getElem? (i := 4) rfl))) (by decide) (backOf (W := 0) (find_6 l Z a0 hw [] aV kV b0 b1 b2 b3 b4 b5 b6 b7 b8 b9 h17 n0 ZF TaV WaV GaV Gb0 Gb1 Gb2 Gb3 Gb4 Gb5 Gb6 Gb7 Gb8 Gb9 ) hZ (hw _ (List.mem_of_getElem? (i := 4) rfl)) (hw _ (List.mem_of_getElem? (i := 3) rfl)) (by decide) (by decide)) (g := (mkF m 115 #[.val (.int p1), .val (.int p2), .val (.ref ar), .val (.int (108 : Int32)), .unset] [(.int (108 : Int32))])) rfl (by rw [hml]; rfl) (argsL := [(.int (108 : Int32))]) (rest := []) (lenOf pd_86 rfl) rfl (by show 2 * 0 + _ ≤ _; exact Nat.le_of_eq rfl) (hb hby at_115) (fun _ _ => ⟨rfl, e17, (by decide : 1 + 1 ≤ _), (by decide : 16 + 10 ≤ _)⟩)
    dsimp only [Pt.U, Pt.locs, Pt.cells, Pt.slots] at X201 l201 y201 z201 st201 hQ201
    subst l201 y201 z201
    obtain ⟨rfl, N201q, Ex201⟩ := hQ201
    have N201 := Fr.app N17 N201q
    have ZG : n0 ≤ T201.heap.size := Nat.le_trans ZF Ex201.1
    obtain ⟨_, _, ⟨T202, L202, k202, n202⟩, -, X202, ⟨Lc202, hQ202, l202, y202, z202⟩, st202⟩ := Jvm.LawKit.callS X201 hx (y := (⟨"com/example/keyward/keyward/LdapOperationForRequestTagPinLaw", "expected", "(I)Lcom/example/keyward/keyward/LdapOperation;"⟩ : MethodName)) hown (mvT hZ (hw _ (List.mem_of_getElem? (i := 32) rfl))) (mvT hZ (hw _ (List.mem_of_getElem? (i := 33) rfl))) (mvT hZ (hw _ (List.mem_of_getElem? (i := 34) rfl))) (mvT hZ (hw _ (List.mem_of_getElem? (i := 35) rfl))) (by decide) (backOf (W := 1) (exp_6 l Z a0 hw [] b6 T201.heap n0 ZG (Tb6.ext Ex201)) hZ (hw _ (List.mem_of_getElem? (i := 35) rfl)) (hw _ (List.mem_of_getElem? (i := 34) rfl)) (by decide) (by decide)) (g := (mkF m 123 #[.val (.int p1), .val (.int p2), .val (.ref ar), .val (.int (108 : Int32)), .val (.ref b6)] [(.int (108 : Int32)), (.ref b6)])) rfl (by rw [hml]; rfl) (argsL := [(.int (108 : Int32))]) (rest := [(.ref b6)]) (lenOf pd_86 rfl) rfl (by show 2 * 0 + _ ≤ _; exact Nat.le_of_eq rfl) (hb hby at_123) (fun _ _ => ⟨rfl, rfl, (by decide : 2 + 0 ≤ _), (by decide : 26 + 0 ≤ _)⟩)
    dsimp only [Pt.U, Pt.locs, Pt.cells, Pt.slots] at X202 l202 y202 z202 st202 hQ202
    subst l202 y202 z202
    obtain ⟨rfl, N202q, e202⟩ := hQ202
    have N202 := Fr.app N201 N202q
    obtain ⟨fs, hr, hrun, hended, hW, hsame⟩ := X202.leave (v := some (.int (1 : Int32))) (fun h => by rw [Bd.returns] at h; cases h)
    refine ⟨_, _, pre0 _ (pre2 _ ?_), hrun, hended, _, _, rfl, ?_, ⟨_, rfl⟩, hW, hsame.mono (by decide) (by decide)⟩
    · show Steps p.tables e below (T17.setTop (mkF m 114 #[.val (.int p1), .val (.int p2), .val (.ref ar), .val (.int (108 : Int32)), .unset] [])) _
      refine XS.iloadN X17.here hx rfl (hb hby at_114) rfl ?_
      show Steps p.tables e below (T17.setTop (mkF m 115 #[.val (.int p1), .val (.int p2), .val (.ref ar), .val (.int (108 : Int32)), .unset] [(.int (108 : Int32))])) _
      refine st201 _ ?_
      show Steps p.tables e below (T201.setTop (mkF m 118 #[.val (.int p1), .val (.int p2), .val (.ref ar), .val (.int (108 : Int32)), .unset] [(.ref b6)])) _
      refine XS.astore X201.here hx rfl (hb hby at_118) rfl rfl (l' := #[.val (.int p1), .val (.int p2), .val (.ref ar), .val (.int (108 : Int32)), .val (.ref b6)]) rfl ?_
      show Steps p.tables e below (T201.setTop (mkF m 120 #[.val (.int p1), .val (.int p2), .val (.ref ar), .val (.int (108 : Int32)), .val (.ref b6)] [])) _
      refine XS.aload X201.here hx rfl (hb hby at_120) rfl rfl ?_
      show Steps p.tables e below (T201.setTop (mkF m 122 #[.val (.int p1), .val (.int p2), .val (.ref ar), .val (.int (108 : Int32)), .val (.ref b6)] [(.ref b6)])) _
      refine XS.iloadN X201.here hx rfl (hb hby at_122) rfl ?_
      show Steps p.tables e below (T201.setTop (mkF m 123 #[.val (.int p1), .val (.int p2), .val (.ref ar), .val (.int (108 : Int32)), .val (.ref b6)] [(.int (108 : Int32)), (.ref b6)])) _
      refine st202 _ ?_
      show Steps p.tables e below (T202.setTop (mkF m 126 #[.val (.int p1), .val (.int p2), .val (.ref ar), .val (.int (108 : Int32)), .val (.ref b6)] [(.ref b6), (.ref b6)])) _
      refine acmp X202 hx rfl rfl rfl (pc0 := 126) (pc' := 129) (same := true) rfl (hb hby at_126) rfl (decide_eq_true rfl) (by decide) (by decide) ?_
      show Steps p.tables e below (T202.setTop (mkF m 129 #[.val (.int p1), .val (.int p2), .val (.ref ar), .val (.int (108 : Int32)), .val (.ref b6)] [])) _
      refine XT.iconstV X202.here hx rfl (1 : Int32) (hb hby at_129) (by decide) ?_
      show Steps p.tables e below (T202.setTop (mkF m 130 #[.val (.int p1), .val (.int p2), .val (.ref ar), .val (.int (108 : Int32)), .val (.ref b6)] [(.int (1 : Int32))])) _
      refine XS.goto X202.here hx rfl (pc0 := 130) (pc' := 134) rfl (hb hby at_130) (by decide) (by decide) ?_
      show Steps p.tables e below (T202.setTop (mkF m 134 #[.val (.int p1), .val (.int p2), .val (.ref ar), .val (.int (108 : Int32)), .val (.ref b6)] [(.int (1 : Int32))])) _
      exact retN X202 hx (t := .boolean) Bd.returns (by simp) (hb hby at_134) hr
    · exact ⟨rfl, N202, trivial⟩
  · obtain ⟨_, _, ⟨T201, L201, k201, n201⟩, -, X201, ⟨Lc201, hQ201, l201, y201, z201⟩, st201⟩ := Jvm.LawKit.callS X17 hx (y := (⟨"com/example/keyward/keyward/LdapOperation", "forRequestTag", "(I)Lcom/example/keyward/keyward/LdapOperation;"⟩ : MethodName)) hown (mvT hZ (hw _ (List.mem_of_getElem? (i := 1) rfl))) (mvT hZ (hw _ (List.mem_of_getElem? (i := 2) rfl))) (mvT hZ (hw _ (List.mem_of_getElem? (i := 3) rfl))) (mvT hZ (hw _ (List.mem_of_getElem? (i := 4) rfl))) (by decide) (backOf (W := 0) (find_7 l Z a0 hw [] aV kV b0 b1 b2 b3 b4 b5 b6 b7 b8 b9 h17 n0 ZF TaV WaV GaV Gb0 Gb1 Gb2 Gb3 Gb4 Gb5 Gb6 Gb7 Gb8 Gb9 ) hZ (hw _ (List.mem_of_getElem? (i := 4) rfl)) (hw _ (List.mem_of_getElem? (i := 3) rfl)) (by decide) (by decide)) (g := (mkF m 115 #[.val (.int p1), .val (.int p2), .val (.ref ar), .val (.int (110 : Int32)), .unset] [(.int (110 : Int32))])) rfl (by rw [hml]; rfl) (argsL := [(.int (110 : Int32))]) (rest := []) (lenOf pd_86 rfl) rfl (by show 2 * 0 + _ ≤ _; exact Nat.le_of_eq rfl) (hb hby at_115) (fun _ _ => ⟨rfl, e17, (by decide : 1 + 1 ≤ _), (by decide : 16 + 10 ≤ _)⟩)
    dsimp only [Pt.U, Pt.locs, Pt.cells, Pt.slots] at X201 l201 y201 z201 st201 hQ201
    subst l201 y201 z201
    obtain ⟨rfl, N201q, Ex201⟩ := hQ201
    have N201 := Fr.app N17 N201q
    have ZG : n0 ≤ T201.heap.size := Nat.le_trans ZF Ex201.1
    obtain ⟨_, _, ⟨T202, L202, k202, n202⟩, -, X202, ⟨Lc202, hQ202, l202, y202, z202⟩, st202⟩ := Jvm.LawKit.callS X201 hx (y := (⟨"com/example/keyward/keyward/LdapOperationForRequestTagPinLaw", "expected", "(I)Lcom/example/keyward/keyward/LdapOperation;"⟩ : MethodName)) hown (mvT hZ (hw _ (List.mem_of_getElem? (i := 32) rfl))) (mvT hZ (hw _ (List.mem_of_getElem? (i := 33) rfl))) (mvT hZ (hw _ (List.mem_of_getElem? (i := 34) rfl))) (mvT hZ (hw _ (List.mem_of_getElem? (i := 35) rfl))) (by decide) (backOf (W := 1) (exp_7 l Z a0 hw [] b7 T201.heap n0 ZG (Tb7.ext Ex201)) hZ (hw _ (List.mem_of_getElem? (i := 35) rfl)) (hw _ (List.mem_of_getElem? (i := 34) rfl)) (by decide) (by decide)) (g := (mkF m 123 #[.val (.int p1), .val (.int p2), .val (.ref ar), .val (.int (110 : Int32)), .val (.ref b7)] [(.int (110 : Int32)), (.ref b7)])) rfl (by rw [hml]; rfl) (argsL := [(.int (110 : Int32))]) (rest := [(.ref b7)]) (lenOf pd_86 rfl) rfl (by show 2 * 0 + _ ≤ _; exact Nat.le_of_eq rfl) (hb hby at_123) (fun _ _ => ⟨rfl, rfl, (by decide : 2 + 0 ≤ _), (by decide : 26 + 0 ≤ _)⟩)
    dsimp only [Pt.U, Pt.locs, Pt.cells, Pt.slots] at X202 l202 y202 z202 st202 hQ202
    subst l202 y202 z202
    obtain ⟨rfl, N202q, e202⟩ := hQ202
    have N202 := Fr.app N201 N202q
    obtain ⟨fs, hr, hrun, hended, hW, hsame⟩ := X202.leave (v := some (.int (1 : Int32))) (fun h => by rw [Bd.returns] at h; cases h)
    refine ⟨_, _, pre0 _ (pre2 _ ?_), hrun, hended, _, _, rfl, ?_, ⟨_, rfl⟩, hW, hsame.mono (by decide) (by decide)⟩
    · show Steps p.tables e below (T17.setTop (mkF m 114 #[.val (.int p1), .val (.int p2), .val (.ref ar), .val (.int (110 : Int32)), .unset] [])) _
      refine XS.iloadN X17.here hx rfl (hb hby at_114) rfl ?_
      show Steps p.tables e below (T17.setTop (mkF m 115 #[.val (.int p1), .val (.int p2), .val (.ref ar), .val (.int (110 : Int32)), .unset] [(.int (110 : Int32))])) _
      refine st201 _ ?_
      show Steps p.tables e below (T201.setTop (mkF m 118 #[.val (.int p1), .val (.int p2), .val (.ref ar), .val (.int (110 : Int32)), .unset] [(.ref b7)])) _
      refine XS.astore X201.here hx rfl (hb hby at_118) rfl rfl (l' := #[.val (.int p1), .val (.int p2), .val (.ref ar), .val (.int (110 : Int32)), .val (.ref b7)]) rfl ?_
      show Steps p.tables e below (T201.setTop (mkF m 120 #[.val (.int p1), .val (.int p2), .val (.ref ar), .val (.int (110 : Int32)), .val (.ref b7)] [])) _
      refine XS.aload X201.here hx rfl (hb hby at_120) rfl rfl ?_
      show Steps p.tables e below (T201.setTop (mkF m 122 #[.val (.int p1), .val (.int p2), .val (.ref ar), .val (.int (110 : Int32)), .val (.ref b7)] [(.ref b7)])) _
      refine XS.iloadN X201.here hx rfl (hb hby at_122) rfl ?_
      show Steps p.tables e below (T201.setTop (mkF m 123 #[.val (.int p1), .val (.int p2), .val (.ref ar), .val (.int (110 : Int32)), .val (.ref b7)] [(.int (110 : Int32)), (.ref b7)])) _
      refine st202 _ ?_
      show Steps p.tables e below (T202.setTop (mkF m 126 #[.val (.int p1), .val (.int p2), .val (.ref ar), .val (.int (110 : Int32)), .val (.ref b7)] [(.ref b7), (.ref b7)])) _
      refine acmp X202 hx rfl rfl rfl (pc0 := 126) (pc' := 129) (same := true) rfl (hb hby at_126) rfl (decide_eq_true rfl) (by decide) (by decide) ?_
      show Steps p.tables e below (T202.setTop (mkF m 129 #[.val (.int p1), .val (.int p2), .val (.ref ar), .val (.int (110 : Int32)), .val (.ref b7)] [])) _
      refine XT.iconstV X202.here hx rfl (1 : Int32) (hb hby at_129) (by decide) ?_
      show Steps p.tables e below (T202.setTop (mkF m 130 #[.val (.int p1), .val (.int p2), .val (.ref ar), .val (.int (110 : Int32)), .val (.ref b7)] [(.int (1 : Int32))])) _
      refine XS.goto X202.here hx rfl (pc0 := 130) (pc' := 134) rfl (hb hby at_130) (by decide) (by decide) ?_
      show Steps p.tables e below (T202.setTop (mkF m 134 #[.val (.int p1), .val (.int p2), .val (.ref ar), .val (.int (110 : Int32)), .val (.ref b7)] [(.int (1 : Int32))])) _
      exact retN X202 hx (t := .boolean) Bd.returns (by simp) (hb hby at_134) hr
    · exact ⟨rfl, N202, trivial⟩
  · obtain ⟨_, _, ⟨T201, L201, k201, n201⟩, -, X201, ⟨Lc201, hQ201, l201, y201, z201⟩, st201⟩ := Jvm.LawKit.callS X17 hx (y := (⟨"com/example/keyward/keyward/LdapOperation", "forRequestTag", "(I)Lcom/example/keyward/keyward/LdapOperation;"⟩ : MethodName)) hown (mvT hZ (hw _ (List.mem_of_getElem? (i := 1) rfl))) (mvT hZ (hw _ (List.mem_of_getElem? (i := 2) rfl))) (mvT hZ (hw _ (List.mem_of_getElem? (i := 3) rfl))) (mvT hZ (hw _ (List.mem_of_getElem? (i := 4) rfl))) (by decide) (backOf (W := 0) (find_8 l Z a0 hw [] aV kV b0 b1 b2 b3 b4 b5 b6 b7 b8 b9 h17 n0 ZF TaV WaV GaV Gb0 Gb1 Gb2 Gb3 Gb4 Gb5 Gb6 Gb7 Gb8 Gb9 ) hZ (hw _ (List.mem_of_getElem? (i := 4) rfl)) (hw _ (List.mem_of_getElem? (i := 3) rfl)) (by decide) (by decide)) (g := (mkF m 115 #[.val (.int p1), .val (.int p2), .val (.ref ar), .val (.int (80 : Int32)), .unset] [(.int (80 : Int32))])) rfl (by rw [hml]; rfl) (argsL := [(.int (80 : Int32))]) (rest := []) (lenOf pd_86 rfl) rfl (by show 2 * 0 + _ ≤ _; exact Nat.le_of_eq rfl) (hb hby at_115) (fun _ _ => ⟨rfl, e17, (by decide : 1 + 1 ≤ _), (by decide : 16 + 10 ≤ _)⟩)
    dsimp only [Pt.U, Pt.locs, Pt.cells, Pt.slots] at X201 l201 y201 z201 st201 hQ201
    subst l201 y201 z201
    obtain ⟨rfl, N201q, Ex201⟩ := hQ201
    have N201 := Fr.app N17 N201q
    have ZG : n0 ≤ T201.heap.size := Nat.le_trans ZF Ex201.1
    obtain ⟨_, _, ⟨T202, L202, k202, n202⟩, -, X202, ⟨Lc202, hQ202, l202, y202, z202⟩, st202⟩ := Jvm.LawKit.callS X201 hx (y := (⟨"com/example/keyward/keyward/LdapOperationForRequestTagPinLaw", "expected", "(I)Lcom/example/keyward/keyward/LdapOperation;"⟩ : MethodName)) hown (mvT hZ (hw _ (List.mem_of_getElem? (i := 32) rfl))) (mvT hZ (hw _ (List.mem_of_getElem? (i := 33) rfl))) (mvT hZ (hw _ (List.mem_of_getElem? (i := 34) rfl))) (mvT hZ (hw _ (List.mem_of_getElem? (i := 35) rfl))) (by decide) (backOf (W := 1) (exp_8 l Z a0 hw [] b8 T201.heap n0 ZG (Tb8.ext Ex201)) hZ (hw _ (List.mem_of_getElem? (i := 35) rfl)) (hw _ (List.mem_of_getElem? (i := 34) rfl)) (by decide) (by decide)) (g := (mkF m 123 #[.val (.int p1), .val (.int p2), .val (.ref ar), .val (.int (80 : Int32)), .val (.ref b8)] [(.int (80 : Int32)), (.ref b8)])) rfl (by rw [hml]; rfl) (argsL := [(.int (80 : Int32))]) (rest := [(.ref b8)]) (lenOf pd_86 rfl) rfl (by show 2 * 0 + _ ≤ _; exact Nat.le_of_eq rfl) (hb hby at_123) (fun _ _ => ⟨rfl, rfl, (by decide : 2 + 0 ≤ _), (by decide : 26 + 0 ≤ _)⟩)
    dsimp only [Pt.U, Pt.locs, Pt.cells, Pt.slots] at X202 l202 y202 z202 st202 hQ202
    subst l202 y202 z202
    obtain ⟨rfl, N202q, e202⟩ := hQ202
    have N202 := Fr.app N201 N202q
    obtain ⟨fs, hr, hrun, hended, hW, hsame⟩ := X202.leave (v := some (.int (1 : Int32))) (fun h => by rw [Bd.returns] at h; cases h)
    refine ⟨_, _, pre0 _ (pre2 _ ?_), hrun, hended, _, _, rfl, ?_, ⟨_, rfl⟩, hW, hsame.mono (by decide) (by decide)⟩
    · show Steps p.tables e below (T17.setTop (mkF m 114 #[.val (.int p1), .val (.int p2), .val (.ref ar), .val (.int (80 : Int32)), .unset] [])) _
      refine XS.iloadN X17.here hx rfl (hb hby at_114) rfl ?_
      show Steps p.tables e below (T17.setTop (mkF m 115 #[.val (.int p1), .val (.int p2), .val (.ref ar), .val (.int (80 : Int32)), .unset] [(.int (80 : Int32))])) _
      refine st201 _ ?_
      show Steps p.tables e below (T201.setTop (mkF m 118 #[.val (.int p1), .val (.int p2), .val (.ref ar), .val (.int (80 : Int32)), .unset] [(.ref b8)])) _
      refine XS.astore X201.here hx rfl (hb hby at_118) rfl rfl (l' := #[.val (.int p1), .val (.int p2), .val (.ref ar), .val (.int (80 : Int32)), .val (.ref b8)]) rfl ?_
      show Steps p.tables e below (T201.setTop (mkF m 120 #[.val (.int p1), .val (.int p2), .val (.ref ar), .val (.int (80 : Int32)), .val (.ref b8)] [])) _
      refine XS.aload X201.here hx rfl (hb hby at_120) rfl rfl ?_
      show Steps p.tables e below (T201.setTop (mkF m 122 #[.val (.int p1), .val (.int p2), .val (.ref ar), .val (.int (80 : Int32)), .val (.ref b8)] [(.ref b8)])) _
      refine XS.iloadN X201.here hx rfl (hb hby at_122) rfl ?_
      show Steps p.tables e below (T201.setTop (mkF m 123 #[.val (.int p1), .val (.int p2), .val (.ref ar), .val (.int (80 : Int32)), .val (.ref b8)] [(.int (80 : Int32)), (.ref b8)])) _
      refine st202 _ ?_
      show Steps p.tables e below (T202.setTop (mkF m 126 #[.val (.int p1), .val (.int p2), .val (.ref ar), .val (.int (80 : Int32)), .val (.ref b8)] [(.ref b8), (.ref b8)])) _
      refine acmp X202 hx rfl rfl rfl (pc0 := 126) (pc' := 129) (same := true) rfl (hb hby at_126) rfl (decide_eq_true rfl) (by decide) (by decide) ?_
      show Steps p.tables e below (T202.setTop (mkF m 129 #[.val (.int p1), .val (.int p2), .val (.ref ar), .val (.int (80 : Int32)), .val (.ref b8)] [])) _
      refine XT.iconstV X202.here hx rfl (1 : Int32) (hb hby at_129) (by decide) ?_
      show Steps p.tables e below (T202.setTop (mkF m 130 #[.val (.int p1), .val (.int p2), .val (.ref ar), .val (.int (80 : Int32)), .val (.ref b8)] [(.int (1 : Int32))])) _
      refine XS.goto X202.here hx rfl (pc0 := 130) (pc' := 134) rfl (hb hby at_130) (by decide) (by decide) ?_
      show Steps p.tables e below (T202.setTop (mkF m 134 #[.val (.int p1), .val (.int p2), .val (.ref ar), .val (.int (80 : Int32)), .val (.ref b8)] [(.int (1 : Int32))])) _
      exact retN X202 hx (t := .boolean) Bd.returns (by simp) (hb hby at_134) hr
    · exact ⟨rfl, N202, trivial⟩
  · obtain ⟨_, _, ⟨T201, L201, k201, n201⟩, -, X201, ⟨Lc201, hQ201, l201, y201, z201⟩, st201⟩ := Jvm.LawKit.callS X17 hx (y := (⟨"com/example/keyward/keyward/LdapOperation", "forRequestTag", "(I)Lcom/example/keyward/keyward/LdapOperation;"⟩ : MethodName)) hown (mvT hZ (hw _ (List.mem_of_getElem? (i := 1) rfl))) (mvT hZ (hw _ (List.mem_of_getElem? (i := 2) rfl))) (mvT hZ (hw _ (List.mem_of_getElem? (i := 3) rfl))) (mvT hZ (hw _ (List.mem_of_getElem? (i := 4) rfl))) (by decide) (backOf (W := 0) (find_9 l Z a0 hw [] aV kV b0 b1 b2 b3 b4 b5 b6 b7 b8 b9 h17 n0 ZF TaV WaV GaV Gb0 Gb1 Gb2 Gb3 Gb4 Gb5 Gb6 Gb7 Gb8 Gb9 ) hZ (hw _ (List.mem_of_getElem? (i := 4) rfl)) (hw _ (List.mem_of_getElem? (i := 3) rfl)) (by decide) (by decide)) (g := (mkF m 115 #[.val (.int p1), .val (.int p2), .val (.ref ar), .val (.int (119 : Int32)), .unset] [(.int (119 : Int32))])) rfl (by rw [hml]; rfl) (argsL := [(.int (119 : Int32))]) (rest := []) (lenOf pd_86 rfl) rfl (by show 2 * 0 + _ ≤ _; exact Nat.le_of_eq rfl) (hb hby at_115) (fun _ _ => ⟨rfl, e17, (by decide : 1 + 1 ≤ _), (by decide : 16 + 10 ≤ _)⟩)
    dsimp only [Pt.U, Pt.locs, Pt.cells, Pt.slots] at X201 l201 y201 z201 st201 hQ201
    subst l201 y201 z201
    obtain ⟨rfl, N201q, Ex201⟩ := hQ201
    have N201 := Fr.app N17 N201q
    have ZG : n0 ≤ T201.heap.size := Nat.le_trans ZF Ex201.1
    obtain ⟨_, _, ⟨T202, L202, k202, n202⟩, -, X202, ⟨Lc202, hQ202, l202, y202, z202⟩, st202⟩ := Jvm.LawKit.callS X201 hx (y := (⟨"com/example/keyward/keyward/LdapOperationForRequestTagPinLaw", "expected", "(I)Lcom/example/keyward/keyward/LdapOperation;"⟩ : MethodName)) hown (mvT hZ (hw _ (List.mem_of_getElem? (i := 32) rfl))) (mvT hZ (hw _ (List.mem_of_getElem? (i := 33) rfl))) (mvT hZ (hw _ (List.mem_of_getElem? (i := 34) rfl))) (mvT hZ (hw _ (List.mem_of_getElem? (i := 35) rfl))) (by decide) (backOf (W := 1) (exp_9 l Z a0 hw [] b9 T201.heap n0 ZG (Tb9.ext Ex201)) hZ (hw _ (List.mem_of_getElem? (i := 35) rfl)) (hw _ (List.mem_of_getElem? (i := 34) rfl)) (by decide) (by decide)) (g := (mkF m 123 #[.val (.int p1), .val (.int p2), .val (.ref ar), .val (.int (119 : Int32)), .val (.ref b9)] [(.int (119 : Int32)), (.ref b9)])) rfl (by rw [hml]; rfl) (argsL := [(.int (119 : Int32))]) (rest := [(.ref b9)]) (lenOf pd_86 rfl) rfl (by show 2 * 0 + _ ≤ _; exact Nat.le_of_eq rfl) (hb hby at_123) (fun _ _ => ⟨rfl, rfl, (by decide : 2 + 0 ≤ _), (by decide : 26 + 0 ≤ _)⟩)
    dsimp only [Pt.U, Pt.locs, Pt.cells, Pt.slots] at X202 l202 y202 z202 st202 hQ202
    subst l202 y202 z202
    obtain ⟨rfl, N202q, e202⟩ := hQ202
    have N202 := Fr.app N201 N202q
    obtain ⟨fs, hr, hrun, hended, hW, hsame⟩ := X202.leave (v := some (.int (1 : Int32))) (fun h => by rw [Bd.returns] at h; cases h)
    refine ⟨_, _, pre0 _ (pre2 _ ?_), hrun, hended, _, _, rfl, ?_, ⟨_, rfl⟩, hW, hsame.mono (by decide) (by decide)⟩
    · show Steps p.tables e below (T17.setTop (mkF m 114 #[.val (.int p1), .val (.int p2), .val (.ref ar), .val (.int (119 : Int32)), .unset] [])) _
      refine XS.iloadN X17.here hx rfl (hb hby at_114) rfl ?_
      show Steps p.tables e below (T17.setTop (mkF m 115 #[.val (.int p1), .val (.int p2), .val (.ref ar), .val (.int (119 : Int32)), .unset] [(.int (119 : Int32))])) _
      refine st201 _ ?_
      show Steps p.tables e below (T201.setTop (mkF m 118 #[.val (.int p1), .val (.int p2), .val (.ref ar), .val (.int (119 : Int32)), .unset] [(.ref b9)])) _
      refine XS.astore X201.here hx rfl (hb hby at_118) rfl rfl (l' := #[.val (.int p1), .val (.int p2), .val (.ref ar), .val (.int (119 : Int32)), .val (.ref b9)]) rfl ?_
      show Steps p.tables e below (T201.setTop (mkF m 120 #[.val (.int p1), .val (.int p2), .val (.ref ar), .val (.int (119 : Int32)), .val (.ref b9)] [])) _
      refine XS.aload X201.here hx rfl (hb hby at_120) rfl rfl ?_
      show Steps p.tables e below (T201.setTop (mkF m 122 #[.val (.int p1), .val (.int p2), .val (.ref ar), .val (.int (119 : Int32)), .val (.ref b9)] [(.ref b9)])) _
      refine XS.iloadN X201.here hx rfl (hb hby at_122) rfl ?_
      show Steps p.tables e below (T201.setTop (mkF m 123 #[.val (.int p1), .val (.int p2), .val (.ref ar), .val (.int (119 : Int32)), .val (.ref b9)] [(.int (119 : Int32)), (.ref b9)])) _
      refine st202 _ ?_
      show Steps p.tables e below (T202.setTop (mkF m 126 #[.val (.int p1), .val (.int p2), .val (.ref ar), .val (.int (119 : Int32)), .val (.ref b9)] [(.ref b9), (.ref b9)])) _
      refine acmp X202 hx rfl rfl rfl (pc0 := 126) (pc' := 129) (same := true) rfl (hb hby at_126) rfl (decide_eq_true rfl) (by decide) (by decide) ?_
      show Steps p.tables e below (T202.setTop (mkF m 129 #[.val (.int p1), .val (.int p2), .val (.ref ar), .val (.int (119 : Int32)), .val (.ref b9)] [])) _
      refine XT.iconstV X202.here hx rfl (1 : Int32) (hb hby at_129) (by decide) ?_
      show Steps p.tables e below (T202.setTop (mkF m 130 #[.val (.int p1), .val (.int p2), .val (.ref ar), .val (.int (119 : Int32)), .val (.ref b9)] [(.int (1 : Int32))])) _
      refine XS.goto X202.here hx rfl (pc0 := 130) (pc' := 134) rfl (hb hby at_130) (by decide) (by decide) ?_
      show Steps p.tables e below (T202.setTop (mkF m 134 #[.val (.int p1), .val (.int p2), .val (.ref ar), .val (.int (119 : Int32)), .val (.ref b9)] [(.int (1 : Int32))])) _
      exact retN X202 hx (t := .boolean) Bd.returns (by simp) (hb hby at_134) hr
    · exact ⟨rfl, N202, trivial⟩
  · obtain ⟨_, _, ⟨T201, L201, k201, n201⟩, -, X201, ⟨Lc201, hQ201, l201, y201, z201⟩, st201⟩ := Jvm.LawKit.callS X17 hx (y := (⟨"com/example/keyward/keyward/LdapOperation", "forRequestTag", "(I)Lcom/example/keyward/keyward/LdapOperation;"⟩ : MethodName)) hown (mvT hZ (hw _ (List.mem_of_getElem? (i := 1) rfl))) (mvT hZ (hw _ (List.mem_of_getElem? (i := 2) rfl))) (mvT hZ (hw _ (List.mem_of_getElem? (i := 3) rfl))) (mvT hZ (hw _ (List.mem_of_getElem? (i := 4) rfl))) (by decide) (backOf (W := 0) (find_none l Z a0 hw [] tg aV kV b0 b1 b2 b3 b4 b5 b6 b7 b8 b9 h17 n0 ZF TaV WaV GaV Gb0 Gb1 Gb2 Gb3 Gb4 Gb5 Gb6 Gb7 Gb8 Gb9 q0 q1 q2 q3 q4 q5 q6 q7 q8 q9) hZ (hw _ (List.mem_of_getElem? (i := 4) rfl)) (hw _ (List.mem_of_getElem? (i := 3) rfl)) (by decide) (by decide)) (g := (mkF m 115 #[.val (.int p1), .val (.int p2), .val (.ref ar), .val (.int tg), .unset] [(.int tg)])) rfl (by rw [hml]; rfl) (argsL := [(.int tg)]) (rest := []) (lenOf pd_86 rfl) rfl (by show 2 * 0 + _ ≤ _; exact Nat.le_of_eq rfl) (hb hby at_115) (fun _ _ => ⟨rfl, e17, (by decide : 1 + 1 ≤ _), (by decide : 16 + 10 ≤ _)⟩)
    dsimp only [Pt.U, Pt.locs, Pt.cells, Pt.slots] at X201 l201 y201 z201 st201 hQ201
    subst l201 y201 z201
    obtain ⟨rfl, N201q, Ex201⟩ := hQ201
    have N201 := Fr.app N17 N201q
    have ZG : n0 ≤ T201.heap.size := Nat.le_trans ZF Ex201.1
    obtain ⟨_, _, ⟨T202, L202, k202, n202⟩, -, X202, ⟨Lc202, hQ202, l202, y202, z202⟩, st202⟩ := Jvm.LawKit.callS X201 hx (y := (⟨"com/example/keyward/keyward/LdapOperationForRequestTagPinLaw", "expected", "(I)Lcom/example/keyward/keyward/LdapOperation;"⟩ : MethodName)) hown (mvT hZ (hw _ (List.mem_of_getElem? (i := 32) rfl))) (mvT hZ (hw _ (List.mem_of_getElem? (i := 33) rfl))) (mvT hZ (hw _ (List.mem_of_getElem? (i := 34) rfl))) (mvT hZ (hw _ (List.mem_of_getElem? (i := 35) rfl))) (by decide) (backOf (W := 1) (exp_none l Z a0 hw [] tg T201.heap n0 ZG q0 q1 q2 q3 q4 q5 q6 q7 q8 q9) hZ (hw _ (List.mem_of_getElem? (i := 35) rfl)) (hw _ (List.mem_of_getElem? (i := 34) rfl)) (by decide) (by decide)) (g := (mkF m 123 #[.val (.int p1), .val (.int p2), .val (.ref ar), .val (.int tg), .val .null] [(.int tg), .null])) rfl (by rw [hml]; rfl) (argsL := [(.int tg)]) (rest := [.null]) (lenOf pd_86 rfl) rfl (by show 2 * 0 + _ ≤ _; exact Nat.le_of_eq rfl) (hb hby at_123) (fun _ _ => ⟨rfl, rfl, (by decide : 2 + 0 ≤ _), (by decide : 26 + 0 ≤ _)⟩)
    dsimp only [Pt.U, Pt.locs, Pt.cells, Pt.slots] at X202 l202 y202 z202 st202 hQ202
    subst l202 y202 z202
    obtain ⟨rfl, N202q, e202⟩ := hQ202
    have N202 := Fr.app N201 N202q
    obtain ⟨fs, hr, hrun, hended, hW, hsame⟩ := X202.leave (v := some (.int (1 : Int32))) (fun h => by rw [Bd.returns] at h; cases h)
    refine ⟨_, _, pre0 _ (pre2 _ ?_), hrun, hended, _, _, rfl, ?_, ⟨_, rfl⟩, hW, hsame.mono (by decide) (by decide)⟩
    · show Steps p.tables e below (T17.setTop (mkF m 114 #[.val (.int p1), .val (.int p2), .val (.ref ar), .val (.int tg), .unset] [])) _
      refine XS.iloadN X17.here hx rfl (hb hby at_114) rfl ?_
      show Steps p.tables e below (T17.setTop (mkF m 115 #[.val (.int p1), .val (.int p2), .val (.ref ar), .val (.int tg), .unset] [(.int tg)])) _
      refine st201 _ ?_
      show Steps p.tables e below (T201.setTop (mkF m 118 #[.val (.int p1), .val (.int p2), .val (.ref ar), .val (.int tg), .unset] [.null])) _
      refine XS.astore X201.here hx rfl (hb hby at_118) rfl rfl (l' := #[.val (.int p1), .val (.int p2), .val (.ref ar), .val (.int tg), .val .null]) rfl ?_
      show Steps p.tables e below (T201.setTop (mkF m 120 #[.val (.int p1), .val (.int p2), .val (.ref ar), .val (.int tg), .val .null] [])) _
      refine XS.aload X201.here hx rfl (hb hby at_120) rfl rfl ?_
      show Steps p.tables e below (T201.setTop (mkF m 122 #[.val (.int p1), .val (.int p2), .val (.ref ar), .val (.int tg), .val .null] [.null])) _
      refine XS.iloadN X201.here hx rfl (hb hby at_122) rfl ?_
      show Steps p.tables e below (T201.setTop (mkF m 123 #[.val (.int p1), .val (.int p2), .val (.ref ar), .val (.int tg), .val .null] [(.int tg), .null])) _
      refine st202 _ ?_
      show Steps p.tables e below (T202.setTop (mkF m 126 #[.val (.int p1), .val (.int p2), .val (.ref ar), .val (.int tg), .val .null] [.null, .null])) _
      refine acmp X202 hx rfl rfl rfl (pc0 := 126) (pc' := 129) (same := true) rfl (hb hby at_126) rfl (decide_eq_true rfl) (by decide) (by decide) ?_
      show Steps p.tables e below (T202.setTop (mkF m 129 #[.val (.int p1), .val (.int p2), .val (.ref ar), .val (.int tg), .val .null] [])) _
      refine XT.iconstV X202.here hx rfl (1 : Int32) (hb hby at_129) (by decide) ?_
      show Steps p.tables e below (T202.setTop (mkF m 130 #[.val (.int p1), .val (.int p2), .val (.ref ar), .val (.int tg), .val .null] [(.int (1 : Int32))])) _
      refine XS.goto X202.here hx rfl (pc0 := 130) (pc' := 134) rfl (hb hby at_130) (by decide) (by decide) ?_
      show Steps p.tables e below (T202.setTop (mkF m 134 #[.val (.int p1), .val (.int p2), .val (.ref ar), .val (.int tg), .val .null] [(.int (1 : Int32))])) _
      exact retN X202 hx (t := .boolean) Bd.returns (by simp) (hb hby at_134) hr
    · exact ⟨rfl, N202, trivial⟩
set_option maxRecDepth 65536 in
set_option maxHeartbeats 40000000 in
theorem comes_1 {Post : Tables → Env → Array Value → State → Outcome → State → Prop} (hpost : ∀ tb e args s v u, (limb_1_1.after args s (.returned v) u = true ∧ limb_1_2.after args s (.returned v) u = true ∧ True) → FrameEnd s (.returned v) u (Jvm.fieldLocs frame_1_writes args s ++ Jvm.arrayLocs frame_1_arrays args s ++ Jvm.staticLocs frame_1_statics s) 16 128 → Post tb e args s (.returned v) u) :
    ArmFor flags0 classFile x code maxLocals ret World_1 tables_1 room_1 Calls_1 rest_1 Pre_1 Post := by
  intro l hfl _ _ p e ha hc hk s m args below hf hA hF happ hP
  obtain ⟨hcalls, hrest, hpre⟩ := hP
  obtain ⟨-, -, -, hnamed, -, -, -, hat⟩ := (Spec.applies_iff hf).mp happ
  obtain ⟨hg, hn⟩ := and_e (Cond.before_iff.mp (show (Jvm.Cond.and given_1 narrow_1).before args s = true from hpre))
  obtain ⟨hg1, hg2⟩ := and_e hg
  obtain ⟨w0, w1, rfl⟩ : ∃ w0 w1 : Value, args = #[w0, w1] := by
    have hs : args.size = 2 := by simpa [Cond.value, given_1] using hg1
    obtain ⟨L⟩ := args
    match L, hs with
    | [w0, w1], _ => exact ⟨w0, w1, rfl⟩
  have hw := fun d (hd : d ∈ tables_1) => atoms_spec (ws := Jvm.Cond.code x code maxLocals ret :: tables_1) hat d (List.mem_cons_of_mem _ hd)
  have hfit : Fit s := fun {y c} hc i hi => by
    obtain ⟨ha, rfl⟩ := Array.getElem?_eq_some_iff.mp hc
    have q := List.all_eq_true.mp ((Array.all_eq_true_iff_forall_mem.mp hF) _ (Array.getElem_mem ha)) i (List.mem_range.mpr hi)
    simpa [Array.getElem?_eq_getElem hi] using q
  obtain ⟨ga0, gr0⟩ := and_e hg2
  obtain ⟨i0, ev0⟩ := is_v ga0
  obtain rfl : w0 = (.int i0) := Option.some.inj ev0
  obtain ⟨i1, ev1⟩ := is_v gr0
  obtain rfl : w1 = (.int i1) := Option.some.inj ev1
  obtain ⟨c0, r0⟩ := and_e hn
  obtain ⟨c1, r1⟩ := and_e r0
  obtain ⟨c2, r2⟩ := and_e r1
  obtain ⟨c3, r3⟩ := and_e r2
  obtain ⟨c4, r4⟩ := and_e r3
  obtain ⟨c5, r5⟩ := and_e r4
  obtain ⟨c6, r6⟩ := and_e r5
  obtain ⟨c7, r7⟩ := and_e r6
  obtain ⟨c8, r8⟩ := and_e r7
  obtain ⟨c9, r9⟩ := and_e r8
  obtain ⟨c10, r10⟩ := and_e r9
  obtain ⟨c11, r11⟩ := and_e r10
  obtain ⟨c12, r12⟩ := and_e r11
  obtain ⟨c13, r13⟩ := and_e r12
  obtain ⟨c14, r14⟩ := and_e r13
  obtain ⟨c15, r15⟩ := and_e r14
  obtain ⟨c16, r16⟩ := and_e r15
  obtain ⟨c17, r17⟩ := and_e r16
  obtain ⟨c18, r18⟩ := and_e r17
  obtain ⟨c19, r19⟩ := and_e r18
  obtain ⟨c20, r20⟩ := and_e r19
  obtain ⟨c21, r21⟩ := and_e r20
  obtain ⟨c22, r22⟩ := and_e r21
  obtain ⟨c23, r23⟩ := and_e r22
  obtain ⟨c24, r24⟩ := and_e r23
  obtain ⟨c25, r25⟩ := and_e r24
  obtain ⟨c26, r26⟩ := and_e r25
  obtain ⟨c27, r27⟩ := and_e r26
  obtain ⟨c28, r28⟩ := and_e r27
  obtain ⟨c29, r29⟩ := and_e r28
  obtain ⟨c30, r30⟩ := and_e r29
  obtain ⟨c31, r31⟩ := and_e r30
  obtain ⟨b0, evb0, Sb0, Eb0⟩ := own_pin c3 (hw _ (List.mem_of_getElem? (i := 3) rfl)) (hw _ (List.mem_of_getElem? (i := 17) rfl))
  obtain ⟨b1, evb1, Sb1, Eb1⟩ := own_pin c5 (hw _ (List.mem_of_getElem? (i := 3) rfl)) (hw _ (List.mem_of_getElem? (i := 18) rfl))
  obtain ⟨b2, evb2, Sb2, Eb2⟩ := own_pin c7 (hw _ (List.mem_of_getElem? (i := 3) rfl)) (hw _ (List.mem_of_getElem? (i := 19) rfl))
  obtain ⟨b3, evb3, Sb3, Eb3⟩ := own_pin c9 (hw _ (List.mem_of_getElem? (i := 3) rfl)) (hw _ (List.mem_of_getElem? (i := 20) rfl))
  obtain ⟨b4, evb4, Sb4, Eb4⟩ := own_pin c11 (hw _ (List.mem_of_getElem? (i := 3) rfl)) (hw _ (List.mem_of_getElem? (i := 21) rfl))
  obtain ⟨b5, evb5, Sb5, Eb5⟩ := own_pin c13 (hw _ (List.mem_of_getElem? (i := 3) rfl)) (hw _ (List.mem_of_getElem? (i := 22) rfl))
  obtain ⟨b6, evb6, Sb6, Eb6⟩ := own_pin c15 (hw _ (List.mem_of_getElem? (i := 3) rfl)) (hw _ (List.mem_of_getElem? (i := 23) rfl))
  obtain ⟨b7, evb7, Sb7, Eb7⟩ := own_pin c17 (hw _ (List.mem_of_getElem? (i := 3) rfl)) (hw _ (List.mem_of_getElem? (i := 24) rfl))
  obtain ⟨b8, evb8, Sb8, Eb8⟩ := own_pin c19 (hw _ (List.mem_of_getElem? (i := 3) rfl)) (hw _ (List.mem_of_getElem? (i := 25) rfl))
  obtain ⟨b9, evb9, Sb9, Eb9⟩ := own_pin c21 (hw _ (List.mem_of_getElem? (i := 3) rfl)) (hw _ (List.mem_of_getElem? (i := 26) rfl))
  obtain ⟨aV, evV⟩ := exa_v c1
  have EaV := Exa.start evV c1
  have SaV := Sta.start evV (Or.inr ⟨(hw _ (List.mem_of_getElem? (i := 3) rfl)), (hw _ (List.mem_of_getElem? (i := 9) rfl))⟩)
  obtain ⟨clV, ArV⟩ := Arr.start evV c0
  obtain ⟨ltV, lenV⟩ := own_len evV ArV c2
  have hb0 := own_elem evV ArV.1 evb0 c4
  have Fb0 := own_fld evb0 c23
  have hb1 := own_elem evV ArV.1 evb1 c6
  have Fb1 := own_fld evb1 c24
  have hb2 := own_elem evV ArV.1 evb2 c8
  have Fb2 := own_fld evb2 c25
  have hb3 := own_elem evV ArV.1 evb3 c10
  have Fb3 := own_fld evb3 c26
  have hb4 := own_elem evV ArV.1 evb4 c12
  have Fb4 := own_fld evb4 c27
  have hb5 := own_elem evV ArV.1 evb5 c14
  have Fb5 := own_fld evb5 c28
  have hb6 := own_elem evV ArV.1 evb6 c16
  have Fb6 := own_fld evb6 c29
  have hb7 := own_elem evV ArV.1 evb7 c18
  have Fb7 := own_fld evb7 c30
  have hb8 := own_elem evV ArV.1 evb8 c20
  have Fb8 := own_fld evb8 c31
  have hb9 := own_elem evV ArV.1 evb9 c22
  have Fb9 := own_fld evb9 r31
  have VaV : Arv s s.heap aV clV.cls (.object "com/example/keyward/keyward/LdapOperation") (10 : Int32) [(.ref b0), (.ref b1), (.ref b2), (.ref b3), (.ref b4), (.ref b5), (.ref b6), (.ref b7), (.ref b8), (.ref b9)] .null := Arv.start hfit ArV ltV lenV (by decide) rfl ⟨hb0, hb1, hb2, hb3, hb4, hb5, hb6, hb7, hb8, hb9, trivial⟩
  obtain ⟨n, o, h1, h2, h3, _, L, rfl, ⟨rfl, N, -⟩, hq⟩ := rm_law l s _ hw tables_1 i0 i1 aV clV.cls b0 b1 b2 b3 b4 b5 b6 b7 b8 b9 s.heap s.heap.size (Nat.le_refl _) SaV VaV EaV Fb0 Fb1 Fb2 Fb3 Fb4 Fb5 Fb6 Fb7 Fb8 Fb9 Sb0 Sb1 Sb2 Sb3 Sb4 Sb5 Sb6 Sb7 Sb8 Sb9 p e ha hc hk s m _ below hf ((Spec.applies_iff_loose hf).mp happ).1 ⟨rfl, State.Warmed39.refl s, rfl⟩ trivial
  refine ⟨n, _, h1, h2, h3, hpost _ _ _ _ _ _ ⟨Cond.after_iff.mpr rfl, Cond.after_iff.mpr (eq_i res_at (Term.int_eval (1)) rfl), trivial⟩ ⟨hq.1, hq.2.1, (hq.2.2.sift fun y hy => Or.inr (N y hy)).mono (by decide) (by decide)⟩⟩
theorem main_1_1 : Claimed_1_1 := comes_1 fun _ _ _ _ _ _ h hF => ⟨h.1, hF⟩
theorem main_1_2 : Claimed_1_2 := comes_1 fun _ _ _ _ _ _ h hF => ⟨h.2.1, hF⟩
end Jvm.Pilot.@@N@@
namespace Jvm.Pilot.@@N@@
open Jvm Jvm.ClassFile Sem Op Lib Jvm.Free Jvm.Stand Jvm.Pilot.@@N@@.Jvm.D
/-! MADE BY PROGRAM (witnessworld.py) out of the Statement's table words and the real class files: 13 classes; the members and pool entries that the words name. The judged class is class 1, her method 2. -/
namespace start1
open Jvm.ClassFile
def u (s : String) : CpInfo := .utf8 (stringToUtf16 s)
/-- a pool by its gaps: so many unusable entries, then the entry; so many at the end -/
def gap : Nat → List CpInfo → List CpInfo
  | 0, r => r
  | n + 1, r => .unusable :: gap n r
def poolList (es : List (Nat × CpInfo)) (last : Nat) : List CpInfo := es.foldr (fun e r => gap e.1 (e.2 :: r)) (gap last [])
def pool (es : List (Nat × CpInfo)) (last : Nat) : Array CpInfo := ⟨poolList es last⟩
def fileOf (pool : Array CpInfo) (this : Nat) (attrs : Array Attribute := #[]) (ms : Array MethodInfo := #[]) (fl : Nat := 33) (sup : Nat := 0) (ifs : Array Nat := #[]) (fds : Array FieldInfo := #[]) : ClassFile where
  minorVersion := 0
  majorVersion := 65
  constantPool := pool
  accessFlags := fl
  thisClass := this
  superClass := sup
  interfaces := ifs
  fields := fds
  methods := ms
  attributes := attrs
def plain (name : String) (sup : Option ClassId) : Class where
  name := name
  kind := .ordinary
  loader := none
  accessFlags := 33
  super := sup
  interfaces := #[]
  cf := none
  fields := #[]
  methods := #[]
  instanceTypes := #[]
  staticTypes := #[]
  resolved := #[]
  callSites := []
  init := .initialized
  statics := none
  mirror := none

def pool0 : Array CpInfo := pool [(5, u "<init>"), (0, u "()V"), (1, .class_ 10), (1, u "java/lang/Object"), (85, u "clone"), (0, u "()Ljava/lang/Object;")] 26

def k0m0 : Method := { name := "<init>", desc := "()V", sig := { parameters := [], returnType := none }, accessFlags := 1, code := none }
def k0m1 : Method := { name := "clone", desc := "()Ljava/lang/Object;", sig := { parameters := [], returnType := some (.object "java/lang/Object") }, accessFlags := 260, code := none }
/-- java/lang/Object -/
def k0 : Class := { plain "java/lang/Object" none with
  accessFlags := 33
  interfaces := #[]
  cf := some (fileOf pool0 8 #[] #[{ accessFlags := 1, nameIndex := 5, descriptorIndex := 6, attributes := #[] }, { accessFlags := 260, nameIndex := 96, descriptorIndex := 97, attributes := #[] }] 33 0 #[] #[])
  fields := #[]
  methods := #[k0m0, k0m1]
  instanceTypes := #[]
  staticTypes := #[]
  resolved := Array.replicate 124 none
  statics := none }

def pool1 : Array CpInfo := pool [(2, .class_ 4), (1, u "java/lang/Object"), (0, u "<init>"), (0, u "()V"), (0, .fieldref 8 9), (0, .class_ 10), (0, .nameAndType 11 12), (0, u "com/example/keyward/keyward/LdapOperation"), (0, u "BIND"), (0, u "Lcom/example/keyward/keyward/LdapOperation;"), (0, .fieldref 8 14), (0, .nameAndType 15 12), (0, u "UNBIND"), (0, .fieldref 8 17), (0, .nameAndType 18 12), (0, u "SEARCH"), (0, .fieldref 8 20), (0, .nameAndType 21 12), (0, u "MODIFY"), (0, .fieldref 8 23), (0, .nameAndType 24 12), (0, u "ADD"), (0, .fieldref 8 26), (0, .nameAndType 27 12), (0, u "DELETE"), (0, .fieldref 8 29), (0, .nameAndType 30 12), (0, u "MODIFY_DN"), (0, .fieldref 8 32), (0, .nameAndType 33 12), (0, u "COMPARE"), (0, .fieldref 8 35), (0, .nameAndType 36 12), (0, u "ABANDON"), (0, .fieldref 8 38), (0, .nameAndType 39 12), (0, u "EXTENDED"), (0, .methodref 8 41), (0, .nameAndType 42 43), (0, u "forRequestTag"), (0, u "(I)Lcom/example/keyward/keyward/LdapOperation;"), (0, .methodref 45 46), (0, .class_ 47), (0, .nameAndType 48 43), (0, u "com/example/keyward/keyward/LdapOperationForRequestTagPinLaw"), (0, u "expected"), (3, u "law"), (0, u "(II)Z")] 4

def k1m0 : Method := { name := "<init>", desc := "()V", sig := { parameters := [], returnType := none }, accessFlags := 1, code := none }
def k1c1 : Code := { maxStack := 2, maxLocals := 1, code := method_2_code, exceptionTable := #[], attributes := #[] }
def k1m1 : Method := { name := "expected", desc := "(I)Lcom/example/keyward/keyward/LdapOperation;", sig := { parameters := [.int], returnType := some (.object "com/example/keyward/keyward/LdapOperation") }, accessFlags := 10, code := some k1c1 }
def k1c2 : Code := { maxStack := 4, maxLocals := 5, code := code, exceptionTable := #[], attributes := #[] }
def k1m2 : Method := { name := "law", desc := "(II)Z", sig := { parameters := [.int, .int], returnType := some .boolean }, accessFlags := 9, code := some k1c2 }
/-- com/example/keyward/keyward/LdapOperationForRequestTagPinLaw -/
def k1 : Class := { plain "com/example/keyward/keyward/LdapOperationForRequestTagPinLaw" (some 0) with
  accessFlags := 49
  interfaces := #[]
  cf := some (fileOf pool1 45 #[] #[{ accessFlags := 1, nameIndex := 5, descriptorIndex := 6, attributes := #[] }, { accessFlags := 10, nameIndex := 48, descriptorIndex := 43, attributes := #[] }, { accessFlags := 9, nameIndex := 52, descriptorIndex := 53, attributes := #[] }] 49 2 #[] #[])
  fields := #[]
  methods := #[k1m0, k1m1, k1m2]
  instanceTypes := #[]
  staticTypes := #[]
  resolved := Array.replicate 58 none
  statics := none }

def pool2 : Array CpInfo := pool [(1, .class_ 2), (0, u "java/lang/constant/Constable"), (0, .class_ 4), (0, u "java/lang/Object")] 6

/-- java/lang/constant/Constable -/
def k2 : Class := { plain "java/lang/constant/Constable" (some 0) with
  accessFlags := 1537
  interfaces := #[]
  cf := some (fileOf pool2 1 #[] #[] 1537 3 #[] #[])
  fields := #[]
  methods := #[]
  instanceTypes := #[]
  staticTypes := #[]
  resolved := Array.replicate 11 none
  statics := none }

def pool3 : Array CpInfo := pool [(1, .class_ 2), (0, u "java/lang/Comparable"), (0, .class_ 4), (0, u "java/lang/Object")] 7

/-- java/lang/Comparable -/
def k3 : Class := { plain "java/lang/Comparable" (some 0) with
  accessFlags := 1537
  interfaces := #[]
  cf := some (fileOf pool3 1 #[] #[] 1537 3 #[] #[])
  fields := #[]
  methods := #[]
  instanceTypes := #[]
  staticTypes := #[]
  resolved := Array.replicate 12 none
  statics := none }

def pool4 : Array CpInfo := pool [(1, .class_ 2), (0, u "java/io/Serializable"), (0, .class_ 4), (0, u "java/lang/Object")] 2

/-- java/io/Serializable -/
def k4 : Class := { plain "java/io/Serializable" (some 0) with
  accessFlags := 1537
  interfaces := #[]
  cf := some (fileOf pool4 1 #[] #[] 1537 3 #[] #[])
  fields := #[]
  methods := #[]
  instanceTypes := #[]
  staticTypes := #[]
  resolved := Array.replicate 7 none
  statics := none }

def pool5 : Array CpInfo := pool [(2, .class_ 4), (1, u "java/lang/Enum"), (0, u "name"), (0, u "Ljava/lang/String;"), (2, u "ordinal"), (0, u "I"), (1, .class_ 14), (1, u "java/lang/Object"), (4, u "hash"), (86, .class_ 108), (1, u "java/lang/Enum$EnumDesc"), (2, .class_ 112), (0, u "java/lang/constant/Constable"), (0, .class_ 114), (0, u "java/lang/Comparable"), (0, .class_ 116), (0, u "java/io/Serializable")] 87

/-- java/lang/Enum -/
def k5 : Class := { plain "java/lang/Enum" (some 0) with
  accessFlags := 1057
  interfaces := #[2, 3, 4]
  cf := some (fileOf pool5 2 #[.nestMembers #[106]] #[] 1057 12 #[111, 113, 115] #[{ accessFlags := 18, nameIndex := 5, descriptorIndex := 6, attributes := #[] }, { accessFlags := 18, nameIndex := 9, descriptorIndex := 10, attributes := #[] }, { accessFlags := 2, nameIndex := 19, descriptorIndex := 10, attributes := #[] }])
  fields := #[{ name := "name", type := (.object "java/lang/String"), accessFlags := 18, slot := 0, constantValue := 0 }, { name := "ordinal", type := .int, accessFlags := 18, slot := 1, constantValue := 0 }, { name := "hash", type := .int, accessFlags := 2, slot := 2, constantValue := 0 }]
  methods := #[]
  instanceTypes := #[(.object "java/lang/String"), .int, .int]
  staticTypes := #[]
  resolved := Array.replicate 204 none
  statics := none }

def pool6 : Array CpInfo := pool [(1, .class_ 2), (0, u "com/example/keyward/keyward/LdapOperation"), (2, u "BIND"), (0, u "Lcom/example/keyward/keyward/LdapOperation;"), (2, u "UNBIND"), (2, u "SEARCH"), (2, u "MODIFY"), (2, u "ADD"), (2, u "DELETE"), (2, u "MODIFY_DN"), (2, u "COMPARE"), (2, u "ABANDON"), (2, u "EXTENDED"), (0, .fieldref 1 35), (0, .nameAndType 36 37), (0, u "$VALUES"), (0, u "[Lcom/example/keyward/keyward/LdapOperation;"), (0, .methodref 39 40), (0, .class_ 37), (0, .nameAndType 41 42), (0, u "clone"), (0, u "()Ljava/lang/Object;"), (1, .class_ 46), (1, u "java/lang/Enum"), (8, u "label"), (0, u "Ljava/lang/String;"), (0, .fieldref 1 58), (0, .nameAndType 59 60), (0, u "requestTag"), (0, u "I"), (2, u "responseTag"), (0, .methodref 1 65), (0, .nameAndType 66 67), (0, u "values"), (0, u "()[Lcom/example/keyward/keyward/LdapOperation;"), (42, u "forRequestTag"), (0, u "(I)Lcom/example/keyward/keyward/LdapOperation;")] 8

def k6c0 : Code := { maxStack := 1, maxLocals := 0, code := prog_16_method_1_code, exceptionTable := #[], attributes := #[] }
def k6m0 : Method := { name := "values", desc := "()[Lcom/example/keyward/keyward/LdapOperation;", sig := { parameters := [], returnType := some (.array (.object "com/example/keyward/keyward/LdapOperation")) }, accessFlags := 9, code := some k6c0 }
def k6c1 : Code := { maxStack := 2, maxLocals := 5, code := prog_16_method_4_code, exceptionTable := #[], attributes := #[] }
def k6m1 : Method := { name := "forRequestTag", desc := "(I)Lcom/example/keyward/keyward/LdapOperation;", sig := { parameters := [.int], returnType := some (.object "com/example/keyward/keyward/LdapOperation") }, accessFlags := 8, code := some k6c1 }
/-- com/example/keyward/keyward/LdapOperation -/
def k6 : Class := { plain "com/example/keyward/keyward/LdapOperation" (some 5) with
  accessFlags := 16432
  interfaces := #[]
  cf := some (fileOf pool6 1 #[] #[{ accessFlags := 9, nameIndex := 66, descriptorIndex := 67, attributes := #[] }, { accessFlags := 8, nameIndex := 110, descriptorIndex := 111, attributes := #[] }] 16432 44 #[] #[{ accessFlags := 16409, nameIndex := 5, descriptorIndex := 6, attributes := #[] }, { accessFlags := 16409, nameIndex := 9, descriptorIndex := 6, attributes := #[] }, { accessFlags := 16409, nameIndex := 12, descriptorIndex := 6, attributes := #[] }, { accessFlags := 16409, nameIndex := 15, descriptorIndex := 6, attributes := #[] }, { accessFlags := 16409, nameIndex := 18, descriptorIndex := 6, attributes := #[] }, { accessFlags := 16409, nameIndex := 21, descriptorIndex := 6, attributes := #[] }, { accessFlags := 16409, nameIndex := 24, descriptorIndex := 6, attributes := #[] }, { accessFlags := 16409, nameIndex := 27, descriptorIndex := 6, attributes := #[] }, { accessFlags := 16409, nameIndex := 30, descriptorIndex := 6, attributes := #[] }, { accessFlags := 16409, nameIndex := 33, descriptorIndex := 6, attributes := #[] }, { accessFlags := 18, nameIndex := 55, descriptorIndex := 56, attributes := #[] }, { accessFlags := 18, nameIndex := 59, descriptorIndex := 60, attributes := #[] }, { accessFlags := 18, nameIndex := 63, descriptorIndex := 60, attributes := #[] }, { accessFlags := 4122, nameIndex := 36, descriptorIndex := 37, attributes := #[] }])
  fields := #[{ name := "BIND", type := (.object "com/example/keyward/keyward/LdapOperation"), accessFlags := 16409, slot := 0, constantValue := 0 }, { name := "UNBIND", type := (.object "com/example/keyward/keyward/LdapOperation"), accessFlags := 16409, slot := 1, constantValue := 0 }, { name := "SEARCH", type := (.object "com/example/keyward/keyward/LdapOperation"), accessFlags := 16409, slot := 2, constantValue := 0 }, { name := "MODIFY", type := (.object "com/example/keyward/keyward/LdapOperation"), accessFlags := 16409, slot := 3, constantValue := 0 }, { name := "ADD", type := (.object "com/example/keyward/keyward/LdapOperation"), accessFlags := 16409, slot := 4, constantValue := 0 }, { name := "DELETE", type := (.object "com/example/keyward/keyward/LdapOperation"), accessFlags := 16409, slot := 5, constantValue := 0 }, { name := "MODIFY_DN", type := (.object "com/example/keyward/keyward/LdapOperation"), accessFlags := 16409, slot := 6, constantValue := 0 }, { name := "COMPARE", type := (.object "com/example/keyward/keyward/LdapOperation"), accessFlags := 16409, slot := 7, constantValue := 0 }, { name := "ABANDON", type := (.object "com/example/keyward/keyward/LdapOperation"), accessFlags := 16409, slot := 8, constantValue := 0 }, { name := "EXTENDED", type := (.object "com/example/keyward/keyward/LdapOperation"), accessFlags := 16409, slot := 9, constantValue := 0 }, { name := "label", type := (.object "java/lang/String"), accessFlags := 18, slot := 3, constantValue := 0 }, { name := "requestTag", type := .int, accessFlags := 18, slot := 4, constantValue := 0 }, { name := "responseTag", type := .int, accessFlags := 18, slot := 5, constantValue := 0 }, { name := "$VALUES", type := (.array (.object "com/example/keyward/keyward/LdapOperation")), accessFlags := 4122, slot := 10, constantValue := 0 }]
  methods := #[k6m0, k6m1]
  instanceTypes := #[(.object "java/lang/String"), .int, .int, (.object "java/lang/String"), .int, .int]
  staticTypes := #[(.object "com/example/keyward/keyward/LdapOperation"), (.object "com/example/keyward/keyward/LdapOperation"), (.object "com/example/keyward/keyward/LdapOperation"), (.object "com/example/keyward/keyward/LdapOperation"), (.object "com/example/keyward/keyward/LdapOperation"), (.object "com/example/keyward/keyward/LdapOperation"), (.object "com/example/keyward/keyward/LdapOperation"), (.object "com/example/keyward/keyward/LdapOperation"), (.object "com/example/keyward/keyward/LdapOperation"), (.object "com/example/keyward/keyward/LdapOperation"), (.array (.object "com/example/keyward/keyward/LdapOperation"))]
  resolved := Array.replicate 120 none
  statics := some 0 }

def pool7 : Array CpInfo := pool [(1, .class_ 2), (0, u "java/lang/Cloneable"), (0, .class_ 4), (0, u "java/lang/Object")] 2

/-- java/lang/Cloneable -/
def k7 : Class := { plain "java/lang/Cloneable" (some 0) with
  accessFlags := 1537
  interfaces := #[]
  cf := some (fileOf pool7 1 #[] #[] 1537 3 #[] #[])
  fields := #[]
  methods := #[]
  instanceTypes := #[]
  staticTypes := #[]
  resolved := Array.replicate 7 none
  statics := none }

/-- the primitive byte -/
def k8 : Class := { plain "byte" none with kind := .primitive 'B', accessFlags := 0x411 }
/-- [B -/
def k9 : Class := { plain "[B" (some 0) with kind := .array 8 .byte, interfaces := #[7, 4], accessFlags := 1041 }

/-- the primitive int -/
def k10 : Class := { plain "int" none with kind := .primitive 'I', accessFlags := 0x411 }
/-- [I -/
def k11 : Class := { plain "[I" (some 0) with kind := .array 10 .int, interfaces := #[7, 4], accessFlags := 1041 }

/-- [Lcom/example/keyward/keyward/LdapOperation; -/
def k12 : Class := { plain "[Lcom/example/keyward/keyward/LdapOperation;" (some 0) with kind := .array 6 (.object "com/example/keyward/keyward/LdapOperation"), interfaces := #[7, 4], accessFlags := 1041 }

def heap : Heap := #[{ cls := 6, slots := #[.ref 2, .ref 3, .ref 4, .ref 5, .ref 6, .ref 7, .ref 8, .ref 9, .ref 10, .ref 11, .ref 1], vm := .statics 6 },
  { cls := 12, slots := #[.ref 2, .ref 3, .ref 4, .ref 5, .ref 6, .ref 7, .ref 8, .ref 9, .ref 10, .ref 11], vm := .none },
  { cls := 6, slots := #[.null, .int 0, .int 0, .null, .int 96, .int 0], vm := .none },
  { cls := 6, slots := #[.null, .int 1, .int 0, .null, .int 66, .int 0], vm := .none },
  { cls := 6, slots := #[.null, .int 2, .int 0, .null, .int 99, .int 0], vm := .none },
  { cls := 6, slots := #[.null, .int 3, .int 0, .null, .int 102, .int 0], vm := .none },
  { cls := 6, slots := #[.null, .int 4, .int 0, .null, .int 104, .int 0], vm := .none },
  { cls := 6, slots := #[.null, .int 5, .int 0, .null, .int 74, .int 0], vm := .none },
  { cls := 6, slots := #[.null, .int 6, .int 0, .null, .int 108, .int 0], vm := .none },
  { cls := 6, slots := #[.null, .int 7, .int 0, .null, .int 110, .int 0], vm := .none },
  { cls := 6, slots := #[.null, .int 8, .int 0, .null, .int 80, .int 0], vm := .none },
  { cls := 6, slots := #[.null, .int 9, .int 0, .null, .int 119, .int 0], vm := .none }]
def classes : Array Class := #[k0, k1, k2, k3, k4, k5, k6, k7, k8, k9, k10, k11, k12]
def interned : List (Array UInt16 × Addr) := []
def slotsUsed : Nat := 81
def theMethod : MethodId := ⟨1, 2⟩
def args0 : Array Value := #[.int 5, .int 3]
def aboutOver (below : List Frame) : State where
  vm := { classes := classes, interned := interned.toArray }
  heap := heap
  slotsUsed := slotsUsed
  threads := #[{ frames := .invoking theMethod args0 :: below }]
def below0 : List Frame := [.native { method := ⟨0, 0⟩, args := #[] }]
def about1 : State := aboutOver below0
def p0 : Program := .bare "" "" ""
def e0 : Env := launch0.env 0 0 0
theorem w_frames : about1.frames = Frame.invoking theMethod args0 :: below0 := rfl
set_option maxRecDepth 65536 in
theorem w_args : argsFit about1.vm theMethod args0 = true := by decide +kernel
set_option maxRecDepth 65536 in
theorem w_heap : heapFits about1 = true := by decide +kernel
set_option maxRecDepth 65536 in
theorem w_runnable : about1.curStatus? = some .runnable := by decide +kernel
set_option maxRecDepth 65536 in
theorem w_alone : about1.alone = true := by decide +kernel
set_option maxRecDepth 65536 in
theorem w_named : about1.methodNamed? x = some theMethod := by decide +kernel
set_option maxRecDepth 65536 in
theorem w_hears : about1.hears theMethod below0 = true := by decide +kernel
set_option maxRecDepth 65536 in
theorem w_ripe : about1.ripe theMethod args0 below0 = true := by decide +kernel
theorem w_running : about1.status = .running := rfl
set_option maxRecDepth 65536 in
theorem w_room : about1.hasRoom e0.platform room_1 = true :=
  launch0.hasRoom_least _ room_1 (by decide +kernel) (by decide +kernel) (by decide +kernel) (by decide +kernel) (by decide +kernel) (by decide +kernel)
theorem allAtoms_all (ts : List Jvm.Cond) (a : Array Jvm.Value) (st : Jvm.State) : (allAtoms ts).before a st = ts.all (fun c => c.before a st) := by
  induction ts with
  | nil => rfl
  | cons c t ih =>
    show (Jvm.Cond.and c (allAtoms t)).before a st = _
    rw [Jvm.Cond.before_and, ih, List.all_cons]
def words1 : List Jvm.Cond := Jvm.Cond.code x code maxLocals ret :: tables_1
/-- a 'code' word, met by the world's own term for the bytes: nothing is compared byte by byte -/
theorem code_word {y : MethodName} {bytes : ByteArray} {mx : Nat} {rt : Option FieldType} {a : Array Value} {s : State} {m : MethodId} {meth : Method} {c : Code} (h1 : s.methodNamed? y = some m) (h2 : s.vm.method? m = some meth) (h3 : meth.code = some c) (h4 : c.code = bytes)
    (h5 : (c.maxLocals == mx && c.exceptionTable.isEmpty && decide (c.maxStack ≤ mostOperands) && decide (meth.sig.returnType = rt) && !meth.locks && decide (parseMethodDescriptor y.desc = some meth.sig)) = true) : (Jvm.Cond.code y bytes mx rt).before a s = true := by
  simp only [Bool.and_eq_true, beq_iff_eq, Bool.not_eq_true', decide_eq_true_eq] at h5
  obtain ⟨⟨⟨⟨⟨g1, g2⟩, g3⟩, g4⟩, g5⟩, g6⟩ := h5
  simp [Cond.before, Cond.holds, Cond.value, h1, h2, h3, h4, g1, g2, g3, g4, g5, g6]
def isCode : Jvm.Cond → Bool
  | .code _ _ _ _ => true
  | _ => false
theorem all_split {L : List Jvm.Cond} {P : Jvm.Cond → Bool} (h1 : L.all (fun c => isCode c || P c) = true) (h2 : ∀ c ∈ L.filter isCode, P c = true) : L.all P = true := by
  refine List.all_eq_true.mpr fun c hc => ?_
  have h := List.all_eq_true.mp h1 c hc
  rcases Bool.eq_false_or_eq_true (isCode c) with hi | hi
  · exact h2 c (List.mem_filter.mpr ⟨hc, hi⟩)
  · simpa [hi] using h
set_option maxRecDepth 65536 in
theorem w_c0 : (Jvm.Cond.code x code maxLocals ret).before args0 about1 = true := code_word (m := ⟨1, 2⟩) (meth := k1m2) (c := k1c2) (by decide +kernel) rfl rfl rfl (by decide +kernel)
set_option maxRecDepth 65536 in
theorem w_c1 : (Jvm.Cond.code ({ cls := "com/example/keyward/keyward/LdapOperation", name := "forRequestTag", desc := "(I)Lcom/example/keyward/keyward/LdapOperation;" } : Jvm.MethodName) prog_16_method_4_code (5 : Nat) (Option.some (Jvm.ClassFile.FieldType.object "com/example/keyward/keyward/LdapOperation"))).before args0 about1 = true := code_word (m := ⟨6, 1⟩) (meth := k6m1) (c := k6c1) (by decide +kernel) rfl rfl rfl (by decide +kernel)
set_option maxRecDepth 65536 in
theorem w_c2 : (Jvm.Cond.code ({ cls := "com/example/keyward/keyward/LdapOperation", name := "values", desc := "()[Lcom/example/keyward/keyward/LdapOperation;" } : Jvm.MethodName) prog_16_method_1_code (0 : Nat) (Option.some (Jvm.ClassFile.FieldType.array (Jvm.ClassFile.FieldType.object "com/example/keyward/keyward/LdapOperation")))).before args0 about1 = true := code_word (m := ⟨6, 0⟩) (meth := k6m0) (c := k6c0) (by decide +kernel) rfl rfl rfl (by decide +kernel)
set_option maxRecDepth 65536 in
theorem w_c3 : (Jvm.Cond.code ({ cls := "com/example/keyward/keyward/LdapOperationForRequestTagPinLaw", name := "expected", desc := "(I)Lcom/example/keyward/keyward/LdapOperation;" } : Jvm.MethodName) method_2_code (1 : Nat) (Option.some (Jvm.ClassFile.FieldType.object "com/example/keyward/keyward/LdapOperation"))).before args0 about1 = true := code_word (m := ⟨1, 1⟩) (meth := k1m1) (c := k1c1) (by decide +kernel) rfl rfl rfl (by decide +kernel)
def codes1 : List Jvm.Cond := [Jvm.Cond.code x code maxLocals ret, Jvm.Cond.code ({ cls := "com/example/keyward/keyward/LdapOperation", name := "forRequestTag", desc := "(I)Lcom/example/keyward/keyward/LdapOperation;" } : Jvm.MethodName) prog_16_method_4_code (5 : Nat) (Option.some (Jvm.ClassFile.FieldType.object "com/example/keyward/keyward/LdapOperation")), Jvm.Cond.code ({ cls := "com/example/keyward/keyward/LdapOperation", name := "values", desc := "()[Lcom/example/keyward/keyward/LdapOperation;" } : Jvm.MethodName) prog_16_method_1_code (0 : Nat) (Option.some (Jvm.ClassFile.FieldType.array (Jvm.ClassFile.FieldType.object "com/example/keyward/keyward/LdapOperation"))), Jvm.Cond.code ({ cls := "com/example/keyward/keyward/LdapOperationForRequestTagPinLaw", name := "expected", desc := "(I)Lcom/example/keyward/keyward/LdapOperation;" } : Jvm.MethodName) method_2_code (1 : Nat) (Option.some (Jvm.ClassFile.FieldType.object "com/example/keyward/keyward/LdapOperation"))]
set_option maxRecDepth 65536 in
theorem codes_eq : words1.filter isCode = codes1 := rfl
theorem w_codes : ∀ c ∈ words1.filter isCode, c.before args0 about1 = true := by
  rw [codes_eq]
  intro c hc
  simp only [codes1, List.mem_cons, List.not_mem_nil, or_false] at hc
  rcases hc with rfl | rfl | rfl | rfl
  · exact w_c0
  · exact w_c1
  · exact w_c2
  · exact w_c3
set_option maxRecDepth 65536 in
theorem w_t1 : (words1.take 24).all (fun c => isCode c || c.before args0 about1) = true := by decide +kernel
set_option maxRecDepth 65536 in
theorem w_t2 : (words1.drop 24).all (fun c => isCode c || c.before args0 about1) = true := by decide +kernel
theorem w_tables : (allAtoms (Jvm.Cond.code x code maxLocals ret :: tables_1)).before args0 about1 = true := by
  rw [allAtoms_all]
  show words1.all (fun c => c.before args0 about1) = true
  refine all_split ?_ w_codes
  rw [← List.take_append_drop 24 words1, List.all_append, w_t1, w_t2]
  rfl
set_option maxRecDepth 65536 in
theorem w_case : (Jvm.Cond.and given_1 narrow_1).before args0 about1 = true := by decide +kernel
theorem w_applies : (headSpec (Jvm.Cond.code x code maxLocals ret :: tables_1) room_1).applies x e0.platform about1 = true :=
  (Spec.applies_iff w_frames).mpr ⟨w_running, w_runnable, w_alone, w_named, w_hears, w_ripe, w_room, w_tables⟩
theorem atStart : AtStart classFile x code maxLocals ret World_1 tables_1 room_1 Calls_1 rest_1 Pre_1 launch0 p0 e0 about1 theMethod args0 below0 :=
  ⟨lists_1, trivial, launch0.admits_env _ _ _, launch0.least_env, fairChoices_fair.cas, fairChoices_fair.clock, w_frames, w_args, w_heap, w_applies, trivial, trivial, w_case⟩
end start1
theorem witness_1 : WitnessClaimed_1 := ⟨start1.p0, start1.e0, start1.about1, start1.theMethod, start1.args0, start1.below0, start1.atStart⟩
end Jvm.Pilot.@@N@@
