import JvmDerived
import JvmDerived.Pilot.@@N@@Statement
import JvmDerived.Pilot.@@N@@Code
set_option linter.unusedVariables false
set_option linter.unusedSimpArgs false
namespace Jvm.RoadKit
open Sem ClassFile Op Lib Jvm.Stand Jvm.Free Jvm.LawKit
section New
variable {p : Program} {l : Launch} {e : Env} {R : Room} {s : State} {m : MethodId} {args : Array Value} {below : List Frame} {meth : Method} {c : Code} {T : State} {locs : List Loc} {cells slots : Nat}
theorem retI (X : Stand p l e R s m args below meth c T locs cells slots) (hx : p.tables.exec = Jvm.exec) {pc : Nat} {Ls : Array Slot} {z : Int32} {rest : List Value} (hret : meth.sig.returnType = some .int) (hd : decode c.code pc = .ok (.ireturn, 1)) {fs : List Frame}
    (hl : ∀ (f : JFrame) (acts : List Action), f.method = m → f.locked = none → f.entered = [] → (doReturn e (T.setTop f) acts (some (.int z))).1 = T.setFrames fs) : Steps p.tables e below (T.setTop (mkF m pc Ls (.int z :: rest))) (T.setFrames fs) :=
  retOut X hx hret rfl (Or.inl ⟨rfl, Or.inl rfl, z, rfl⟩) hd hl
end New
end Jvm.RoadKit
namespace Jvm.Pilot.@@N@@
open Jvm Jvm.ClassFile Sem Op Lib Jvm.Free Jvm.Stand Jvm.LawKit Jvm.RoadKit Bundle Jvm.Pilot.@@N@@.Jvm.D
theorem own_pin {Z : State} {args : Array Value} {C n d K : String} (h : (Jvm.Cond.exactly (.static C n d) K).value args Z none Z [] = some true) (hi : (Jvm.Cond.initialized C).before args Z = true) (hl : (Jvm.Cond.laysStatic C n d).before args Z = true) :
    ∃ a, (Term.static C n d).eval args Z none [] Z = some (.ref a) ∧ Sta Z Z.heap C n d (.ref a) ∧ Exa Z Z.heap a K := by
  obtain ⟨a, ev⟩ := exa_v h
  exact ⟨a, ev, Sta.start ev (Or.inr ⟨hi, hl⟩), Exa.start ev h⟩
theorem own_fld {Z : State} {args : Array Value} {t : Term} {a : Addr} {C n d : String} {k : Int32} (ev : t.eval args Z none [] Z = some (.ref a)) (h : (Jvm.Cond.eq (.field t C n d) (.int k)).value args Z none Z [] = some true) : Fld Z Z.heap a C n d (.int k) := by
  obtain ⟨x, y, e1, e2, -, K⟩ := cmp_v (Or.inl h)
  have e2' : (Term.int k).eval args Z none [] Z = some (.int k) := Term.int_eval k
  cases e2.symm.trans e2'
  obtain ⟨z, rfl⟩ := K
  have q : z = k := gotT (Cond.eq_ints e1 e2) h
  subst q
  exact Fld.start ((fld_at ev).symm.trans e1)
theorem own_elem {Z : State} {args : Array Value} {t u : Term} {a b : Addr} {cl : Cell} {j : Int32} (ev : t.eval args Z none [] Z = some (.ref a)) (hc : Z.heap[a]? = some cl) (eb : u.eval args Z none [] Z = some (.ref b)) (h : (Jvm.Cond.eq (.elem t (.int j)) u).value args Z none Z [] = some true) : cl.slots[j.toNatClampNeg]? = some (.ref b) := by
  obtain ⟨x, y, e1, e2, -, K⟩ := cmp_v (Or.inl h)
  cases e2.symm.trans eb
  have q : x = .ref b := gotT (eq_R e1 e2 K.2 rfl) h
  subst q
  exact (elem_in e1 ev (Term.int_eval j) hc).2
theorem own_len {Z : State} {args : Array Value} {t : Term} {a : Addr} {cl : Cell} {ty : FieldType} {k : Int32} (ev : t.eval args Z none [] Z = some (.ref a)) (A : Arr Z Z.heap a cl ty) (h : (Jvm.Cond.eq (.length t) (.int k)).value args Z none Z [] = some true) : cl.slots.size < 2 ^ 31 ∧ cl.slots.size.toInt32 = k := by
  obtain ⟨x, y, e1, e2, -, -⟩ := cmp_v (Or.inl h)
  have ha : Z.arrayAt? a = some cl := A.fin (Vm.Alike.refl _)
  have hlt : cl.slots.size < 2 ^ 31 := by
    refine Classical.byContradiction fun q => ?_
    simp [Term.eval, ev, ha, q] at e1
  exact ⟨hlt, gotT (Cond.eq_ints (len_f ev ha hlt) (Term.int_eval k)) h⟩
theorem own_p8 : (8 : Int32).toInt = 8 := by decide
theorem own_p10 : (10 : Int32).toInt = 10 := by decide
theorem own_p100 : (100 : Int32).toInt = 100 := by decide
theorem own_p1000 : (1000 : Int32).toInt = 1000 := by decide
theorem own_p10000 : (10000 : Int32).toInt = 10000 := by decide
theorem own_p65535 : (65535 : Int32).toInt = 65535 := by decide
theorem own_m100 : (-100 : Int32).toInt = -100 := by decide
theorem own_m9 : (-9 : Int32).toInt = -9 := by decide
theorem own_p0 : (0 : Int32).toInt = 0 := by decide
theorem own_p16 : (16 : Int32).toInt = 16 := by decide
def own_sz (n : Int32) : Int32 := if n < 10 then 1 else if n < 100 then 2 else if n < 1000 then 3 else if n < 10000 then 4 else 5
theorem own_lt {a b : Int32} (h : a.toInt < b.toInt) : a < b := Int32.lt_iff_toInt_lt.mpr h
theorem own_le {a b : Int32} (h : b.toInt ≤ a.toInt) : ¬ a < b := fun q => by have := Int32.lt_iff_toInt_lt.mp q; omega
theorem own_nlt {a b : Int32} (q : a < b) (h : b.toInt ≤ a.toInt) : False := own_le h q
theorem own_neg (x : Int32) (h : 0 ≤ x.toInt) : (-x).toInt = -x.toInt := by
  have := c_ineg x; have := rng32 x; have := rng32 (-x); omega
theorem own_ltE {x k : Int32} {K : Int} (hk : k.toInt = K) : (x < k) ↔ x.toInt < K := by rw [Int32.lt_iff_toInt_lt, hk]
theorem own_szE1 {x : Int32} (h : 0 ≤ x.toInt ∧ x.toInt < 10) : own_sz x = 1 := by
  have a := (own_ltE (x := x) (k := 10) (K := 10) rfl).mpr h.2
  simp [own_sz, a]
theorem own_szE2 {x : Int32} (h : 10 ≤ x.toInt ∧ x.toInt < 100) : own_sz x = 2 := by
  have a : ¬ x < 10 := fun q => by have := (own_ltE (x := x) (k := 10) (K := 10) rfl).mp q; omega
  have b := (own_ltE (x := x) (k := 100) (K := 100) rfl).mpr h.2
  simp [own_sz, a, b]
theorem own_szE3 {x : Int32} (h : 100 ≤ x.toInt ∧ x.toInt < 1000) : own_sz x = 3 := by
  have a : ¬ x < 10 := fun q => by have := (own_ltE (x := x) (k := 10) (K := 10) rfl).mp q; omega
  have b : ¬ x < 100 := fun q => by have := (own_ltE (x := x) (k := 100) (K := 100) rfl).mp q; omega
  have c := (own_ltE (x := x) (k := 1000) (K := 1000) rfl).mpr h.2
  simp [own_sz, a, b, c]
theorem own_szE4 {x : Int32} (h : 1000 ≤ x.toInt ∧ x.toInt < 10000) : own_sz x = 4 := by
  have a : ¬ x < 10 := fun q => by have := (own_ltE (x := x) (k := 10) (K := 10) rfl).mp q; omega
  have b : ¬ x < 100 := fun q => by have := (own_ltE (x := x) (k := 100) (K := 100) rfl).mp q; omega
  have c : ¬ x < 1000 := fun q => by have := (own_ltE (x := x) (k := 1000) (K := 1000) rfl).mp q; omega
  have d := (own_ltE (x := x) (k := 10000) (K := 10000) rfl).mpr h.2
  simp [own_sz, a, b, c, d]
theorem own_szE5 {x : Int32} (h : 10000 ≤ x.toInt ∧ x.toInt < 65536) : own_sz x = 5 := by
  have a : ¬ x < 10 := fun q => by have := (own_ltE (x := x) (k := 10) (K := 10) rfl).mp q; omega
  have b : ¬ x < 100 := fun q => by have := (own_ltE (x := x) (k := 100) (K := 100) rfl).mp q; omega
  have c : ¬ x < 1000 := fun q => by have := (own_ltE (x := x) (k := 1000) (K := 1000) rfl).mp q; omega
  have d : ¬ x < 10000 := fun q => by have := (own_ltE (x := x) (k := 10000) (K := 10000) rfl).mp q; omega
  simp [own_sz, a, b, c, d]
theorem own_rng (x : Int32) (h1 : 0 ≤ x.toInt) (h2 : x.toInt < 65536) : (0 ≤ x.toInt ∧ x.toInt < 10) ∨ (10 ≤ x.toInt ∧ x.toInt < 100) ∨ (100 ≤ x.toInt ∧ x.toInt < 1000) ∨ (1000 ≤ x.toInt ∧ x.toInt < 10000) ∨ (10000 ≤ x.toInt ∧ x.toInt < 65536) := by omega
theorem own_sub16 (x : Int32) (h1 : 0 ≤ x.toInt) (h2 : x.toInt ≤ 16) : (x - (16 : Int32)).toInt = x.toInt - 16 := by
  have := c_isub x 16; have := rng32 (x - 16); have h5 : (16 : Int32).toInt = 16 := rfl; omega
theorem own_dec (x : Int32) (h : 1 ≤ x.toInt) : (x + (-1 : Int32)).toInt = x.toInt - 1 := by
  have := c_iadd x (-1); have := rng32 x; have := rng32 (x + (-1)); have h5 : (-1 : Int32).toInt = -1 := by decide
  omega
theorem own_neg' (x : Int32) (h : x.toInt ≤ 0 ∧ -65536 < x.toInt) : (-x).toInt = -x.toInt := by
  have := c_ineg x; have := rng32 x; have := rng32 (-x); omega
theorem own_q {x : Int32} {n : Int} (h : x.toInt = -n) (h1 : 0 ≤ n) (h2 : n < 65536) : (x / (100 : Int32)).toInt = -(n / 100) := by
  have q := c_idiv x 100 100 rfl (by decide)
  by_cases hx : 0 ≤ x.toInt
  · have := q.1 hx; omega
  · have := q.2 (by omega); omega
theorem own_r {x q : Int32} {n : Int} (h : x.toInt = -n) (hq : q.toInt = -(n / 100)) (h1 : 0 ≤ n) (h2 : n < 65536) : (q * (100 : Int32) - x).toInt = n % 100 := by
  have a := c_imul q 100; have h5 : (100 : Int32).toInt = 100 := rfl; rw [h5] at a
  have b := rng32 (q * 100); have c := c_isub (q * 100) x; have d := rng32 (q * 100 - x); omega
theorem own_add48 {x : Int32} (h1 : 0 ≤ x.toInt) (h2 : x.toInt < 10) : ((48 : Int32) + x).toInt = 48 + x.toInt := by
  have := c_iadd 48 x; have := rng32 (48 + x); have h5 : (48 : Int32).toInt = 48 := rfl; omega
theorem own_rem10 (x : Int32) (h : 0 ≤ x.toInt) : (x % 10).toInt = x.toInt % 10 := (c_irem x 10 10 rfl).1 h
theorem own_oneI (r : Int32) (h1 : 0 ≤ r.toInt) (h2 : r.toInt < 100) : ((48 : Int32) + r % 10).toInt = 48 + r.toInt % 10 := by
  have := own_rem10 r h1; rw [own_add48 (by omega) (by omega), this]
theorem own_tenI (r : Int32) (h1 : 0 ≤ r.toInt) (h2 : r.toInt < 100) : ((48 : Int32) + r / 10).toInt = 48 + r.toInt / 10 := by
  have := (c_idiv r 10 10 rfl (by decide)).1 h1; rw [own_add48 (by omega) (by omega), this]
theorem own_dg0 (n : Int32) (h : 0 ≤ n.toInt) : (48 + n % 10).toInt = 48 + n.toInt % 10 := by
  have := own_rem10 n h; rw [own_add48 (by omega) (by omega), this]
theorem own_dg (n k : Int32) (K : Int) (hk : k.toInt = K) (hk1 : k ≠ -1) (hK : 0 < K) (h : 0 ≤ n.toInt) : (48 + n / k % 10).toInt = 48 + n.toInt / K % 10 := by
  have a := (c_idiv n k K hk hk1).1 h
  have b : 0 ≤ n.toInt / K := Int.ediv_nonneg h (by omega)
  have := own_rem10 (n / k) (by omega); rw [own_add48 (by omega) (by omega), this, a]
theorem own_nar {x y : Int32} (h : x.toInt = y.toInt) (h1 : 0 ≤ y.toInt) (h2 : y.toInt < 128) : nar .byte x = y := by
  have := c_i2b x
  exact Int32.toInt_inj.mp (by show x.toInt8.toInt32.toInt = _; omega)
def own_gc (vs : List Value) (i : Nat) (n : Int32) : List Value :=
  if n < 10 then vs.set (i - 1) (.int (48 + n % 10))
  else if n < 100 then (vs.set (i - 1) (.int (48 + n % 10))).set (i - 2) (.int (48 + n / 10 % 10))
  else if n < 1000 then ((vs.set (i - 1) (.int (48 + n % 10))).set (i - 2) (.int (48 + n / 10 % 10))).set (i - 3) (.int (48 + n / 100 % 10))
  else if n < 10000 then (((vs.set (i - 1) (.int (48 + n % 10))).set (i - 2) (.int (48 + n / 10 % 10))).set (i - 3) (.int (48 + n / 100 % 10))).set (i - 4) (.int (48 + n / 1000 % 10))
  else ((((vs.set (i - 1) (.int (48 + n % 10))).set (i - 2) (.int (48 + n / 10 % 10))).set (i - 3) (.int (48 + n / 100 % 10))).set (i - 4) (.int (48 + n / 1000 % 10))).set (i - 5) (.int (48 + n / 10000 % 10))
theorem own_gcE1 {vs : List Value} {i : Nat} {n : Int32} (h : 0 ≤ n.toInt ∧ n.toInt < 10) : own_gc vs i n = vs.set (i - 1) (.int (48 + n % 10)) := by
  have a := (own_ltE (x := n) (k := 10) (K := 10) rfl).mpr h.2
  simp [own_gc, a]
theorem own_gcE2 {vs : List Value} {i : Nat} {n : Int32} (h : 10 ≤ n.toInt ∧ n.toInt < 100) : own_gc vs i n = (vs.set (i - 1) (.int (48 + n % 10))).set (i - 2) (.int (48 + n / 10 % 10)) := by
  have a : ¬ n < 10 := fun q => by have := (own_ltE (x := n) (k := 10) (K := 10) rfl).mp q; omega
  have b := (own_ltE (x := n) (k := 100) (K := 100) rfl).mpr h.2
  simp [own_gc, a, b]
theorem own_gcE3 {vs : List Value} {i : Nat} {n : Int32} (h : 100 ≤ n.toInt ∧ n.toInt < 1000) : own_gc vs i n = ((vs.set (i - 1) (.int (48 + n % 10))).set (i - 2) (.int (48 + n / 10 % 10))).set (i - 3) (.int (48 + n / 100 % 10)) := by
  have a : ¬ n < 10 := fun q => by have := (own_ltE (x := n) (k := 10) (K := 10) rfl).mp q; omega
  have b : ¬ n < 100 := fun q => by have := (own_ltE (x := n) (k := 100) (K := 100) rfl).mp q; omega
  have c := (own_ltE (x := n) (k := 1000) (K := 1000) rfl).mpr h.2
  simp [own_gc, a, b, c]
theorem own_gcE4 {vs : List Value} {i : Nat} {n : Int32} (h : 1000 ≤ n.toInt ∧ n.toInt < 10000) : own_gc vs i n = (((vs.set (i - 1) (.int (48 + n % 10))).set (i - 2) (.int (48 + n / 10 % 10))).set (i - 3) (.int (48 + n / 100 % 10))).set (i - 4) (.int (48 + n / 1000 % 10)) := by
  have a : ¬ n < 10 := fun q => by have := (own_ltE (x := n) (k := 10) (K := 10) rfl).mp q; omega
  have b : ¬ n < 100 := fun q => by have := (own_ltE (x := n) (k := 100) (K := 100) rfl).mp q; omega
  have c : ¬ n < 1000 := fun q => by have := (own_ltE (x := n) (k := 1000) (K := 1000) rfl).mp q; omega
  have d := (own_ltE (x := n) (k := 10000) (K := 10000) rfl).mpr h.2
  simp [own_gc, a, b, c, d]
theorem own_gcE5 {vs : List Value} {i : Nat} {n : Int32} (h : 10000 ≤ n.toInt ∧ n.toInt < 65536) : own_gc vs i n = ((((vs.set (i - 1) (.int (48 + n % 10))).set (i - 2) (.int (48 + n / 10 % 10))).set (i - 3) (.int (48 + n / 100 % 10))).set (i - 4) (.int (48 + n / 1000 % 10))).set (i - 5) (.int (48 + n / 10000 % 10)) := by
  have a : ¬ n < 10 := fun q => by have := (own_ltE (x := n) (k := 10) (K := 10) rfl).mp q; omega
  have b : ¬ n < 100 := fun q => by have := (own_ltE (x := n) (k := 100) (K := 100) rfl).mp q; omega
  have c : ¬ n < 1000 := fun q => by have := (own_ltE (x := n) (k := 1000) (K := 1000) rfl).mp q; omega
  have d : ¬ n < 10000 := fun q => by have := (own_ltE (x := n) (k := 10000) (K := 10000) rfl).mp q; omega
  simp [own_gc, a, b, c, d]
def own_O (Z : State) (a : Addr) (c : Cell) : Prop := Sta Z Z.heap "java/lang/Integer" "DigitOnes" "[B" (.ref a) ∧ Arr Z Z.heap a c .byte ∧ ∀ r : Int32, 0 ≤ r.toInt → r.toInt < 100 → ¬ (r < 0 ∨ c.slots.size ≤ r.toNatClampNeg) ∧ c.slots[r.toNatClampNeg]? = some (.int (48 + r % 10))
def own_T (Z : State) (a : Addr) (c : Cell) : Prop := Sta Z Z.heap "java/lang/Integer" "DigitTens" "[B" (.ref a) ∧ Arr Z Z.heap a c .byte ∧ ∀ r : Int32, 0 ≤ r.toInt → r.toInt < 100 → ¬ (r < 0 ∨ c.slots.size ≤ r.toNatClampNeg) ∧ c.slots[r.toNatClampNeg]? = some (.int (48 + r / 10))
theorem own_dec' {x : Int32} {i : Int} (h : x.toInt = i) (h1 : 1 ≤ i) : (x + (-1 : Int32)).toInt = i - 1 := by
  rw [own_dec x (by omega), h]
theorem own_ss (i : Int) (t : Int) : i - t - 1 = i - (t + 1) := by omega
theorem own_b {x : Int32} {i : Int} (h : x.toInt = i) (h1 : 0 ≤ i) (h2 : i < 16) : ¬ x < 0 ∧ x < 16 := ⟨own_le (by rw [own_p0]; omega), own_lt (by rw [own_p16]; omega)⟩
theorem own_tn {x y : Int32} {t : Nat} (h : x.toInt = y.toInt - t) (h0 : (t : Int) ≤ y.toInt) : x.toNatClampNeg = y.toNatClampNeg - t := by
  have h1 := nat_of (j := x) (own_le (by rw [own_p0]; omega)); have h2 := nat_of (j := y) (own_le (by rw [own_p0]; omega))
  generalize x.toInt = X at *; generalize y.toInt = Y at *; generalize x.toNatClampNeg = a at *; generalize y.toNatClampNeg = b at *; omega
theorem own_i {y : Int32} (h : y.toInt ≤ 16) (t : Nat) (ht : 1 ≤ t) : y.toNatClampNeg - t < 16 := by
  by_cases h0 : y < 0
  · have : y.toNatClampNeg = 0 := by
      have := Int32.lt_iff_toInt_lt.mp h0; rw [own_p0] at this
      show y.toInt.toNat = 0
      generalize y.toInt = Y at *; omega
    omega
  · have h2 := nat_of (j := y) h0
    generalize y.toInt = Y at *; generalize y.toNatClampNeg = b at *; omega
theorem own_sbd (x k : Int32) (K : Int) (hk : k.toInt = K) (h0 : 0 ≤ K) (h : K ≤ x.toInt) : (x - k).toInt = x.toInt - K := by
  have a := c_isub x k; have b := rng32 (x - k); have c := rng32 x
  generalize (x - k).toInt = D at *; generalize x.toInt = X at *; generalize k.toInt = Y at *; omega
theorem own_decl {Z : State} {a0 : Array Value} {y : MethodName} {b : ByteArray} {ml : Nat} {r : Option FieldType} (hi : (Jvm.Cond.instanceMethod y).before a0 Z = true) (hc : (Jvm.Cond.code y b ml r).before a0 Z = true) : (Jvm.Cond.declares y).before a0 Z = true := by
  obtain ⟨mk, methM, hnamed, hmethM, hst, -⟩ := Cond.instanceMethod_spec hi
  obtain ⟨m2, cM, q1, -, -, -, -, -, -, hsig⟩ := Cond.code_spec hnamed hc
  cases hmethM.symm.trans q1
  simp [Cond.before, Cond.holds, Cond.value, hnamed, hmethM, hst, hsig]
theorem own_nf {s : State} {args : Array Value} {C : String} {y y' : MethodName} (hcls : y.cls = y'.cls) (hsel : (Jvm.Cond.selects C y' y').before args s = true) : NotFace s y := fun r0 h0 => by
  obtain ⟨c2, r2, m2, q1, q2, q3, q4, kP, hkP, hkPi⟩ := Cond.selects_spec hsel
  have a := findClass_of_methodNamed h0
  have b := findClass_of_methodNamed q3
  rw [hcls] at a
  have e : r0.cls = m2.cls := Option.some.inj (a.symm.trans b)
  exact ⟨kP, by rw [e]; exact hkP, hkPi⟩
theorem own_same {s : State} {args : Array Value} {C : String} {y y' : MethodName} (hcls : y.cls = y'.cls) (hsel : (Jvm.Cond.selects C y' y').before args s = true) (hi : (Jvm.Cond.instanceMethod y).before args s = true) (hy : y.cls ≠ "java/lang/invoke/MethodHandle" ∧ y.cls ≠ "java/lang/invoke/VarHandle") : (Jvm.Cond.sameMethod y.cls y.cls y.name y.desc).before args s = true := by
  obtain ⟨mk, methM, hnamed, hmethM, -, -⟩ := Cond.instanceMethod_spec hi
  obtain ⟨kr, hkr, hni⟩ := own_nf hcls hsel mk hnamed
  have hf := findClass_of_methodNamed hnamed
  have hfound := State.methodFound?_of_named hnamed hy
  have hn' : s.methodNamed? ⟨y.cls, y.name, y.desc⟩ = some mk := hnamed
  simp [Cond.before, Cond.holds, Cond.value, hf, hfound, hn', hkr, hni]
theorem own_szR (x : Int32) (h1 : 0 ≤ x.toInt) (h2 : x.toInt < 65536) : 1 ≤ (own_sz x).toInt ∧ (own_sz x).toInt ≤ 5 := by
  rcases own_rng x h1 h2 with q | q | q | q | q
  · rw [own_szE1 q]; decide
  · rw [own_szE2 q]; decide
  · rw [own_szE3 q]; decide
  · rw [own_szE4 q]; decide
  · rw [own_szE5 q]; decide
theorem own_addI {x y : Int32} (h1 : 0 ≤ x.toInt) (h2 : 0 ≤ y.toInt) (h3 : x.toInt + y.toInt < 1000) : (x + y).toInt = x.toInt + y.toInt := by
  have a := c_iadd x y; have b := rng32 (x + y)
  generalize (x + y).toInt = D at *; generalize x.toInt = X at *; generalize y.toInt = Y at *; omega
theorem own_shr0 (x : Int32) : x >>> ((0 : Int32) &&& 31) = x := by
  have := c_ishr x 0 0 (by decide)
  exact Int32.toInt_inj.mp (by rw [this]; simp)
theorem own_shl0 (x : Int32) : x <<< ((0 : Int32) &&& 31) = x := by
  have h := c_ishl x 0 0 (by decide)
  have a := rng32 (x <<< ((0 : Int32) &&& 31)); have b := rng32 x
  refine Int32.toInt_inj.mp ?_
  generalize (x <<< ((0 : Int32) &&& 31)).toInt = D at *; generalize x.toInt = X at *
  simp at h; omega
theorem own_sub0 (x : Int32) : x - (0 : Int32) = x := by
  have h := c_isub x 0; have a := rng32 (x - 0); have b := rng32 x
  refine Int32.toInt_inj.mp ?_
  rw [own_p0] at h
  generalize (x - 0).toInt = D at *; generalize x.toInt = X at *
  omega
def own_dot (vs : List Value) (i : Nat) : List Value := vs.take i ++ [.int 46, .int 46] ++ vs.drop (i + 2)
theorem own_min {n : Int32} (h0 : 0 ≤ n.toInt) (h : n.toInt < 16) : n < (16 : Int32) - (0 : Int32) := by
  rw [own_sub0]; exact own_lt (by rw [own_p16]; exact h)
theorem own_tnn {n : Int32} (h0 : 0 ≤ n.toInt) (h : n.toInt < 16) : n.toNatClampNeg < 16 := by
  have h2 := nat_of (j := n) (own_le (by rw [own_p0]; omega))
  generalize n.toNatClampNeg = q at *; generalize n.toInt = r at *; omega
theorem own_cp {vs : List Value} {n j : Nat} (h : j < n) : (([] : List Value) ++ ((List.range n).map fun i => vs.getD (0 + i) (.int 0)) ++ ([] : List Value)).getD j (.int 0) = vs.getD j (.int 0) := by
  simp [h]
theorem own_and255 {v : Int32} (h1 : 0 ≤ v.toInt) (h2 : v.toInt < 128) : v &&& (255 : Int32) = v := by
  have a := c_mask v 255 8 (by decide) (by decide)
  refine Int32.toInt_inj.mp ?_
  generalize (v &&& 255).toInt = D at *; generalize v.toInt = X at *; omega
theorem own_i2c {v : Int32} (h1 : 0 ≤ v.toInt) (h2 : v.toInt < 128) : v.toUInt32.toUInt16.toUInt32.toInt32 = v := by
  have a := c_i2c v
  refine Int32.toInt_inj.mp ?_
  generalize v.toUInt32.toUInt16.toUInt32.toInt32.toInt = D at *; generalize v.toInt = X at *; omega
theorem own_ne16 {x : Int32} (h : x.toInt < 16) : ¬ x = (16 : Int32) := fun q => by
  have : x.toInt = 16 := by rw [q, own_p16]
  omega
theorem own_addk {x k : Int32} {K : Int} (hk : k.toInt = K) (h1 : 0 ≤ x.toInt) (h2 : 0 ≤ K) (h3 : x.toInt + K < 1000) : (x + k).toInt = x.toInt + K := by
  rw [own_addI h1 (by omega) (by omega), hk]
theorem own_bl {x len : Int32} {i : Int} (h : x.toInt = i) (h1 : 0 ≤ i) (h2 : i < len.toInt) : ¬ x < 0 ∧ x < len := ⟨own_le (by rw [own_p0]; omega), own_lt (by omega)⟩
def own_has (bs : List Value) (i : Nat) (n : Int32) : Prop := bs.getD (i - 1) (.int 0) = .int (48 + n % 10) ∧ (10 ≤ n.toInt → bs.getD (i - 2) (.int 0) = .int (48 + n / 10 % 10)) ∧ (100 ≤ n.toInt → bs.getD (i - 3) (.int 0) = .int (48 + n / 100 % 10)) ∧ (1000 ≤ n.toInt → bs.getD (i - 4) (.int 0) = .int (48 + n / 1000 % 10)) ∧ (10000 ≤ n.toInt → bs.getD (i - 5) (.int 0) = .int (48 + n / 10000 % 10))
theorem own_0add (x : Int32) : (0 : Int32) + x = x := by
  have h := c_iadd 0 x; have a := rng32 (0 + x); have b := rng32 x
  refine Int32.toInt_inj.mp ?_
  rw [own_p0] at h
  generalize (0 + x).toInt = D at *; generalize x.toInt = X at *; omega
theorem own_gcL (vs : List Value) (i : Nat) (n : Int32) : (own_gc vs i n).length = vs.length := by
  unfold own_gc; split
  · simp
  · split
    · simp
    · split
      · simp
      · split <;> simp
theorem own_dotL {vs : List Value} {i : Nat} (h : i + 2 ≤ vs.length) : (own_dot vs i).length = vs.length := by
  simp [own_dot]; omega
theorem own_tnI {x : Int32} {i : Nat} (h : x.toInt = i) : x.toNatClampNeg = i := by
  have h2 := nat_of (j := x) (own_le (by rw [own_p0]; omega))
  generalize x.toNatClampNeg = q at *; generalize x.toInt = r at *; omega
theorem own_szN (x : Int32) (h1 : 0 ≤ x.toInt) (h2 : x.toInt < 65536) : (own_sz x).toInt = ((own_sz x).toNatClampNeg : Int) ∧ 1 ≤ (own_sz x).toNatClampNeg ∧ (own_sz x).toNatClampNeg ≤ 5 := by
  have r := own_szR x h1 h2
  have h2 := nat_of (j := own_sz x) (own_le (by rw [own_p0]; omega))
  generalize (own_sz x).toNatClampNeg = q at *; generalize (own_sz x).toInt = r at *; omega
theorem own_hasC {bs vs : List Value} {N i : Nat} {n : Int32} (HB : ∀ j, j < N → bs.getD j (.int 0) = vs.getD j (.int 0)) (hi : i ≤ N) (hN : 1 ≤ N) (h : own_has vs i n) : own_has bs i n :=
  ⟨(HB _ (by omega)).trans h.1, fun q => (HB _ (by omega)).trans (h.2.1 q), fun q => (HB _ (by omega)).trans (h.2.2.1 q), fun q => (HB _ (by omega)).trans (h.2.2.2.1 q), fun q => (HB _ (by omega)).trans (h.2.2.2.2 q)⟩
abbrev own_v3 (a b : Nat) (mn mx : Int32) : List Value := own_gc (own_dot (own_gc (List.replicate 16 (.int 0)) a mn) a) (a + 2 + b) mx
theorem own_mn (a : Int32) : 8 ≤ ((8 : Int32) + (a &&& (2147483647 : Int32)) % (65528 : Int32)).toInt ∧ ((8 : Int32) + (a &&& (2147483647 : Int32)) % (65528 : Int32)).toInt < 65536 := by
  have h1 := c_mask a 2147483647 31 (by decide) (by decide)
  have h2 := (c_irem (a &&& 2147483647) 65528 65528 (by decide)).1 (by omega)
  generalize (a &&& (2147483647 : Int32)) % (65528 : Int32) = r at *
  have h3 := c_iadd 8 r; have h4 := rng32 (8 + r); rw [own_p8] at h3
  generalize ((8 : Int32) + r).toInt = D at *; generalize r.toInt = R at *
  generalize (a &&& 2147483647).toInt = M at *
  omega
theorem own_mx (b mn : Int32) (h8 : 8 ≤ mn.toInt) (h6 : mn.toInt < 65536) : ¬ ((65536 : Int32) - mn) = 0 ∧ mn.toInt ≤ (mn + (b &&& (2147483647 : Int32)) % ((65536 : Int32) - mn)).toInt ∧ (mn + (b &&& (2147483647 : Int32)) % ((65536 : Int32) - mn)).toInt < 65536 := by
  have h1 := c_mask b 2147483647 31 (by decide) (by decide)
  have h0 : 0 ≤ (b &&& 2147483647).toInt := by omega
  have h3 := c_isub 65536 mn; have h4 := rng32 (65536 - mn); have h5 : (65536 : Int32).toInt = 65536 := by decide
  rw [h5] at h3
  generalize hd : (65536 : Int32) - mn = d at *
  have h7 : d.toInt = 65536 - mn.toInt := by generalize d.toInt = X at *; generalize mn.toInt = Y at *; omega
  refine ⟨fun q => by rw [q, own_p0] at h7; omega, ?_⟩
  have h8' := (c_iremV (b &&& 2147483647) d).1 h0 (by omega)
  generalize (b &&& (2147483647 : Int32)) % d = r at *
  have h9 := c_iadd mn r; have h10 := rng32 (mn + r)
  have h11 := h8'.1; have h12 := h8'.2.1
  clear h8' h1 h0
  generalize (mn + r).toInt = D at *; generalize r.toInt = R at *; generalize mn.toInt = Y at *; generalize d.toInt = X at *
  omega
set_option maxHeartbeats 40000000 in
theorem own_pure (mn mx : Int32) (h1 : 0 ≤ mn.toInt) (h2 : mn.toInt < 65536) (h3 : 0 ≤ mx.toInt) (h4 : mx.toInt < 65536) : own_has (own_v3 (own_sz mn).toNatClampNeg (own_sz mx).toNatClampNeg mn mx) (own_sz mn).toNatClampNeg mn ∧ (own_v3 (own_sz mn).toNatClampNeg (own_sz mx).toNatClampNeg mn mx).getD (own_sz mn).toNatClampNeg (.int 0) = .int 46 ∧ (own_v3 (own_sz mn).toNatClampNeg (own_sz mx).toNatClampNeg mn mx).getD ((own_sz mn).toNatClampNeg + 1) (.int 0) = .int 46 ∧ own_has (own_v3 (own_sz mn).toNatClampNeg (own_sz mx).toNatClampNeg mn mx) ((own_sz mn).toNatClampNeg + 2 + (own_sz mx).toNatClampNeg) mx := by
  rcases own_rng mn h1 h2 with q | q | q | q | q <;> rcases own_rng mx h3 h4 with r | r | r | r | r
  · rw [own_v3, own_szE1 q, own_szE1 r, show (1 : Int32).toNatClampNeg = 1 from rfl, own_gcE1 r, own_gcE1 q]; exact ⟨⟨rfl, fun h => absurd h (by omega), fun h => absurd h (by omega), fun h => absurd h (by omega), fun h => absurd h (by omega)⟩, rfl, rfl, ⟨rfl, fun h => absurd h (by omega), fun h => absurd h (by omega), fun h => absurd h (by omega), fun h => absurd h (by omega)⟩⟩
  · rw [own_v3, own_szE1 q, own_szE2 r, show (1 : Int32).toNatClampNeg = 1 from rfl, show (2 : Int32).toNatClampNeg = 2 from rfl, own_gcE2 r, own_gcE1 q]; exact ⟨⟨rfl, fun h => absurd h (by omega), fun h => absurd h (by omega), fun h => absurd h (by omega), fun h => absurd h (by omega)⟩, rfl, rfl, ⟨rfl, fun _ => rfl, fun h => absurd h (by omega), fun h => absurd h (by omega), fun h => absurd h (by omega)⟩⟩
  · rw [own_v3, own_szE1 q, own_szE3 r, show (1 : Int32).toNatClampNeg = 1 from rfl, show (3 : Int32).toNatClampNeg = 3 from rfl, own_gcE3 r, own_gcE1 q]; exact ⟨⟨rfl, fun h => absurd h (by omega), fun h => absurd h (by omega), fun h => absurd h (by omega), fun h => absurd h (by omega)⟩, rfl, rfl, ⟨rfl, fun _ => rfl, fun _ => rfl, fun h => absurd h (by omega), fun h => absurd h (by omega)⟩⟩
  · rw [own_v3, own_szE1 q, own_szE4 r, show (1 : Int32).toNatClampNeg = 1 from rfl, show (4 : Int32).toNatClampNeg = 4 from rfl, own_gcE4 r, own_gcE1 q]; exact ⟨⟨rfl, fun h => absurd h (by omega), fun h => absurd h (by omega), fun h => absurd h (by omega), fun h => absurd h (by omega)⟩, rfl, rfl, ⟨rfl, fun _ => rfl, fun _ => rfl, fun _ => rfl, fun h => absurd h (by omega)⟩⟩
  · rw [own_v3, own_szE1 q, own_szE5 r, show (1 : Int32).toNatClampNeg = 1 from rfl, show (5 : Int32).toNatClampNeg = 5 from rfl, own_gcE5 r, own_gcE1 q]; exact ⟨⟨rfl, fun h => absurd h (by omega), fun h => absurd h (by omega), fun h => absurd h (by omega), fun h => absurd h (by omega)⟩, rfl, rfl, ⟨rfl, fun _ => rfl, fun _ => rfl, fun _ => rfl, fun _ => rfl⟩⟩
  · rw [own_v3, own_szE2 q, own_szE1 r, show (2 : Int32).toNatClampNeg = 2 from rfl, show (1 : Int32).toNatClampNeg = 1 from rfl, own_gcE1 r, own_gcE2 q]; exact ⟨⟨rfl, fun _ => rfl, fun h => absurd h (by omega), fun h => absurd h (by omega), fun h => absurd h (by omega)⟩, rfl, rfl, ⟨rfl, fun h => absurd h (by omega), fun h => absurd h (by omega), fun h => absurd h (by omega), fun h => absurd h (by omega)⟩⟩
  · rw [own_v3, own_szE2 q, own_szE2 r, show (2 : Int32).toNatClampNeg = 2 from rfl, own_gcE2 r, own_gcE2 q]; exact ⟨⟨rfl, fun _ => rfl, fun h => absurd h (by omega), fun h => absurd h (by omega), fun h => absurd h (by omega)⟩, rfl, rfl, ⟨rfl, fun _ => rfl, fun h => absurd h (by omega), fun h => absurd h (by omega), fun h => absurd h (by omega)⟩⟩
  · rw [own_v3, own_szE2 q, own_szE3 r, show (2 : Int32).toNatClampNeg = 2 from rfl, show (3 : Int32).toNatClampNeg = 3 from rfl, own_gcE3 r, own_gcE2 q]; exact ⟨⟨rfl, fun _ => rfl, fun h => absurd h (by omega), fun h => absurd h (by omega), fun h => absurd h (by omega)⟩, rfl, rfl, ⟨rfl, fun _ => rfl, fun _ => rfl, fun h => absurd h (by omega), fun h => absurd h (by omega)⟩⟩
  · rw [own_v3, own_szE2 q, own_szE4 r, show (2 : Int32).toNatClampNeg = 2 from rfl, show (4 : Int32).toNatClampNeg = 4 from rfl, own_gcE4 r, own_gcE2 q]; exact ⟨⟨rfl, fun _ => rfl, fun h => absurd h (by omega), fun h => absurd h (by omega), fun h => absurd h (by omega)⟩, rfl, rfl, ⟨rfl, fun _ => rfl, fun _ => rfl, fun _ => rfl, fun h => absurd h (by omega)⟩⟩
  · rw [own_v3, own_szE2 q, own_szE5 r, show (2 : Int32).toNatClampNeg = 2 from rfl, show (5 : Int32).toNatClampNeg = 5 from rfl, own_gcE5 r, own_gcE2 q]; exact ⟨⟨rfl, fun _ => rfl, fun h => absurd h (by omega), fun h => absurd h (by omega), fun h => absurd h (by omega)⟩, rfl, rfl, ⟨rfl, fun _ => rfl, fun _ => rfl, fun _ => rfl, fun _ => rfl⟩⟩
  · rw [own_v3, own_szE3 q, own_szE1 r, show (3 : Int32).toNatClampNeg = 3 from rfl, show (1 : Int32).toNatClampNeg = 1 from rfl, own_gcE1 r, own_gcE3 q]; exact ⟨⟨rfl, fun _ => rfl, fun _ => rfl, fun h => absurd h (by omega), fun h => absurd h (by omega)⟩, rfl, rfl, ⟨rfl, fun h => absurd h (by omega), fun h => absurd h (by omega), fun h => absurd h (by omega), fun h => absurd h (by omega)⟩⟩
  · rw [own_v3, own_szE3 q, own_szE2 r, show (3 : Int32).toNatClampNeg = 3 from rfl, show (2 : Int32).toNatClampNeg = 2 from rfl, own_gcE2 r, own_gcE3 q]; exact ⟨⟨rfl, fun _ => rfl, fun _ => rfl, fun h => absurd h (by omega), fun h => absurd h (by omega)⟩, rfl, rfl, ⟨rfl, fun _ => rfl, fun h => absurd h (by omega), fun h => absurd h (by omega), fun h => absurd h (by omega)⟩⟩
  · rw [own_v3, own_szE3 q, own_szE3 r, show (3 : Int32).toNatClampNeg = 3 from rfl, own_gcE3 r, own_gcE3 q]; exact ⟨⟨rfl, fun _ => rfl, fun _ => rfl, fun h => absurd h (by omega), fun h => absurd h (by omega)⟩, rfl, rfl, ⟨rfl, fun _ => rfl, fun _ => rfl, fun h => absurd h (by omega), fun h => absurd h (by omega)⟩⟩
  · rw [own_v3, own_szE3 q, own_szE4 r, show (3 : Int32).toNatClampNeg = 3 from rfl, show (4 : Int32).toNatClampNeg = 4 from rfl, own_gcE4 r, own_gcE3 q]; exact ⟨⟨rfl, fun _ => rfl, fun _ => rfl, fun h => absurd h (by omega), fun h => absurd h (by omega)⟩, rfl, rfl, ⟨rfl, fun _ => rfl, fun _ => rfl, fun _ => rfl, fun h => absurd h (by omega)⟩⟩
  · rw [own_v3, own_szE3 q, own_szE5 r, show (3 : Int32).toNatClampNeg = 3 from rfl, show (5 : Int32).toNatClampNeg = 5 from rfl, own_gcE5 r, own_gcE3 q]; exact ⟨⟨rfl, fun _ => rfl, fun _ => rfl, fun h => absurd h (by omega), fun h => absurd h (by omega)⟩, rfl, rfl, ⟨rfl, fun _ => rfl, fun _ => rfl, fun _ => rfl, fun _ => rfl⟩⟩
  · rw [own_v3, own_szE4 q, own_szE1 r, show (4 : Int32).toNatClampNeg = 4 from rfl, show (1 : Int32).toNatClampNeg = 1 from rfl, own_gcE1 r, own_gcE4 q]; exact ⟨⟨rfl, fun _ => rfl, fun _ => rfl, fun _ => rfl, fun h => absurd h (by omega)⟩, rfl, rfl, ⟨rfl, fun h => absurd h (by omega), fun h => absurd h (by omega), fun h => absurd h (by omega), fun h => absurd h (by omega)⟩⟩
  · rw [own_v3, own_szE4 q, own_szE2 r, show (4 : Int32).toNatClampNeg = 4 from rfl, show (2 : Int32).toNatClampNeg = 2 from rfl, own_gcE2 r, own_gcE4 q]; exact ⟨⟨rfl, fun _ => rfl, fun _ => rfl, fun _ => rfl, fun h => absurd h (by omega)⟩, rfl, rfl, ⟨rfl, fun _ => rfl, fun h => absurd h (by omega), fun h => absurd h (by omega), fun h => absurd h (by omega)⟩⟩
  · rw [own_v3, own_szE4 q, own_szE3 r, show (4 : Int32).toNatClampNeg = 4 from rfl, show (3 : Int32).toNatClampNeg = 3 from rfl, own_gcE3 r, own_gcE4 q]; exact ⟨⟨rfl, fun _ => rfl, fun _ => rfl, fun _ => rfl, fun h => absurd h (by omega)⟩, rfl, rfl, ⟨rfl, fun _ => rfl, fun _ => rfl, fun h => absurd h (by omega), fun h => absurd h (by omega)⟩⟩
  · rw [own_v3, own_szE4 q, own_szE4 r, show (4 : Int32).toNatClampNeg = 4 from rfl, own_gcE4 r, own_gcE4 q]; exact ⟨⟨rfl, fun _ => rfl, fun _ => rfl, fun _ => rfl, fun h => absurd h (by omega)⟩, rfl, rfl, ⟨rfl, fun _ => rfl, fun _ => rfl, fun _ => rfl, fun h => absurd h (by omega)⟩⟩
  · rw [own_v3, own_szE4 q, own_szE5 r, show (4 : Int32).toNatClampNeg = 4 from rfl, show (5 : Int32).toNatClampNeg = 5 from rfl, own_gcE5 r, own_gcE4 q]; exact ⟨⟨rfl, fun _ => rfl, fun _ => rfl, fun _ => rfl, fun h => absurd h (by omega)⟩, rfl, rfl, ⟨rfl, fun _ => rfl, fun _ => rfl, fun _ => rfl, fun _ => rfl⟩⟩
  · rw [own_v3, own_szE5 q, own_szE1 r, show (5 : Int32).toNatClampNeg = 5 from rfl, show (1 : Int32).toNatClampNeg = 1 from rfl, own_gcE1 r, own_gcE5 q]; exact ⟨⟨rfl, fun _ => rfl, fun _ => rfl, fun _ => rfl, fun _ => rfl⟩, rfl, rfl, ⟨rfl, fun h => absurd h (by omega), fun h => absurd h (by omega), fun h => absurd h (by omega), fun h => absurd h (by omega)⟩⟩
  · rw [own_v3, own_szE5 q, own_szE2 r, show (5 : Int32).toNatClampNeg = 5 from rfl, show (2 : Int32).toNatClampNeg = 2 from rfl, own_gcE2 r, own_gcE5 q]; exact ⟨⟨rfl, fun _ => rfl, fun _ => rfl, fun _ => rfl, fun _ => rfl⟩, rfl, rfl, ⟨rfl, fun _ => rfl, fun h => absurd h (by omega), fun h => absurd h (by omega), fun h => absurd h (by omega)⟩⟩
  · rw [own_v3, own_szE5 q, own_szE3 r, show (5 : Int32).toNatClampNeg = 5 from rfl, show (3 : Int32).toNatClampNeg = 3 from rfl, own_gcE3 r, own_gcE5 q]; exact ⟨⟨rfl, fun _ => rfl, fun _ => rfl, fun _ => rfl, fun _ => rfl⟩, rfl, rfl, ⟨rfl, fun _ => rfl, fun _ => rfl, fun h => absurd h (by omega), fun h => absurd h (by omega)⟩⟩
  · rw [own_v3, own_szE5 q, own_szE4 r, show (5 : Int32).toNatClampNeg = 5 from rfl, show (4 : Int32).toNatClampNeg = 4 from rfl, own_gcE4 r, own_gcE5 q]; exact ⟨⟨rfl, fun _ => rfl, fun _ => rfl, fun _ => rfl, fun _ => rfl⟩, rfl, rfl, ⟨rfl, fun _ => rfl, fun _ => rfl, fun _ => rfl, fun h => absurd h (by omega)⟩⟩
  · rw [own_v3, own_szE5 q, own_szE5 r, show (5 : Int32).toNatClampNeg = 5 from rfl, own_gcE5 r, own_gcE5 q]; exact ⟨⟨rfl, fun _ => rfl, fun _ => rfl, fun _ => rfl, fun _ => rfl⟩, rfl, rfl, ⟨rfl, fun _ => rfl, fun _ => rfl, fun _ => rfl, fun _ => rfl⟩⟩
theorem d_jdk_68_method_2_code_0 : decode jdk_68_method_2_code 0 = .ok (.aload_n 0, 1) := by decide +kernel
theorem d_jdk_68_method_2_code_1 : decode jdk_68_method_2_code 1 = .ok (.invokespecial 3, 3) := by decide +kernel
theorem d_jdk_68_method_2_code_4 : decode jdk_68_method_2_code 4 = .ok (.getstatic 18, 3) := by decide +kernel
theorem d_jdk_68_method_2_code_7 : decode jdk_68_method_2_code 7 = .ok (.ifCond .eq 18, 3) := by decide +kernel
theorem d_jdk_68_method_2_code_10 : decode jdk_68_method_2_code 10 = .ok (.aload_n 0, 1) := by decide +kernel
theorem d_jdk_68_method_2_code_11 : decode jdk_68_method_2_code 11 = .ok (.iload_n 1, 1) := by decide +kernel
theorem d_jdk_68_method_2_code_12 : decode jdk_68_method_2_code 12 = .ok (.newarray .byte, 2) := by decide +kernel
theorem d_jdk_68_method_2_code_14 : decode jdk_68_method_2_code 14 = .ok (.putfield 15, 3) := by decide +kernel
theorem d_jdk_68_method_2_code_17 : decode jdk_68_method_2_code 17 = .ok (.aload_n 0, 1) := by decide +kernel
theorem d_jdk_68_method_2_code_18 : decode jdk_68_method_2_code 18 = .ok (.iconst 0, 1) := by decide +kernel
theorem d_jdk_68_method_2_code_19 : decode jdk_68_method_2_code 19 = .ok (.putfield 22, 3) := by decide +kernel
theorem d_jdk_68_method_2_code_22 : decode jdk_68_method_2_code 22 = .ok (.goto 16, 3) := by decide +kernel
theorem d_jdk_68_method_2_code_38 : decode jdk_68_method_2_code 38 = .ok (.return_, 1) := by decide +kernel
theorem ef_13 (m : MethodId) (x0 : Addr) (x1 : Int32) : entryFrame m #[(.ref x0), (.int x1)] 2 = mkF m 0 #[.val (.ref x0), .val (.int x1)] [] := by first | (simp [entryFrame, mkF, argsToLocals, Value.category]; done) | rfl
theorem pn_14 : plainName "java/lang/AbstractStringBuilder" = true := by first | (simp [plainName, overriddenIn]; done) | decide +kernel
def Q_asb_init (Z : State) (sb : Addr) (zc : Int32) (h0 : Heap) (n0 : Nat) (v : Option Value) (h : Heap) (L : List Loc) : Prop := v = none ∧ Fr n0 L ∧ Keep h0 h [sb] ∧ Exa Z h sb "java/lang/StringBuilder" ∧ Fld Z h sb "java/lang/AbstractStringBuilder" "value" "[B" (.ref h0.size) ∧ Fld Z h sb "java/lang/AbstractStringBuilder" "coder" "B" (.int (0 : Int32)) ∧ Fld Z h sb "java/lang/AbstractStringBuilder" "count" "I" (.int (0 : Int32)) ∧ ∃ kb, Arv Z h h0.size kb .byte (16 : Int32) [] (.int 0)
set_option maxRecDepth 65536 in
set_option maxHeartbeats 40000000 in
theorem asb_init (l : Launch) (Z : State) (a0 : Array Value) (hw : ∀ d ∈ tables_1, d.before a0 Z = true) (ws : List Jvm.Cond) (sb : Addr) (zc : Int32) (h0 : Heap) (n0 : Nat) (Z0 : n0 ≤ h0.size) (X00 : Old Z n0 h0)(SC : Sta Z Z.heap "java/lang/String" "COMPACT_STRINGS" "Z" (.int zc)) (hzc : ¬ zc = 0)(Esb : Exa Z h0 sb "java/lang/StringBuilder") (Fv : Fld Z h0 sb "java/lang/AbstractStringBuilder" "value" "[B" .null) (Fc : Fld Z h0 sb "java/lang/AbstractStringBuilder" "coder" "B" (.int (0 : Int32))) (Fn : Fld Z h0 sb "java/lang/AbstractStringBuilder" "count" "I" (.int (0 : Int32))) (gs : n0 ≤ sb) :
    MetFree l (⟨"java/lang/AbstractStringBuilder", "<init>", "(I)V"⟩ : MethodName) (head1 (Jvm.Cond.code (⟨"java/lang/AbstractStringBuilder", "<init>", "(I)V"⟩ : MethodName) jdk_68_method_2_code 2 (Option.none : Option Jvm.ClassFile.FieldType) :: ws) ({ frames := 1, cells := 1, slots := 16, locals := 12 } : Room)) (fun a U => a = #[(.ref sb), (.int (16 : Int32))] ∧ Z.Warmed39 U.vm ∧ U.heap = h0) (fun _ _ _ _ _ => True) (fun _ U o U' => ∃ v L, o = .returned v ∧ Q_asb_init Z sb zc h0 n0 v U'.heap L ∧ FrameEnd U o U' L ({ frames := 1, cells := 1, slots := 16, locals := 12 } : Room).cells ({ frames := 1, cells := 1, slots := 16, locals := 12 } : Room).slots) := by
  refine MetFree.of_bodySF (plainFor_of_name pn_14) hisR ?_
  intro p e s m args below meth c s₁ Bd hml0 hP hK
  obtain ⟨rfl, hZ, hh⟩ := hP
  have hx := Bd.exec
  have hby := Bd.bytes
  have hml : c.maxLocals = 2 := hml0
  have hown : s.vm.findClass "java/lang/AbstractStringBuilder" = some m.cls := findClass_of_methodNamed Bd.named
  have hnm := (name_of_methodNamed Bd.named Bd.method).1
  have X0 : Stand p l e ({ frames := 1, cells := 1, slots := 16, locals := 12 } : Room) s m #[(.ref sb), (.int (16 : Int32))] below meth c s₁ [] 0 0 := Stand.of_body Bd
  have e0 : s₁.heap = h0 := by rw [← hh, Bd.state]; rfl
  have N0 := Fr.nil n0
  have hlk : meth.locks = false := BodyLoose.notSynchronized Bd
  have pre0 : ∀ t, Steps p.tables e below (s₁.setTop (mkF m 0 #[.val (.ref sb), .val (.int (16 : Int32))] [])) t → Steps p.tables e below (s₁.setTop (entryFrame m #[(.ref sb), (.int (16 : Int32))] 2)) t := fun t k => castTop (ef_13 m sb (16 : Int32)) k
  have K0 : Keep h0 h0 [sb] := Keep.refl h0 _
  obtain ⟨T1, X1, e1, st1⟩ := initO X0 hx hZ hown (hw _ (List.mem_of_getElem? (i := 34) rfl)) (hw _ (List.mem_of_getElem? (i := 10) rfl)) (hw _ (List.mem_of_getElem? (i := 11) rfl)) e0 (g := (mkF m 1 #[.val (.ref sb), .val (.int (16 : Int32))] [(.ref sb)])) rfl (by rw [hml]; rfl) rfl (hb hby d_jdk_68_method_2_code_1) (by decide) (W := 0) (by show 2 * 0 + _ ≤ _; exact Nat.le_of_eq rfl) (by decide)
  obtain ⟨T2, X2, e2, st2⟩ := getS X1 hx hZ (host := "") hown (hw _ (List.mem_of_getElem? (i := 35) rfl)) Via.refl e1 (SC.ext X00.2) (g := (mkF m 4 #[.val (.ref sb), .val (.int (16 : Int32))] [])) rfl (hb hby d_jdk_68_method_2_code_4)
  obtain ⟨T3, h3, k3, X3, e3, E3, A3, st3⟩ := newP X2 hx hZ (hw _ (List.mem_of_getElem? (i := 37) rfl)) e2 (g := (mkF m 12 #[.val (.ref sb), .val (.int (16 : Int32))] [(.int (16 : Int32)), (.ref sb)])) rfl (hb hby d_jdk_68_method_2_code_12) rfl (by decide) (cap := 16) (by decide) (by decide) (by decide) (by decide)
  obtain ⟨bf, gbf⟩ : ∃ z, z = h0.size := ⟨_, rfl⟩
  rw [← gbf] at A3 st3
  have ge_bf : n0 ≤ bf := by rw [gbf]; exact Z0
  have gk_bf : h0.size ≤ bf := by rw [gbf]; exact K0.1
  have ne_sb_bf : sb ≠ bf := by rw [gbf]; exact Nat.ne_of_lt Esb.lt
  have K_1 : Keep h0 h3 [sb] := K0.ext E3
  have Z_3 : n0 ≤ h3.size := Nat.le_trans Z0 E3.1
  have V_bf : Arv Z h3 bf k3 .byte (16 : Int32) [] (.int 0) := Arv.new A3 (by decide)
  have F_2 := (Fv.ext E3)
  have E_3 := (Esb.ext E3)
  obtain ⟨T4, h4, X4, e4, W4, st4⟩ := putF X3 hx hZ hown (host := "") (Or.inl (hw _ (List.mem_of_getElem? (i := 38) rfl))) Via.refl e3 F_2 E_3 (Or.inl (hw _ (List.mem_of_getElem? (i := 39) rfl))) (hw _ (List.mem_of_getElem? (i := 23) rfl)) (ty := (.array .byte)) (by decide) rfl rfl (g := (mkF m 14 #[.val (.ref sb), .val (.int (16 : Int32))] [(.ref bf), (.ref sb)])) rfl rfl (hb hby d_jdk_68_method_2_code_14)
  have N4 := Fr.snoc X4 N0 gs
  have K_4 : Keep h0 h4 [sb] := K_1.wr W4 (Or.inl (by simp))
  have Z_4 : n0 ≤ h4.size := by rw [W4.size]; exact Z_3
  have F_5 := ((Fc.ext E3).other W4 (Or.inr (slot_ne (Or.inl (hw _ (List.mem_of_getElem? (i := 41) rfl))) (Or.inl (hw _ (List.mem_of_getElem? (i := 39) rfl))) (by decide) (t := .byte) (t' := (.array .byte)) (by decide) (by decide))))
  have E_6 := (E_3.wr W4)
  obtain ⟨T5, h5, X5, e5, W5, st5⟩ := putF X4 hx hZ hown (host := "") (Or.inl (hw _ (List.mem_of_getElem? (i := 40) rfl))) Via.refl e4 F_5 E_6 (Or.inl (hw _ (List.mem_of_getElem? (i := 41) rfl))) (hw _ (List.mem_of_getElem? (i := 23) rfl)) (ty := .byte) (by decide) rfl rfl (g := (mkF m 19 #[.val (.ref sb), .val (.int (16 : Int32))] [(.int (0 : Int32)), (.ref sb)])) rfl rfl (hb hby d_jdk_68_method_2_code_19)
  have N5 := Fr.snoc X5 N4 gs
  have K_7 : Keep h0 h5 [sb] := K_4.wr W5 (Or.inl (by simp))
  have Z_5 : n0 ≤ h5.size := by rw [W5.size]; exact Z_4
  have E_8 := (E_6.wr W5)
  have F_9 := ((F_2.same W4).other W5 (Or.inr (slot_ne (Or.inl (hw _ (List.mem_of_getElem? (i := 39) rfl))) (Or.inl (hw _ (List.mem_of_getElem? (i := 41) rfl))) (by decide) (t := (.array .byte)) (t' := .byte) (by decide) (by decide))))
  have F_10 := (((Fn.ext E3).other W4 (Or.inr (slot_ne (Or.inl (hw _ (List.mem_of_getElem? (i := 53) rfl))) (Or.inl (hw _ (List.mem_of_getElem? (i := 39) rfl))) (by decide) (t := .int) (t' := (.array .byte)) (by decide) (by decide)))).other W5 (Or.inr (slot_ne (Or.inl (hw _ (List.mem_of_getElem? (i := 53) rfl))) (Or.inl (hw _ (List.mem_of_getElem? (i := 41) rfl))) (by decide) (t := .int) (t' := .byte) (by decide) (by decide))))
  have V_11 := ((V_bf.other W4 (Ne.symm ne_sb_bf)).other W5 (Ne.symm ne_sb_bf))
  obtain ⟨fs, hr, hrun, hended, hW, hsame⟩ := X5.leave (v := none) (fun _ => rfl) (hlocks := hlk)
  refine ⟨_, _, pre0 _ ?_, hrun, hended, _, _, rfl, ?_, ⟨_, rfl⟩, hW, hsame.mono (by decide) (by decide)⟩
  · show Steps p.tables e below (s₁.setTop (mkF m 0 #[.val (.ref sb), .val (.int (16 : Int32))] [])) _
    refine XS.aloadN X0.here hx rfl (hb hby d_jdk_68_method_2_code_0) rfl rfl ?_
    show Steps p.tables e below (s₁.setTop (mkF m 1 #[.val (.ref sb), .val (.int (16 : Int32))] [(.ref sb)])) _
    refine st1 _ ?_
    show Steps p.tables e below (T1.setTop (mkF m 4 #[.val (.ref sb), .val (.int (16 : Int32))] [])) _
    refine st2 _ ?_
    show Steps p.tables e below (T2.setTop (mkF m 7 #[.val (.ref sb), .val (.int (16 : Int32))] [(.int zc)])) _
    refine XS.ifNo X2.here hx rfl (hb hby d_jdk_68_method_2_code_7) rfl ((if0 _ _).trans (feq hzc).1) ?_
    show Steps p.tables e below (T2.setTop (mkF m 10 #[.val (.ref sb), .val (.int (16 : Int32))] [])) _
    refine XS.aloadN X2.here hx rfl (hb hby d_jdk_68_method_2_code_10) rfl rfl ?_
    show Steps p.tables e below (T2.setTop (mkF m 11 #[.val (.ref sb), .val (.int (16 : Int32))] [(.ref sb)])) _
    refine XS.iloadN X2.here hx rfl (hb hby d_jdk_68_method_2_code_11) rfl ?_
    show Steps p.tables e below (T2.setTop (mkF m 12 #[.val (.ref sb), .val (.int (16 : Int32))] [(.int (16 : Int32)), (.ref sb)])) _
    refine st3 _ ?_
    show Steps p.tables e below (T3.setTop (mkF m 14 #[.val (.ref sb), .val (.int (16 : Int32))] [(.ref bf), (.ref sb)])) _
    refine st4 _ ?_
    show Steps p.tables e below (T4.setTop (mkF m 17 #[.val (.ref sb), .val (.int (16 : Int32))] [])) _
    refine XS.aloadN X4.here hx rfl (hb hby d_jdk_68_method_2_code_17) rfl rfl ?_
    show Steps p.tables e below (T4.setTop (mkF m 18 #[.val (.ref sb), .val (.int (16 : Int32))] [(.ref sb)])) _
    refine XT.iconstV X4.here hx rfl (0 : Int32) (hb hby d_jdk_68_method_2_code_18) (by decide) ?_
    show Steps p.tables e below (T4.setTop (mkF m 19 #[.val (.ref sb), .val (.int (16 : Int32))] [(.int (0 : Int32)), (.ref sb)])) _
    refine st5 _ ?_
    show Steps p.tables e below (T5.setTop (mkF m 22 #[.val (.ref sb), .val (.int (16 : Int32))] [])) _
    refine XS.goto X5.here hx rfl (pc0 := 22) (pc' := 38) rfl (hb hby d_jdk_68_method_2_code_22) (by decide) (by decide) ?_
    show Steps p.tables e below (T5.setTop (mkF m 38 #[.val (.ref sb), .val (.int (16 : Int32))] [])) _
    exact X5.returnOut hx Bd.returns (hb hby d_jdk_68_method_2_code_38) hr
  · show Q_asb_init Z sb zc h0 n0 _ T5.heap _; rw [e5, Q_asb_init, ← gbf]; exact ⟨rfl, N5, K_7, E_8, F_9, (F_5.same W5), F_10, _, V_11⟩
theorem d_jdk_67_method_1_code_0 : decode jdk_67_method_1_code 0 = .ok (.aload_n 0, 1) := by decide +kernel
theorem d_jdk_67_method_1_code_1 : decode jdk_67_method_1_code 1 = .ok (.bipush 16, 2) := by decide +kernel
theorem d_jdk_67_method_1_code_3 : decode jdk_67_method_1_code 3 = .ok (.invokespecial 1, 3) := by decide +kernel
theorem pd_18 : parseMethodDescriptor "(I)V" = some ⟨[.int], none⟩ := by decide +kernel
theorem d_jdk_67_method_1_code_6 : decode jdk_67_method_1_code 6 = .ok (.return_, 1) := by decide +kernel
theorem ef_20 (m : MethodId) (x0 : Addr) : entryFrame m #[(.ref x0)] 1 = mkF m 0 #[.val (.ref x0)] [] := by first | (simp [entryFrame, mkF, argsToLocals, Value.category]; done) | rfl
theorem pn_21 : plainName "java/lang/StringBuilder" = true := by first | (simp [plainName, overriddenIn]; done) | decide +kernel
def Q_sb_init (Z : State) (sb : Addr) (zc : Int32) (h0 : Heap) (n0 : Nat) (v : Option Value) (h : Heap) (L : List Loc) : Prop := v = none ∧ Fr n0 L ∧ Keep h0 h [sb] ∧ Exa Z h sb "java/lang/StringBuilder" ∧ Fld Z h sb "java/lang/AbstractStringBuilder" "value" "[B" (.ref h0.size) ∧ Fld Z h sb "java/lang/AbstractStringBuilder" "coder" "B" (.int (0 : Int32)) ∧ Fld Z h sb "java/lang/AbstractStringBuilder" "count" "I" (.int (0 : Int32)) ∧ ∃ kb, Arv Z h h0.size kb .byte (16 : Int32) [] (.int 0)
set_option maxRecDepth 65536 in
set_option maxHeartbeats 40000000 in
theorem sb_init (l : Launch) (Z : State) (a0 : Array Value) (hw : ∀ d ∈ tables_1, d.before a0 Z = true) (ws : List Jvm.Cond) (sb : Addr) (zc : Int32) (h0 : Heap) (n0 : Nat) (Z0 : n0 ≤ h0.size) (X00 : Old Z n0 h0)(SC : Sta Z Z.heap "java/lang/String" "COMPACT_STRINGS" "Z" (.int zc)) (hzc : ¬ zc = 0)(Esb : Exa Z h0 sb "java/lang/StringBuilder") (Fv : Fld Z h0 sb "java/lang/AbstractStringBuilder" "value" "[B" .null) (Fc : Fld Z h0 sb "java/lang/AbstractStringBuilder" "coder" "B" (.int (0 : Int32))) (Fn : Fld Z h0 sb "java/lang/AbstractStringBuilder" "count" "I" (.int (0 : Int32))) (gs : n0 ≤ sb) :
    MetFree l (⟨"java/lang/StringBuilder", "<init>", "()V"⟩ : MethodName) (head1 (Jvm.Cond.code (⟨"java/lang/StringBuilder", "<init>", "()V"⟩ : MethodName) jdk_67_method_1_code 1 (Option.none : Option Jvm.ClassFile.FieldType) :: ws) ({ frames := 2, cells := 1, slots := 16, locals := 25 } : Room)) (fun a U => a = #[(.ref sb)] ∧ Z.Warmed39 U.vm ∧ U.heap = h0) (fun _ _ _ _ _ => True) (fun _ U o U' => ∃ v L, o = .returned v ∧ Q_sb_init Z sb zc h0 n0 v U'.heap L ∧ FrameEnd U o U' L ({ frames := 2, cells := 1, slots := 16, locals := 25 } : Room).cells ({ frames := 2, cells := 1, slots := 16, locals := 25 } : Room).slots) := by
  refine MetFree.of_bodySF (plainFor_of_name pn_21) hisR ?_
  intro p e s m args below meth c s₁ Bd hml0 hP hK
  obtain ⟨rfl, hZ, hh⟩ := hP
  have hx := Bd.exec
  have hby := Bd.bytes
  have hml : c.maxLocals = 1 := hml0
  have hown : s.vm.findClass "java/lang/StringBuilder" = some m.cls := findClass_of_methodNamed Bd.named
  have hnm := (name_of_methodNamed Bd.named Bd.method).1
  have X0 : Stand p l e ({ frames := 2, cells := 1, slots := 16, locals := 25 } : Room) s m #[(.ref sb)] below meth c s₁ [] 0 0 := Stand.of_body Bd
  have e0 : s₁.heap = h0 := by rw [← hh, Bd.state]; rfl
  have N0 := Fr.nil n0
  have hlk : meth.locks = false := BodyLoose.notSynchronized Bd
  have pre0 : ∀ t, Steps p.tables e below (s₁.setTop (mkF m 0 #[.val (.ref sb)] [])) t → Steps p.tables e below (s₁.setTop (entryFrame m #[(.ref sb)] 1)) t := fun t k => castTop (ef_20 m sb) k
  obtain ⟨_, _, ⟨T1, L1, k1, n1⟩, -, X1, ⟨Lc1, hQ1, l1, y1, z1⟩, st1⟩ := X0.specialBack hx (y := (⟨"java/lang/AbstractStringBuilder", "<init>", "(I)V"⟩ : MethodName)) rfl hown (mvT hZ (hw _ (List.mem_of_getElem? (i := 28) rfl))) (mvT hZ (hw _ (List.mem_of_getElem? (i := 29) rfl))) (mvT hZ (hw _ (List.mem_of_getElem? (i := 33) rfl))) (by decide) (backOf (W := 0) (asb_init l Z a0 hw [] sb zc h0 n0 Z0 X00 SC hzc Esb Fv Fc Fn gs) hZ (hw _ (List.mem_of_getElem? (i := 33) rfl)) (hw _ (List.mem_of_getElem? (i := 32) rfl)) (by decide) (by decide)) (g := (mkF m 3 #[.val (.ref sb)] [(.int (16 : Int32)), (.ref sb)])) rfl (by rw [hml]; rfl) (Steps.refl _) (a := sb) (argsL := [(.int (16 : Int32))]) (rest := []) (lenOf pd_18 rfl) rfl (by show 2 * 0 + _ ≤ _; exact Nat.le_of_eq rfl) (hb hby d_jdk_67_method_1_code_3) (fun _ _ => ⟨rfl, e0, (by decide : 0 + 1 ≤ _), (by decide : 0 + 16 ≤ _)⟩)
  dsimp only [Pt.U, Pt.locs, Pt.cells, Pt.slots] at X1 l1 y1 z1 st1 hQ1
  subst l1 y1 z1
  obtain ⟨rfl, N1q, Kc1, QE, QV, QC, QN, QB⟩ := hQ1
  have N1 := Fr.app N0 N1q
  have Z_1 : n0 ≤ T1.heap.size := Nat.le_trans Z0 Kc1.1
  obtain ⟨fs, hr, hrun, hended, hW, hsame⟩ := X1.leave (v := none) (fun _ => rfl) (hlocks := hlk)
  refine ⟨_, _, pre0 _ ?_, hrun, hended, _, _, rfl, ?_, ⟨_, rfl⟩, hW, hsame.mono (by decide) (by decide)⟩
  · show Steps p.tables e below (s₁.setTop (mkF m 0 #[.val (.ref sb)] [])) _
    refine XS.aloadN X0.here hx rfl (hb hby d_jdk_67_method_1_code_0) rfl rfl ?_
    show Steps p.tables e below (s₁.setTop (mkF m 1 #[.val (.ref sb)] [(.ref sb)])) _
    refine XT.bipushV X0.here hx rfl (16 : Int32) (hb hby d_jdk_67_method_1_code_1) (by decide) ?_
    show Steps p.tables e below (s₁.setTop (mkF m 3 #[.val (.ref sb)] [(.int (16 : Int32)), (.ref sb)])) _
    refine st1.trans ?_
    show Steps p.tables e below (T1.setTop (mkF m 6 #[.val (.ref sb)] [])) _
    exact X1.returnOut hx Bd.returns (hb hby d_jdk_67_method_1_code_6) hr
  · exact ⟨rfl, N1, Kc1, QE, QV, QC, QN, QB⟩
theorem d_jdk_33_method_13_code_0 : decode jdk_33_method_13_code 0 = .ok (.iconst 1, 1) := by decide +kernel
theorem d_jdk_33_method_13_code_1 : decode jdk_33_method_13_code 1 = .ok (.istore_n 1, 1) := by decide +kernel
theorem d_jdk_33_method_13_code_2 : decode jdk_33_method_13_code 2 = .ok (.iload_n 0, 1) := by decide +kernel
theorem d_jdk_33_method_13_code_3 : decode jdk_33_method_13_code 3 = .ok (.ifCond .lt 8, 3) := by decide +kernel
theorem d_jdk_33_method_13_code_6 : decode jdk_33_method_13_code 6 = .ok (.iconst 0, 1) := by decide +kernel
theorem d_jdk_33_method_13_code_7 : decode jdk_33_method_13_code 7 = .ok (.istore_n 1, 1) := by decide +kernel
theorem d_jdk_33_method_13_code_8 : decode jdk_33_method_13_code 8 = .ok (.iload_n 0, 1) := by decide +kernel
theorem d_jdk_33_method_13_code_9 : decode jdk_33_method_13_code 9 = .ok (.ineg, 1) := by decide +kernel
theorem d_jdk_33_method_13_code_10 : decode jdk_33_method_13_code 10 = .ok (.istore_n 0, 1) := by decide +kernel
theorem d_jdk_33_method_13_code_11 : decode jdk_33_method_13_code 11 = .ok (.bipush (-10), 2) := by decide +kernel
theorem d_jdk_33_method_13_code_13 : decode jdk_33_method_13_code 13 = .ok (.istore_n 2, 1) := by decide +kernel
theorem d_jdk_33_method_13_code_14 : decode jdk_33_method_13_code 14 = .ok (.iconst 1, 1) := by decide +kernel
theorem d_jdk_33_method_13_code_15 : decode jdk_33_method_13_code 15 = .ok (.istore_n 3, 1) := by decide +kernel
theorem d_jdk_33_method_13_code_16 : decode jdk_33_method_13_code 16 = .ok (.iload_n 3, 1) := by decide +kernel
theorem d_jdk_33_method_13_code_17 : decode jdk_33_method_13_code 17 = .ok (.bipush 10, 2) := by decide +kernel
theorem d_jdk_33_method_13_code_19 : decode jdk_33_method_13_code 19 = .ok (.if_icmp .ge 23, 3) := by decide +kernel
theorem d_jdk_33_method_13_code_22 : decode jdk_33_method_13_code 22 = .ok (.iload_n 0, 1) := by decide +kernel
theorem d_jdk_33_method_13_code_23 : decode jdk_33_method_13_code 23 = .ok (.iload_n 2, 1) := by decide +kernel
theorem d_jdk_33_method_13_code_24 : decode jdk_33_method_13_code 24 = .ok (.if_icmp .le 7, 3) := by decide +kernel
theorem d_jdk_33_method_13_code_27 : decode jdk_33_method_13_code 27 = .ok (.iload_n 3, 1) := by decide +kernel
theorem d_jdk_33_method_13_code_28 : decode jdk_33_method_13_code 28 = .ok (.iload_n 1, 1) := by decide +kernel
theorem d_jdk_33_method_13_code_29 : decode jdk_33_method_13_code 29 = .ok (.iadd, 1) := by decide +kernel
theorem d_jdk_33_method_13_code_30 : decode jdk_33_method_13_code 30 = .ok (.ireturn, 1) := by decide +kernel
theorem ef_45 (m : MethodId) (x0 : Int32) : entryFrame m #[(.int x0)] 4 = mkF m 0 #[.val (.int x0), .unset, .unset, .unset] [] := by first | (simp [entryFrame, mkF, argsToLocals, Value.category]; done) | rfl
theorem pn_46 : plainName "java/lang/Integer" = true := by first | (simp [plainName, overriddenIn]; done) | decide +kernel
def Q_ss_1 (Z : State) (p1 : Int32) (h0 : Heap) (n0 : Nat) (v : Option Value) (h : Heap) (L : List Loc) : Prop := v = some (.int (own_sz p1)) ∧ Fr n0 L ∧ h = h0
set_option maxRecDepth 65536 in
set_option maxHeartbeats 40000000 in
theorem ss_1 (l : Launch) (Z : State) (a0 : Array Value) (hw : ∀ d ∈ tables_1, d.before a0 Z = true) (ws : List Jvm.Cond) (p1 : Int32) (h0 : Heap) (n0 : Nat) (Z0 : n0 ≤ h0.size) (hlo : 0 ≤ p1.toInt) (hhi : p1.toInt < 10) :
    MetFree l (⟨"java/lang/Integer", "stringSize", "(I)I"⟩ : MethodName) (head1 (Jvm.Cond.code (⟨"java/lang/Integer", "stringSize", "(I)I"⟩ : MethodName) jdk_33_method_13_code 4 (Option.some Jvm.ClassFile.FieldType.int) :: ws) ({ frames := 0, cells := 0, slots := 0, locals := 0 } : Room)) (fun a U => a = #[(.int p1)] ∧ Z.Warmed39 U.vm ∧ U.heap = h0) (fun _ _ _ _ _ => True) (fun _ U o U' => ∃ v L, o = .returned v ∧ Q_ss_1 Z p1 h0 n0 v U'.heap L ∧ FrameEnd U o U' L ({ frames := 0, cells := 0, slots := 0, locals := 0 } : Room).cells ({ frames := 0, cells := 0, slots := 0, locals := 0 } : Room).slots) := by
  refine MetFree.of_bodySF (plainFor_of_name pn_46) hisR ?_
  intro p e s m args below meth c s₁ Bd hml0 hP hK
  obtain ⟨rfl, hZ, hh⟩ := hP
  have hx := Bd.exec
  have hby := Bd.bytes
  have hml : c.maxLocals = 4 := hml0
  have hown : s.vm.findClass "java/lang/Integer" = some m.cls := findClass_of_methodNamed Bd.named
  have hnm := (name_of_methodNamed Bd.named Bd.method).1
  have X0 : Stand p l e ({ frames := 0, cells := 0, slots := 0, locals := 0 } : Room) s m #[(.int p1)] below meth c s₁ [] 0 0 := Stand.of_body Bd
  have e0 : s₁.heap = h0 := by rw [← hh, Bd.state]; rfl
  have N0 := Fr.nil n0
  have hlk : meth.locks = false := BodyLoose.notSynchronized Bd
  have pre0 : ∀ t, Steps p.tables e below (s₁.setTop (mkF m 0 #[.val (.int p1), .unset, .unset, .unset] [])) t → Steps p.tables e below (s₁.setTop (entryFrame m #[(.int p1)] 4)) t := fun t k => castTop (ef_45 m p1) k
  have hsz : own_sz p1 = (1 : Int32) := own_szE1 ⟨hlo, hhi⟩
  have hng : (-p1).toInt = -p1.toInt := own_neg p1 (by omega)
  obtain ⟨fs, hr, hrun, hended, hW, hsame⟩ := X0.leave (v := (some (.int (1 : Int32)))) (fun h => by rw [Bd.returns] at h; cases h) (hlocks := hlk)
  refine ⟨_, _, pre0 _ ?_, hrun, hended, _, _, rfl, ?_, ⟨_, rfl⟩, hW, hsame.mono (by decide) (by decide)⟩
  · show Steps p.tables e below (s₁.setTop (mkF m 0 #[.val (.int p1), .unset, .unset, .unset] [])) _
    refine XT.iconstV X0.here hx rfl (1 : Int32) (hb hby d_jdk_33_method_13_code_0) (by decide) ?_
    show Steps p.tables e below (s₁.setTop (mkF m 1 #[.val (.int p1), .unset, .unset, .unset] [(.int (1 : Int32))])) _
    refine XS.istoreN X0.here hx rfl (hb hby d_jdk_33_method_13_code_1) rfl (l' := #[.val (.int p1), .val (.int (1 : Int32)), .unset, .unset]) rfl ?_
    show Steps p.tables e below (s₁.setTop (mkF m 2 #[.val (.int p1), .val (.int (1 : Int32)), .unset, .unset] [])) _
    refine XS.iloadN X0.here hx rfl (hb hby d_jdk_33_method_13_code_2) rfl ?_
    show Steps p.tables e below (s₁.setTop (mkF m 3 #[.val (.int p1), .val (.int (1 : Int32)), .unset, .unset] [(.int p1)])) _
    refine XS.ifNo X0.here hx rfl (hb hby d_jdk_33_method_13_code_3) rfl ((if0 _ _).trans (flt (own_le (a := p1) (b := 0) (by rw [own_p0]; omega))).1) ?_
    show Steps p.tables e below (s₁.setTop (mkF m 6 #[.val (.int p1), .val (.int (1 : Int32)), .unset, .unset] [])) _
    refine XT.iconstV X0.here hx rfl (0 : Int32) (hb hby d_jdk_33_method_13_code_6) (by decide) ?_
    show Steps p.tables e below (s₁.setTop (mkF m 7 #[.val (.int p1), .val (.int (1 : Int32)), .unset, .unset] [(.int (0 : Int32))])) _
    refine XS.istoreN X0.here hx rfl (hb hby d_jdk_33_method_13_code_7) rfl (l' := #[.val (.int p1), .val (.int (0 : Int32)), .unset, .unset]) rfl ?_
    show Steps p.tables e below (s₁.setTop (mkF m 8 #[.val (.int p1), .val (.int (0 : Int32)), .unset, .unset] [])) _
    refine XS.iloadN X0.here hx rfl (hb hby d_jdk_33_method_13_code_8) rfl ?_
    show Steps p.tables e below (s₁.setTop (mkF m 9 #[.val (.int p1), .val (.int (0 : Int32)), .unset, .unset] [(.int p1)])) _
    refine XS.ineg X0.here hx rfl (hb hby d_jdk_33_method_13_code_9) rfl ?_
    show Steps p.tables e below (s₁.setTop (mkF m 10 #[.val (.int p1), .val (.int (0 : Int32)), .unset, .unset] [(.int (-p1))])) _
    refine XS.istoreN X0.here hx rfl (hb hby d_jdk_33_method_13_code_10) rfl (l' := #[.val (.int (-p1)), .val (.int (0 : Int32)), .unset, .unset]) rfl ?_
    show Steps p.tables e below (s₁.setTop (mkF m 11 #[.val (.int (-p1)), .val (.int (0 : Int32)), .unset, .unset] [])) _
    refine XT.bipushV X0.here hx rfl (-10 : Int32) (hb hby d_jdk_33_method_13_code_11) (by decide) ?_
    show Steps p.tables e below (s₁.setTop (mkF m 13 #[.val (.int (-p1)), .val (.int (0 : Int32)), .unset, .unset] [(.int (-10 : Int32))])) _
    refine XS.istoreN X0.here hx rfl (hb hby d_jdk_33_method_13_code_13) rfl (l' := #[.val (.int (-p1)), .val (.int (0 : Int32)), .val (.int (-10 : Int32)), .unset]) rfl ?_
    show Steps p.tables e below (s₁.setTop (mkF m 14 #[.val (.int (-p1)), .val (.int (0 : Int32)), .val (.int (-10 : Int32)), .unset] [])) _
    refine XT.iconstV X0.here hx rfl (1 : Int32) (hb hby d_jdk_33_method_13_code_14) (by decide) ?_
    show Steps p.tables e below (s₁.setTop (mkF m 15 #[.val (.int (-p1)), .val (.int (0 : Int32)), .val (.int (-10 : Int32)), .unset] [(.int (1 : Int32))])) _
    refine XS.istoreN X0.here hx rfl (hb hby d_jdk_33_method_13_code_15) rfl (l' := #[.val (.int (-p1)), .val (.int (0 : Int32)), .val (.int (-10 : Int32)), .val (.int (1 : Int32))]) rfl ?_
    show Steps p.tables e below (s₁.setTop (mkF m 16 #[.val (.int (-p1)), .val (.int (0 : Int32)), .val (.int (-10 : Int32)), .val (.int (1 : Int32))] [])) _
    refine XS.iloadN X0.here hx rfl (hb hby d_jdk_33_method_13_code_16) rfl ?_
    show Steps p.tables e below (s₁.setTop (mkF m 17 #[.val (.int (-p1)), .val (.int (0 : Int32)), .val (.int (-10 : Int32)), .val (.int (1 : Int32))] [(.int (1 : Int32))])) _
    refine XT.bipushV X0.here hx rfl (10 : Int32) (hb hby d_jdk_33_method_13_code_17) (by decide) ?_
    show Steps p.tables e below (s₁.setTop (mkF m 19 #[.val (.int (-p1)), .val (.int (0 : Int32)), .val (.int (-10 : Int32)), .val (.int (1 : Int32))] [(.int (10 : Int32)), (.int (1 : Int32))])) _
    refine XS.icmpNo X0.here hx rfl (hb hby d_jdk_33_method_13_code_19) rfl (by decide) ?_
    show Steps p.tables e below (s₁.setTop (mkF m 22 #[.val (.int (-p1)), .val (.int (0 : Int32)), .val (.int (-10 : Int32)), .val (.int (1 : Int32))] [])) _
    refine XS.iloadN X0.here hx rfl (hb hby d_jdk_33_method_13_code_22) rfl ?_
    show Steps p.tables e below (s₁.setTop (mkF m 23 #[.val (.int (-p1)), .val (.int (0 : Int32)), .val (.int (-10 : Int32)), .val (.int (1 : Int32))] [(.int (-p1))])) _
    refine XS.iloadN X0.here hx rfl (hb hby d_jdk_33_method_13_code_23) rfl ?_
    show Steps p.tables e below (s₁.setTop (mkF m 24 #[.val (.int (-p1)), .val (.int (0 : Int32)), .val (.int (-10 : Int32)), .val (.int (1 : Int32))] [(.int (-10 : Int32)), (.int (-p1))])) _
    refine XS.icmpNo X0.here hx rfl (hb hby d_jdk_33_method_13_code_24) rfl (tlt (own_lt (a := (-10 : Int32)) (b := -p1) (by rw [hng, show ((-10 : Int32) : Int32).toInt = -10 from by decide]; omega))).2.2.2 ?_
    show Steps p.tables e below (s₁.setTop (mkF m 27 #[.val (.int (-p1)), .val (.int (0 : Int32)), .val (.int (-10 : Int32)), .val (.int (1 : Int32))] [])) _
    refine XS.iloadN X0.here hx rfl (hb hby d_jdk_33_method_13_code_27) rfl ?_
    show Steps p.tables e below (s₁.setTop (mkF m 28 #[.val (.int (-p1)), .val (.int (0 : Int32)), .val (.int (-10 : Int32)), .val (.int (1 : Int32))] [(.int (1 : Int32))])) _
    refine XS.iloadN X0.here hx rfl (hb hby d_jdk_33_method_13_code_28) rfl ?_
    show Steps p.tables e below (s₁.setTop (mkF m 29 #[.val (.int (-p1)), .val (.int (0 : Int32)), .val (.int (-10 : Int32)), .val (.int (1 : Int32))] [(.int (0 : Int32)), (.int (1 : Int32))])) _
    refine XS.iadd X0.here hx rfl (hb hby d_jdk_33_method_13_code_29) rfl ?_
    show Steps p.tables e below (s₁.setTop (mkF m 30 #[.val (.int (-p1)), .val (.int (0 : Int32)), .val (.int (-10 : Int32)), .val (.int (1 : Int32))] [(.int ((1 : Int32) + (0 : Int32)))])) _
    exact retI X0 hx Bd.returns (hb hby d_jdk_33_method_13_code_30) hr
  · exact ⟨by rw [hsz], N0, e0⟩
theorem d_jdk_33_method_13_code_31 : decode jdk_33_method_13_code 31 = .ok (.bipush 10, 2) := by decide +kernel
theorem d_jdk_33_method_13_code_33 : decode jdk_33_method_13_code 33 = .ok (.iload_n 2, 1) := by decide +kernel
theorem d_jdk_33_method_13_code_34 : decode jdk_33_method_13_code 34 = .ok (.imul, 1) := by decide +kernel
theorem d_jdk_33_method_13_code_35 : decode jdk_33_method_13_code 35 = .ok (.istore_n 2, 1) := by decide +kernel
theorem d_jdk_33_method_13_code_36 : decode jdk_33_method_13_code 36 = .ok (.iinc 3 1, 3) := by decide +kernel
theorem d_jdk_33_method_13_code_39 : decode jdk_33_method_13_code 39 = .ok (.goto (-23), 3) := by decide +kernel
def Q_ss_2 (Z : State) (p1 : Int32) (h0 : Heap) (n0 : Nat) (v : Option Value) (h : Heap) (L : List Loc) : Prop := v = some (.int (own_sz p1)) ∧ Fr n0 L ∧ h = h0
set_option maxRecDepth 65536 in
set_option maxHeartbeats 40000000 in
theorem ss_2 (l : Launch) (Z : State) (a0 : Array Value) (hw : ∀ d ∈ tables_1, d.before a0 Z = true) (ws : List Jvm.Cond) (p1 : Int32) (h0 : Heap) (n0 : Nat) (Z0 : n0 ≤ h0.size) (hlo : 10 ≤ p1.toInt) (hhi : p1.toInt < 100) :
    MetFree l (⟨"java/lang/Integer", "stringSize", "(I)I"⟩ : MethodName) (head1 (Jvm.Cond.code (⟨"java/lang/Integer", "stringSize", "(I)I"⟩ : MethodName) jdk_33_method_13_code 4 (Option.some Jvm.ClassFile.FieldType.int) :: ws) ({ frames := 0, cells := 0, slots := 0, locals := 0 } : Room)) (fun a U => a = #[(.int p1)] ∧ Z.Warmed39 U.vm ∧ U.heap = h0) (fun _ _ _ _ _ => True) (fun _ U o U' => ∃ v L, o = .returned v ∧ Q_ss_2 Z p1 h0 n0 v U'.heap L ∧ FrameEnd U o U' L ({ frames := 0, cells := 0, slots := 0, locals := 0 } : Room).cells ({ frames := 0, cells := 0, slots := 0, locals := 0 } : Room).slots) := by
  refine MetFree.of_bodySF (plainFor_of_name pn_46) hisR ?_
  intro p e s m args below meth c s₁ Bd hml0 hP hK
  obtain ⟨rfl, hZ, hh⟩ := hP
  have hx := Bd.exec
  have hby := Bd.bytes
  have hml : c.maxLocals = 4 := hml0
  have hown : s.vm.findClass "java/lang/Integer" = some m.cls := findClass_of_methodNamed Bd.named
  have hnm := (name_of_methodNamed Bd.named Bd.method).1
  have X0 : Stand p l e ({ frames := 0, cells := 0, slots := 0, locals := 0 } : Room) s m #[(.int p1)] below meth c s₁ [] 0 0 := Stand.of_body Bd
  have e0 : s₁.heap = h0 := by rw [← hh, Bd.state]; rfl
  have N0 := Fr.nil n0
  have hlk : meth.locks = false := BodyLoose.notSynchronized Bd
  have pre0 : ∀ t, Steps p.tables e below (s₁.setTop (mkF m 0 #[.val (.int p1), .unset, .unset, .unset] [])) t → Steps p.tables e below (s₁.setTop (entryFrame m #[(.int p1)] 4)) t := fun t k => castTop (ef_45 m p1) k
  have hsz : own_sz p1 = (2 : Int32) := own_szE2 ⟨hlo, hhi⟩
  have hng : (-p1).toInt = -p1.toInt := own_neg p1 (by omega)
  obtain ⟨fs, hr, hrun, hended, hW, hsame⟩ := X0.leave (v := (some (.int (2 : Int32)))) (fun h => by rw [Bd.returns] at h; cases h) (hlocks := hlk)
  refine ⟨_, _, pre0 _ ?_, hrun, hended, _, _, rfl, ?_, ⟨_, rfl⟩, hW, hsame.mono (by decide) (by decide)⟩
  · show Steps p.tables e below (s₁.setTop (mkF m 0 #[.val (.int p1), .unset, .unset, .unset] [])) _
    refine XT.iconstV X0.here hx rfl (1 : Int32) (hb hby d_jdk_33_method_13_code_0) (by decide) ?_
    show Steps p.tables e below (s₁.setTop (mkF m 1 #[.val (.int p1), .unset, .unset, .unset] [(.int (1 : Int32))])) _
    refine XS.istoreN X0.here hx rfl (hb hby d_jdk_33_method_13_code_1) rfl (l' := #[.val (.int p1), .val (.int (1 : Int32)), .unset, .unset]) rfl ?_
    show Steps p.tables e below (s₁.setTop (mkF m 2 #[.val (.int p1), .val (.int (1 : Int32)), .unset, .unset] [])) _
    refine XS.iloadN X0.here hx rfl (hb hby d_jdk_33_method_13_code_2) rfl ?_
    show Steps p.tables e below (s₁.setTop (mkF m 3 #[.val (.int p1), .val (.int (1 : Int32)), .unset, .unset] [(.int p1)])) _
    refine XS.ifNo X0.here hx rfl (hb hby d_jdk_33_method_13_code_3) rfl ((if0 _ _).trans (flt (own_le (a := p1) (b := 0) (by rw [own_p0]; omega))).1) ?_
    show Steps p.tables e below (s₁.setTop (mkF m 6 #[.val (.int p1), .val (.int (1 : Int32)), .unset, .unset] [])) _
    refine XT.iconstV X0.here hx rfl (0 : Int32) (hb hby d_jdk_33_method_13_code_6) (by decide) ?_
    show Steps p.tables e below (s₁.setTop (mkF m 7 #[.val (.int p1), .val (.int (1 : Int32)), .unset, .unset] [(.int (0 : Int32))])) _
    refine XS.istoreN X0.here hx rfl (hb hby d_jdk_33_method_13_code_7) rfl (l' := #[.val (.int p1), .val (.int (0 : Int32)), .unset, .unset]) rfl ?_
    show Steps p.tables e below (s₁.setTop (mkF m 8 #[.val (.int p1), .val (.int (0 : Int32)), .unset, .unset] [])) _
    refine XS.iloadN X0.here hx rfl (hb hby d_jdk_33_method_13_code_8) rfl ?_
    show Steps p.tables e below (s₁.setTop (mkF m 9 #[.val (.int p1), .val (.int (0 : Int32)), .unset, .unset] [(.int p1)])) _
    refine XS.ineg X0.here hx rfl (hb hby d_jdk_33_method_13_code_9) rfl ?_
    show Steps p.tables e below (s₁.setTop (mkF m 10 #[.val (.int p1), .val (.int (0 : Int32)), .unset, .unset] [(.int (-p1))])) _
    refine XS.istoreN X0.here hx rfl (hb hby d_jdk_33_method_13_code_10) rfl (l' := #[.val (.int (-p1)), .val (.int (0 : Int32)), .unset, .unset]) rfl ?_
    show Steps p.tables e below (s₁.setTop (mkF m 11 #[.val (.int (-p1)), .val (.int (0 : Int32)), .unset, .unset] [])) _
    refine XT.bipushV X0.here hx rfl (-10 : Int32) (hb hby d_jdk_33_method_13_code_11) (by decide) ?_
    show Steps p.tables e below (s₁.setTop (mkF m 13 #[.val (.int (-p1)), .val (.int (0 : Int32)), .unset, .unset] [(.int (-10 : Int32))])) _
    refine XS.istoreN X0.here hx rfl (hb hby d_jdk_33_method_13_code_13) rfl (l' := #[.val (.int (-p1)), .val (.int (0 : Int32)), .val (.int (-10 : Int32)), .unset]) rfl ?_
    show Steps p.tables e below (s₁.setTop (mkF m 14 #[.val (.int (-p1)), .val (.int (0 : Int32)), .val (.int (-10 : Int32)), .unset] [])) _
    refine XT.iconstV X0.here hx rfl (1 : Int32) (hb hby d_jdk_33_method_13_code_14) (by decide) ?_
    show Steps p.tables e below (s₁.setTop (mkF m 15 #[.val (.int (-p1)), .val (.int (0 : Int32)), .val (.int (-10 : Int32)), .unset] [(.int (1 : Int32))])) _
    refine XS.istoreN X0.here hx rfl (hb hby d_jdk_33_method_13_code_15) rfl (l' := #[.val (.int (-p1)), .val (.int (0 : Int32)), .val (.int (-10 : Int32)), .val (.int (1 : Int32))]) rfl ?_
    show Steps p.tables e below (s₁.setTop (mkF m 16 #[.val (.int (-p1)), .val (.int (0 : Int32)), .val (.int (-10 : Int32)), .val (.int (1 : Int32))] [])) _
    refine XS.iloadN X0.here hx rfl (hb hby d_jdk_33_method_13_code_16) rfl ?_
    show Steps p.tables e below (s₁.setTop (mkF m 17 #[.val (.int (-p1)), .val (.int (0 : Int32)), .val (.int (-10 : Int32)), .val (.int (1 : Int32))] [(.int (1 : Int32))])) _
    refine XT.bipushV X0.here hx rfl (10 : Int32) (hb hby d_jdk_33_method_13_code_17) (by decide) ?_
    show Steps p.tables e below (s₁.setTop (mkF m 19 #[.val (.int (-p1)), .val (.int (0 : Int32)), .val (.int (-10 : Int32)), .val (.int (1 : Int32))] [(.int (10 : Int32)), (.int (1 : Int32))])) _
    refine XS.icmpNo X0.here hx rfl (hb hby d_jdk_33_method_13_code_19) rfl (by decide) ?_
    show Steps p.tables e below (s₁.setTop (mkF m 22 #[.val (.int (-p1)), .val (.int (0 : Int32)), .val (.int (-10 : Int32)), .val (.int (1 : Int32))] [])) _
    refine XS.iloadN X0.here hx rfl (hb hby d_jdk_33_method_13_code_22) rfl ?_
    show Steps p.tables e below (s₁.setTop (mkF m 23 #[.val (.int (-p1)), .val (.int (0 : Int32)), .val (.int (-10 : Int32)), .val (.int (1 : Int32))] [(.int (-p1))])) _
    refine XS.iloadN X0.here hx rfl (hb hby d_jdk_33_method_13_code_23) rfl ?_
    show Steps p.tables e below (s₁.setTop (mkF m 24 #[.val (.int (-p1)), .val (.int (0 : Int32)), .val (.int (-10 : Int32)), .val (.int (1 : Int32))] [(.int (-10 : Int32)), (.int (-p1))])) _
    refine XS.icmpYes X0.here hx rfl (pc0 := 24) (pc' := 31) rfl (hb hby d_jdk_33_method_13_code_24) rfl (flt (own_le (a := (-10 : Int32)) (b := -p1) (by rw [hng, show ((-10 : Int32) : Int32).toInt = -10 from by decide]; omega))).2.2.2 (by decide) (by decide) ?_
    show Steps p.tables e below (s₁.setTop (mkF m 31 #[.val (.int (-p1)), .val (.int (0 : Int32)), .val (.int (-10 : Int32)), .val (.int (1 : Int32))] [])) _
    refine XT.bipushV X0.here hx rfl (10 : Int32) (hb hby d_jdk_33_method_13_code_31) (by decide) ?_
    show Steps p.tables e below (s₁.setTop (mkF m 33 #[.val (.int (-p1)), .val (.int (0 : Int32)), .val (.int (-10 : Int32)), .val (.int (1 : Int32))] [(.int (10 : Int32))])) _
    refine XS.iloadN X0.here hx rfl (hb hby d_jdk_33_method_13_code_33) rfl ?_
    show Steps p.tables e below (s₁.setTop (mkF m 34 #[.val (.int (-p1)), .val (.int (0 : Int32)), .val (.int (-10 : Int32)), .val (.int (1 : Int32))] [(.int (-10 : Int32)), (.int (10 : Int32))])) _
    refine XS.imul X0.here hx rfl (hb hby d_jdk_33_method_13_code_34) rfl ?_
    show Steps p.tables e below (s₁.setTop (mkF m 35 #[.val (.int (-p1)), .val (.int (0 : Int32)), .val (.int (-10 : Int32)), .val (.int (1 : Int32))] [(.int ((10 : Int32) * (-10 : Int32)))])) _
    refine XS.istoreN X0.here hx rfl (hb hby d_jdk_33_method_13_code_35) rfl (l' := #[.val (.int (-p1)), .val (.int (0 : Int32)), .val (.int ((10 : Int32) * (-10 : Int32))), .val (.int (1 : Int32))]) rfl ?_
    show Steps p.tables e below (s₁.setTop (mkF m 36 #[.val (.int (-p1)), .val (.int (0 : Int32)), .val (.int ((10 : Int32) * (-10 : Int32))), .val (.int (1 : Int32))] [])) _
    refine XT.iincV X0.here hx rfl (1 : Int32) (hb hby d_jdk_33_method_13_code_36) (by decide) rfl (l' := #[.val (.int (-p1)), .val (.int (0 : Int32)), .val (.int ((10 : Int32) * (-10 : Int32))), .val (.int (2 : Int32))]) rfl ?_
    show Steps p.tables e below (s₁.setTop (mkF m 39 #[.val (.int (-p1)), .val (.int (0 : Int32)), .val (.int ((10 : Int32) * (-10 : Int32))), .val (.int (2 : Int32))] [])) _
    refine XS.goto X0.here hx rfl (pc0 := 39) (pc' := 16) rfl (hb hby d_jdk_33_method_13_code_39) (by decide) (by decide) ?_
    show Steps p.tables e below (s₁.setTop (mkF m 16 #[.val (.int (-p1)), .val (.int (0 : Int32)), .val (.int ((10 : Int32) * (-10 : Int32))), .val (.int (2 : Int32))] [])) _
    refine XS.iloadN X0.here hx rfl (hb hby d_jdk_33_method_13_code_16) rfl ?_
    show Steps p.tables e below (s₁.setTop (mkF m 17 #[.val (.int (-p1)), .val (.int (0 : Int32)), .val (.int ((10 : Int32) * (-10 : Int32))), .val (.int (2 : Int32))] [(.int (2 : Int32))])) _
    refine XT.bipushV X0.here hx rfl (10 : Int32) (hb hby d_jdk_33_method_13_code_17) (by decide) ?_
    show Steps p.tables e below (s₁.setTop (mkF m 19 #[.val (.int (-p1)), .val (.int (0 : Int32)), .val (.int ((10 : Int32) * (-10 : Int32))), .val (.int (2 : Int32))] [(.int (10 : Int32)), (.int (2 : Int32))])) _
    refine XS.icmpNo X0.here hx rfl (hb hby d_jdk_33_method_13_code_19) rfl (by decide) ?_
    show Steps p.tables e below (s₁.setTop (mkF m 22 #[.val (.int (-p1)), .val (.int (0 : Int32)), .val (.int ((10 : Int32) * (-10 : Int32))), .val (.int (2 : Int32))] [])) _
    refine XS.iloadN X0.here hx rfl (hb hby d_jdk_33_method_13_code_22) rfl ?_
    show Steps p.tables e below (s₁.setTop (mkF m 23 #[.val (.int (-p1)), .val (.int (0 : Int32)), .val (.int ((10 : Int32) * (-10 : Int32))), .val (.int (2 : Int32))] [(.int (-p1))])) _
    refine XS.iloadN X0.here hx rfl (hb hby d_jdk_33_method_13_code_23) rfl ?_
    show Steps p.tables e below (s₁.setTop (mkF m 24 #[.val (.int (-p1)), .val (.int (0 : Int32)), .val (.int ((10 : Int32) * (-10 : Int32))), .val (.int (2 : Int32))] [(.int ((10 : Int32) * (-10 : Int32))), (.int (-p1))])) _
    refine XS.icmpNo X0.here hx rfl (hb hby d_jdk_33_method_13_code_24) rfl (tlt (own_lt (a := ((10 : Int32) * (-10 : Int32))) (b := -p1) (by rw [hng, show (((10 : Int32) * (-10 : Int32)) : Int32).toInt = -100 from by decide]; omega))).2.2.2 ?_
    show Steps p.tables e below (s₁.setTop (mkF m 27 #[.val (.int (-p1)), .val (.int (0 : Int32)), .val (.int ((10 : Int32) * (-10 : Int32))), .val (.int (2 : Int32))] [])) _
    refine XS.iloadN X0.here hx rfl (hb hby d_jdk_33_method_13_code_27) rfl ?_
    show Steps p.tables e below (s₁.setTop (mkF m 28 #[.val (.int (-p1)), .val (.int (0 : Int32)), .val (.int ((10 : Int32) * (-10 : Int32))), .val (.int (2 : Int32))] [(.int (2 : Int32))])) _
    refine XS.iloadN X0.here hx rfl (hb hby d_jdk_33_method_13_code_28) rfl ?_
    show Steps p.tables e below (s₁.setTop (mkF m 29 #[.val (.int (-p1)), .val (.int (0 : Int32)), .val (.int ((10 : Int32) * (-10 : Int32))), .val (.int (2 : Int32))] [(.int (0 : Int32)), (.int (2 : Int32))])) _
    refine XS.iadd X0.here hx rfl (hb hby d_jdk_33_method_13_code_29) rfl ?_
    show Steps p.tables e below (s₁.setTop (mkF m 30 #[.val (.int (-p1)), .val (.int (0 : Int32)), .val (.int ((10 : Int32) * (-10 : Int32))), .val (.int (2 : Int32))] [(.int ((2 : Int32) + (0 : Int32)))])) _
    exact retI X0 hx Bd.returns (hb hby d_jdk_33_method_13_code_30) hr
  · exact ⟨by rw [hsz], N0, e0⟩
def Q_ss_3 (Z : State) (p1 : Int32) (h0 : Heap) (n0 : Nat) (v : Option Value) (h : Heap) (L : List Loc) : Prop := v = some (.int (own_sz p1)) ∧ Fr n0 L ∧ h = h0
set_option maxRecDepth 65536 in
set_option maxHeartbeats 40000000 in
theorem ss_3 (l : Launch) (Z : State) (a0 : Array Value) (hw : ∀ d ∈ tables_1, d.before a0 Z = true) (ws : List Jvm.Cond) (p1 : Int32) (h0 : Heap) (n0 : Nat) (Z0 : n0 ≤ h0.size) (hlo : 100 ≤ p1.toInt) (hhi : p1.toInt < 1000) :
    MetFree l (⟨"java/lang/Integer", "stringSize", "(I)I"⟩ : MethodName) (head1 (Jvm.Cond.code (⟨"java/lang/Integer", "stringSize", "(I)I"⟩ : MethodName) jdk_33_method_13_code 4 (Option.some Jvm.ClassFile.FieldType.int) :: ws) ({ frames := 0, cells := 0, slots := 0, locals := 0 } : Room)) (fun a U => a = #[(.int p1)] ∧ Z.Warmed39 U.vm ∧ U.heap = h0) (fun _ _ _ _ _ => True) (fun _ U o U' => ∃ v L, o = .returned v ∧ Q_ss_3 Z p1 h0 n0 v U'.heap L ∧ FrameEnd U o U' L ({ frames := 0, cells := 0, slots := 0, locals := 0 } : Room).cells ({ frames := 0, cells := 0, slots := 0, locals := 0 } : Room).slots) := by
  refine MetFree.of_bodySF (plainFor_of_name pn_46) hisR ?_
  intro p e s m args below meth c s₁ Bd hml0 hP hK
  obtain ⟨rfl, hZ, hh⟩ := hP
  have hx := Bd.exec
  have hby := Bd.bytes
  have hml : c.maxLocals = 4 := hml0
  have hown : s.vm.findClass "java/lang/Integer" = some m.cls := findClass_of_methodNamed Bd.named
  have hnm := (name_of_methodNamed Bd.named Bd.method).1
  have X0 : Stand p l e ({ frames := 0, cells := 0, slots := 0, locals := 0 } : Room) s m #[(.int p1)] below meth c s₁ [] 0 0 := Stand.of_body Bd
  have e0 : s₁.heap = h0 := by rw [← hh, Bd.state]; rfl
  have N0 := Fr.nil n0
  have hlk : meth.locks = false := BodyLoose.notSynchronized Bd
  have pre0 : ∀ t, Steps p.tables e below (s₁.setTop (mkF m 0 #[.val (.int p1), .unset, .unset, .unset] [])) t → Steps p.tables e below (s₁.setTop (entryFrame m #[(.int p1)] 4)) t := fun t k => castTop (ef_45 m p1) k
  have hsz : own_sz p1 = (3 : Int32) := own_szE3 ⟨hlo, hhi⟩
  have hng : (-p1).toInt = -p1.toInt := own_neg p1 (by omega)
  obtain ⟨fs, hr, hrun, hended, hW, hsame⟩ := X0.leave (v := (some (.int (3 : Int32)))) (fun h => by rw [Bd.returns] at h; cases h) (hlocks := hlk)
  refine ⟨_, _, pre0 _ ?_, hrun, hended, _, _, rfl, ?_, ⟨_, rfl⟩, hW, hsame.mono (by decide) (by decide)⟩
  · show Steps p.tables e below (s₁.setTop (mkF m 0 #[.val (.int p1), .unset, .unset, .unset] [])) _
    refine XT.iconstV X0.here hx rfl (1 : Int32) (hb hby d_jdk_33_method_13_code_0) (by decide) ?_
    show Steps p.tables e below (s₁.setTop (mkF m 1 #[.val (.int p1), .unset, .unset, .unset] [(.int (1 : Int32))])) _
    refine XS.istoreN X0.here hx rfl (hb hby d_jdk_33_method_13_code_1) rfl (l' := #[.val (.int p1), .val (.int (1 : Int32)), .unset, .unset]) rfl ?_
    show Steps p.tables e below (s₁.setTop (mkF m 2 #[.val (.int p1), .val (.int (1 : Int32)), .unset, .unset] [])) _
    refine XS.iloadN X0.here hx rfl (hb hby d_jdk_33_method_13_code_2) rfl ?_
    show Steps p.tables e below (s₁.setTop (mkF m 3 #[.val (.int p1), .val (.int (1 : Int32)), .unset, .unset] [(.int p1)])) _
    refine XS.ifNo X0.here hx rfl (hb hby d_jdk_33_method_13_code_3) rfl ((if0 _ _).trans (flt (own_le (a := p1) (b := 0) (by rw [own_p0]; omega))).1) ?_
    show Steps p.tables e below (s₁.setTop (mkF m 6 #[.val (.int p1), .val (.int (1 : Int32)), .unset, .unset] [])) _
    refine XT.iconstV X0.here hx rfl (0 : Int32) (hb hby d_jdk_33_method_13_code_6) (by decide) ?_
    show Steps p.tables e below (s₁.setTop (mkF m 7 #[.val (.int p1), .val (.int (1 : Int32)), .unset, .unset] [(.int (0 : Int32))])) _
    refine XS.istoreN X0.here hx rfl (hb hby d_jdk_33_method_13_code_7) rfl (l' := #[.val (.int p1), .val (.int (0 : Int32)), .unset, .unset]) rfl ?_
    show Steps p.tables e below (s₁.setTop (mkF m 8 #[.val (.int p1), .val (.int (0 : Int32)), .unset, .unset] [])) _
    refine XS.iloadN X0.here hx rfl (hb hby d_jdk_33_method_13_code_8) rfl ?_
    show Steps p.tables e below (s₁.setTop (mkF m 9 #[.val (.int p1), .val (.int (0 : Int32)), .unset, .unset] [(.int p1)])) _
    refine XS.ineg X0.here hx rfl (hb hby d_jdk_33_method_13_code_9) rfl ?_
    show Steps p.tables e below (s₁.setTop (mkF m 10 #[.val (.int p1), .val (.int (0 : Int32)), .unset, .unset] [(.int (-p1))])) _
    refine XS.istoreN X0.here hx rfl (hb hby d_jdk_33_method_13_code_10) rfl (l' := #[.val (.int (-p1)), .val (.int (0 : Int32)), .unset, .unset]) rfl ?_
    show Steps p.tables e below (s₁.setTop (mkF m 11 #[.val (.int (-p1)), .val (.int (0 : Int32)), .unset, .unset] [])) _
    refine XT.bipushV X0.here hx rfl (-10 : Int32) (hb hby d_jdk_33_method_13_code_11) (by decide) ?_
    show Steps p.tables e below (s₁.setTop (mkF m 13 #[.val (.int (-p1)), .val (.int (0 : Int32)), .unset, .unset] [(.int (-10 : Int32))])) _
    refine XS.istoreN X0.here hx rfl (hb hby d_jdk_33_method_13_code_13) rfl (l' := #[.val (.int (-p1)), .val (.int (0 : Int32)), .val (.int (-10 : Int32)), .unset]) rfl ?_
    show Steps p.tables e below (s₁.setTop (mkF m 14 #[.val (.int (-p1)), .val (.int (0 : Int32)), .val (.int (-10 : Int32)), .unset] [])) _
    refine XT.iconstV X0.here hx rfl (1 : Int32) (hb hby d_jdk_33_method_13_code_14) (by decide) ?_
    show Steps p.tables e below (s₁.setTop (mkF m 15 #[.val (.int (-p1)), .val (.int (0 : Int32)), .val (.int (-10 : Int32)), .unset] [(.int (1 : Int32))])) _
    refine XS.istoreN X0.here hx rfl (hb hby d_jdk_33_method_13_code_15) rfl (l' := #[.val (.int (-p1)), .val (.int (0 : Int32)), .val (.int (-10 : Int32)), .val (.int (1 : Int32))]) rfl ?_
    show Steps p.tables e below (s₁.setTop (mkF m 16 #[.val (.int (-p1)), .val (.int (0 : Int32)), .val (.int (-10 : Int32)), .val (.int (1 : Int32))] [])) _
    refine XS.iloadN X0.here hx rfl (hb hby d_jdk_33_method_13_code_16) rfl ?_
    show Steps p.tables e below (s₁.setTop (mkF m 17 #[.val (.int (-p1)), .val (.int (0 : Int32)), .val (.int (-10 : Int32)), .val (.int (1 : Int32))] [(.int (1 : Int32))])) _
    refine XT.bipushV X0.here hx rfl (10 : Int32) (hb hby d_jdk_33_method_13_code_17) (by decide) ?_
    show Steps p.tables e below (s₁.setTop (mkF m 19 #[.val (.int (-p1)), .val (.int (0 : Int32)), .val (.int (-10 : Int32)), .val (.int (1 : Int32))] [(.int (10 : Int32)), (.int (1 : Int32))])) _
    refine XS.icmpNo X0.here hx rfl (hb hby d_jdk_33_method_13_code_19) rfl (by decide) ?_
    show Steps p.tables e below (s₁.setTop (mkF m 22 #[.val (.int (-p1)), .val (.int (0 : Int32)), .val (.int (-10 : Int32)), .val (.int (1 : Int32))] [])) _
    refine XS.iloadN X0.here hx rfl (hb hby d_jdk_33_method_13_code_22) rfl ?_
    show Steps p.tables e below (s₁.setTop (mkF m 23 #[.val (.int (-p1)), .val (.int (0 : Int32)), .val (.int (-10 : Int32)), .val (.int (1 : Int32))] [(.int (-p1))])) _
    refine XS.iloadN X0.here hx rfl (hb hby d_jdk_33_method_13_code_23) rfl ?_
    show Steps p.tables e below (s₁.setTop (mkF m 24 #[.val (.int (-p1)), .val (.int (0 : Int32)), .val (.int (-10 : Int32)), .val (.int (1 : Int32))] [(.int (-10 : Int32)), (.int (-p1))])) _
    refine XS.icmpYes X0.here hx rfl (pc0 := 24) (pc' := 31) rfl (hb hby d_jdk_33_method_13_code_24) rfl (flt (own_le (a := (-10 : Int32)) (b := -p1) (by rw [hng, show ((-10 : Int32) : Int32).toInt = -10 from by decide]; omega))).2.2.2 (by decide) (by decide) ?_
    show Steps p.tables e below (s₁.setTop (mkF m 31 #[.val (.int (-p1)), .val (.int (0 : Int32)), .val (.int (-10 : Int32)), .val (.int (1 : Int32))] [])) _
    refine XT.bipushV X0.here hx rfl (10 : Int32) (hb hby d_jdk_33_method_13_code_31) (by decide) ?_
    show Steps p.tables e below (s₁.setTop (mkF m 33 #[.val (.int (-p1)), .val (.int (0 : Int32)), .val (.int (-10 : Int32)), .val (.int (1 : Int32))] [(.int (10 : Int32))])) _
    refine XS.iloadN X0.here hx rfl (hb hby d_jdk_33_method_13_code_33) rfl ?_
    show Steps p.tables e below (s₁.setTop (mkF m 34 #[.val (.int (-p1)), .val (.int (0 : Int32)), .val (.int (-10 : Int32)), .val (.int (1 : Int32))] [(.int (-10 : Int32)), (.int (10 : Int32))])) _
    refine XS.imul X0.here hx rfl (hb hby d_jdk_33_method_13_code_34) rfl ?_
    show Steps p.tables e below (s₁.setTop (mkF m 35 #[.val (.int (-p1)), .val (.int (0 : Int32)), .val (.int (-10 : Int32)), .val (.int (1 : Int32))] [(.int ((10 : Int32) * (-10 : Int32)))])) _
    refine XS.istoreN X0.here hx rfl (hb hby d_jdk_33_method_13_code_35) rfl (l' := #[.val (.int (-p1)), .val (.int (0 : Int32)), .val (.int ((10 : Int32) * (-10 : Int32))), .val (.int (1 : Int32))]) rfl ?_
    show Steps p.tables e below (s₁.setTop (mkF m 36 #[.val (.int (-p1)), .val (.int (0 : Int32)), .val (.int ((10 : Int32) * (-10 : Int32))), .val (.int (1 : Int32))] [])) _
    refine XT.iincV X0.here hx rfl (1 : Int32) (hb hby d_jdk_33_method_13_code_36) (by decide) rfl (l' := #[.val (.int (-p1)), .val (.int (0 : Int32)), .val (.int ((10 : Int32) * (-10 : Int32))), .val (.int (2 : Int32))]) rfl ?_
    show Steps p.tables e below (s₁.setTop (mkF m 39 #[.val (.int (-p1)), .val (.int (0 : Int32)), .val (.int ((10 : Int32) * (-10 : Int32))), .val (.int (2 : Int32))] [])) _
    refine XS.goto X0.here hx rfl (pc0 := 39) (pc' := 16) rfl (hb hby d_jdk_33_method_13_code_39) (by decide) (by decide) ?_
    show Steps p.tables e below (s₁.setTop (mkF m 16 #[.val (.int (-p1)), .val (.int (0 : Int32)), .val (.int ((10 : Int32) * (-10 : Int32))), .val (.int (2 : Int32))] [])) _
    refine XS.iloadN X0.here hx rfl (hb hby d_jdk_33_method_13_code_16) rfl ?_
    show Steps p.tables e below (s₁.setTop (mkF m 17 #[.val (.int (-p1)), .val (.int (0 : Int32)), .val (.int ((10 : Int32) * (-10 : Int32))), .val (.int (2 : Int32))] [(.int (2 : Int32))])) _
    refine XT.bipushV X0.here hx rfl (10 : Int32) (hb hby d_jdk_33_method_13_code_17) (by decide) ?_
    show Steps p.tables e below (s₁.setTop (mkF m 19 #[.val (.int (-p1)), .val (.int (0 : Int32)), .val (.int ((10 : Int32) * (-10 : Int32))), .val (.int (2 : Int32))] [(.int (10 : Int32)), (.int (2 : Int32))])) _
    refine XS.icmpNo X0.here hx rfl (hb hby d_jdk_33_method_13_code_19) rfl (by decide) ?_
    show Steps p.tables e below (s₁.setTop (mkF m 22 #[.val (.int (-p1)), .val (.int (0 : Int32)), .val (.int ((10 : Int32) * (-10 : Int32))), .val (.int (2 : Int32))] [])) _
    refine XS.iloadN X0.here hx rfl (hb hby d_jdk_33_method_13_code_22) rfl ?_
    show Steps p.tables e below (s₁.setTop (mkF m 23 #[.val (.int (-p1)), .val (.int (0 : Int32)), .val (.int ((10 : Int32) * (-10 : Int32))), .val (.int (2 : Int32))] [(.int (-p1))])) _
    refine XS.iloadN X0.here hx rfl (hb hby d_jdk_33_method_13_code_23) rfl ?_
    show Steps p.tables e below (s₁.setTop (mkF m 24 #[.val (.int (-p1)), .val (.int (0 : Int32)), .val (.int ((10 : Int32) * (-10 : Int32))), .val (.int (2 : Int32))] [(.int ((10 : Int32) * (-10 : Int32))), (.int (-p1))])) _
    refine XS.icmpYes X0.here hx rfl (pc0 := 24) (pc' := 31) rfl (hb hby d_jdk_33_method_13_code_24) rfl (flt (own_le (a := ((10 : Int32) * (-10 : Int32))) (b := -p1) (by rw [hng, show (((10 : Int32) * (-10 : Int32)) : Int32).toInt = -100 from by decide]; omega))).2.2.2 (by decide) (by decide) ?_
    show Steps p.tables e below (s₁.setTop (mkF m 31 #[.val (.int (-p1)), .val (.int (0 : Int32)), .val (.int ((10 : Int32) * (-10 : Int32))), .val (.int (2 : Int32))] [])) _
    refine XT.bipushV X0.here hx rfl (10 : Int32) (hb hby d_jdk_33_method_13_code_31) (by decide) ?_
    show Steps p.tables e below (s₁.setTop (mkF m 33 #[.val (.int (-p1)), .val (.int (0 : Int32)), .val (.int ((10 : Int32) * (-10 : Int32))), .val (.int (2 : Int32))] [(.int (10 : Int32))])) _
    refine XS.iloadN X0.here hx rfl (hb hby d_jdk_33_method_13_code_33) rfl ?_
    show Steps p.tables e below (s₁.setTop (mkF m 34 #[.val (.int (-p1)), .val (.int (0 : Int32)), .val (.int ((10 : Int32) * (-10 : Int32))), .val (.int (2 : Int32))] [(.int ((10 : Int32) * (-10 : Int32))), (.int (10 : Int32))])) _
    refine XS.imul X0.here hx rfl (hb hby d_jdk_33_method_13_code_34) rfl ?_
    show Steps p.tables e below (s₁.setTop (mkF m 35 #[.val (.int (-p1)), .val (.int (0 : Int32)), .val (.int ((10 : Int32) * (-10 : Int32))), .val (.int (2 : Int32))] [(.int ((10 : Int32) * ((10 : Int32) * (-10 : Int32))))])) _
    refine XS.istoreN X0.here hx rfl (hb hby d_jdk_33_method_13_code_35) rfl (l' := #[.val (.int (-p1)), .val (.int (0 : Int32)), .val (.int ((10 : Int32) * ((10 : Int32) * (-10 : Int32)))), .val (.int (2 : Int32))]) rfl ?_
    show Steps p.tables e below (s₁.setTop (mkF m 36 #[.val (.int (-p1)), .val (.int (0 : Int32)), .val (.int ((10 : Int32) * ((10 : Int32) * (-10 : Int32)))), .val (.int (2 : Int32))] [])) _
    refine XT.iincV X0.here hx rfl (1 : Int32) (hb hby d_jdk_33_method_13_code_36) (by decide) rfl (l' := #[.val (.int (-p1)), .val (.int (0 : Int32)), .val (.int ((10 : Int32) * ((10 : Int32) * (-10 : Int32)))), .val (.int (3 : Int32))]) rfl ?_
    show Steps p.tables e below (s₁.setTop (mkF m 39 #[.val (.int (-p1)), .val (.int (0 : Int32)), .val (.int ((10 : Int32) * ((10 : Int32) * (-10 : Int32)))), .val (.int (3 : Int32))] [])) _
    refine XS.goto X0.here hx rfl (pc0 := 39) (pc' := 16) rfl (hb hby d_jdk_33_method_13_code_39) (by decide) (by decide) ?_
    show Steps p.tables e below (s₁.setTop (mkF m 16 #[.val (.int (-p1)), .val (.int (0 : Int32)), .val (.int ((10 : Int32) * ((10 : Int32) * (-10 : Int32)))), .val (.int (3 : Int32))] [])) _
    refine XS.iloadN X0.here hx rfl (hb hby d_jdk_33_method_13_code_16) rfl ?_
    show Steps p.tables e below (s₁.setTop (mkF m 17 #[.val (.int (-p1)), .val (.int (0 : Int32)), .val (.int ((10 : Int32) * ((10 : Int32) * (-10 : Int32)))), .val (.int (3 : Int32))] [(.int (3 : Int32))])) _
    refine XT.bipushV X0.here hx rfl (10 : Int32) (hb hby d_jdk_33_method_13_code_17) (by decide) ?_
    show Steps p.tables e below (s₁.setTop (mkF m 19 #[.val (.int (-p1)), .val (.int (0 : Int32)), .val (.int ((10 : Int32) * ((10 : Int32) * (-10 : Int32)))), .val (.int (3 : Int32))] [(.int (10 : Int32)), (.int (3 : Int32))])) _
    refine XS.icmpNo X0.here hx rfl (hb hby d_jdk_33_method_13_code_19) rfl (by decide) ?_
    show Steps p.tables e below (s₁.setTop (mkF m 22 #[.val (.int (-p1)), .val (.int (0 : Int32)), .val (.int ((10 : Int32) * ((10 : Int32) * (-10 : Int32)))), .val (.int (3 : Int32))] [])) _
    refine XS.iloadN X0.here hx rfl (hb hby d_jdk_33_method_13_code_22) rfl ?_
    show Steps p.tables e below (s₁.setTop (mkF m 23 #[.val (.int (-p1)), .val (.int (0 : Int32)), .val (.int ((10 : Int32) * ((10 : Int32) * (-10 : Int32)))), .val (.int (3 : Int32))] [(.int (-p1))])) _
    refine XS.iloadN X0.here hx rfl (hb hby d_jdk_33_method_13_code_23) rfl ?_
    show Steps p.tables e below (s₁.setTop (mkF m 24 #[.val (.int (-p1)), .val (.int (0 : Int32)), .val (.int ((10 : Int32) * ((10 : Int32) * (-10 : Int32)))), .val (.int (3 : Int32))] [(.int ((10 : Int32) * ((10 : Int32) * (-10 : Int32)))), (.int (-p1))])) _
    refine XS.icmpNo X0.here hx rfl (hb hby d_jdk_33_method_13_code_24) rfl (tlt (own_lt (a := ((10 : Int32) * ((10 : Int32) * (-10 : Int32)))) (b := -p1) (by rw [hng, show (((10 : Int32) * ((10 : Int32) * (-10 : Int32))) : Int32).toInt = -1000 from by decide]; omega))).2.2.2 ?_
    show Steps p.tables e below (s₁.setTop (mkF m 27 #[.val (.int (-p1)), .val (.int (0 : Int32)), .val (.int ((10 : Int32) * ((10 : Int32) * (-10 : Int32)))), .val (.int (3 : Int32))] [])) _
    refine XS.iloadN X0.here hx rfl (hb hby d_jdk_33_method_13_code_27) rfl ?_
    show Steps p.tables e below (s₁.setTop (mkF m 28 #[.val (.int (-p1)), .val (.int (0 : Int32)), .val (.int ((10 : Int32) * ((10 : Int32) * (-10 : Int32)))), .val (.int (3 : Int32))] [(.int (3 : Int32))])) _
    refine XS.iloadN X0.here hx rfl (hb hby d_jdk_33_method_13_code_28) rfl ?_
    show Steps p.tables e below (s₁.setTop (mkF m 29 #[.val (.int (-p1)), .val (.int (0 : Int32)), .val (.int ((10 : Int32) * ((10 : Int32) * (-10 : Int32)))), .val (.int (3 : Int32))] [(.int (0 : Int32)), (.int (3 : Int32))])) _
    refine XS.iadd X0.here hx rfl (hb hby d_jdk_33_method_13_code_29) rfl ?_
    show Steps p.tables e below (s₁.setTop (mkF m 30 #[.val (.int (-p1)), .val (.int (0 : Int32)), .val (.int ((10 : Int32) * ((10 : Int32) * (-10 : Int32)))), .val (.int (3 : Int32))] [(.int ((3 : Int32) + (0 : Int32)))])) _
    exact retI X0 hx Bd.returns (hb hby d_jdk_33_method_13_code_30) hr
  · exact ⟨by rw [hsz], N0, e0⟩
def Q_ss_4 (Z : State) (p1 : Int32) (h0 : Heap) (n0 : Nat) (v : Option Value) (h : Heap) (L : List Loc) : Prop := v = some (.int (own_sz p1)) ∧ Fr n0 L ∧ h = h0
set_option maxRecDepth 65536 in
set_option maxHeartbeats 40000000 in
theorem ss_4 (l : Launch) (Z : State) (a0 : Array Value) (hw : ∀ d ∈ tables_1, d.before a0 Z = true) (ws : List Jvm.Cond) (p1 : Int32) (h0 : Heap) (n0 : Nat) (Z0 : n0 ≤ h0.size) (hlo : 1000 ≤ p1.toInt) (hhi : p1.toInt < 10000) :
    MetFree l (⟨"java/lang/Integer", "stringSize", "(I)I"⟩ : MethodName) (head1 (Jvm.Cond.code (⟨"java/lang/Integer", "stringSize", "(I)I"⟩ : MethodName) jdk_33_method_13_code 4 (Option.some Jvm.ClassFile.FieldType.int) :: ws) ({ frames := 0, cells := 0, slots := 0, locals := 0 } : Room)) (fun a U => a = #[(.int p1)] ∧ Z.Warmed39 U.vm ∧ U.heap = h0) (fun _ _ _ _ _ => True) (fun _ U o U' => ∃ v L, o = .returned v ∧ Q_ss_4 Z p1 h0 n0 v U'.heap L ∧ FrameEnd U o U' L ({ frames := 0, cells := 0, slots := 0, locals := 0 } : Room).cells ({ frames := 0, cells := 0, slots := 0, locals := 0 } : Room).slots) := by
  refine MetFree.of_bodySF (plainFor_of_name pn_46) hisR ?_
  intro p e s m args below meth c s₁ Bd hml0 hP hK
  obtain ⟨rfl, hZ, hh⟩ := hP
  have hx := Bd.exec
  have hby := Bd.bytes
  have hml : c.maxLocals = 4 := hml0
  have hown : s.vm.findClass "java/lang/Integer" = some m.cls := findClass_of_methodNamed Bd.named
  have hnm := (name_of_methodNamed Bd.named Bd.method).1
  have X0 : Stand p l e ({ frames := 0, cells := 0, slots := 0, locals := 0 } : Room) s m #[(.int p1)] below meth c s₁ [] 0 0 := Stand.of_body Bd
  have e0 : s₁.heap = h0 := by rw [← hh, Bd.state]; rfl
  have N0 := Fr.nil n0
  have hlk : meth.locks = false := BodyLoose.notSynchronized Bd
  have pre0 : ∀ t, Steps p.tables e below (s₁.setTop (mkF m 0 #[.val (.int p1), .unset, .unset, .unset] [])) t → Steps p.tables e below (s₁.setTop (entryFrame m #[(.int p1)] 4)) t := fun t k => castTop (ef_45 m p1) k
  have hsz : own_sz p1 = (4 : Int32) := own_szE4 ⟨hlo, hhi⟩
  have hng : (-p1).toInt = -p1.toInt := own_neg p1 (by omega)
  obtain ⟨fs, hr, hrun, hended, hW, hsame⟩ := X0.leave (v := (some (.int (4 : Int32)))) (fun h => by rw [Bd.returns] at h; cases h) (hlocks := hlk)
  refine ⟨_, _, pre0 _ ?_, hrun, hended, _, _, rfl, ?_, ⟨_, rfl⟩, hW, hsame.mono (by decide) (by decide)⟩
  · show Steps p.tables e below (s₁.setTop (mkF m 0 #[.val (.int p1), .unset, .unset, .unset] [])) _
    refine XT.iconstV X0.here hx rfl (1 : Int32) (hb hby d_jdk_33_method_13_code_0) (by decide) ?_
    show Steps p.tables e below (s₁.setTop (mkF m 1 #[.val (.int p1), .unset, .unset, .unset] [(.int (1 : Int32))])) _
    refine XS.istoreN X0.here hx rfl (hb hby d_jdk_33_method_13_code_1) rfl (l' := #[.val (.int p1), .val (.int (1 : Int32)), .unset, .unset]) rfl ?_
    show Steps p.tables e below (s₁.setTop (mkF m 2 #[.val (.int p1), .val (.int (1 : Int32)), .unset, .unset] [])) _
    refine XS.iloadN X0.here hx rfl (hb hby d_jdk_33_method_13_code_2) rfl ?_
    show Steps p.tables e below (s₁.setTop (mkF m 3 #[.val (.int p1), .val (.int (1 : Int32)), .unset, .unset] [(.int p1)])) _
    refine XS.ifNo X0.here hx rfl (hb hby d_jdk_33_method_13_code_3) rfl ((if0 _ _).trans (flt (own_le (a := p1) (b := 0) (by rw [own_p0]; omega))).1) ?_
    show Steps p.tables e below (s₁.setTop (mkF m 6 #[.val (.int p1), .val (.int (1 : Int32)), .unset, .unset] [])) _
    refine XT.iconstV X0.here hx rfl (0 : Int32) (hb hby d_jdk_33_method_13_code_6) (by decide) ?_
    show Steps p.tables e below (s₁.setTop (mkF m 7 #[.val (.int p1), .val (.int (1 : Int32)), .unset, .unset] [(.int (0 : Int32))])) _
    refine XS.istoreN X0.here hx rfl (hb hby d_jdk_33_method_13_code_7) rfl (l' := #[.val (.int p1), .val (.int (0 : Int32)), .unset, .unset]) rfl ?_
    show Steps p.tables e below (s₁.setTop (mkF m 8 #[.val (.int p1), .val (.int (0 : Int32)), .unset, .unset] [])) _
    refine XS.iloadN X0.here hx rfl (hb hby d_jdk_33_method_13_code_8) rfl ?_
    show Steps p.tables e below (s₁.setTop (mkF m 9 #[.val (.int p1), .val (.int (0 : Int32)), .unset, .unset] [(.int p1)])) _
    refine XS.ineg X0.here hx rfl (hb hby d_jdk_33_method_13_code_9) rfl ?_
    show Steps p.tables e below (s₁.setTop (mkF m 10 #[.val (.int p1), .val (.int (0 : Int32)), .unset, .unset] [(.int (-p1))])) _
    refine XS.istoreN X0.here hx rfl (hb hby d_jdk_33_method_13_code_10) rfl (l' := #[.val (.int (-p1)), .val (.int (0 : Int32)), .unset, .unset]) rfl ?_
    show Steps p.tables e below (s₁.setTop (mkF m 11 #[.val (.int (-p1)), .val (.int (0 : Int32)), .unset, .unset] [])) _
    refine XT.bipushV X0.here hx rfl (-10 : Int32) (hb hby d_jdk_33_method_13_code_11) (by decide) ?_
    show Steps p.tables e below (s₁.setTop (mkF m 13 #[.val (.int (-p1)), .val (.int (0 : Int32)), .unset, .unset] [(.int (-10 : Int32))])) _
    refine XS.istoreN X0.here hx rfl (hb hby d_jdk_33_method_13_code_13) rfl (l' := #[.val (.int (-p1)), .val (.int (0 : Int32)), .val (.int (-10 : Int32)), .unset]) rfl ?_
    show Steps p.tables e below (s₁.setTop (mkF m 14 #[.val (.int (-p1)), .val (.int (0 : Int32)), .val (.int (-10 : Int32)), .unset] [])) _
    refine XT.iconstV X0.here hx rfl (1 : Int32) (hb hby d_jdk_33_method_13_code_14) (by decide) ?_
    show Steps p.tables e below (s₁.setTop (mkF m 15 #[.val (.int (-p1)), .val (.int (0 : Int32)), .val (.int (-10 : Int32)), .unset] [(.int (1 : Int32))])) _
    refine XS.istoreN X0.here hx rfl (hb hby d_jdk_33_method_13_code_15) rfl (l' := #[.val (.int (-p1)), .val (.int (0 : Int32)), .val (.int (-10 : Int32)), .val (.int (1 : Int32))]) rfl ?_
    show Steps p.tables e below (s₁.setTop (mkF m 16 #[.val (.int (-p1)), .val (.int (0 : Int32)), .val (.int (-10 : Int32)), .val (.int (1 : Int32))] [])) _
    refine XS.iloadN X0.here hx rfl (hb hby d_jdk_33_method_13_code_16) rfl ?_
    show Steps p.tables e below (s₁.setTop (mkF m 17 #[.val (.int (-p1)), .val (.int (0 : Int32)), .val (.int (-10 : Int32)), .val (.int (1 : Int32))] [(.int (1 : Int32))])) _
    refine XT.bipushV X0.here hx rfl (10 : Int32) (hb hby d_jdk_33_method_13_code_17) (by decide) ?_
    show Steps p.tables e below (s₁.setTop (mkF m 19 #[.val (.int (-p1)), .val (.int (0 : Int32)), .val (.int (-10 : Int32)), .val (.int (1 : Int32))] [(.int (10 : Int32)), (.int (1 : Int32))])) _
    refine XS.icmpNo X0.here hx rfl (hb hby d_jdk_33_method_13_code_19) rfl (by decide) ?_
    show Steps p.tables e below (s₁.setTop (mkF m 22 #[.val (.int (-p1)), .val (.int (0 : Int32)), .val (.int (-10 : Int32)), .val (.int (1 : Int32))] [])) _
    refine XS.iloadN X0.here hx rfl (hb hby d_jdk_33_method_13_code_22) rfl ?_
    show Steps p.tables e below (s₁.setTop (mkF m 23 #[.val (.int (-p1)), .val (.int (0 : Int32)), .val (.int (-10 : Int32)), .val (.int (1 : Int32))] [(.int (-p1))])) _
    refine XS.iloadN X0.here hx rfl (hb hby d_jdk_33_method_13_code_23) rfl ?_
    show Steps p.tables e below (s₁.setTop (mkF m 24 #[.val (.int (-p1)), .val (.int (0 : Int32)), .val (.int (-10 : Int32)), .val (.int (1 : Int32))] [(.int (-10 : Int32)), (.int (-p1))])) _
    refine XS.icmpYes X0.here hx rfl (pc0 := 24) (pc' := 31) rfl (hb hby d_jdk_33_method_13_code_24) rfl (flt (own_le (a := (-10 : Int32)) (b := -p1) (by rw [hng, show ((-10 : Int32) : Int32).toInt = -10 from by decide]; omega))).2.2.2 (by decide) (by decide) ?_
    show Steps p.tables e below (s₁.setTop (mkF m 31 #[.val (.int (-p1)), .val (.int (0 : Int32)), .val (.int (-10 : Int32)), .val (.int (1 : Int32))] [])) _
    refine XT.bipushV X0.here hx rfl (10 : Int32) (hb hby d_jdk_33_method_13_code_31) (by decide) ?_
    show Steps p.tables e below (s₁.setTop (mkF m 33 #[.val (.int (-p1)), .val (.int (0 : Int32)), .val (.int (-10 : Int32)), .val (.int (1 : Int32))] [(.int (10 : Int32))])) _
    refine XS.iloadN X0.here hx rfl (hb hby d_jdk_33_method_13_code_33) rfl ?_
    show Steps p.tables e below (s₁.setTop (mkF m 34 #[.val (.int (-p1)), .val (.int (0 : Int32)), .val (.int (-10 : Int32)), .val (.int (1 : Int32))] [(.int (-10 : Int32)), (.int (10 : Int32))])) _
    refine XS.imul X0.here hx rfl (hb hby d_jdk_33_method_13_code_34) rfl ?_
    show Steps p.tables e below (s₁.setTop (mkF m 35 #[.val (.int (-p1)), .val (.int (0 : Int32)), .val (.int (-10 : Int32)), .val (.int (1 : Int32))] [(.int ((10 : Int32) * (-10 : Int32)))])) _
    refine XS.istoreN X0.here hx rfl (hb hby d_jdk_33_method_13_code_35) rfl (l' := #[.val (.int (-p1)), .val (.int (0 : Int32)), .val (.int ((10 : Int32) * (-10 : Int32))), .val (.int (1 : Int32))]) rfl ?_
    show Steps p.tables e below (s₁.setTop (mkF m 36 #[.val (.int (-p1)), .val (.int (0 : Int32)), .val (.int ((10 : Int32) * (-10 : Int32))), .val (.int (1 : Int32))] [])) _
    refine XT.iincV X0.here hx rfl (1 : Int32) (hb hby d_jdk_33_method_13_code_36) (by decide) rfl (l' := #[.val (.int (-p1)), .val (.int (0 : Int32)), .val (.int ((10 : Int32) * (-10 : Int32))), .val (.int (2 : Int32))]) rfl ?_
    show Steps p.tables e below (s₁.setTop (mkF m 39 #[.val (.int (-p1)), .val (.int (0 : Int32)), .val (.int ((10 : Int32) * (-10 : Int32))), .val (.int (2 : Int32))] [])) _
    refine XS.goto X0.here hx rfl (pc0 := 39) (pc' := 16) rfl (hb hby d_jdk_33_method_13_code_39) (by decide) (by decide) ?_
    show Steps p.tables e below (s₁.setTop (mkF m 16 #[.val (.int (-p1)), .val (.int (0 : Int32)), .val (.int ((10 : Int32) * (-10 : Int32))), .val (.int (2 : Int32))] [])) _
    refine XS.iloadN X0.here hx rfl (hb hby d_jdk_33_method_13_code_16) rfl ?_
    show Steps p.tables e below (s₁.setTop (mkF m 17 #[.val (.int (-p1)), .val (.int (0 : Int32)), .val (.int ((10 : Int32) * (-10 : Int32))), .val (.int (2 : Int32))] [(.int (2 : Int32))])) _
    refine XT.bipushV X0.here hx rfl (10 : Int32) (hb hby d_jdk_33_method_13_code_17) (by decide) ?_
    show Steps p.tables e below (s₁.setTop (mkF m 19 #[.val (.int (-p1)), .val (.int (0 : Int32)), .val (.int ((10 : Int32) * (-10 : Int32))), .val (.int (2 : Int32))] [(.int (10 : Int32)), (.int (2 : Int32))])) _
    refine XS.icmpNo X0.here hx rfl (hb hby d_jdk_33_method_13_code_19) rfl (by decide) ?_
    show Steps p.tables e below (s₁.setTop (mkF m 22 #[.val (.int (-p1)), .val (.int (0 : Int32)), .val (.int ((10 : Int32) * (-10 : Int32))), .val (.int (2 : Int32))] [])) _
    refine XS.iloadN X0.here hx rfl (hb hby d_jdk_33_method_13_code_22) rfl ?_
    show Steps p.tables e below (s₁.setTop (mkF m 23 #[.val (.int (-p1)), .val (.int (0 : Int32)), .val (.int ((10 : Int32) * (-10 : Int32))), .val (.int (2 : Int32))] [(.int (-p1))])) _
    refine XS.iloadN X0.here hx rfl (hb hby d_jdk_33_method_13_code_23) rfl ?_
    show Steps p.tables e below (s₁.setTop (mkF m 24 #[.val (.int (-p1)), .val (.int (0 : Int32)), .val (.int ((10 : Int32) * (-10 : Int32))), .val (.int (2 : Int32))] [(.int ((10 : Int32) * (-10 : Int32))), (.int (-p1))])) _
    refine XS.icmpYes X0.here hx rfl (pc0 := 24) (pc' := 31) rfl (hb hby d_jdk_33_method_13_code_24) rfl (flt (own_le (a := ((10 : Int32) * (-10 : Int32))) (b := -p1) (by rw [hng, show (((10 : Int32) * (-10 : Int32)) : Int32).toInt = -100 from by decide]; omega))).2.2.2 (by decide) (by decide) ?_
    show Steps p.tables e below (s₁.setTop (mkF m 31 #[.val (.int (-p1)), .val (.int (0 : Int32)), .val (.int ((10 : Int32) * (-10 : Int32))), .val (.int (2 : Int32))] [])) _
    refine XT.bipushV X0.here hx rfl (10 : Int32) (hb hby d_jdk_33_method_13_code_31) (by decide) ?_
    show Steps p.tables e below (s₁.setTop (mkF m 33 #[.val (.int (-p1)), .val (.int (0 : Int32)), .val (.int ((10 : Int32) * (-10 : Int32))), .val (.int (2 : Int32))] [(.int (10 : Int32))])) _
    refine XS.iloadN X0.here hx rfl (hb hby d_jdk_33_method_13_code_33) rfl ?_
    show Steps p.tables e below (s₁.setTop (mkF m 34 #[.val (.int (-p1)), .val (.int (0 : Int32)), .val (.int ((10 : Int32) * (-10 : Int32))), .val (.int (2 : Int32))] [(.int ((10 : Int32) * (-10 : Int32))), (.int (10 : Int32))])) _
    refine XS.imul X0.here hx rfl (hb hby d_jdk_33_method_13_code_34) rfl ?_
    show Steps p.tables e below (s₁.setTop (mkF m 35 #[.val (.int (-p1)), .val (.int (0 : Int32)), .val (.int ((10 : Int32) * (-10 : Int32))), .val (.int (2 : Int32))] [(.int ((10 : Int32) * ((10 : Int32) * (-10 : Int32))))])) _
    refine XS.istoreN X0.here hx rfl (hb hby d_jdk_33_method_13_code_35) rfl (l' := #[.val (.int (-p1)), .val (.int (0 : Int32)), .val (.int ((10 : Int32) * ((10 : Int32) * (-10 : Int32)))), .val (.int (2 : Int32))]) rfl ?_
    show Steps p.tables e below (s₁.setTop (mkF m 36 #[.val (.int (-p1)), .val (.int (0 : Int32)), .val (.int ((10 : Int32) * ((10 : Int32) * (-10 : Int32)))), .val (.int (2 : Int32))] [])) _
    refine XT.iincV X0.here hx rfl (1 : Int32) (hb hby d_jdk_33_method_13_code_36) (by decide) rfl (l' := #[.val (.int (-p1)), .val (.int (0 : Int32)), .val (.int ((10 : Int32) * ((10 : Int32) * (-10 : Int32)))), .val (.int (3 : Int32))]) rfl ?_
    show Steps p.tables e below (s₁.setTop (mkF m 39 #[.val (.int (-p1)), .val (.int (0 : Int32)), .val (.int ((10 : Int32) * ((10 : Int32) * (-10 : Int32)))), .val (.int (3 : Int32))] [])) _
    refine XS.goto X0.here hx rfl (pc0 := 39) (pc' := 16) rfl (hb hby d_jdk_33_method_13_code_39) (by decide) (by decide) ?_
    show Steps p.tables e below (s₁.setTop (mkF m 16 #[.val (.int (-p1)), .val (.int (0 : Int32)), .val (.int ((10 : Int32) * ((10 : Int32) * (-10 : Int32)))), .val (.int (3 : Int32))] [])) _
    refine XS.iloadN X0.here hx rfl (hb hby d_jdk_33_method_13_code_16) rfl ?_
    show Steps p.tables e below (s₁.setTop (mkF m 17 #[.val (.int (-p1)), .val (.int (0 : Int32)), .val (.int ((10 : Int32) * ((10 : Int32) * (-10 : Int32)))), .val (.int (3 : Int32))] [(.int (3 : Int32))])) _
    refine XT.bipushV X0.here hx rfl (10 : Int32) (hb hby d_jdk_33_method_13_code_17) (by decide) ?_
    show Steps p.tables e below (s₁.setTop (mkF m 19 #[.val (.int (-p1)), .val (.int (0 : Int32)), .val (.int ((10 : Int32) * ((10 : Int32) * (-10 : Int32)))), .val (.int (3 : Int32))] [(.int (10 : Int32)), (.int (3 : Int32))])) _
    refine XS.icmpNo X0.here hx rfl (hb hby d_jdk_33_method_13_code_19) rfl (by decide) ?_
    show Steps p.tables e below (s₁.setTop (mkF m 22 #[.val (.int (-p1)), .val (.int (0 : Int32)), .val (.int ((10 : Int32) * ((10 : Int32) * (-10 : Int32)))), .val (.int (3 : Int32))] [])) _
    refine XS.iloadN X0.here hx rfl (hb hby d_jdk_33_method_13_code_22) rfl ?_
    show Steps p.tables e below (s₁.setTop (mkF m 23 #[.val (.int (-p1)), .val (.int (0 : Int32)), .val (.int ((10 : Int32) * ((10 : Int32) * (-10 : Int32)))), .val (.int (3 : Int32))] [(.int (-p1))])) _
    refine XS.iloadN X0.here hx rfl (hb hby d_jdk_33_method_13_code_23) rfl ?_
    show Steps p.tables e below (s₁.setTop (mkF m 24 #[.val (.int (-p1)), .val (.int (0 : Int32)), .val (.int ((10 : Int32) * ((10 : Int32) * (-10 : Int32)))), .val (.int (3 : Int32))] [(.int ((10 : Int32) * ((10 : Int32) * (-10 : Int32)))), (.int (-p1))])) _
    refine XS.icmpYes X0.here hx rfl (pc0 := 24) (pc' := 31) rfl (hb hby d_jdk_33_method_13_code_24) rfl (flt (own_le (a := ((10 : Int32) * ((10 : Int32) * (-10 : Int32)))) (b := -p1) (by rw [hng, show (((10 : Int32) * ((10 : Int32) * (-10 : Int32))) : Int32).toInt = -1000 from by decide]; omega))).2.2.2 (by decide) (by decide) ?_
    show Steps p.tables e below (s₁.setTop (mkF m 31 #[.val (.int (-p1)), .val (.int (0 : Int32)), .val (.int ((10 : Int32) * ((10 : Int32) * (-10 : Int32)))), .val (.int (3 : Int32))] [])) _
    refine XT.bipushV X0.here hx rfl (10 : Int32) (hb hby d_jdk_33_method_13_code_31) (by decide) ?_
    show Steps p.tables e below (s₁.setTop (mkF m 33 #[.val (.int (-p1)), .val (.int (0 : Int32)), .val (.int ((10 : Int32) * ((10 : Int32) * (-10 : Int32)))), .val (.int (3 : Int32))] [(.int (10 : Int32))])) _
    refine XS.iloadN X0.here hx rfl (hb hby d_jdk_33_method_13_code_33) rfl ?_
    show Steps p.tables e below (s₁.setTop (mkF m 34 #[.val (.int (-p1)), .val (.int (0 : Int32)), .val (.int ((10 : Int32) * ((10 : Int32) * (-10 : Int32)))), .val (.int (3 : Int32))] [(.int ((10 : Int32) * ((10 : Int32) * (-10 : Int32)))), (.int (10 : Int32))])) _
    refine XS.imul X0.here hx rfl (hb hby d_jdk_33_method_13_code_34) rfl ?_
    show Steps p.tables e below (s₁.setTop (mkF m 35 #[.val (.int (-p1)), .val (.int (0 : Int32)), .val (.int ((10 : Int32) * ((10 : Int32) * (-10 : Int32)))), .val (.int (3 : Int32))] [(.int ((10 : Int32) * ((10 : Int32) * ((10 : Int32) * (-10 : Int32)))))])) _
    refine XS.istoreN X0.here hx rfl (hb hby d_jdk_33_method_13_code_35) rfl (l' := #[.val (.int (-p1)), .val (.int (0 : Int32)), .val (.int ((10 : Int32) * ((10 : Int32) * ((10 : Int32) * (-10 : Int32))))), .val (.int (3 : Int32))]) rfl ?_
    show Steps p.tables e below (s₁.setTop (mkF m 36 #[.val (.int (-p1)), .val (.int (0 : Int32)), .val (.int ((10 : Int32) * ((10 : Int32) * ((10 : Int32) * (-10 : Int32))))), .val (.int (3 : Int32))] [])) _
    refine XT.iincV X0.here hx rfl (1 : Int32) (hb hby d_jdk_33_method_13_code_36) (by decide) rfl (l' := #[.val (.int (-p1)), .val (.int (0 : Int32)), .val (.int ((10 : Int32) * ((10 : Int32) * ((10 : Int32) * (-10 : Int32))))), .val (.int (4 : Int32))]) rfl ?_
    show Steps p.tables e below (s₁.setTop (mkF m 39 #[.val (.int (-p1)), .val (.int (0 : Int32)), .val (.int ((10 : Int32) * ((10 : Int32) * ((10 : Int32) * (-10 : Int32))))), .val (.int (4 : Int32))] [])) _
    refine XS.goto X0.here hx rfl (pc0 := 39) (pc' := 16) rfl (hb hby d_jdk_33_method_13_code_39) (by decide) (by decide) ?_
    show Steps p.tables e below (s₁.setTop (mkF m 16 #[.val (.int (-p1)), .val (.int (0 : Int32)), .val (.int ((10 : Int32) * ((10 : Int32) * ((10 : Int32) * (-10 : Int32))))), .val (.int (4 : Int32))] [])) _
    refine XS.iloadN X0.here hx rfl (hb hby d_jdk_33_method_13_code_16) rfl ?_
    show Steps p.tables e below (s₁.setTop (mkF m 17 #[.val (.int (-p1)), .val (.int (0 : Int32)), .val (.int ((10 : Int32) * ((10 : Int32) * ((10 : Int32) * (-10 : Int32))))), .val (.int (4 : Int32))] [(.int (4 : Int32))])) _
    refine XT.bipushV X0.here hx rfl (10 : Int32) (hb hby d_jdk_33_method_13_code_17) (by decide) ?_
    show Steps p.tables e below (s₁.setTop (mkF m 19 #[.val (.int (-p1)), .val (.int (0 : Int32)), .val (.int ((10 : Int32) * ((10 : Int32) * ((10 : Int32) * (-10 : Int32))))), .val (.int (4 : Int32))] [(.int (10 : Int32)), (.int (4 : Int32))])) _
    refine XS.icmpNo X0.here hx rfl (hb hby d_jdk_33_method_13_code_19) rfl (by decide) ?_
    show Steps p.tables e below (s₁.setTop (mkF m 22 #[.val (.int (-p1)), .val (.int (0 : Int32)), .val (.int ((10 : Int32) * ((10 : Int32) * ((10 : Int32) * (-10 : Int32))))), .val (.int (4 : Int32))] [])) _
    refine XS.iloadN X0.here hx rfl (hb hby d_jdk_33_method_13_code_22) rfl ?_
    show Steps p.tables e below (s₁.setTop (mkF m 23 #[.val (.int (-p1)), .val (.int (0 : Int32)), .val (.int ((10 : Int32) * ((10 : Int32) * ((10 : Int32) * (-10 : Int32))))), .val (.int (4 : Int32))] [(.int (-p1))])) _
    refine XS.iloadN X0.here hx rfl (hb hby d_jdk_33_method_13_code_23) rfl ?_
    show Steps p.tables e below (s₁.setTop (mkF m 24 #[.val (.int (-p1)), .val (.int (0 : Int32)), .val (.int ((10 : Int32) * ((10 : Int32) * ((10 : Int32) * (-10 : Int32))))), .val (.int (4 : Int32))] [(.int ((10 : Int32) * ((10 : Int32) * ((10 : Int32) * (-10 : Int32))))), (.int (-p1))])) _
    refine XS.icmpNo X0.here hx rfl (hb hby d_jdk_33_method_13_code_24) rfl (tlt (own_lt (a := ((10 : Int32) * ((10 : Int32) * ((10 : Int32) * (-10 : Int32))))) (b := -p1) (by rw [hng, show (((10 : Int32) * ((10 : Int32) * ((10 : Int32) * (-10 : Int32)))) : Int32).toInt = -10000 from by decide]; omega))).2.2.2 ?_
    show Steps p.tables e below (s₁.setTop (mkF m 27 #[.val (.int (-p1)), .val (.int (0 : Int32)), .val (.int ((10 : Int32) * ((10 : Int32) * ((10 : Int32) * (-10 : Int32))))), .val (.int (4 : Int32))] [])) _
    refine XS.iloadN X0.here hx rfl (hb hby d_jdk_33_method_13_code_27) rfl ?_
    show Steps p.tables e below (s₁.setTop (mkF m 28 #[.val (.int (-p1)), .val (.int (0 : Int32)), .val (.int ((10 : Int32) * ((10 : Int32) * ((10 : Int32) * (-10 : Int32))))), .val (.int (4 : Int32))] [(.int (4 : Int32))])) _
    refine XS.iloadN X0.here hx rfl (hb hby d_jdk_33_method_13_code_28) rfl ?_
    show Steps p.tables e below (s₁.setTop (mkF m 29 #[.val (.int (-p1)), .val (.int (0 : Int32)), .val (.int ((10 : Int32) * ((10 : Int32) * ((10 : Int32) * (-10 : Int32))))), .val (.int (4 : Int32))] [(.int (0 : Int32)), (.int (4 : Int32))])) _
    refine XS.iadd X0.here hx rfl (hb hby d_jdk_33_method_13_code_29) rfl ?_
    show Steps p.tables e below (s₁.setTop (mkF m 30 #[.val (.int (-p1)), .val (.int (0 : Int32)), .val (.int ((10 : Int32) * ((10 : Int32) * ((10 : Int32) * (-10 : Int32))))), .val (.int (4 : Int32))] [(.int ((4 : Int32) + (0 : Int32)))])) _
    exact retI X0 hx Bd.returns (hb hby d_jdk_33_method_13_code_30) hr
  · exact ⟨by rw [hsz], N0, e0⟩
def Q_ss_5 (Z : State) (p1 : Int32) (h0 : Heap) (n0 : Nat) (v : Option Value) (h : Heap) (L : List Loc) : Prop := v = some (.int (own_sz p1)) ∧ Fr n0 L ∧ h = h0
set_option maxRecDepth 65536 in
set_option maxHeartbeats 40000000 in
theorem ss_5 (l : Launch) (Z : State) (a0 : Array Value) (hw : ∀ d ∈ tables_1, d.before a0 Z = true) (ws : List Jvm.Cond) (p1 : Int32) (h0 : Heap) (n0 : Nat) (Z0 : n0 ≤ h0.size) (hlo : 10000 ≤ p1.toInt) (hhi : p1.toInt < 65536) :
    MetFree l (⟨"java/lang/Integer", "stringSize", "(I)I"⟩ : MethodName) (head1 (Jvm.Cond.code (⟨"java/lang/Integer", "stringSize", "(I)I"⟩ : MethodName) jdk_33_method_13_code 4 (Option.some Jvm.ClassFile.FieldType.int) :: ws) ({ frames := 0, cells := 0, slots := 0, locals := 0 } : Room)) (fun a U => a = #[(.int p1)] ∧ Z.Warmed39 U.vm ∧ U.heap = h0) (fun _ _ _ _ _ => True) (fun _ U o U' => ∃ v L, o = .returned v ∧ Q_ss_5 Z p1 h0 n0 v U'.heap L ∧ FrameEnd U o U' L ({ frames := 0, cells := 0, slots := 0, locals := 0 } : Room).cells ({ frames := 0, cells := 0, slots := 0, locals := 0 } : Room).slots) := by
  refine MetFree.of_bodySF (plainFor_of_name pn_46) hisR ?_
  intro p e s m args below meth c s₁ Bd hml0 hP hK
  obtain ⟨rfl, hZ, hh⟩ := hP
  have hx := Bd.exec
  have hby := Bd.bytes
  have hml : c.maxLocals = 4 := hml0
  have hown : s.vm.findClass "java/lang/Integer" = some m.cls := findClass_of_methodNamed Bd.named
  have hnm := (name_of_methodNamed Bd.named Bd.method).1
  have X0 : Stand p l e ({ frames := 0, cells := 0, slots := 0, locals := 0 } : Room) s m #[(.int p1)] below meth c s₁ [] 0 0 := Stand.of_body Bd
  have e0 : s₁.heap = h0 := by rw [← hh, Bd.state]; rfl
  have N0 := Fr.nil n0
  have hlk : meth.locks = false := BodyLoose.notSynchronized Bd
  have pre0 : ∀ t, Steps p.tables e below (s₁.setTop (mkF m 0 #[.val (.int p1), .unset, .unset, .unset] [])) t → Steps p.tables e below (s₁.setTop (entryFrame m #[(.int p1)] 4)) t := fun t k => castTop (ef_45 m p1) k
  have hsz : own_sz p1 = (5 : Int32) := own_szE5 ⟨hlo, hhi⟩
  have hng : (-p1).toInt = -p1.toInt := own_neg p1 (by omega)
  obtain ⟨fs, hr, hrun, hended, hW, hsame⟩ := X0.leave (v := (some (.int (5 : Int32)))) (fun h => by rw [Bd.returns] at h; cases h) (hlocks := hlk)
  refine ⟨_, _, pre0 _ ?_, hrun, hended, _, _, rfl, ?_, ⟨_, rfl⟩, hW, hsame.mono (by decide) (by decide)⟩
  · show Steps p.tables e below (s₁.setTop (mkF m 0 #[.val (.int p1), .unset, .unset, .unset] [])) _
    refine XT.iconstV X0.here hx rfl (1 : Int32) (hb hby d_jdk_33_method_13_code_0) (by decide) ?_
    show Steps p.tables e below (s₁.setTop (mkF m 1 #[.val (.int p1), .unset, .unset, .unset] [(.int (1 : Int32))])) _
    refine XS.istoreN X0.here hx rfl (hb hby d_jdk_33_method_13_code_1) rfl (l' := #[.val (.int p1), .val (.int (1 : Int32)), .unset, .unset]) rfl ?_
    show Steps p.tables e below (s₁.setTop (mkF m 2 #[.val (.int p1), .val (.int (1 : Int32)), .unset, .unset] [])) _
    refine XS.iloadN X0.here hx rfl (hb hby d_jdk_33_method_13_code_2) rfl ?_
    show Steps p.tables e below (s₁.setTop (mkF m 3 #[.val (.int p1), .val (.int (1 : Int32)), .unset, .unset] [(.int p1)])) _
    refine XS.ifNo X0.here hx rfl (hb hby d_jdk_33_method_13_code_3) rfl ((if0 _ _).trans (flt (own_le (a := p1) (b := 0) (by rw [own_p0]; omega))).1) ?_
    show Steps p.tables e below (s₁.setTop (mkF m 6 #[.val (.int p1), .val (.int (1 : Int32)), .unset, .unset] [])) _
    refine XT.iconstV X0.here hx rfl (0 : Int32) (hb hby d_jdk_33_method_13_code_6) (by decide) ?_
    show Steps p.tables e below (s₁.setTop (mkF m 7 #[.val (.int p1), .val (.int (1 : Int32)), .unset, .unset] [(.int (0 : Int32))])) _
    refine XS.istoreN X0.here hx rfl (hb hby d_jdk_33_method_13_code_7) rfl (l' := #[.val (.int p1), .val (.int (0 : Int32)), .unset, .unset]) rfl ?_
    show Steps p.tables e below (s₁.setTop (mkF m 8 #[.val (.int p1), .val (.int (0 : Int32)), .unset, .unset] [])) _
    refine XS.iloadN X0.here hx rfl (hb hby d_jdk_33_method_13_code_8) rfl ?_
    show Steps p.tables e below (s₁.setTop (mkF m 9 #[.val (.int p1), .val (.int (0 : Int32)), .unset, .unset] [(.int p1)])) _
    refine XS.ineg X0.here hx rfl (hb hby d_jdk_33_method_13_code_9) rfl ?_
    show Steps p.tables e below (s₁.setTop (mkF m 10 #[.val (.int p1), .val (.int (0 : Int32)), .unset, .unset] [(.int (-p1))])) _
    refine XS.istoreN X0.here hx rfl (hb hby d_jdk_33_method_13_code_10) rfl (l' := #[.val (.int (-p1)), .val (.int (0 : Int32)), .unset, .unset]) rfl ?_
    show Steps p.tables e below (s₁.setTop (mkF m 11 #[.val (.int (-p1)), .val (.int (0 : Int32)), .unset, .unset] [])) _
    refine XT.bipushV X0.here hx rfl (-10 : Int32) (hb hby d_jdk_33_method_13_code_11) (by decide) ?_
    show Steps p.tables e below (s₁.setTop (mkF m 13 #[.val (.int (-p1)), .val (.int (0 : Int32)), .unset, .unset] [(.int (-10 : Int32))])) _
    refine XS.istoreN X0.here hx rfl (hb hby d_jdk_33_method_13_code_13) rfl (l' := #[.val (.int (-p1)), .val (.int (0 : Int32)), .val (.int (-10 : Int32)), .unset]) rfl ?_
    show Steps p.tables e below (s₁.setTop (mkF m 14 #[.val (.int (-p1)), .val (.int (0 : Int32)), .val (.int (-10 : Int32)), .unset] [])) _
    refine XT.iconstV X0.here hx rfl (1 : Int32) (hb hby d_jdk_33_method_13_code_14) (by decide) ?_
    show Steps p.tables e below (s₁.setTop (mkF m 15 #[.val (.int (-p1)), .val (.int (0 : Int32)), .val (.int (-10 : Int32)), .unset] [(.int (1 : Int32))])) _
    refine XS.istoreN X0.here hx rfl (hb hby d_jdk_33_method_13_code_15) rfl (l' := #[.val (.int (-p1)), .val (.int (0 : Int32)), .val (.int (-10 : Int32)), .val (.int (1 : Int32))]) rfl ?_
    show Steps p.tables e below (s₁.setTop (mkF m 16 #[.val (.int (-p1)), .val (.int (0 : Int32)), .val (.int (-10 : Int32)), .val (.int (1 : Int32))] [])) _
    refine XS.iloadN X0.here hx rfl (hb hby d_jdk_33_method_13_code_16) rfl ?_
    show Steps p.tables e below (s₁.setTop (mkF m 17 #[.val (.int (-p1)), .val (.int (0 : Int32)), .val (.int (-10 : Int32)), .val (.int (1 : Int32))] [(.int (1 : Int32))])) _
    refine XT.bipushV X0.here hx rfl (10 : Int32) (hb hby d_jdk_33_method_13_code_17) (by decide) ?_
    show Steps p.tables e below (s₁.setTop (mkF m 19 #[.val (.int (-p1)), .val (.int (0 : Int32)), .val (.int (-10 : Int32)), .val (.int (1 : Int32))] [(.int (10 : Int32)), (.int (1 : Int32))])) _
    refine XS.icmpNo X0.here hx rfl (hb hby d_jdk_33_method_13_code_19) rfl (by decide) ?_
    show Steps p.tables e below (s₁.setTop (mkF m 22 #[.val (.int (-p1)), .val (.int (0 : Int32)), .val (.int (-10 : Int32)), .val (.int (1 : Int32))] [])) _
    refine XS.iloadN X0.here hx rfl (hb hby d_jdk_33_method_13_code_22) rfl ?_
    show Steps p.tables e below (s₁.setTop (mkF m 23 #[.val (.int (-p1)), .val (.int (0 : Int32)), .val (.int (-10 : Int32)), .val (.int (1 : Int32))] [(.int (-p1))])) _
    refine XS.iloadN X0.here hx rfl (hb hby d_jdk_33_method_13_code_23) rfl ?_
    show Steps p.tables e below (s₁.setTop (mkF m 24 #[.val (.int (-p1)), .val (.int (0 : Int32)), .val (.int (-10 : Int32)), .val (.int (1 : Int32))] [(.int (-10 : Int32)), (.int (-p1))])) _
    refine XS.icmpYes X0.here hx rfl (pc0 := 24) (pc' := 31) rfl (hb hby d_jdk_33_method_13_code_24) rfl (flt (own_le (a := (-10 : Int32)) (b := -p1) (by rw [hng, show ((-10 : Int32) : Int32).toInt = -10 from by decide]; omega))).2.2.2 (by decide) (by decide) ?_
    show Steps p.tables e below (s₁.setTop (mkF m 31 #[.val (.int (-p1)), .val (.int (0 : Int32)), .val (.int (-10 : Int32)), .val (.int (1 : Int32))] [])) _
    refine XT.bipushV X0.here hx rfl (10 : Int32) (hb hby d_jdk_33_method_13_code_31) (by decide) ?_
    show Steps p.tables e below (s₁.setTop (mkF m 33 #[.val (.int (-p1)), .val (.int (0 : Int32)), .val (.int (-10 : Int32)), .val (.int (1 : Int32))] [(.int (10 : Int32))])) _
    refine XS.iloadN X0.here hx rfl (hb hby d_jdk_33_method_13_code_33) rfl ?_
    show Steps p.tables e below (s₁.setTop (mkF m 34 #[.val (.int (-p1)), .val (.int (0 : Int32)), .val (.int (-10 : Int32)), .val (.int (1 : Int32))] [(.int (-10 : Int32)), (.int (10 : Int32))])) _
    refine XS.imul X0.here hx rfl (hb hby d_jdk_33_method_13_code_34) rfl ?_
    show Steps p.tables e below (s₁.setTop (mkF m 35 #[.val (.int (-p1)), .val (.int (0 : Int32)), .val (.int (-10 : Int32)), .val (.int (1 : Int32))] [(.int ((10 : Int32) * (-10 : Int32)))])) _
    refine XS.istoreN X0.here hx rfl (hb hby d_jdk_33_method_13_code_35) rfl (l' := #[.val (.int (-p1)), .val (.int (0 : Int32)), .val (.int ((10 : Int32) * (-10 : Int32))), .val (.int (1 : Int32))]) rfl ?_
    show Steps p.tables e below (s₁.setTop (mkF m 36 #[.val (.int (-p1)), .val (.int (0 : Int32)), .val (.int ((10 : Int32) * (-10 : Int32))), .val (.int (1 : Int32))] [])) _
    refine XT.iincV X0.here hx rfl (1 : Int32) (hb hby d_jdk_33_method_13_code_36) (by decide) rfl (l' := #[.val (.int (-p1)), .val (.int (0 : Int32)), .val (.int ((10 : Int32) * (-10 : Int32))), .val (.int (2 : Int32))]) rfl ?_
    show Steps p.tables e below (s₁.setTop (mkF m 39 #[.val (.int (-p1)), .val (.int (0 : Int32)), .val (.int ((10 : Int32) * (-10 : Int32))), .val (.int (2 : Int32))] [])) _
    refine XS.goto X0.here hx rfl (pc0 := 39) (pc' := 16) rfl (hb hby d_jdk_33_method_13_code_39) (by decide) (by decide) ?_
    show Steps p.tables e below (s₁.setTop (mkF m 16 #[.val (.int (-p1)), .val (.int (0 : Int32)), .val (.int ((10 : Int32) * (-10 : Int32))), .val (.int (2 : Int32))] [])) _
    refine XS.iloadN X0.here hx rfl (hb hby d_jdk_33_method_13_code_16) rfl ?_
    show Steps p.tables e below (s₁.setTop (mkF m 17 #[.val (.int (-p1)), .val (.int (0 : Int32)), .val (.int ((10 : Int32) * (-10 : Int32))), .val (.int (2 : Int32))] [(.int (2 : Int32))])) _
    refine XT.bipushV X0.here hx rfl (10 : Int32) (hb hby d_jdk_33_method_13_code_17) (by decide) ?_
    show Steps p.tables e below (s₁.setTop (mkF m 19 #[.val (.int (-p1)), .val (.int (0 : Int32)), .val (.int ((10 : Int32) * (-10 : Int32))), .val (.int (2 : Int32))] [(.int (10 : Int32)), (.int (2 : Int32))])) _
    refine XS.icmpNo X0.here hx rfl (hb hby d_jdk_33_method_13_code_19) rfl (by decide) ?_
    show Steps p.tables e below (s₁.setTop (mkF m 22 #[.val (.int (-p1)), .val (.int (0 : Int32)), .val (.int ((10 : Int32) * (-10 : Int32))), .val (.int (2 : Int32))] [])) _
    refine XS.iloadN X0.here hx rfl (hb hby d_jdk_33_method_13_code_22) rfl ?_
    show Steps p.tables e below (s₁.setTop (mkF m 23 #[.val (.int (-p1)), .val (.int (0 : Int32)), .val (.int ((10 : Int32) * (-10 : Int32))), .val (.int (2 : Int32))] [(.int (-p1))])) _
    refine XS.iloadN X0.here hx rfl (hb hby d_jdk_33_method_13_code_23) rfl ?_
    show Steps p.tables e below (s₁.setTop (mkF m 24 #[.val (.int (-p1)), .val (.int (0 : Int32)), .val (.int ((10 : Int32) * (-10 : Int32))), .val (.int (2 : Int32))] [(.int ((10 : Int32) * (-10 : Int32))), (.int (-p1))])) _
    refine XS.icmpYes X0.here hx rfl (pc0 := 24) (pc' := 31) rfl (hb hby d_jdk_33_method_13_code_24) rfl (flt (own_le (a := ((10 : Int32) * (-10 : Int32))) (b := -p1) (by rw [hng, show (((10 : Int32) * (-10 : Int32)) : Int32).toInt = -100 from by decide]; omega))).2.2.2 (by decide) (by decide) ?_
    show Steps p.tables e below (s₁.setTop (mkF m 31 #[.val (.int (-p1)), .val (.int (0 : Int32)), .val (.int ((10 : Int32) * (-10 : Int32))), .val (.int (2 : Int32))] [])) _
    refine XT.bipushV X0.here hx rfl (10 : Int32) (hb hby d_jdk_33_method_13_code_31) (by decide) ?_
    show Steps p.tables e below (s₁.setTop (mkF m 33 #[.val (.int (-p1)), .val (.int (0 : Int32)), .val (.int ((10 : Int32) * (-10 : Int32))), .val (.int (2 : Int32))] [(.int (10 : Int32))])) _
    refine XS.iloadN X0.here hx rfl (hb hby d_jdk_33_method_13_code_33) rfl ?_
    show Steps p.tables e below (s₁.setTop (mkF m 34 #[.val (.int (-p1)), .val (.int (0 : Int32)), .val (.int ((10 : Int32) * (-10 : Int32))), .val (.int (2 : Int32))] [(.int ((10 : Int32) * (-10 : Int32))), (.int (10 : Int32))])) _
    refine XS.imul X0.here hx rfl (hb hby d_jdk_33_method_13_code_34) rfl ?_
    show Steps p.tables e below (s₁.setTop (mkF m 35 #[.val (.int (-p1)), .val (.int (0 : Int32)), .val (.int ((10 : Int32) * (-10 : Int32))), .val (.int (2 : Int32))] [(.int ((10 : Int32) * ((10 : Int32) * (-10 : Int32))))])) _
    refine XS.istoreN X0.here hx rfl (hb hby d_jdk_33_method_13_code_35) rfl (l' := #[.val (.int (-p1)), .val (.int (0 : Int32)), .val (.int ((10 : Int32) * ((10 : Int32) * (-10 : Int32)))), .val (.int (2 : Int32))]) rfl ?_
    show Steps p.tables e below (s₁.setTop (mkF m 36 #[.val (.int (-p1)), .val (.int (0 : Int32)), .val (.int ((10 : Int32) * ((10 : Int32) * (-10 : Int32)))), .val (.int (2 : Int32))] [])) _
    refine XT.iincV X0.here hx rfl (1 : Int32) (hb hby d_jdk_33_method_13_code_36) (by decide) rfl (l' := #[.val (.int (-p1)), .val (.int (0 : Int32)), .val (.int ((10 : Int32) * ((10 : Int32) * (-10 : Int32)))), .val (.int (3 : Int32))]) rfl ?_
    show Steps p.tables e below (s₁.setTop (mkF m 39 #[.val (.int (-p1)), .val (.int (0 : Int32)), .val (.int ((10 : Int32) * ((10 : Int32) * (-10 : Int32)))), .val (.int (3 : Int32))] [])) _
    refine XS.goto X0.here hx rfl (pc0 := 39) (pc' := 16) rfl (hb hby d_jdk_33_method_13_code_39) (by decide) (by decide) ?_
    show Steps p.tables e below (s₁.setTop (mkF m 16 #[.val (.int (-p1)), .val (.int (0 : Int32)), .val (.int ((10 : Int32) * ((10 : Int32) * (-10 : Int32)))), .val (.int (3 : Int32))] [])) _
    refine XS.iloadN X0.here hx rfl (hb hby d_jdk_33_method_13_code_16) rfl ?_
    show Steps p.tables e below (s₁.setTop (mkF m 17 #[.val (.int (-p1)), .val (.int (0 : Int32)), .val (.int ((10 : Int32) * ((10 : Int32) * (-10 : Int32)))), .val (.int (3 : Int32))] [(.int (3 : Int32))])) _
    refine XT.bipushV X0.here hx rfl (10 : Int32) (hb hby d_jdk_33_method_13_code_17) (by decide) ?_
    show Steps p.tables e below (s₁.setTop (mkF m 19 #[.val (.int (-p1)), .val (.int (0 : Int32)), .val (.int ((10 : Int32) * ((10 : Int32) * (-10 : Int32)))), .val (.int (3 : Int32))] [(.int (10 : Int32)), (.int (3 : Int32))])) _
    refine XS.icmpNo X0.here hx rfl (hb hby d_jdk_33_method_13_code_19) rfl (by decide) ?_
    show Steps p.tables e below (s₁.setTop (mkF m 22 #[.val (.int (-p1)), .val (.int (0 : Int32)), .val (.int ((10 : Int32) * ((10 : Int32) * (-10 : Int32)))), .val (.int (3 : Int32))] [])) _
    refine XS.iloadN X0.here hx rfl (hb hby d_jdk_33_method_13_code_22) rfl ?_
    show Steps p.tables e below (s₁.setTop (mkF m 23 #[.val (.int (-p1)), .val (.int (0 : Int32)), .val (.int ((10 : Int32) * ((10 : Int32) * (-10 : Int32)))), .val (.int (3 : Int32))] [(.int (-p1))])) _
    refine XS.iloadN X0.here hx rfl (hb hby d_jdk_33_method_13_code_23) rfl ?_
    show Steps p.tables e below (s₁.setTop (mkF m 24 #[.val (.int (-p1)), .val (.int (0 : Int32)), .val (.int ((10 : Int32) * ((10 : Int32) * (-10 : Int32)))), .val (.int (3 : Int32))] [(.int ((10 : Int32) * ((10 : Int32) * (-10 : Int32)))), (.int (-p1))])) _
    refine XS.icmpYes X0.here hx rfl (pc0 := 24) (pc' := 31) rfl (hb hby d_jdk_33_method_13_code_24) rfl (flt (own_le (a := ((10 : Int32) * ((10 : Int32) * (-10 : Int32)))) (b := -p1) (by rw [hng, show (((10 : Int32) * ((10 : Int32) * (-10 : Int32))) : Int32).toInt = -1000 from by decide]; omega))).2.2.2 (by decide) (by decide) ?_
    show Steps p.tables e below (s₁.setTop (mkF m 31 #[.val (.int (-p1)), .val (.int (0 : Int32)), .val (.int ((10 : Int32) * ((10 : Int32) * (-10 : Int32)))), .val (.int (3 : Int32))] [])) _
    refine XT.bipushV X0.here hx rfl (10 : Int32) (hb hby d_jdk_33_method_13_code_31) (by decide) ?_
    show Steps p.tables e below (s₁.setTop (mkF m 33 #[.val (.int (-p1)), .val (.int (0 : Int32)), .val (.int ((10 : Int32) * ((10 : Int32) * (-10 : Int32)))), .val (.int (3 : Int32))] [(.int (10 : Int32))])) _
    refine XS.iloadN X0.here hx rfl (hb hby d_jdk_33_method_13_code_33) rfl ?_
    show Steps p.tables e below (s₁.setTop (mkF m 34 #[.val (.int (-p1)), .val (.int (0 : Int32)), .val (.int ((10 : Int32) * ((10 : Int32) * (-10 : Int32)))), .val (.int (3 : Int32))] [(.int ((10 : Int32) * ((10 : Int32) * (-10 : Int32)))), (.int (10 : Int32))])) _
    refine XS.imul X0.here hx rfl (hb hby d_jdk_33_method_13_code_34) rfl ?_
    show Steps p.tables e below (s₁.setTop (mkF m 35 #[.val (.int (-p1)), .val (.int (0 : Int32)), .val (.int ((10 : Int32) * ((10 : Int32) * (-10 : Int32)))), .val (.int (3 : Int32))] [(.int ((10 : Int32) * ((10 : Int32) * ((10 : Int32) * (-10 : Int32)))))])) _
    refine XS.istoreN X0.here hx rfl (hb hby d_jdk_33_method_13_code_35) rfl (l' := #[.val (.int (-p1)), .val (.int (0 : Int32)), .val (.int ((10 : Int32) * ((10 : Int32) * ((10 : Int32) * (-10 : Int32))))), .val (.int (3 : Int32))]) rfl ?_
    show Steps p.tables e below (s₁.setTop (mkF m 36 #[.val (.int (-p1)), .val (.int (0 : Int32)), .val (.int ((10 : Int32) * ((10 : Int32) * ((10 : Int32) * (-10 : Int32))))), .val (.int (3 : Int32))] [])) _
    refine XT.iincV X0.here hx rfl (1 : Int32) (hb hby d_jdk_33_method_13_code_36) (by decide) rfl (l' := #[.val (.int (-p1)), .val (.int (0 : Int32)), .val (.int ((10 : Int32) * ((10 : Int32) * ((10 : Int32) * (-10 : Int32))))), .val (.int (4 : Int32))]) rfl ?_
    show Steps p.tables e below (s₁.setTop (mkF m 39 #[.val (.int (-p1)), .val (.int (0 : Int32)), .val (.int ((10 : Int32) * ((10 : Int32) * ((10 : Int32) * (-10 : Int32))))), .val (.int (4 : Int32))] [])) _
    refine XS.goto X0.here hx rfl (pc0 := 39) (pc' := 16) rfl (hb hby d_jdk_33_method_13_code_39) (by decide) (by decide) ?_
    show Steps p.tables e below (s₁.setTop (mkF m 16 #[.val (.int (-p1)), .val (.int (0 : Int32)), .val (.int ((10 : Int32) * ((10 : Int32) * ((10 : Int32) * (-10 : Int32))))), .val (.int (4 : Int32))] [])) _
    refine XS.iloadN X0.here hx rfl (hb hby d_jdk_33_method_13_code_16) rfl ?_
    show Steps p.tables e below (s₁.setTop (mkF m 17 #[.val (.int (-p1)), .val (.int (0 : Int32)), .val (.int ((10 : Int32) * ((10 : Int32) * ((10 : Int32) * (-10 : Int32))))), .val (.int (4 : Int32))] [(.int (4 : Int32))])) _
    refine XT.bipushV X0.here hx rfl (10 : Int32) (hb hby d_jdk_33_method_13_code_17) (by decide) ?_
    show Steps p.tables e below (s₁.setTop (mkF m 19 #[.val (.int (-p1)), .val (.int (0 : Int32)), .val (.int ((10 : Int32) * ((10 : Int32) * ((10 : Int32) * (-10 : Int32))))), .val (.int (4 : Int32))] [(.int (10 : Int32)), (.int (4 : Int32))])) _
    refine XS.icmpNo X0.here hx rfl (hb hby d_jdk_33_method_13_code_19) rfl (by decide) ?_
    show Steps p.tables e below (s₁.setTop (mkF m 22 #[.val (.int (-p1)), .val (.int (0 : Int32)), .val (.int ((10 : Int32) * ((10 : Int32) * ((10 : Int32) * (-10 : Int32))))), .val (.int (4 : Int32))] [])) _
    refine XS.iloadN X0.here hx rfl (hb hby d_jdk_33_method_13_code_22) rfl ?_
    show Steps p.tables e below (s₁.setTop (mkF m 23 #[.val (.int (-p1)), .val (.int (0 : Int32)), .val (.int ((10 : Int32) * ((10 : Int32) * ((10 : Int32) * (-10 : Int32))))), .val (.int (4 : Int32))] [(.int (-p1))])) _
    refine XS.iloadN X0.here hx rfl (hb hby d_jdk_33_method_13_code_23) rfl ?_
    show Steps p.tables e below (s₁.setTop (mkF m 24 #[.val (.int (-p1)), .val (.int (0 : Int32)), .val (.int ((10 : Int32) * ((10 : Int32) * ((10 : Int32) * (-10 : Int32))))), .val (.int (4 : Int32))] [(.int ((10 : Int32) * ((10 : Int32) * ((10 : Int32) * (-10 : Int32))))), (.int (-p1))])) _
    refine XS.icmpYes X0.here hx rfl (pc0 := 24) (pc' := 31) rfl (hb hby d_jdk_33_method_13_code_24) rfl (flt (own_le (a := ((10 : Int32) * ((10 : Int32) * ((10 : Int32) * (-10 : Int32))))) (b := -p1) (by rw [hng, show (((10 : Int32) * ((10 : Int32) * ((10 : Int32) * (-10 : Int32)))) : Int32).toInt = -10000 from by decide]; omega))).2.2.2 (by decide) (by decide) ?_
    show Steps p.tables e below (s₁.setTop (mkF m 31 #[.val (.int (-p1)), .val (.int (0 : Int32)), .val (.int ((10 : Int32) * ((10 : Int32) * ((10 : Int32) * (-10 : Int32))))), .val (.int (4 : Int32))] [])) _
    refine XT.bipushV X0.here hx rfl (10 : Int32) (hb hby d_jdk_33_method_13_code_31) (by decide) ?_
    show Steps p.tables e below (s₁.setTop (mkF m 33 #[.val (.int (-p1)), .val (.int (0 : Int32)), .val (.int ((10 : Int32) * ((10 : Int32) * ((10 : Int32) * (-10 : Int32))))), .val (.int (4 : Int32))] [(.int (10 : Int32))])) _
    refine XS.iloadN X0.here hx rfl (hb hby d_jdk_33_method_13_code_33) rfl ?_
    show Steps p.tables e below (s₁.setTop (mkF m 34 #[.val (.int (-p1)), .val (.int (0 : Int32)), .val (.int ((10 : Int32) * ((10 : Int32) * ((10 : Int32) * (-10 : Int32))))), .val (.int (4 : Int32))] [(.int ((10 : Int32) * ((10 : Int32) * ((10 : Int32) * (-10 : Int32))))), (.int (10 : Int32))])) _
    refine XS.imul X0.here hx rfl (hb hby d_jdk_33_method_13_code_34) rfl ?_
    show Steps p.tables e below (s₁.setTop (mkF m 35 #[.val (.int (-p1)), .val (.int (0 : Int32)), .val (.int ((10 : Int32) * ((10 : Int32) * ((10 : Int32) * (-10 : Int32))))), .val (.int (4 : Int32))] [(.int ((10 : Int32) * ((10 : Int32) * ((10 : Int32) * ((10 : Int32) * (-10 : Int32))))))])) _
    refine XS.istoreN X0.here hx rfl (hb hby d_jdk_33_method_13_code_35) rfl (l' := #[.val (.int (-p1)), .val (.int (0 : Int32)), .val (.int ((10 : Int32) * ((10 : Int32) * ((10 : Int32) * ((10 : Int32) * (-10 : Int32)))))), .val (.int (4 : Int32))]) rfl ?_
    show Steps p.tables e below (s₁.setTop (mkF m 36 #[.val (.int (-p1)), .val (.int (0 : Int32)), .val (.int ((10 : Int32) * ((10 : Int32) * ((10 : Int32) * ((10 : Int32) * (-10 : Int32)))))), .val (.int (4 : Int32))] [])) _
    refine XT.iincV X0.here hx rfl (1 : Int32) (hb hby d_jdk_33_method_13_code_36) (by decide) rfl (l' := #[.val (.int (-p1)), .val (.int (0 : Int32)), .val (.int ((10 : Int32) * ((10 : Int32) * ((10 : Int32) * ((10 : Int32) * (-10 : Int32)))))), .val (.int (5 : Int32))]) rfl ?_
    show Steps p.tables e below (s₁.setTop (mkF m 39 #[.val (.int (-p1)), .val (.int (0 : Int32)), .val (.int ((10 : Int32) * ((10 : Int32) * ((10 : Int32) * ((10 : Int32) * (-10 : Int32)))))), .val (.int (5 : Int32))] [])) _
    refine XS.goto X0.here hx rfl (pc0 := 39) (pc' := 16) rfl (hb hby d_jdk_33_method_13_code_39) (by decide) (by decide) ?_
    show Steps p.tables e below (s₁.setTop (mkF m 16 #[.val (.int (-p1)), .val (.int (0 : Int32)), .val (.int ((10 : Int32) * ((10 : Int32) * ((10 : Int32) * ((10 : Int32) * (-10 : Int32)))))), .val (.int (5 : Int32))] [])) _
    refine XS.iloadN X0.here hx rfl (hb hby d_jdk_33_method_13_code_16) rfl ?_
    show Steps p.tables e below (s₁.setTop (mkF m 17 #[.val (.int (-p1)), .val (.int (0 : Int32)), .val (.int ((10 : Int32) * ((10 : Int32) * ((10 : Int32) * ((10 : Int32) * (-10 : Int32)))))), .val (.int (5 : Int32))] [(.int (5 : Int32))])) _
    refine XT.bipushV X0.here hx rfl (10 : Int32) (hb hby d_jdk_33_method_13_code_17) (by decide) ?_
    show Steps p.tables e below (s₁.setTop (mkF m 19 #[.val (.int (-p1)), .val (.int (0 : Int32)), .val (.int ((10 : Int32) * ((10 : Int32) * ((10 : Int32) * ((10 : Int32) * (-10 : Int32)))))), .val (.int (5 : Int32))] [(.int (10 : Int32)), (.int (5 : Int32))])) _
    refine XS.icmpNo X0.here hx rfl (hb hby d_jdk_33_method_13_code_19) rfl (by decide) ?_
    show Steps p.tables e below (s₁.setTop (mkF m 22 #[.val (.int (-p1)), .val (.int (0 : Int32)), .val (.int ((10 : Int32) * ((10 : Int32) * ((10 : Int32) * ((10 : Int32) * (-10 : Int32)))))), .val (.int (5 : Int32))] [])) _
    refine XS.iloadN X0.here hx rfl (hb hby d_jdk_33_method_13_code_22) rfl ?_
    show Steps p.tables e below (s₁.setTop (mkF m 23 #[.val (.int (-p1)), .val (.int (0 : Int32)), .val (.int ((10 : Int32) * ((10 : Int32) * ((10 : Int32) * ((10 : Int32) * (-10 : Int32)))))), .val (.int (5 : Int32))] [(.int (-p1))])) _
    refine XS.iloadN X0.here hx rfl (hb hby d_jdk_33_method_13_code_23) rfl ?_
    show Steps p.tables e below (s₁.setTop (mkF m 24 #[.val (.int (-p1)), .val (.int (0 : Int32)), .val (.int ((10 : Int32) * ((10 : Int32) * ((10 : Int32) * ((10 : Int32) * (-10 : Int32)))))), .val (.int (5 : Int32))] [(.int ((10 : Int32) * ((10 : Int32) * ((10 : Int32) * ((10 : Int32) * (-10 : Int32)))))), (.int (-p1))])) _
    refine XS.icmpNo X0.here hx rfl (hb hby d_jdk_33_method_13_code_24) rfl (tlt (own_lt (a := ((10 : Int32) * ((10 : Int32) * ((10 : Int32) * ((10 : Int32) * (-10 : Int32)))))) (b := -p1) (by rw [hng, show (((10 : Int32) * ((10 : Int32) * ((10 : Int32) * ((10 : Int32) * (-10 : Int32))))) : Int32).toInt = -100000 from by decide]; omega))).2.2.2 ?_
    show Steps p.tables e below (s₁.setTop (mkF m 27 #[.val (.int (-p1)), .val (.int (0 : Int32)), .val (.int ((10 : Int32) * ((10 : Int32) * ((10 : Int32) * ((10 : Int32) * (-10 : Int32)))))), .val (.int (5 : Int32))] [])) _
    refine XS.iloadN X0.here hx rfl (hb hby d_jdk_33_method_13_code_27) rfl ?_
    show Steps p.tables e below (s₁.setTop (mkF m 28 #[.val (.int (-p1)), .val (.int (0 : Int32)), .val (.int ((10 : Int32) * ((10 : Int32) * ((10 : Int32) * ((10 : Int32) * (-10 : Int32)))))), .val (.int (5 : Int32))] [(.int (5 : Int32))])) _
    refine XS.iloadN X0.here hx rfl (hb hby d_jdk_33_method_13_code_28) rfl ?_
    show Steps p.tables e below (s₁.setTop (mkF m 29 #[.val (.int (-p1)), .val (.int (0 : Int32)), .val (.int ((10 : Int32) * ((10 : Int32) * ((10 : Int32) * ((10 : Int32) * (-10 : Int32)))))), .val (.int (5 : Int32))] [(.int (0 : Int32)), (.int (5 : Int32))])) _
    refine XS.iadd X0.here hx rfl (hb hby d_jdk_33_method_13_code_29) rfl ?_
    show Steps p.tables e below (s₁.setTop (mkF m 30 #[.val (.int (-p1)), .val (.int (0 : Int32)), .val (.int ((10 : Int32) * ((10 : Int32) * ((10 : Int32) * ((10 : Int32) * (-10 : Int32)))))), .val (.int (5 : Int32))] [(.int ((5 : Int32) + (0 : Int32)))])) _
    exact retI X0 hx Bd.returns (hb hby d_jdk_33_method_13_code_30) hr
  · exact ⟨by rw [hsz], N0, e0⟩
def Q_ss (Z : State) (p1 : Int32) (h0 : Heap) (n0 : Nat) (v : Option Value) (h : Heap) (L : List Loc) : Prop := v = some (.int (own_sz p1)) ∧ Fr n0 L ∧ h = h0
theorem ss (l : Launch) (Z : State) (a0 : Array Value) (hw : ∀ d ∈ tables_1, d.before a0 Z = true) (ws : List Jvm.Cond) (p1 : Int32) (h0 : Heap) (n0 : Nat) (Z0 : n0 ≤ h0.size) (hlo : 0 ≤ p1.toInt) (hhi : p1.toInt < 65536) :
    MetFree l (⟨"java/lang/Integer", "stringSize", "(I)I"⟩ : MethodName) (head1 (Jvm.Cond.code (⟨"java/lang/Integer", "stringSize", "(I)I"⟩ : MethodName) jdk_33_method_13_code 4 (Option.some Jvm.ClassFile.FieldType.int) :: ws) ({ frames := 0, cells := 0, slots := 0, locals := 0 } : Room)) (fun a U => a = #[(.int p1)] ∧ Z.Warmed39 U.vm ∧ U.heap = h0) (fun _ _ _ _ _ => True) (fun _ U o U' => ∃ v L, o = .returned v ∧ Q_ss Z p1 h0 n0 v U'.heap L ∧ FrameEnd U o U' L ({ frames := 0, cells := 0, slots := 0, locals := 0 } : Room).cells ({ frames := 0, cells := 0, slots := 0, locals := 0 } : Room).slots) := by
  rcases own_rng p1 hlo hhi with q | q | q | q | q
  · exact ss_1 l Z a0 hw ws p1 h0 n0 Z0 q.1 q.2
  · exact ss_2 l Z a0 hw ws p1 h0 n0 Z0 q.1 q.2
  · exact ss_3 l Z a0 hw ws p1 h0 n0 Z0 q.1 q.2
  · exact ss_4 l Z a0 hw ws p1 h0 n0 Z0 q.1 q.2
  · exact ss_5 l Z a0 hw ws p1 h0 n0 Z0 q.1 q.2
theorem d_jdk_68_method_9_code_0 : decode jdk_68_method_9_code 0 = .ok (.aload_n 0, 1) := by decide +kernel
theorem d_jdk_68_method_9_code_1 : decode jdk_68_method_9_code 1 = .ok (.getfield 15, 3) := by decide +kernel
theorem d_jdk_68_method_9_code_4 : decode jdk_68_method_9_code 4 = .ok (.arraylength, 1) := by decide +kernel
theorem d_jdk_68_method_9_code_5 : decode jdk_68_method_9_code 5 = .ok (.aload_n 0, 1) := by decide +kernel
theorem d_jdk_68_method_9_code_6 : decode jdk_68_method_9_code 6 = .ok (.getfield 22, 3) := by decide +kernel
theorem d_jdk_68_method_9_code_9 : decode jdk_68_method_9_code 9 = .ok (.ishr, 1) := by decide +kernel
theorem d_jdk_68_method_9_code_10 : decode jdk_68_method_9_code 10 = .ok (.istore_n 2, 1) := by decide +kernel
theorem d_jdk_68_method_9_code_11 : decode jdk_68_method_9_code 11 = .ok (.iload_n 1, 1) := by decide +kernel
theorem d_jdk_68_method_9_code_12 : decode jdk_68_method_9_code 12 = .ok (.iload_n 2, 1) := by decide +kernel
theorem d_jdk_68_method_9_code_13 : decode jdk_68_method_9_code 13 = .ok (.isub, 1) := by decide +kernel
theorem d_jdk_68_method_9_code_14 : decode jdk_68_method_9_code 14 = .ok (.ifCond .le 24, 3) := by decide +kernel
theorem d_jdk_68_method_9_code_38 : decode jdk_68_method_9_code 38 = .ok (.return_, 1) := by decide +kernel
theorem ef_65 (m : MethodId) (x0 : Addr) (x1 : Int32) : entryFrame m #[(.ref x0), (.int x1)] 3 = mkF m 0 #[.val (.ref x0), .val (.int x1), .unset] [] := by first | (simp [entryFrame, mkF, argsToLocals, Value.category]; done) | rfl
def Q_ensure (Z : State) (sb bf : Addr) (kb : ClassId) (vs : List Value) (p1 : Int32) (h0 : Heap) (n0 : Nat) (v : Option Value) (h : Heap) (L : List Loc) : Prop := v = none ∧ Fr n0 L ∧ h = h0
set_option maxRecDepth 65536 in
set_option maxHeartbeats 40000000 in
theorem ensure (l : Launch) (Z : State) (a0 : Array Value) (hw : ∀ d ∈ tables_1, d.before a0 Z = true) (ws : List Jvm.Cond) (sb bf : Addr) (kb : ClassId) (vs : List Value) (p1 : Int32) (h0 : Heap) (n0 : Nat) (Z0 : n0 ≤ h0.size) (Fv : Fld Z h0 sb "java/lang/AbstractStringBuilder" "value" "[B" (.ref bf)) (Fc : Fld Z h0 sb "java/lang/AbstractStringBuilder" "coder" "B" (.int (0 : Int32))) (Vb : Arv Z h0 bf kb .byte (16 : Int32) vs (.int 0)) (hm1 : 0 ≤ p1.toInt) (hm2 : p1.toInt ≤ 16) :
    MetFree l (⟨"java/lang/AbstractStringBuilder", "ensureCapacityInternal", "(I)V"⟩ : MethodName) (head1 (Jvm.Cond.code (⟨"java/lang/AbstractStringBuilder", "ensureCapacityInternal", "(I)V"⟩ : MethodName) jdk_68_method_9_code 3 (Option.none : Option Jvm.ClassFile.FieldType) :: ws) ({ frames := 0, cells := 0, slots := 0, locals := 0 } : Room)) (fun a U => a = #[(.ref sb), (.int p1)] ∧ Z.Warmed39 U.vm ∧ U.heap = h0) (fun _ _ _ _ _ => True) (fun _ U o U' => ∃ v L, o = .returned v ∧ Q_ensure Z sb bf kb vs p1 h0 n0 v U'.heap L ∧ FrameEnd U o U' L ({ frames := 0, cells := 0, slots := 0, locals := 0 } : Room).cells ({ frames := 0, cells := 0, slots := 0, locals := 0 } : Room).slots) := by
  refine MetFree.of_bodySF (plainFor_of_name pn_14) hisR ?_
  intro p e s m args below meth c s₁ Bd hml0 hP hK
  obtain ⟨rfl, hZ, hh⟩ := hP
  have hx := Bd.exec
  have hby := Bd.bytes
  have hml : c.maxLocals = 3 := hml0
  have hown : s.vm.findClass "java/lang/AbstractStringBuilder" = some m.cls := findClass_of_methodNamed Bd.named
  have hnm := (name_of_methodNamed Bd.named Bd.method).1
  have X0 : Stand p l e ({ frames := 0, cells := 0, slots := 0, locals := 0 } : Room) s m #[(.ref sb), (.int p1)] below meth c s₁ [] 0 0 := Stand.of_body Bd
  have e0 : s₁.heap = h0 := by rw [← hh, Bd.state]; rfl
  have N0 := Fr.nil n0
  have hlk : meth.locks = false := BodyLoose.notSynchronized Bd
  have pre0 : ∀ t, Steps p.tables e below (s₁.setTop (mkF m 0 #[.val (.ref sb), .val (.int p1), .unset] [])) t → Steps p.tables e below (s₁.setTop (entryFrame m #[(.ref sb), (.int p1)] 3)) t := fun t k => castTop (ef_65 m sb p1) k
  have hs : (p1 - (16 : Int32)).toInt = p1.toInt - 16 := own_sub16 p1 hm1 hm2
  obtain ⟨T1, X1, e1, st1⟩ := getF X0 hx hZ hown (host := "") (Or.inl (hw _ (List.mem_of_getElem? (i := 38) rfl))) Via.refl e0 Fv (g := (mkF m 1 #[.val (.ref sb), .val (.int p1), .unset] [(.ref sb)])) rfl rfl (hb hby d_jdk_68_method_9_code_1)
  obtain ⟨cl_1, Arcl_1, Qccl_1, Szcl_1, Ngcl_1, Hscl_1, Ftcl_1⟩ := id Vb
  have Lncl_1 : cl_1.slots.size.toInt32 = (16 : Int32) := len_of Szcl_1 Ngcl_1
  obtain ⟨T2, X2, e2, st2⟩ := getF X1 hx hZ hown (host := "") (Or.inl (hw _ (List.mem_of_getElem? (i := 40) rfl))) Via.refl e1 Fc (g := (mkF m 6 #[.val (.ref sb), .val (.int p1), .unset] [(.ref sb), (.int (16 : Int32))])) rfl rfl (hb hby d_jdk_68_method_9_code_6)
  obtain ⟨fs, hr, hrun, hended, hW, hsame⟩ := X2.leave (v := none) (fun _ => rfl) (hlocks := hlk)
  refine ⟨_, _, pre0 _ ?_, hrun, hended, _, _, rfl, ?_, ⟨_, rfl⟩, hW, hsame.mono (by decide) (by decide)⟩
  · show Steps p.tables e below (s₁.setTop (mkF m 0 #[.val (.ref sb), .val (.int p1), .unset] [])) _
    refine XS.aloadN X0.here hx rfl (hb hby d_jdk_68_method_9_code_0) rfl rfl ?_
    show Steps p.tables e below (s₁.setTop (mkF m 1 #[.val (.ref sb), .val (.int p1), .unset] [(.ref sb)])) _
    refine st1 _ ?_
    show Steps p.tables e below (T1.setTop (mkF m 4 #[.val (.ref sb), .val (.int p1), .unset] [(.ref bf)])) _
    refine X1.arraylength hx (by first | exact Arcl_1.1 | (rw [e1]; exact Arcl_1.1)) (State.isArrayOf_alike hZ.alike Arcl_1.2.1) (g := (mkF m 4 #[.val (.ref sb), .val (.int p1), .unset] [(.ref bf)])) rfl rfl (hb hby d_jdk_68_method_9_code_4) _ ?_
    show Steps p.tables e below (T1.setTop (mkF m 5 #[.val (.ref sb), .val (.int p1), .unset] [(.int cl_1.slots.size.toInt32)])) _
    rw [Lncl_1]
    show Steps p.tables e below (T1.setTop (mkF m 5 #[.val (.ref sb), .val (.int p1), .unset] [(.int (16 : Int32))])) _
    refine XS.aloadN X1.here hx rfl (hb hby d_jdk_68_method_9_code_5) rfl rfl ?_
    show Steps p.tables e below (T1.setTop (mkF m 6 #[.val (.ref sb), .val (.int p1), .unset] [(.ref sb), (.int (16 : Int32))])) _
    refine st2 _ ?_
    show Steps p.tables e below (T2.setTop (mkF m 9 #[.val (.ref sb), .val (.int p1), .unset] [(.int (0 : Int32)), (.int (16 : Int32))])) _
    refine XT.ishr X2.here hx rfl (hb hby d_jdk_68_method_9_code_9) rfl ?_
    show Steps p.tables e below (T2.setTop (mkF m 10 #[.val (.ref sb), .val (.int p1), .unset] [(.int ((16 : Int32) >>> ((0 : Int32) &&& 31)))])) _
    rw [show ((16 : Int32) >>> ((0 : Int32) &&& 31)) = (16 : Int32) from by decide]
    show Steps p.tables e below (T2.setTop (mkF m 10 #[.val (.ref sb), .val (.int p1), .unset] [(.int (16 : Int32))])) _
    refine XS.istoreN X2.here hx rfl (hb hby d_jdk_68_method_9_code_10) rfl (l' := #[.val (.ref sb), .val (.int p1), .val (.int (16 : Int32))]) rfl ?_
    show Steps p.tables e below (T2.setTop (mkF m 11 #[.val (.ref sb), .val (.int p1), .val (.int (16 : Int32))] [])) _
    refine XS.iloadN X2.here hx rfl (hb hby d_jdk_68_method_9_code_11) rfl ?_
    show Steps p.tables e below (T2.setTop (mkF m 12 #[.val (.ref sb), .val (.int p1), .val (.int (16 : Int32))] [(.int p1)])) _
    refine XS.iloadN X2.here hx rfl (hb hby d_jdk_68_method_9_code_12) rfl ?_
    show Steps p.tables e below (T2.setTop (mkF m 13 #[.val (.ref sb), .val (.int p1), .val (.int (16 : Int32))] [(.int (16 : Int32)), (.int p1)])) _
    refine XS.isub X2.here hx rfl (hb hby d_jdk_68_method_9_code_13) rfl ?_
    show Steps p.tables e below (T2.setTop (mkF m 14 #[.val (.ref sb), .val (.int p1), .val (.int (16 : Int32))] [(.int (p1 - (16 : Int32)))])) _
    refine XS.ifYes X2.here hx rfl (pc0 := 14) (pc' := 38) rfl (hb hby d_jdk_68_method_9_code_14) rfl ((if0 _ _).trans (flt (own_le (a := 0) (b := p1 - 16) (by rw [hs, own_p0]; omega))).2.2.2) (by decide) (by decide) ?_
    show Steps p.tables e below (T2.setTop (mkF m 38 #[.val (.ref sb), .val (.int p1), .val (.int (16 : Int32))] [])) _
    exact X2.returnOut hx Bd.returns (hb hby d_jdk_68_method_9_code_38) hr
  · exact ⟨rfl, N0, e2⟩
theorem d_jdk_68_method_68_code_0 : decode jdk_68_method_68_code 0 = .ok (.getstatic 18, 3) := by decide +kernel
theorem d_jdk_68_method_68_code_3 : decode jdk_68_method_68_code 3 = .ok (.ifCond .eq 14, 3) := by decide +kernel
theorem d_jdk_68_method_68_code_6 : decode jdk_68_method_68_code 6 = .ok (.aload_n 0, 1) := by decide +kernel
theorem d_jdk_68_method_68_code_7 : decode jdk_68_method_68_code 7 = .ok (.getfield 22, 3) := by decide +kernel
theorem d_jdk_68_method_68_code_10 : decode jdk_68_method_68_code 10 = .ok (.ifCond .ne 7, 3) := by decide +kernel
theorem d_jdk_68_method_68_code_13 : decode jdk_68_method_68_code 13 = .ok (.iconst 1, 1) := by decide +kernel
theorem d_jdk_68_method_68_code_14 : decode jdk_68_method_68_code 14 = .ok (.goto 4, 3) := by decide +kernel
theorem d_jdk_68_method_68_code_18 : decode jdk_68_method_68_code 18 = .ok (.ireturn, 1) := by decide +kernel
def Q_asb_lat (Z : State) (sb : Addr) (zc : Int32) (h0 : Heap) (n0 : Nat) (v : Option Value) (h : Heap) (L : List Loc) : Prop := v = some (.int (1 : Int32)) ∧ Fr n0 L ∧ h = h0
set_option maxRecDepth 65536 in
set_option maxHeartbeats 40000000 in
theorem asb_lat (l : Launch) (Z : State) (a0 : Array Value) (hw : ∀ d ∈ tables_1, d.before a0 Z = true) (ws : List Jvm.Cond) (sb : Addr) (zc : Int32) (h0 : Heap) (n0 : Nat) (Z0 : n0 ≤ h0.size) (X00 : Old Z n0 h0)(SC : Sta Z Z.heap "java/lang/String" "COMPACT_STRINGS" "Z" (.int zc)) (hzc : ¬ zc = 0)(Fc : Fld Z h0 sb "java/lang/AbstractStringBuilder" "coder" "B" (.int (0 : Int32))) :
    MetFree l (⟨"java/lang/AbstractStringBuilder", "isLatin1", "()Z"⟩ : MethodName) (head1 (Jvm.Cond.code (⟨"java/lang/AbstractStringBuilder", "isLatin1", "()Z"⟩ : MethodName) jdk_68_method_68_code 1 (Option.some Jvm.ClassFile.FieldType.boolean) :: ws) ({ frames := 0, cells := 0, slots := 0, locals := 0 } : Room)) (fun a U => a = #[(.ref sb)] ∧ Z.Warmed39 U.vm ∧ U.heap = h0) (fun _ _ _ _ _ => True) (fun _ U o U' => ∃ v L, o = .returned v ∧ Q_asb_lat Z sb zc h0 n0 v U'.heap L ∧ FrameEnd U o U' L ({ frames := 0, cells := 0, slots := 0, locals := 0 } : Room).cells ({ frames := 0, cells := 0, slots := 0, locals := 0 } : Room).slots) := by
  refine MetFree.of_bodySF (plainFor_of_name pn_14) hisR ?_
  intro p e s m args below meth c s₁ Bd hml0 hP hK
  obtain ⟨rfl, hZ, hh⟩ := hP
  have hx := Bd.exec
  have hby := Bd.bytes
  have hml : c.maxLocals = 1 := hml0
  have hown : s.vm.findClass "java/lang/AbstractStringBuilder" = some m.cls := findClass_of_methodNamed Bd.named
  have hnm := (name_of_methodNamed Bd.named Bd.method).1
  have X0 : Stand p l e ({ frames := 0, cells := 0, slots := 0, locals := 0 } : Room) s m #[(.ref sb)] below meth c s₁ [] 0 0 := Stand.of_body Bd
  have e0 : s₁.heap = h0 := by rw [← hh, Bd.state]; rfl
  have N0 := Fr.nil n0
  have hlk : meth.locks = false := BodyLoose.notSynchronized Bd
  have pre0 : ∀ t, Steps p.tables e below (s₁.setTop (mkF m 0 #[.val (.ref sb)] [])) t → Steps p.tables e below (s₁.setTop (entryFrame m #[(.ref sb)] 1)) t := fun t k => castTop (ef_20 m sb) k
  obtain ⟨T1, X1, e1, st1⟩ := getS X0 hx hZ (host := "") hown (hw _ (List.mem_of_getElem? (i := 35) rfl)) Via.refl e0 (SC.ext X00.2) (g := (mkF m 0 #[.val (.ref sb)] [])) rfl (hb hby d_jdk_68_method_68_code_0)
  obtain ⟨T2, X2, e2, st2⟩ := getF X1 hx hZ hown (host := "") (Or.inl (hw _ (List.mem_of_getElem? (i := 40) rfl))) Via.refl e1 Fc (g := (mkF m 7 #[.val (.ref sb)] [(.ref sb)])) rfl rfl (hb hby d_jdk_68_method_68_code_7)
  obtain ⟨fs, hr, hrun, hended, hW, hsame⟩ := X2.leave (v := (some (.int (1 : Int32)))) (fun h => by rw [Bd.returns] at h; cases h) (hlocks := hlk)
  refine ⟨_, _, pre0 _ ?_, hrun, hended, _, _, rfl, ?_, ⟨_, rfl⟩, hW, hsame.mono (by decide) (by decide)⟩
  · show Steps p.tables e below (s₁.setTop (mkF m 0 #[.val (.ref sb)] [])) _
    refine st1 _ ?_
    show Steps p.tables e below (T1.setTop (mkF m 3 #[.val (.ref sb)] [(.int zc)])) _
    refine XS.ifNo X1.here hx rfl (hb hby d_jdk_68_method_68_code_3) rfl ((if0 _ _).trans (feq hzc).1) ?_
    show Steps p.tables e below (T1.setTop (mkF m 6 #[.val (.ref sb)] [])) _
    refine XS.aloadN X1.here hx rfl (hb hby d_jdk_68_method_68_code_6) rfl rfl ?_
    show Steps p.tables e below (T1.setTop (mkF m 7 #[.val (.ref sb)] [(.ref sb)])) _
    refine st2 _ ?_
    show Steps p.tables e below (T2.setTop (mkF m 10 #[.val (.ref sb)] [(.int (0 : Int32))])) _
    refine XS.ifNo X2.here hx rfl (hb hby d_jdk_68_method_68_code_10) rfl (by decide) ?_
    show Steps p.tables e below (T2.setTop (mkF m 13 #[.val (.ref sb)] [])) _
    refine XT.iconstV X2.here hx rfl (1 : Int32) (hb hby d_jdk_68_method_68_code_13) (by decide) ?_
    show Steps p.tables e below (T2.setTop (mkF m 14 #[.val (.ref sb)] [(.int (1 : Int32))])) _
    refine XS.goto X2.here hx rfl (pc0 := 14) (pc' := 18) rfl (hb hby d_jdk_68_method_68_code_14) (by decide) (by decide) ?_
    show Steps p.tables e below (T2.setTop (mkF m 18 #[.val (.ref sb)] [(.int (1 : Int32))])) _
    exact retN X2 hx (t := .boolean) Bd.returns (by simp) (hb hby d_jdk_68_method_68_code_18) hr
  · exact ⟨rfl, N0, e2⟩
theorem d_jdk_42_method_154_code_0 : decode jdk_42_method_154_code 0 = .ok (.getstatic 38, 3) := by decide +kernel
theorem d_jdk_42_method_154_code_3 : decode jdk_42_method_154_code 3 = .ok (.ifCond .eq 14, 3) := by decide +kernel
theorem d_jdk_42_method_154_code_6 : decode jdk_42_method_154_code 6 = .ok (.aload_n 0, 1) := by decide +kernel
theorem d_jdk_42_method_154_code_7 : decode jdk_42_method_154_code 7 = .ok (.getfield 15, 3) := by decide +kernel
theorem d_jdk_42_method_154_code_10 : decode jdk_42_method_154_code 10 = .ok (.ifCond .ne 7, 3) := by decide +kernel
theorem d_jdk_42_method_154_code_13 : decode jdk_42_method_154_code 13 = .ok (.iconst 1, 1) := by decide +kernel
theorem d_jdk_42_method_154_code_14 : decode jdk_42_method_154_code 14 = .ok (.goto 4, 3) := by decide +kernel
theorem d_jdk_42_method_154_code_18 : decode jdk_42_method_154_code 18 = .ok (.ireturn, 1) := by decide +kernel
theorem pn_82 : plainName "java/lang/String" = true := by first | (simp [plainName, overriddenIn]; done) | decide +kernel
def Q_st_lat (Z : State) (sb : Addr) (zc : Int32) (h0 : Heap) (n0 : Nat) (v : Option Value) (h : Heap) (L : List Loc) : Prop := v = some (.int (1 : Int32)) ∧ Fr n0 L ∧ h = h0
set_option maxRecDepth 65536 in
set_option maxHeartbeats 40000000 in
theorem st_lat (l : Launch) (Z : State) (a0 : Array Value) (hw : ∀ d ∈ tables_1, d.before a0 Z = true) (ws : List Jvm.Cond) (sb : Addr) (zc : Int32) (h0 : Heap) (n0 : Nat) (Z0 : n0 ≤ h0.size) (X00 : Old Z n0 h0)(SC : Sta Z Z.heap "java/lang/String" "COMPACT_STRINGS" "Z" (.int zc)) (hzc : ¬ zc = 0)(Fc : Fld Z h0 sb "java/lang/String" "coder" "B" (.int (0 : Int32))) :
    MetFree l (⟨"java/lang/String", "isLatin1", "()Z"⟩ : MethodName) (head1 (Jvm.Cond.code (⟨"java/lang/String", "isLatin1", "()Z"⟩ : MethodName) jdk_42_method_154_code 1 (Option.some Jvm.ClassFile.FieldType.boolean) :: ws) ({ frames := 0, cells := 0, slots := 0, locals := 0 } : Room)) (fun a U => a = #[(.ref sb)] ∧ Z.Warmed39 U.vm ∧ U.heap = h0) (fun _ _ _ _ _ => True) (fun _ U o U' => ∃ v L, o = .returned v ∧ Q_st_lat Z sb zc h0 n0 v U'.heap L ∧ FrameEnd U o U' L ({ frames := 0, cells := 0, slots := 0, locals := 0 } : Room).cells ({ frames := 0, cells := 0, slots := 0, locals := 0 } : Room).slots) := by
  refine MetFree.of_bodySF (plainFor_of_name pn_82) hisR ?_
  intro p e s m args below meth c s₁ Bd hml0 hP hK
  obtain ⟨rfl, hZ, hh⟩ := hP
  have hx := Bd.exec
  have hby := Bd.bytes
  have hml : c.maxLocals = 1 := hml0
  have hown : s.vm.findClass "java/lang/String" = some m.cls := findClass_of_methodNamed Bd.named
  have hnm := (name_of_methodNamed Bd.named Bd.method).1
  have X0 : Stand p l e ({ frames := 0, cells := 0, slots := 0, locals := 0 } : Room) s m #[(.ref sb)] below meth c s₁ [] 0 0 := Stand.of_body Bd
  have e0 : s₁.heap = h0 := by rw [← hh, Bd.state]; rfl
  have N0 := Fr.nil n0
  have hlk : meth.locks = false := BodyLoose.notSynchronized Bd
  have pre0 : ∀ t, Steps p.tables e below (s₁.setTop (mkF m 0 #[.val (.ref sb)] [])) t → Steps p.tables e below (s₁.setTop (entryFrame m #[(.ref sb)] 1)) t := fun t k => castTop (ef_20 m sb) k
  obtain ⟨T1, X1, e1, st1⟩ := getS X0 hx hZ (host := "") hown (hw _ (List.mem_of_getElem? (i := 98) rfl)) Via.refl e0 (SC.ext X00.2) (g := (mkF m 0 #[.val (.ref sb)] [])) rfl (hb hby d_jdk_42_method_154_code_0)
  obtain ⟨T2, X2, e2, st2⟩ := getF X1 hx hZ hown (host := "") (Or.inl (hw _ (List.mem_of_getElem? (i := 99) rfl))) Via.refl e1 Fc (g := (mkF m 7 #[.val (.ref sb)] [(.ref sb)])) rfl rfl (hb hby d_jdk_42_method_154_code_7)
  obtain ⟨fs, hr, hrun, hended, hW, hsame⟩ := X2.leave (v := (some (.int (1 : Int32)))) (fun h => by rw [Bd.returns] at h; cases h) (hlocks := hlk)
  refine ⟨_, _, pre0 _ ?_, hrun, hended, _, _, rfl, ?_, ⟨_, rfl⟩, hW, hsame.mono (by decide) (by decide)⟩
  · show Steps p.tables e below (s₁.setTop (mkF m 0 #[.val (.ref sb)] [])) _
    refine st1 _ ?_
    show Steps p.tables e below (T1.setTop (mkF m 3 #[.val (.ref sb)] [(.int zc)])) _
    refine XS.ifNo X1.here hx rfl (hb hby d_jdk_42_method_154_code_3) rfl ((if0 _ _).trans (feq hzc).1) ?_
    show Steps p.tables e below (T1.setTop (mkF m 6 #[.val (.ref sb)] [])) _
    refine XS.aloadN X1.here hx rfl (hb hby d_jdk_42_method_154_code_6) rfl rfl ?_
    show Steps p.tables e below (T1.setTop (mkF m 7 #[.val (.ref sb)] [(.ref sb)])) _
    refine st2 _ ?_
    show Steps p.tables e below (T2.setTop (mkF m 10 #[.val (.ref sb)] [(.int (0 : Int32))])) _
    refine XS.ifNo X2.here hx rfl (hb hby d_jdk_42_method_154_code_10) rfl (by decide) ?_
    show Steps p.tables e below (T2.setTop (mkF m 13 #[.val (.ref sb)] [])) _
    refine XT.iconstV X2.here hx rfl (1 : Int32) (hb hby d_jdk_42_method_154_code_13) (by decide) ?_
    show Steps p.tables e below (T2.setTop (mkF m 14 #[.val (.ref sb)] [(.int (1 : Int32))])) _
    refine XS.goto X2.here hx rfl (pc0 := 14) (pc' := 18) rfl (hb hby d_jdk_42_method_154_code_14) (by decide) (by decide) ?_
    show Steps p.tables e below (T2.setTop (mkF m 18 #[.val (.ref sb)] [(.int (1 : Int32))])) _
    exact retN X2 hx (t := .boolean) Bd.returns (by simp) (hb hby d_jdk_42_method_154_code_18) hr
  · exact ⟨rfl, N0, e2⟩
theorem d_jdk_33_method_12_code_0 : decode jdk_33_method_12_code 0 = .ok (.iload_n 1, 1) := by decide +kernel
theorem d_jdk_33_method_12_code_1 : decode jdk_33_method_12_code 1 = .ok (.istore 5, 2) := by decide +kernel
theorem d_jdk_33_method_12_code_3 : decode jdk_33_method_12_code 3 = .ok (.iload_n 0, 1) := by decide +kernel
theorem d_jdk_33_method_12_code_4 : decode jdk_33_method_12_code 4 = .ok (.ifCond .ge 7, 3) := by decide +kernel
theorem d_jdk_33_method_12_code_11 : decode jdk_33_method_12_code 11 = .ok (.iconst 0, 1) := by decide +kernel
theorem d_jdk_33_method_12_code_12 : decode jdk_33_method_12_code 12 = .ok (.istore 6, 2) := by decide +kernel
theorem d_jdk_33_method_12_code_14 : decode jdk_33_method_12_code 14 = .ok (.iload 6, 2) := by decide +kernel
theorem d_jdk_33_method_12_code_16 : decode jdk_33_method_12_code 16 = .ok (.ifCond .ne 6, 3) := by decide +kernel
theorem d_jdk_33_method_12_code_19 : decode jdk_33_method_12_code 19 = .ok (.iload_n 0, 1) := by decide +kernel
theorem d_jdk_33_method_12_code_20 : decode jdk_33_method_12_code 20 = .ok (.ineg, 1) := by decide +kernel
theorem d_jdk_33_method_12_code_21 : decode jdk_33_method_12_code 21 = .ok (.istore_n 0, 1) := by decide +kernel
theorem d_jdk_33_method_12_code_22 : decode jdk_33_method_12_code 22 = .ok (.iload_n 0, 1) := by decide +kernel
theorem d_jdk_33_method_12_code_23 : decode jdk_33_method_12_code 23 = .ok (.bipush (-100), 2) := by decide +kernel
theorem d_jdk_33_method_12_code_25 : decode jdk_33_method_12_code 25 = .ok (.if_icmp .gt 47, 3) := by decide +kernel
theorem d_jdk_33_method_12_code_72 : decode jdk_33_method_12_code 72 = .ok (.aload_n 2, 1) := by decide +kernel
theorem d_jdk_33_method_12_code_73 : decode jdk_33_method_12_code 73 = .ok (.iinc 5 (-1), 3) := by decide +kernel
theorem d_jdk_33_method_12_code_76 : decode jdk_33_method_12_code 76 = .ok (.iload 5, 2) := by decide +kernel
theorem d_jdk_33_method_12_code_78 : decode jdk_33_method_12_code 78 = .ok (.getstatic 83, 3) := by decide +kernel
theorem d_jdk_33_method_12_code_81 : decode jdk_33_method_12_code 81 = .ok (.iload_n 0, 1) := by decide +kernel
theorem d_jdk_33_method_12_code_82 : decode jdk_33_method_12_code 82 = .ok (.ineg, 1) := by decide +kernel
theorem d_jdk_33_method_12_code_83 : decode jdk_33_method_12_code 83 = .ok (.baload, 1) := by decide +kernel
theorem d_jdk_33_method_12_code_84 : decode jdk_33_method_12_code 84 = .ok (.bastore, 1) := by decide +kernel
theorem d_jdk_33_method_12_code_85 : decode jdk_33_method_12_code 85 = .ok (.iload_n 0, 1) := by decide +kernel
theorem d_jdk_33_method_12_code_86 : decode jdk_33_method_12_code 86 = .ok (.bipush (-9), 2) := by decide +kernel
theorem d_jdk_33_method_12_code_88 : decode jdk_33_method_12_code 88 = .ok (.if_icmp .ge 16, 3) := by decide +kernel
theorem d_jdk_33_method_12_code_104 : decode jdk_33_method_12_code 104 = .ok (.iload 6, 2) := by decide +kernel
theorem d_jdk_33_method_12_code_106 : decode jdk_33_method_12_code 106 = .ok (.ifCond .eq 12, 3) := by decide +kernel
theorem d_jdk_33_method_12_code_118 : decode jdk_33_method_12_code 118 = .ok (.iload 5, 2) := by decide +kernel
theorem d_jdk_33_method_12_code_120 : decode jdk_33_method_12_code 120 = .ok (.ireturn, 1) := by decide +kernel
theorem ef_112 (m : MethodId) (x0 : Int32) (x1 : Int32) (x2 : Addr) : entryFrame m #[(.int x0), (.int x1), (.ref x2)] 7 = mkF m 0 #[.val (.int x0), .val (.int x1), .val (.ref x2), .unset, .unset, .unset, .unset] [] := by first | (simp [entryFrame, mkF, argsToLocals, Value.category]; done) | rfl
def Q_gc_1 (Z : State) (p1 ix : Int32) (bf : Addr) (kb : ClassId) (vs : List Value) (dO dT : Addr) (cO cT : Cell) (h0 : Heap) (n0 : Nat) (v : Option Value) (h : Heap) (L : List Loc) : Prop := v = some (.int (ix - own_sz p1)) ∧ Fr n0 L ∧ Keep h0 h [bf] ∧ Arv Z h bf kb .byte (16 : Int32) (own_gc vs ix.toNatClampNeg p1) (.int 0)
set_option maxRecDepth 65536 in
set_option maxHeartbeats 40000000 in
theorem gc_1 (l : Launch) (Z : State) (a0 : Array Value) (hw : ∀ d ∈ tables_1, d.before a0 Z = true) (ws : List Jvm.Cond) (p1 ix : Int32) (bf : Addr) (kb : ClassId) (vs : List Value) (dO dT : Addr) (cO cT : Cell) (h0 : Heap) (n0 : Nat) (Z0 : n0 ≤ h0.size) (X00 : Old Z n0 h0)(TO : own_O Z dO cO) (TT : own_T Z dT cT)(Vb : Arv Z h0 bf kb .byte (16 : Int32) vs (.int 0)) (gb : n0 ≤ bf) (hvl : vs.length = 16) (hix1 : (own_sz p1).toInt ≤ ix.toInt) (hix2 : ix.toInt ≤ 16)(hlo : 0 ≤ p1.toInt) (hhi : p1.toInt < 10) :
    MetFree l (⟨"java/lang/Integer", "getChars", "(II[B)I"⟩ : MethodName) (head1 (Jvm.Cond.code (⟨"java/lang/Integer", "getChars", "(II[B)I"⟩ : MethodName) jdk_33_method_12_code 7 (Option.some Jvm.ClassFile.FieldType.int) :: ws) ({ frames := 0, cells := 0, slots := 0, locals := 0 } : Room)) (fun a U => a = #[(.int p1), (.int ix), (.ref bf)] ∧ Z.Warmed39 U.vm ∧ U.heap = h0) (fun _ _ _ _ _ => True) (fun _ U o U' => ∃ v L, o = .returned v ∧ Q_gc_1 Z p1 ix bf kb vs dO dT cO cT h0 n0 v U'.heap L ∧ FrameEnd U o U' L ({ frames := 0, cells := 0, slots := 0, locals := 0 } : Room).cells ({ frames := 0, cells := 0, slots := 0, locals := 0 } : Room).slots) := by
  refine MetFree.of_bodySF (plainFor_of_name pn_46) hisR ?_
  intro p e s m args below meth c s₁ Bd hml0 hP hK
  obtain ⟨rfl, hZ, hh⟩ := hP
  have hx := Bd.exec
  have hby := Bd.bytes
  have hml : c.maxLocals = 7 := hml0
  have hown : s.vm.findClass "java/lang/Integer" = some m.cls := findClass_of_methodNamed Bd.named
  have hnm := (name_of_methodNamed Bd.named Bd.method).1
  have X0 : Stand p l e ({ frames := 0, cells := 0, slots := 0, locals := 0 } : Room) s m #[(.int p1), (.int ix), (.ref bf)] below meth c s₁ [] 0 0 := Stand.of_body Bd
  have e0 : s₁.heap = h0 := by rw [← hh, Bd.state]; rfl
  have N0 := Fr.nil n0
  have hlk : meth.locks = false := BodyLoose.notSynchronized Bd
  have pre0 : ∀ t, Steps p.tables e below (s₁.setTop (mkF m 0 #[.val (.int p1), .val (.int ix), .val (.ref bf), .unset, .unset, .unset, .unset] [])) t → Steps p.tables e below (s₁.setTop (entryFrame m #[(.int p1), (.int ix), (.ref bf)] 7)) t := fun t k => castTop (ef_112 m p1 ix bf) k
  have hsz : own_sz p1 = (1 : Int32) := own_szE1 ⟨hlo, hhi⟩
  have hix : 1 ≤ ix.toInt := by rw [hsz] at hix1; exact hix1
  clear hix1
  have hp0 : ¬ p1 < 0 := own_le (a := p1) (b := 0) (by rw [own_p0]; omega)
  obtain ⟨m0, hm0⟩ : ∃ z, z = -p1 := ⟨_, rfl⟩
  have ci1 : m0.toInt = -p1.toInt := by rw [hm0]; exact own_neg p1 (by omega)
  obtain ⟨l0, hl0⟩ : ∃ z, z = -m0 := ⟨_, rfl⟩
  have li : l0.toInt = p1.toInt := by rw [hl0, own_neg' m0 (by rw [ci1]; omega), ci1]; omega
  have hd1 : nar .byte ((48 : Int32) + l0 % 10) = 48 + p1 % 10 := own_nar (by rw [own_oneI l0 (by rw [li]; omega) (by rw [li]; omega), li, own_dg0 p1 (by omega)]; try omega) (by rw [own_dg0 p1 (by omega)]; omega) (by rw [own_dg0 p1 (by omega)]; omega)
  obtain ⟨i1, hi1⟩ : ∃ z, z = ix + (-1 : Int32) := ⟨_, rfl⟩
  have j1 : i1.toInt = ix.toInt - 1 := by rw [hi1]; exact own_dec' rfl (by omega)
  have b1 : ¬ i1 < 0 ∧ i1 < 16 := own_b j1 (by omega) (by omega)
  have n1 : i1.toNatClampNeg = ix.toNatClampNeg - 1 := own_tn (t := 1) j1 (by omega)
  have hret : i1 = ix - own_sz p1 := by rw [hsz]; exact Int32.toInt_inj.mp (by rw [j1]; exact (own_sbd ix 1 1 rfl (by omega) (by omega)).symm)
  have K0 : Keep h0 h0 [bf] := Keep.refl h0 _
  obtain ⟨T1, X1, e1, st1⟩ := getS X0 hx hZ (host := "") hown (hw _ (List.mem_of_getElem? (i := 71) rfl)) Via.refl e0 (TO.1.ext X00.2) (g := (mkF m 78 #[.val (.int m0), .val (.int ix), .val (.ref bf), .unset, .unset, .val (.int i1), .val (.int (0 : Int32))] [(.int i1), (.ref bf)])) rfl (hb hby d_jdk_33_method_12_code_78)
  obtain ⟨tb_1i, tb_1v⟩ := TO.2.2 l0 (by rw [li]; omega) (by rw [li]; omega)
  obtain ⟨cl2, Ar2, Qc2, Sz2, Ng2, Hs2, Ft2⟩ := id Vb
  obtain ⟨T2, h2, X2, e2, W2, st2⟩ := stB X1 hx hZ e1 Ar2 (j := i1) (inb_of Sz2 b1) (g := (mkF m 84 #[.val (.int m0), .val (.int ix), .val (.ref bf), .unset, .unset, .val (.int i1), .val (.int (0 : Int32))] [(.int ((48 : Int32) + l0 % 10)), (.int i1), (.ref bf)])) rfl rfl (hb hby d_jdk_33_method_12_code_84)
  have N2 := Fr.snoc X2 N0 gb
  have U2 := Arv.set Ar2 Qc2 Sz2 Ng2 Hs2 Ft2 (fits_nar_byte _) W2 (ix.toNatClampNeg - 1) n1 (by simp only [List.length_set, hvl]; exact own_i hix2 1 (by decide))
  have V2 : Arv Z h2 bf kb .byte (16 : Int32) (vs.set (ix.toNatClampNeg - 1) (.int (48 + p1 % 10))) (.int 0) := by rw [← hd1]; exact U2
  have K_2 : Keep h0 h2 [bf] := K0.wr W2 (Or.inl (by simp))
  have Z_2 : n0 ≤ h2.size := by rw [W2.size]; exact Z0
  obtain ⟨fs, hr, hrun, hended, hW, hsame⟩ := X2.leave (v := (some (.int i1))) (fun h => by rw [Bd.returns] at h; cases h) (hlocks := hlk)
  refine ⟨_, _, pre0 _ ?_, hrun, hended, _, _, rfl, ?_, ⟨_, rfl⟩, hW, hsame.mono (by decide) (by decide)⟩
  · show Steps p.tables e below (s₁.setTop (mkF m 0 #[.val (.int p1), .val (.int ix), .val (.ref bf), .unset, .unset, .unset, .unset] [])) _
    refine XS.iloadN X0.here hx rfl (hb hby d_jdk_33_method_12_code_0) rfl ?_
    show Steps p.tables e below (s₁.setTop (mkF m 1 #[.val (.int p1), .val (.int ix), .val (.ref bf), .unset, .unset, .unset, .unset] [(.int ix)])) _
    refine XS.istore X0.here hx rfl (hb hby d_jdk_33_method_12_code_1) rfl (l' := #[.val (.int p1), .val (.int ix), .val (.ref bf), .unset, .unset, .val (.int ix), .unset]) rfl ?_
    show Steps p.tables e below (s₁.setTop (mkF m 3 #[.val (.int p1), .val (.int ix), .val (.ref bf), .unset, .unset, .val (.int ix), .unset] [])) _
    refine XS.iloadN X0.here hx rfl (hb hby d_jdk_33_method_12_code_3) rfl ?_
    show Steps p.tables e below (s₁.setTop (mkF m 4 #[.val (.int p1), .val (.int ix), .val (.ref bf), .unset, .unset, .val (.int ix), .unset] [(.int p1)])) _
    refine XS.ifYes X0.here hx rfl (pc0 := 4) (pc' := 11) rfl (hb hby d_jdk_33_method_12_code_4) rfl ((if0 _ _).trans (flt hp0).2.1) (by decide) (by decide) ?_
    show Steps p.tables e below (s₁.setTop (mkF m 11 #[.val (.int p1), .val (.int ix), .val (.ref bf), .unset, .unset, .val (.int ix), .unset] [])) _
    refine XT.iconstV X0.here hx rfl (0 : Int32) (hb hby d_jdk_33_method_12_code_11) (by decide) ?_
    show Steps p.tables e below (s₁.setTop (mkF m 12 #[.val (.int p1), .val (.int ix), .val (.ref bf), .unset, .unset, .val (.int ix), .unset] [(.int (0 : Int32))])) _
    refine XS.istore X0.here hx rfl (hb hby d_jdk_33_method_12_code_12) rfl (l' := #[.val (.int p1), .val (.int ix), .val (.ref bf), .unset, .unset, .val (.int ix), .val (.int (0 : Int32))]) rfl ?_
    show Steps p.tables e below (s₁.setTop (mkF m 14 #[.val (.int p1), .val (.int ix), .val (.ref bf), .unset, .unset, .val (.int ix), .val (.int (0 : Int32))] [])) _
    refine XS.iload X0.here hx rfl (hb hby d_jdk_33_method_12_code_14) rfl ?_
    show Steps p.tables e below (s₁.setTop (mkF m 16 #[.val (.int p1), .val (.int ix), .val (.ref bf), .unset, .unset, .val (.int ix), .val (.int (0 : Int32))] [(.int (0 : Int32))])) _
    refine XS.ifNo X0.here hx rfl (hb hby d_jdk_33_method_12_code_16) rfl (by decide) ?_
    show Steps p.tables e below (s₁.setTop (mkF m 19 #[.val (.int p1), .val (.int ix), .val (.ref bf), .unset, .unset, .val (.int ix), .val (.int (0 : Int32))] [])) _
    refine XS.iloadN X0.here hx rfl (hb hby d_jdk_33_method_12_code_19) rfl ?_
    show Steps p.tables e below (s₁.setTop (mkF m 20 #[.val (.int p1), .val (.int ix), .val (.ref bf), .unset, .unset, .val (.int ix), .val (.int (0 : Int32))] [(.int p1)])) _
    refine XS.ineg X0.here hx rfl (hb hby d_jdk_33_method_12_code_20) rfl ?_
    show Steps p.tables e below (s₁.setTop (mkF m 21 #[.val (.int p1), .val (.int ix), .val (.ref bf), .unset, .unset, .val (.int ix), .val (.int (0 : Int32))] [(.int (-p1))])) _
    rw [← hm0]
    show Steps p.tables e below (s₁.setTop (mkF m 21 #[.val (.int p1), .val (.int ix), .val (.ref bf), .unset, .unset, .val (.int ix), .val (.int (0 : Int32))] [(.int m0)])) _
    refine XS.istoreN X0.here hx rfl (hb hby d_jdk_33_method_12_code_21) rfl (l' := #[.val (.int m0), .val (.int ix), .val (.ref bf), .unset, .unset, .val (.int ix), .val (.int (0 : Int32))]) rfl ?_
    show Steps p.tables e below (s₁.setTop (mkF m 22 #[.val (.int m0), .val (.int ix), .val (.ref bf), .unset, .unset, .val (.int ix), .val (.int (0 : Int32))] [])) _
    refine XS.iloadN X0.here hx rfl (hb hby d_jdk_33_method_12_code_22) rfl ?_
    show Steps p.tables e below (s₁.setTop (mkF m 23 #[.val (.int m0), .val (.int ix), .val (.ref bf), .unset, .unset, .val (.int ix), .val (.int (0 : Int32))] [(.int m0)])) _
    refine XT.bipushV X0.here hx rfl (-100 : Int32) (hb hby d_jdk_33_method_12_code_23) (by decide) ?_
    show Steps p.tables e below (s₁.setTop (mkF m 25 #[.val (.int m0), .val (.int ix), .val (.ref bf), .unset, .unset, .val (.int ix), .val (.int (0 : Int32))] [(.int (-100 : Int32)), (.int m0)])) _
    refine XS.icmpYes X0.here hx rfl (pc0 := 25) (pc' := 72) rfl (hb hby d_jdk_33_method_12_code_25) rfl (tlt (own_lt (a := (-100 : Int32)) (b := m0) (by rw [ci1, own_m100]; omega))).2.2.1 (by decide) (by decide) ?_
    show Steps p.tables e below (s₁.setTop (mkF m 72 #[.val (.int m0), .val (.int ix), .val (.ref bf), .unset, .unset, .val (.int ix), .val (.int (0 : Int32))] [])) _
    refine XS.aloadN X0.here hx rfl (hb hby d_jdk_33_method_12_code_72) rfl rfl ?_
    show Steps p.tables e below (s₁.setTop (mkF m 73 #[.val (.int m0), .val (.int ix), .val (.ref bf), .unset, .unset, .val (.int ix), .val (.int (0 : Int32))] [(.ref bf)])) _
    refine XT.iincV X0.here hx rfl (-1 : Int32) (hb hby d_jdk_33_method_12_code_73) (by decide) rfl (l' := #[.val (.int m0), .val (.int ix), .val (.ref bf), .unset, .unset, .val (.int (ix + (-1 : Int32))), .val (.int (0 : Int32))]) rfl ?_
    show Steps p.tables e below (s₁.setTop (mkF m 76 #[.val (.int m0), .val (.int ix), .val (.ref bf), .unset, .unset, .val (.int (ix + (-1 : Int32))), .val (.int (0 : Int32))] [(.ref bf)])) _
    rw [← hi1]
    show Steps p.tables e below (s₁.setTop (mkF m 76 #[.val (.int m0), .val (.int ix), .val (.ref bf), .unset, .unset, .val (.int i1), .val (.int (0 : Int32))] [(.ref bf)])) _
    refine XS.iload X0.here hx rfl (hb hby d_jdk_33_method_12_code_76) rfl ?_
    show Steps p.tables e below (s₁.setTop (mkF m 78 #[.val (.int m0), .val (.int ix), .val (.ref bf), .unset, .unset, .val (.int i1), .val (.int (0 : Int32))] [(.int i1), (.ref bf)])) _
    refine st1 _ ?_
    show Steps p.tables e below (T1.setTop (mkF m 81 #[.val (.int m0), .val (.int ix), .val (.ref bf), .unset, .unset, .val (.int i1), .val (.int (0 : Int32))] [(.ref dO), (.int i1), (.ref bf)])) _
    refine XS.iloadN X1.here hx rfl (hb hby d_jdk_33_method_12_code_81) rfl ?_
    show Steps p.tables e below (T1.setTop (mkF m 82 #[.val (.int m0), .val (.int ix), .val (.ref bf), .unset, .unset, .val (.int i1), .val (.int (0 : Int32))] [(.int m0), (.ref dO), (.int i1), (.ref bf)])) _
    refine XS.ineg X1.here hx rfl (hb hby d_jdk_33_method_12_code_82) rfl ?_
    show Steps p.tables e below (T1.setTop (mkF m 83 #[.val (.int m0), .val (.int ix), .val (.ref bf), .unset, .unset, .val (.int i1), .val (.int (0 : Int32))] [(.int (-m0)), (.ref dO), (.int i1), (.ref bf)])) _
    rw [← hl0]
    show Steps p.tables e below (T1.setTop (mkF m 83 #[.val (.int m0), .val (.int ix), .val (.ref bf), .unset, .unset, .val (.int i1), .val (.int (0 : Int32))] [(.int l0), (.ref dO), (.int i1), (.ref bf)])) _
    refine X1.baloadBytes hx (j := l0) (v := .int ((48 : Int32) + l0 % 10)) (by rw [e1]; exact X00.2.2 _ _ TO.2.1.1) (State.isArrayOf_alike hZ.alike TO.2.1.2.1) TO.2.1.2.2 tb_1i tb_1v (g := (mkF m 83 #[.val (.int m0), .val (.int ix), .val (.ref bf), .unset, .unset, .val (.int i1), .val (.int (0 : Int32))] [(.int l0), (.ref dO), (.int i1), (.ref bf)])) rfl rfl (hb hby d_jdk_33_method_12_code_83) _ ?_
    show Steps p.tables e below (T1.setTop (mkF m 84 #[.val (.int m0), .val (.int ix), .val (.ref bf), .unset, .unset, .val (.int i1), .val (.int (0 : Int32))] [(.int ((48 : Int32) + l0 % 10)), (.int i1), (.ref bf)])) _
    refine st2 _ ?_
    show Steps p.tables e below (T2.setTop (mkF m 85 #[.val (.int m0), .val (.int ix), .val (.ref bf), .unset, .unset, .val (.int i1), .val (.int (0 : Int32))] [])) _
    refine XS.iloadN X2.here hx rfl (hb hby d_jdk_33_method_12_code_85) rfl ?_
    show Steps p.tables e below (T2.setTop (mkF m 86 #[.val (.int m0), .val (.int ix), .val (.ref bf), .unset, .unset, .val (.int i1), .val (.int (0 : Int32))] [(.int m0)])) _
    refine XT.bipushV X2.here hx rfl (-9 : Int32) (hb hby d_jdk_33_method_12_code_86) (by decide) ?_
    show Steps p.tables e below (T2.setTop (mkF m 88 #[.val (.int m0), .val (.int ix), .val (.ref bf), .unset, .unset, .val (.int i1), .val (.int (0 : Int32))] [(.int (-9 : Int32)), (.int m0)])) _
    refine XS.icmpYes X2.here hx rfl (pc0 := 88) (pc' := 104) rfl (hb hby d_jdk_33_method_12_code_88) rfl (flt (own_le (a := m0) (b := (-9 : Int32)) (by rw [ci1, own_m9]; omega))).2.1 (by decide) (by decide) ?_
    show Steps p.tables e below (T2.setTop (mkF m 104 #[.val (.int m0), .val (.int ix), .val (.ref bf), .unset, .unset, .val (.int i1), .val (.int (0 : Int32))] [])) _
    refine XS.iload X2.here hx rfl (hb hby d_jdk_33_method_12_code_104) rfl ?_
    show Steps p.tables e below (T2.setTop (mkF m 106 #[.val (.int m0), .val (.int ix), .val (.ref bf), .unset, .unset, .val (.int i1), .val (.int (0 : Int32))] [(.int (0 : Int32))])) _
    refine XS.ifYes X2.here hx rfl (pc0 := 106) (pc' := 118) rfl (hb hby d_jdk_33_method_12_code_106) rfl (by decide) (by decide) (by decide) ?_
    show Steps p.tables e below (T2.setTop (mkF m 118 #[.val (.int m0), .val (.int ix), .val (.ref bf), .unset, .unset, .val (.int i1), .val (.int (0 : Int32))] [])) _
    refine XS.iload X2.here hx rfl (hb hby d_jdk_33_method_12_code_118) rfl ?_
    show Steps p.tables e below (T2.setTop (mkF m 120 #[.val (.int m0), .val (.int ix), .val (.ref bf), .unset, .unset, .val (.int i1), .val (.int (0 : Int32))] [(.int i1)])) _
    exact retI X2 hx Bd.returns (hb hby d_jdk_33_method_12_code_120) hr
  · refine ⟨by rw [hret], N2, ?_, ?_⟩
    · show Keep h0 T2.heap _; rw [e2]; exact K_2
    · show Arv Z T2.heap _ _ _ _ _ _; rw [e2, own_gcE1 ⟨hlo, hhi⟩]; exact V2
theorem d_jdk_33_method_12_code_91 : decode jdk_33_method_12_code 91 = .ok (.aload_n 2, 1) := by decide +kernel
theorem d_jdk_33_method_12_code_92 : decode jdk_33_method_12_code 92 = .ok (.iinc 5 (-1), 3) := by decide +kernel
theorem d_jdk_33_method_12_code_95 : decode jdk_33_method_12_code 95 = .ok (.iload 5, 2) := by decide +kernel
theorem d_jdk_33_method_12_code_97 : decode jdk_33_method_12_code 97 = .ok (.getstatic 87, 3) := by decide +kernel
theorem d_jdk_33_method_12_code_100 : decode jdk_33_method_12_code 100 = .ok (.iload_n 0, 1) := by decide +kernel
theorem d_jdk_33_method_12_code_101 : decode jdk_33_method_12_code 101 = .ok (.ineg, 1) := by decide +kernel
theorem d_jdk_33_method_12_code_102 : decode jdk_33_method_12_code 102 = .ok (.baload, 1) := by decide +kernel
theorem d_jdk_33_method_12_code_103 : decode jdk_33_method_12_code 103 = .ok (.bastore, 1) := by decide +kernel
def Q_gc_2 (Z : State) (p1 ix : Int32) (bf : Addr) (kb : ClassId) (vs : List Value) (dO dT : Addr) (cO cT : Cell) (h0 : Heap) (n0 : Nat) (v : Option Value) (h : Heap) (L : List Loc) : Prop := v = some (.int (ix - own_sz p1)) ∧ Fr n0 L ∧ Keep h0 h [bf] ∧ Arv Z h bf kb .byte (16 : Int32) (own_gc vs ix.toNatClampNeg p1) (.int 0)
set_option maxRecDepth 65536 in
set_option maxHeartbeats 40000000 in
theorem gc_2 (l : Launch) (Z : State) (a0 : Array Value) (hw : ∀ d ∈ tables_1, d.before a0 Z = true) (ws : List Jvm.Cond) (p1 ix : Int32) (bf : Addr) (kb : ClassId) (vs : List Value) (dO dT : Addr) (cO cT : Cell) (h0 : Heap) (n0 : Nat) (Z0 : n0 ≤ h0.size) (X00 : Old Z n0 h0)(TO : own_O Z dO cO) (TT : own_T Z dT cT)(Vb : Arv Z h0 bf kb .byte (16 : Int32) vs (.int 0)) (gb : n0 ≤ bf) (hvl : vs.length = 16) (hix1 : (own_sz p1).toInt ≤ ix.toInt) (hix2 : ix.toInt ≤ 16)(hlo : 10 ≤ p1.toInt) (hhi : p1.toInt < 100) :
    MetFree l (⟨"java/lang/Integer", "getChars", "(II[B)I"⟩ : MethodName) (head1 (Jvm.Cond.code (⟨"java/lang/Integer", "getChars", "(II[B)I"⟩ : MethodName) jdk_33_method_12_code 7 (Option.some Jvm.ClassFile.FieldType.int) :: ws) ({ frames := 0, cells := 0, slots := 0, locals := 0 } : Room)) (fun a U => a = #[(.int p1), (.int ix), (.ref bf)] ∧ Z.Warmed39 U.vm ∧ U.heap = h0) (fun _ _ _ _ _ => True) (fun _ U o U' => ∃ v L, o = .returned v ∧ Q_gc_2 Z p1 ix bf kb vs dO dT cO cT h0 n0 v U'.heap L ∧ FrameEnd U o U' L ({ frames := 0, cells := 0, slots := 0, locals := 0 } : Room).cells ({ frames := 0, cells := 0, slots := 0, locals := 0 } : Room).slots) := by
  refine MetFree.of_bodySF (plainFor_of_name pn_46) hisR ?_
  intro p e s m args below meth c s₁ Bd hml0 hP hK
  obtain ⟨rfl, hZ, hh⟩ := hP
  have hx := Bd.exec
  have hby := Bd.bytes
  have hml : c.maxLocals = 7 := hml0
  have hown : s.vm.findClass "java/lang/Integer" = some m.cls := findClass_of_methodNamed Bd.named
  have hnm := (name_of_methodNamed Bd.named Bd.method).1
  have X0 : Stand p l e ({ frames := 0, cells := 0, slots := 0, locals := 0 } : Room) s m #[(.int p1), (.int ix), (.ref bf)] below meth c s₁ [] 0 0 := Stand.of_body Bd
  have e0 : s₁.heap = h0 := by rw [← hh, Bd.state]; rfl
  have N0 := Fr.nil n0
  have hlk : meth.locks = false := BodyLoose.notSynchronized Bd
  have pre0 : ∀ t, Steps p.tables e below (s₁.setTop (mkF m 0 #[.val (.int p1), .val (.int ix), .val (.ref bf), .unset, .unset, .unset, .unset] [])) t → Steps p.tables e below (s₁.setTop (entryFrame m #[(.int p1), (.int ix), (.ref bf)] 7)) t := fun t k => castTop (ef_112 m p1 ix bf) k
  have hsz : own_sz p1 = (2 : Int32) := own_szE2 ⟨hlo, hhi⟩
  have hix : 2 ≤ ix.toInt := by rw [hsz] at hix1; exact hix1
  clear hix1
  have hp0 : ¬ p1 < 0 := own_le (a := p1) (b := 0) (by rw [own_p0]; omega)
  obtain ⟨m0, hm0⟩ : ∃ z, z = -p1 := ⟨_, rfl⟩
  have ci1 : m0.toInt = -p1.toInt := by rw [hm0]; exact own_neg p1 (by omega)
  obtain ⟨l0, hl0⟩ : ∃ z, z = -m0 := ⟨_, rfl⟩
  have li : l0.toInt = p1.toInt := by rw [hl0, own_neg' m0 (by rw [ci1]; omega), ci1]; omega
  have hd1 : nar .byte ((48 : Int32) + l0 % 10) = 48 + p1 % 10 := own_nar (by rw [own_oneI l0 (by rw [li]; omega) (by rw [li]; omega), li, own_dg0 p1 (by omega)]; try omega) (by rw [own_dg0 p1 (by omega)]; omega) (by rw [own_dg0 p1 (by omega)]; omega)
  have hd2 : nar .byte ((48 : Int32) + l0 / 10) = 48 + p1 / 10 % 10 := own_nar (by rw [own_tenI l0 (by rw [li]; omega) (by rw [li]; omega), li, own_dg p1 10 10 rfl (by decide) (by omega) (by omega)]; try omega) (by rw [own_dg p1 10 10 rfl (by decide) (by omega) (by omega)]; omega) (by rw [own_dg p1 10 10 rfl (by decide) (by omega) (by omega)]; omega)
  obtain ⟨i1, hi1⟩ : ∃ z, z = ix + (-1 : Int32) := ⟨_, rfl⟩
  have j1 : i1.toInt = ix.toInt - 1 := by rw [hi1]; exact own_dec' rfl (by omega)
  have b1 : ¬ i1 < 0 ∧ i1 < 16 := own_b j1 (by omega) (by omega)
  have n1 : i1.toNatClampNeg = ix.toNatClampNeg - 1 := own_tn (t := 1) j1 (by omega)
  obtain ⟨i2, hi2⟩ : ∃ z, z = i1 + (-1 : Int32) := ⟨_, rfl⟩
  have j2 : i2.toInt = ix.toInt - 2 := by rw [hi2]; exact (own_dec' j1 (by omega)).trans (own_ss ix.toInt 1)
  have b2 : ¬ i2 < 0 ∧ i2 < 16 := own_b j2 (by omega) (by omega)
  have n2 : i2.toNatClampNeg = ix.toNatClampNeg - 2 := own_tn (t := 2) j2 (by omega)
  have hret : i2 = ix - own_sz p1 := by rw [hsz]; exact Int32.toInt_inj.mp (by rw [j2]; exact (own_sbd ix 2 2 rfl (by omega) (by omega)).symm)
  have K0 : Keep h0 h0 [bf] := Keep.refl h0 _
  obtain ⟨T1, X1, e1, st1⟩ := getS X0 hx hZ (host := "") hown (hw _ (List.mem_of_getElem? (i := 71) rfl)) Via.refl e0 (TO.1.ext X00.2) (g := (mkF m 78 #[.val (.int m0), .val (.int ix), .val (.ref bf), .unset, .unset, .val (.int i1), .val (.int (0 : Int32))] [(.int i1), (.ref bf)])) rfl (hb hby d_jdk_33_method_12_code_78)
  obtain ⟨tb_1i, tb_1v⟩ := TO.2.2 l0 (by rw [li]; omega) (by rw [li]; omega)
  obtain ⟨cl2, Ar2, Qc2, Sz2, Ng2, Hs2, Ft2⟩ := id Vb
  obtain ⟨T2, h2, X2, e2, W2, st2⟩ := stB X1 hx hZ e1 Ar2 (j := i1) (inb_of Sz2 b1) (g := (mkF m 84 #[.val (.int m0), .val (.int ix), .val (.ref bf), .unset, .unset, .val (.int i1), .val (.int (0 : Int32))] [(.int ((48 : Int32) + l0 % 10)), (.int i1), (.ref bf)])) rfl rfl (hb hby d_jdk_33_method_12_code_84)
  have N2 := Fr.snoc X2 N0 gb
  have U2 := Arv.set Ar2 Qc2 Sz2 Ng2 Hs2 Ft2 (fits_nar_byte _) W2 (ix.toNatClampNeg - 1) n1 (by simp only [List.length_set, hvl]; exact own_i hix2 1 (by decide))
  have V2 : Arv Z h2 bf kb .byte (16 : Int32) (vs.set (ix.toNatClampNeg - 1) (.int (48 + p1 % 10))) (.int 0) := by rw [← hd1]; exact U2
  have K_2 : Keep h0 h2 [bf] := K0.wr W2 (Or.inl (by simp))
  have Z_2 : n0 ≤ h2.size := by rw [W2.size]; exact Z0
  have O_3 := (X00.wr W2 gb)
  obtain ⟨T3, X3, e3, st3⟩ := getS X2 hx hZ (host := "") hown (hw _ (List.mem_of_getElem? (i := 120) rfl)) Via.refl e2 (TT.1.ext O_3.2) (g := (mkF m 97 #[.val (.int m0), .val (.int ix), .val (.ref bf), .unset, .unset, .val (.int i2), .val (.int (0 : Int32))] [(.int i2), (.ref bf)])) rfl (hb hby d_jdk_33_method_12_code_97)
  obtain ⟨tb_4i, tb_4v⟩ := TT.2.2 l0 (by rw [li]; omega) (by rw [li]; omega)
  obtain ⟨cl4, Ar4, Qc4, Sz4, Ng4, Hs4, Ft4⟩ := id V2
  obtain ⟨T4, h4, X4, e4, W4, st4⟩ := stB X3 hx hZ e3 Ar4 (j := i2) (inb_of Sz4 b2) (g := (mkF m 103 #[.val (.int m0), .val (.int ix), .val (.ref bf), .unset, .unset, .val (.int i2), .val (.int (0 : Int32))] [(.int ((48 : Int32) + l0 / 10)), (.int i2), (.ref bf)])) rfl rfl (hb hby d_jdk_33_method_12_code_103)
  have N4 := Fr.snoc X4 N2 gb
  have U4 := Arv.set Ar4 Qc4 Sz4 Ng4 Hs4 Ft4 (fits_nar_byte _) W4 (ix.toNatClampNeg - 2) n2 (by simp only [List.length_set, hvl]; exact own_i hix2 2 (by decide))
  have V4 : Arv Z h4 bf kb .byte (16 : Int32) ((vs.set (ix.toNatClampNeg - 1) (.int (48 + p1 % 10))).set (ix.toNatClampNeg - 2) (.int (48 + p1 / 10 % 10))) (.int 0) := by rw [← hd2]; exact U4
  have K_5 : Keep h0 h4 [bf] := K_2.wr W4 (Or.inl (by simp))
  have Z_4 : n0 ≤ h4.size := by rw [W4.size]; exact Z_2
  obtain ⟨fs, hr, hrun, hended, hW, hsame⟩ := X4.leave (v := (some (.int i2))) (fun h => by rw [Bd.returns] at h; cases h) (hlocks := hlk)
  refine ⟨_, _, pre0 _ ?_, hrun, hended, _, _, rfl, ?_, ⟨_, rfl⟩, hW, hsame.mono (by decide) (by decide)⟩
  · show Steps p.tables e below (s₁.setTop (mkF m 0 #[.val (.int p1), .val (.int ix), .val (.ref bf), .unset, .unset, .unset, .unset] [])) _
    refine XS.iloadN X0.here hx rfl (hb hby d_jdk_33_method_12_code_0) rfl ?_
    show Steps p.tables e below (s₁.setTop (mkF m 1 #[.val (.int p1), .val (.int ix), .val (.ref bf), .unset, .unset, .unset, .unset] [(.int ix)])) _
    refine XS.istore X0.here hx rfl (hb hby d_jdk_33_method_12_code_1) rfl (l' := #[.val (.int p1), .val (.int ix), .val (.ref bf), .unset, .unset, .val (.int ix), .unset]) rfl ?_
    show Steps p.tables e below (s₁.setTop (mkF m 3 #[.val (.int p1), .val (.int ix), .val (.ref bf), .unset, .unset, .val (.int ix), .unset] [])) _
    refine XS.iloadN X0.here hx rfl (hb hby d_jdk_33_method_12_code_3) rfl ?_
    show Steps p.tables e below (s₁.setTop (mkF m 4 #[.val (.int p1), .val (.int ix), .val (.ref bf), .unset, .unset, .val (.int ix), .unset] [(.int p1)])) _
    refine XS.ifYes X0.here hx rfl (pc0 := 4) (pc' := 11) rfl (hb hby d_jdk_33_method_12_code_4) rfl ((if0 _ _).trans (flt hp0).2.1) (by decide) (by decide) ?_
    show Steps p.tables e below (s₁.setTop (mkF m 11 #[.val (.int p1), .val (.int ix), .val (.ref bf), .unset, .unset, .val (.int ix), .unset] [])) _
    refine XT.iconstV X0.here hx rfl (0 : Int32) (hb hby d_jdk_33_method_12_code_11) (by decide) ?_
    show Steps p.tables e below (s₁.setTop (mkF m 12 #[.val (.int p1), .val (.int ix), .val (.ref bf), .unset, .unset, .val (.int ix), .unset] [(.int (0 : Int32))])) _
    refine XS.istore X0.here hx rfl (hb hby d_jdk_33_method_12_code_12) rfl (l' := #[.val (.int p1), .val (.int ix), .val (.ref bf), .unset, .unset, .val (.int ix), .val (.int (0 : Int32))]) rfl ?_
    show Steps p.tables e below (s₁.setTop (mkF m 14 #[.val (.int p1), .val (.int ix), .val (.ref bf), .unset, .unset, .val (.int ix), .val (.int (0 : Int32))] [])) _
    refine XS.iload X0.here hx rfl (hb hby d_jdk_33_method_12_code_14) rfl ?_
    show Steps p.tables e below (s₁.setTop (mkF m 16 #[.val (.int p1), .val (.int ix), .val (.ref bf), .unset, .unset, .val (.int ix), .val (.int (0 : Int32))] [(.int (0 : Int32))])) _
    refine XS.ifNo X0.here hx rfl (hb hby d_jdk_33_method_12_code_16) rfl (by decide) ?_
    show Steps p.tables e below (s₁.setTop (mkF m 19 #[.val (.int p1), .val (.int ix), .val (.ref bf), .unset, .unset, .val (.int ix), .val (.int (0 : Int32))] [])) _
    refine XS.iloadN X0.here hx rfl (hb hby d_jdk_33_method_12_code_19) rfl ?_
    show Steps p.tables e below (s₁.setTop (mkF m 20 #[.val (.int p1), .val (.int ix), .val (.ref bf), .unset, .unset, .val (.int ix), .val (.int (0 : Int32))] [(.int p1)])) _
    refine XS.ineg X0.here hx rfl (hb hby d_jdk_33_method_12_code_20) rfl ?_
    show Steps p.tables e below (s₁.setTop (mkF m 21 #[.val (.int p1), .val (.int ix), .val (.ref bf), .unset, .unset, .val (.int ix), .val (.int (0 : Int32))] [(.int (-p1))])) _
    rw [← hm0]
    show Steps p.tables e below (s₁.setTop (mkF m 21 #[.val (.int p1), .val (.int ix), .val (.ref bf), .unset, .unset, .val (.int ix), .val (.int (0 : Int32))] [(.int m0)])) _
    refine XS.istoreN X0.here hx rfl (hb hby d_jdk_33_method_12_code_21) rfl (l' := #[.val (.int m0), .val (.int ix), .val (.ref bf), .unset, .unset, .val (.int ix), .val (.int (0 : Int32))]) rfl ?_
    show Steps p.tables e below (s₁.setTop (mkF m 22 #[.val (.int m0), .val (.int ix), .val (.ref bf), .unset, .unset, .val (.int ix), .val (.int (0 : Int32))] [])) _
    refine XS.iloadN X0.here hx rfl (hb hby d_jdk_33_method_12_code_22) rfl ?_
    show Steps p.tables e below (s₁.setTop (mkF m 23 #[.val (.int m0), .val (.int ix), .val (.ref bf), .unset, .unset, .val (.int ix), .val (.int (0 : Int32))] [(.int m0)])) _
    refine XT.bipushV X0.here hx rfl (-100 : Int32) (hb hby d_jdk_33_method_12_code_23) (by decide) ?_
    show Steps p.tables e below (s₁.setTop (mkF m 25 #[.val (.int m0), .val (.int ix), .val (.ref bf), .unset, .unset, .val (.int ix), .val (.int (0 : Int32))] [(.int (-100 : Int32)), (.int m0)])) _
    refine XS.icmpYes X0.here hx rfl (pc0 := 25) (pc' := 72) rfl (hb hby d_jdk_33_method_12_code_25) rfl (tlt (own_lt (a := (-100 : Int32)) (b := m0) (by rw [ci1, own_m100]; omega))).2.2.1 (by decide) (by decide) ?_
    show Steps p.tables e below (s₁.setTop (mkF m 72 #[.val (.int m0), .val (.int ix), .val (.ref bf), .unset, .unset, .val (.int ix), .val (.int (0 : Int32))] [])) _
    refine XS.aloadN X0.here hx rfl (hb hby d_jdk_33_method_12_code_72) rfl rfl ?_
    show Steps p.tables e below (s₁.setTop (mkF m 73 #[.val (.int m0), .val (.int ix), .val (.ref bf), .unset, .unset, .val (.int ix), .val (.int (0 : Int32))] [(.ref bf)])) _
    refine XT.iincV X0.here hx rfl (-1 : Int32) (hb hby d_jdk_33_method_12_code_73) (by decide) rfl (l' := #[.val (.int m0), .val (.int ix), .val (.ref bf), .unset, .unset, .val (.int (ix + (-1 : Int32))), .val (.int (0 : Int32))]) rfl ?_
    show Steps p.tables e below (s₁.setTop (mkF m 76 #[.val (.int m0), .val (.int ix), .val (.ref bf), .unset, .unset, .val (.int (ix + (-1 : Int32))), .val (.int (0 : Int32))] [(.ref bf)])) _
    rw [← hi1]
    show Steps p.tables e below (s₁.setTop (mkF m 76 #[.val (.int m0), .val (.int ix), .val (.ref bf), .unset, .unset, .val (.int i1), .val (.int (0 : Int32))] [(.ref bf)])) _
    refine XS.iload X0.here hx rfl (hb hby d_jdk_33_method_12_code_76) rfl ?_
    show Steps p.tables e below (s₁.setTop (mkF m 78 #[.val (.int m0), .val (.int ix), .val (.ref bf), .unset, .unset, .val (.int i1), .val (.int (0 : Int32))] [(.int i1), (.ref bf)])) _
    refine st1 _ ?_
    show Steps p.tables e below (T1.setTop (mkF m 81 #[.val (.int m0), .val (.int ix), .val (.ref bf), .unset, .unset, .val (.int i1), .val (.int (0 : Int32))] [(.ref dO), (.int i1), (.ref bf)])) _
    refine XS.iloadN X1.here hx rfl (hb hby d_jdk_33_method_12_code_81) rfl ?_
    show Steps p.tables e below (T1.setTop (mkF m 82 #[.val (.int m0), .val (.int ix), .val (.ref bf), .unset, .unset, .val (.int i1), .val (.int (0 : Int32))] [(.int m0), (.ref dO), (.int i1), (.ref bf)])) _
    refine XS.ineg X1.here hx rfl (hb hby d_jdk_33_method_12_code_82) rfl ?_
    show Steps p.tables e below (T1.setTop (mkF m 83 #[.val (.int m0), .val (.int ix), .val (.ref bf), .unset, .unset, .val (.int i1), .val (.int (0 : Int32))] [(.int (-m0)), (.ref dO), (.int i1), (.ref bf)])) _
    rw [← hl0]
    show Steps p.tables e below (T1.setTop (mkF m 83 #[.val (.int m0), .val (.int ix), .val (.ref bf), .unset, .unset, .val (.int i1), .val (.int (0 : Int32))] [(.int l0), (.ref dO), (.int i1), (.ref bf)])) _
    refine X1.baloadBytes hx (j := l0) (v := .int ((48 : Int32) + l0 % 10)) (by rw [e1]; exact X00.2.2 _ _ TO.2.1.1) (State.isArrayOf_alike hZ.alike TO.2.1.2.1) TO.2.1.2.2 tb_1i tb_1v (g := (mkF m 83 #[.val (.int m0), .val (.int ix), .val (.ref bf), .unset, .unset, .val (.int i1), .val (.int (0 : Int32))] [(.int l0), (.ref dO), (.int i1), (.ref bf)])) rfl rfl (hb hby d_jdk_33_method_12_code_83) _ ?_
    show Steps p.tables e below (T1.setTop (mkF m 84 #[.val (.int m0), .val (.int ix), .val (.ref bf), .unset, .unset, .val (.int i1), .val (.int (0 : Int32))] [(.int ((48 : Int32) + l0 % 10)), (.int i1), (.ref bf)])) _
    refine st2 _ ?_
    show Steps p.tables e below (T2.setTop (mkF m 85 #[.val (.int m0), .val (.int ix), .val (.ref bf), .unset, .unset, .val (.int i1), .val (.int (0 : Int32))] [])) _
    refine XS.iloadN X2.here hx rfl (hb hby d_jdk_33_method_12_code_85) rfl ?_
    show Steps p.tables e below (T2.setTop (mkF m 86 #[.val (.int m0), .val (.int ix), .val (.ref bf), .unset, .unset, .val (.int i1), .val (.int (0 : Int32))] [(.int m0)])) _
    refine XT.bipushV X2.here hx rfl (-9 : Int32) (hb hby d_jdk_33_method_12_code_86) (by decide) ?_
    show Steps p.tables e below (T2.setTop (mkF m 88 #[.val (.int m0), .val (.int ix), .val (.ref bf), .unset, .unset, .val (.int i1), .val (.int (0 : Int32))] [(.int (-9 : Int32)), (.int m0)])) _
    refine XS.icmpNo X2.here hx rfl (hb hby d_jdk_33_method_12_code_88) rfl (tlt (own_lt (a := m0) (b := (-9 : Int32)) (by rw [ci1, own_m9]; omega))).2.1 ?_
    show Steps p.tables e below (T2.setTop (mkF m 91 #[.val (.int m0), .val (.int ix), .val (.ref bf), .unset, .unset, .val (.int i1), .val (.int (0 : Int32))] [])) _
    refine XS.aloadN X2.here hx rfl (hb hby d_jdk_33_method_12_code_91) rfl rfl ?_
    show Steps p.tables e below (T2.setTop (mkF m 92 #[.val (.int m0), .val (.int ix), .val (.ref bf), .unset, .unset, .val (.int i1), .val (.int (0 : Int32))] [(.ref bf)])) _
    refine XT.iincV X2.here hx rfl (-1 : Int32) (hb hby d_jdk_33_method_12_code_92) (by decide) rfl (l' := #[.val (.int m0), .val (.int ix), .val (.ref bf), .unset, .unset, .val (.int (i1 + (-1 : Int32))), .val (.int (0 : Int32))]) rfl ?_
    show Steps p.tables e below (T2.setTop (mkF m 95 #[.val (.int m0), .val (.int ix), .val (.ref bf), .unset, .unset, .val (.int (i1 + (-1 : Int32))), .val (.int (0 : Int32))] [(.ref bf)])) _
    rw [← hi2]
    show Steps p.tables e below (T2.setTop (mkF m 95 #[.val (.int m0), .val (.int ix), .val (.ref bf), .unset, .unset, .val (.int i2), .val (.int (0 : Int32))] [(.ref bf)])) _
    refine XS.iload X2.here hx rfl (hb hby d_jdk_33_method_12_code_95) rfl ?_
    show Steps p.tables e below (T2.setTop (mkF m 97 #[.val (.int m0), .val (.int ix), .val (.ref bf), .unset, .unset, .val (.int i2), .val (.int (0 : Int32))] [(.int i2), (.ref bf)])) _
    refine st3 _ ?_
    show Steps p.tables e below (T3.setTop (mkF m 100 #[.val (.int m0), .val (.int ix), .val (.ref bf), .unset, .unset, .val (.int i2), .val (.int (0 : Int32))] [(.ref dT), (.int i2), (.ref bf)])) _
    refine XS.iloadN X3.here hx rfl (hb hby d_jdk_33_method_12_code_100) rfl ?_
    show Steps p.tables e below (T3.setTop (mkF m 101 #[.val (.int m0), .val (.int ix), .val (.ref bf), .unset, .unset, .val (.int i2), .val (.int (0 : Int32))] [(.int m0), (.ref dT), (.int i2), (.ref bf)])) _
    refine XS.ineg X3.here hx rfl (hb hby d_jdk_33_method_12_code_101) rfl ?_
    show Steps p.tables e below (T3.setTop (mkF m 102 #[.val (.int m0), .val (.int ix), .val (.ref bf), .unset, .unset, .val (.int i2), .val (.int (0 : Int32))] [(.int (-m0)), (.ref dT), (.int i2), (.ref bf)])) _
    rw [← hl0]
    show Steps p.tables e below (T3.setTop (mkF m 102 #[.val (.int m0), .val (.int ix), .val (.ref bf), .unset, .unset, .val (.int i2), .val (.int (0 : Int32))] [(.int l0), (.ref dT), (.int i2), (.ref bf)])) _
    refine X3.baloadBytes hx (j := l0) (v := .int ((48 : Int32) + l0 / 10)) (by rw [e3]; exact O_3.2.2 _ _ TT.2.1.1) (State.isArrayOf_alike hZ.alike TT.2.1.2.1) TT.2.1.2.2 tb_4i tb_4v (g := (mkF m 102 #[.val (.int m0), .val (.int ix), .val (.ref bf), .unset, .unset, .val (.int i2), .val (.int (0 : Int32))] [(.int l0), (.ref dT), (.int i2), (.ref bf)])) rfl rfl (hb hby d_jdk_33_method_12_code_102) _ ?_
    show Steps p.tables e below (T3.setTop (mkF m 103 #[.val (.int m0), .val (.int ix), .val (.ref bf), .unset, .unset, .val (.int i2), .val (.int (0 : Int32))] [(.int ((48 : Int32) + l0 / 10)), (.int i2), (.ref bf)])) _
    refine st4 _ ?_
    show Steps p.tables e below (T4.setTop (mkF m 104 #[.val (.int m0), .val (.int ix), .val (.ref bf), .unset, .unset, .val (.int i2), .val (.int (0 : Int32))] [])) _
    refine XS.iload X4.here hx rfl (hb hby d_jdk_33_method_12_code_104) rfl ?_
    show Steps p.tables e below (T4.setTop (mkF m 106 #[.val (.int m0), .val (.int ix), .val (.ref bf), .unset, .unset, .val (.int i2), .val (.int (0 : Int32))] [(.int (0 : Int32))])) _
    refine XS.ifYes X4.here hx rfl (pc0 := 106) (pc' := 118) rfl (hb hby d_jdk_33_method_12_code_106) rfl (by decide) (by decide) (by decide) ?_
    show Steps p.tables e below (T4.setTop (mkF m 118 #[.val (.int m0), .val (.int ix), .val (.ref bf), .unset, .unset, .val (.int i2), .val (.int (0 : Int32))] [])) _
    refine XS.iload X4.here hx rfl (hb hby d_jdk_33_method_12_code_118) rfl ?_
    show Steps p.tables e below (T4.setTop (mkF m 120 #[.val (.int m0), .val (.int ix), .val (.ref bf), .unset, .unset, .val (.int i2), .val (.int (0 : Int32))] [(.int i2)])) _
    exact retI X4 hx Bd.returns (hb hby d_jdk_33_method_12_code_120) hr
  · refine ⟨by rw [hret], N4, ?_, ?_⟩
    · show Keep h0 T4.heap _; rw [e4]; exact K_5
    · show Arv Z T4.heap _ _ _ _ _ _; rw [e4, own_gcE2 ⟨hlo, hhi⟩]; exact V4
theorem d_jdk_33_method_12_code_28 : decode jdk_33_method_12_code 28 = .ok (.iload_n 0, 1) := by decide +kernel
theorem d_jdk_33_method_12_code_29 : decode jdk_33_method_12_code 29 = .ok (.bipush 100, 2) := by decide +kernel
theorem d_jdk_33_method_12_code_31 : decode jdk_33_method_12_code 31 = .ok (.idiv, 1) := by decide +kernel
theorem d_jdk_33_method_12_code_32 : decode jdk_33_method_12_code 32 = .ok (.istore_n 3, 1) := by decide +kernel
theorem d_jdk_33_method_12_code_33 : decode jdk_33_method_12_code 33 = .ok (.iload_n 3, 1) := by decide +kernel
theorem d_jdk_33_method_12_code_34 : decode jdk_33_method_12_code 34 = .ok (.bipush 100, 2) := by decide +kernel
theorem d_jdk_33_method_12_code_36 : decode jdk_33_method_12_code 36 = .ok (.imul, 1) := by decide +kernel
theorem d_jdk_33_method_12_code_37 : decode jdk_33_method_12_code 37 = .ok (.iload_n 0, 1) := by decide +kernel
theorem d_jdk_33_method_12_code_38 : decode jdk_33_method_12_code 38 = .ok (.isub, 1) := by decide +kernel
theorem d_jdk_33_method_12_code_39 : decode jdk_33_method_12_code 39 = .ok (.istore 4, 2) := by decide +kernel
theorem d_jdk_33_method_12_code_41 : decode jdk_33_method_12_code 41 = .ok (.iload_n 3, 1) := by decide +kernel
theorem d_jdk_33_method_12_code_42 : decode jdk_33_method_12_code 42 = .ok (.istore_n 0, 1) := by decide +kernel
theorem d_jdk_33_method_12_code_43 : decode jdk_33_method_12_code 43 = .ok (.aload_n 2, 1) := by decide +kernel
theorem d_jdk_33_method_12_code_44 : decode jdk_33_method_12_code 44 = .ok (.iinc 5 (-1), 3) := by decide +kernel
theorem d_jdk_33_method_12_code_47 : decode jdk_33_method_12_code 47 = .ok (.iload 5, 2) := by decide +kernel
theorem d_jdk_33_method_12_code_49 : decode jdk_33_method_12_code 49 = .ok (.getstatic 83, 3) := by decide +kernel
theorem d_jdk_33_method_12_code_52 : decode jdk_33_method_12_code 52 = .ok (.iload 4, 2) := by decide +kernel
theorem d_jdk_33_method_12_code_54 : decode jdk_33_method_12_code 54 = .ok (.baload, 1) := by decide +kernel
theorem d_jdk_33_method_12_code_55 : decode jdk_33_method_12_code 55 = .ok (.bastore, 1) := by decide +kernel
theorem d_jdk_33_method_12_code_56 : decode jdk_33_method_12_code 56 = .ok (.aload_n 2, 1) := by decide +kernel
theorem d_jdk_33_method_12_code_57 : decode jdk_33_method_12_code 57 = .ok (.iinc 5 (-1), 3) := by decide +kernel
theorem d_jdk_33_method_12_code_60 : decode jdk_33_method_12_code 60 = .ok (.iload 5, 2) := by decide +kernel
theorem d_jdk_33_method_12_code_62 : decode jdk_33_method_12_code 62 = .ok (.getstatic 87, 3) := by decide +kernel
theorem d_jdk_33_method_12_code_65 : decode jdk_33_method_12_code 65 = .ok (.iload 4, 2) := by decide +kernel
theorem d_jdk_33_method_12_code_67 : decode jdk_33_method_12_code 67 = .ok (.baload, 1) := by decide +kernel
theorem d_jdk_33_method_12_code_68 : decode jdk_33_method_12_code 68 = .ok (.bastore, 1) := by decide +kernel
theorem d_jdk_33_method_12_code_69 : decode jdk_33_method_12_code 69 = .ok (.goto (-47), 3) := by decide +kernel
def Q_gc_3 (Z : State) (p1 ix : Int32) (bf : Addr) (kb : ClassId) (vs : List Value) (dO dT : Addr) (cO cT : Cell) (h0 : Heap) (n0 : Nat) (v : Option Value) (h : Heap) (L : List Loc) : Prop := v = some (.int (ix - own_sz p1)) ∧ Fr n0 L ∧ Keep h0 h [bf] ∧ Arv Z h bf kb .byte (16 : Int32) (own_gc vs ix.toNatClampNeg p1) (.int 0)
set_option maxRecDepth 65536 in
set_option maxHeartbeats 40000000 in
theorem gc_3 (l : Launch) (Z : State) (a0 : Array Value) (hw : ∀ d ∈ tables_1, d.before a0 Z = true) (ws : List Jvm.Cond) (p1 ix : Int32) (bf : Addr) (kb : ClassId) (vs : List Value) (dO dT : Addr) (cO cT : Cell) (h0 : Heap) (n0 : Nat) (Z0 : n0 ≤ h0.size) (X00 : Old Z n0 h0)(TO : own_O Z dO cO) (TT : own_T Z dT cT)(Vb : Arv Z h0 bf kb .byte (16 : Int32) vs (.int 0)) (gb : n0 ≤ bf) (hvl : vs.length = 16) (hix1 : (own_sz p1).toInt ≤ ix.toInt) (hix2 : ix.toInt ≤ 16)(hlo : 100 ≤ p1.toInt) (hhi : p1.toInt < 1000) :
    MetFree l (⟨"java/lang/Integer", "getChars", "(II[B)I"⟩ : MethodName) (head1 (Jvm.Cond.code (⟨"java/lang/Integer", "getChars", "(II[B)I"⟩ : MethodName) jdk_33_method_12_code 7 (Option.some Jvm.ClassFile.FieldType.int) :: ws) ({ frames := 0, cells := 0, slots := 0, locals := 0 } : Room)) (fun a U => a = #[(.int p1), (.int ix), (.ref bf)] ∧ Z.Warmed39 U.vm ∧ U.heap = h0) (fun _ _ _ _ _ => True) (fun _ U o U' => ∃ v L, o = .returned v ∧ Q_gc_3 Z p1 ix bf kb vs dO dT cO cT h0 n0 v U'.heap L ∧ FrameEnd U o U' L ({ frames := 0, cells := 0, slots := 0, locals := 0 } : Room).cells ({ frames := 0, cells := 0, slots := 0, locals := 0 } : Room).slots) := by
  refine MetFree.of_bodySF (plainFor_of_name pn_46) hisR ?_
  intro p e s m args below meth c s₁ Bd hml0 hP hK
  obtain ⟨rfl, hZ, hh⟩ := hP
  have hx := Bd.exec
  have hby := Bd.bytes
  have hml : c.maxLocals = 7 := hml0
  have hown : s.vm.findClass "java/lang/Integer" = some m.cls := findClass_of_methodNamed Bd.named
  have hnm := (name_of_methodNamed Bd.named Bd.method).1
  have X0 : Stand p l e ({ frames := 0, cells := 0, slots := 0, locals := 0 } : Room) s m #[(.int p1), (.int ix), (.ref bf)] below meth c s₁ [] 0 0 := Stand.of_body Bd
  have e0 : s₁.heap = h0 := by rw [← hh, Bd.state]; rfl
  have N0 := Fr.nil n0
  have hlk : meth.locks = false := BodyLoose.notSynchronized Bd
  have pre0 : ∀ t, Steps p.tables e below (s₁.setTop (mkF m 0 #[.val (.int p1), .val (.int ix), .val (.ref bf), .unset, .unset, .unset, .unset] [])) t → Steps p.tables e below (s₁.setTop (entryFrame m #[(.int p1), (.int ix), (.ref bf)] 7)) t := fun t k => castTop (ef_112 m p1 ix bf) k
  have hsz : own_sz p1 = (3 : Int32) := own_szE3 ⟨hlo, hhi⟩
  have hix : 3 ≤ ix.toInt := by rw [hsz] at hix1; exact hix1
  clear hix1
  have hp0 : ¬ p1 < 0 := own_le (a := p1) (b := 0) (by rw [own_p0]; omega)
  obtain ⟨m0, hm0⟩ : ∃ z, z = -p1 := ⟨_, rfl⟩
  have ci1 : m0.toInt = -p1.toInt := by rw [hm0]; exact own_neg p1 (by omega)
  obtain ⟨q1, hq1⟩ : ∃ z, z = m0 / (100 : Int32) := ⟨_, rfl⟩
  have ci2 : q1.toInt = -(p1.toInt / 100) := by rw [hq1]; exact own_q ci1 (by omega) (by omega)
  obtain ⟨r1, hr1⟩ : ∃ z, z = q1 * (100 : Int32) - m0 := ⟨_, rfl⟩
  have ri1 : r1.toInt = p1.toInt % 100 := by rw [hr1]; exact own_r ci1 ci2 (by omega) (by omega)
  obtain ⟨l0, hl0⟩ : ∃ z, z = -q1 := ⟨_, rfl⟩
  have li : l0.toInt = p1.toInt / 100 := by rw [hl0, own_neg' q1 (by rw [ci2]; omega), ci2]; omega
  have hd1 : nar .byte ((48 : Int32) + r1 % 10) = 48 + p1 % 10 := own_nar (by rw [own_oneI r1 (by rw [ri1]; omega) (by rw [ri1]; omega), ri1, own_dg0 p1 (by omega)]; try omega) (by rw [own_dg0 p1 (by omega)]; omega) (by rw [own_dg0 p1 (by omega)]; omega)
  have hd2 : nar .byte ((48 : Int32) + r1 / 10) = 48 + p1 / 10 % 10 := own_nar (by rw [own_tenI r1 (by rw [ri1]; omega) (by rw [ri1]; omega), ri1, own_dg p1 10 10 rfl (by decide) (by omega) (by omega)]; try omega) (by rw [own_dg p1 10 10 rfl (by decide) (by omega) (by omega)]; omega) (by rw [own_dg p1 10 10 rfl (by decide) (by omega) (by omega)]; omega)
  have hd3 : nar .byte ((48 : Int32) + l0 % 10) = 48 + p1 / 100 % 10 := own_nar (by rw [own_oneI l0 (by rw [li]; omega) (by rw [li]; omega), li, own_dg p1 100 100 rfl (by decide) (by omega) (by omega)]; try omega) (by rw [own_dg p1 100 100 rfl (by decide) (by omega) (by omega)]; omega) (by rw [own_dg p1 100 100 rfl (by decide) (by omega) (by omega)]; omega)
  obtain ⟨i1, hi1⟩ : ∃ z, z = ix + (-1 : Int32) := ⟨_, rfl⟩
  have j1 : i1.toInt = ix.toInt - 1 := by rw [hi1]; exact own_dec' rfl (by omega)
  have b1 : ¬ i1 < 0 ∧ i1 < 16 := own_b j1 (by omega) (by omega)
  have n1 : i1.toNatClampNeg = ix.toNatClampNeg - 1 := own_tn (t := 1) j1 (by omega)
  obtain ⟨i2, hi2⟩ : ∃ z, z = i1 + (-1 : Int32) := ⟨_, rfl⟩
  have j2 : i2.toInt = ix.toInt - 2 := by rw [hi2]; exact (own_dec' j1 (by omega)).trans (own_ss ix.toInt 1)
  have b2 : ¬ i2 < 0 ∧ i2 < 16 := own_b j2 (by omega) (by omega)
  have n2 : i2.toNatClampNeg = ix.toNatClampNeg - 2 := own_tn (t := 2) j2 (by omega)
  obtain ⟨i3, hi3⟩ : ∃ z, z = i2 + (-1 : Int32) := ⟨_, rfl⟩
  have j3 : i3.toInt = ix.toInt - 3 := by rw [hi3]; exact (own_dec' j2 (by omega)).trans (own_ss ix.toInt 2)
  have b3 : ¬ i3 < 0 ∧ i3 < 16 := own_b j3 (by omega) (by omega)
  have n3 : i3.toNatClampNeg = ix.toNatClampNeg - 3 := own_tn (t := 3) j3 (by omega)
  have hret : i3 = ix - own_sz p1 := by rw [hsz]; exact Int32.toInt_inj.mp (by rw [j3]; exact (own_sbd ix 3 3 rfl (by omega) (by omega)).symm)
  have K0 : Keep h0 h0 [bf] := Keep.refl h0 _
  obtain ⟨T1, X1, e1, st1⟩ := getS X0 hx hZ (host := "") hown (hw _ (List.mem_of_getElem? (i := 71) rfl)) Via.refl e0 (TO.1.ext X00.2) (g := (mkF m 49 #[.val (.int q1), .val (.int ix), .val (.ref bf), .val (.int q1), .val (.int r1), .val (.int i1), .val (.int (0 : Int32))] [(.int i1), (.ref bf)])) rfl (hb hby d_jdk_33_method_12_code_49)
  obtain ⟨tb_1i, tb_1v⟩ := TO.2.2 r1 (by rw [ri1]; omega) (by rw [ri1]; omega)
  obtain ⟨cl2, Ar2, Qc2, Sz2, Ng2, Hs2, Ft2⟩ := id Vb
  obtain ⟨T2, h2, X2, e2, W2, st2⟩ := stB X1 hx hZ e1 Ar2 (j := i1) (inb_of Sz2 b1) (g := (mkF m 55 #[.val (.int q1), .val (.int ix), .val (.ref bf), .val (.int q1), .val (.int r1), .val (.int i1), .val (.int (0 : Int32))] [(.int ((48 : Int32) + r1 % 10)), (.int i1), (.ref bf)])) rfl rfl (hb hby d_jdk_33_method_12_code_55)
  have N2 := Fr.snoc X2 N0 gb
  have U2 := Arv.set Ar2 Qc2 Sz2 Ng2 Hs2 Ft2 (fits_nar_byte _) W2 (ix.toNatClampNeg - 1) n1 (by simp only [List.length_set, hvl]; exact own_i hix2 1 (by decide))
  have V2 : Arv Z h2 bf kb .byte (16 : Int32) (vs.set (ix.toNatClampNeg - 1) (.int (48 + p1 % 10))) (.int 0) := by rw [← hd1]; exact U2
  have K_2 : Keep h0 h2 [bf] := K0.wr W2 (Or.inl (by simp))
  have Z_2 : n0 ≤ h2.size := by rw [W2.size]; exact Z0
  have O_3 := (X00.wr W2 gb)
  obtain ⟨T3, X3, e3, st3⟩ := getS X2 hx hZ (host := "") hown (hw _ (List.mem_of_getElem? (i := 120) rfl)) Via.refl e2 (TT.1.ext O_3.2) (g := (mkF m 62 #[.val (.int q1), .val (.int ix), .val (.ref bf), .val (.int q1), .val (.int r1), .val (.int i2), .val (.int (0 : Int32))] [(.int i2), (.ref bf)])) rfl (hb hby d_jdk_33_method_12_code_62)
  obtain ⟨tb_4i, tb_4v⟩ := TT.2.2 r1 (by rw [ri1]; omega) (by rw [ri1]; omega)
  obtain ⟨cl4, Ar4, Qc4, Sz4, Ng4, Hs4, Ft4⟩ := id V2
  obtain ⟨T4, h4, X4, e4, W4, st4⟩ := stB X3 hx hZ e3 Ar4 (j := i2) (inb_of Sz4 b2) (g := (mkF m 68 #[.val (.int q1), .val (.int ix), .val (.ref bf), .val (.int q1), .val (.int r1), .val (.int i2), .val (.int (0 : Int32))] [(.int ((48 : Int32) + r1 / 10)), (.int i2), (.ref bf)])) rfl rfl (hb hby d_jdk_33_method_12_code_68)
  have N4 := Fr.snoc X4 N2 gb
  have U4 := Arv.set Ar4 Qc4 Sz4 Ng4 Hs4 Ft4 (fits_nar_byte _) W4 (ix.toNatClampNeg - 2) n2 (by simp only [List.length_set, hvl]; exact own_i hix2 2 (by decide))
  have V4 : Arv Z h4 bf kb .byte (16 : Int32) ((vs.set (ix.toNatClampNeg - 1) (.int (48 + p1 % 10))).set (ix.toNatClampNeg - 2) (.int (48 + p1 / 10 % 10))) (.int 0) := by rw [← hd2]; exact U4
  have K_5 : Keep h0 h4 [bf] := K_2.wr W4 (Or.inl (by simp))
  have Z_4 : n0 ≤ h4.size := by rw [W4.size]; exact Z_2
  have O_6 := (O_3.wr W4 gb)
  obtain ⟨T5, X5, e5, st5⟩ := getS X4 hx hZ (host := "") hown (hw _ (List.mem_of_getElem? (i := 71) rfl)) Via.refl e4 (TO.1.ext O_6.2) (g := (mkF m 78 #[.val (.int q1), .val (.int ix), .val (.ref bf), .val (.int q1), .val (.int r1), .val (.int i3), .val (.int (0 : Int32))] [(.int i3), (.ref bf)])) rfl (hb hby d_jdk_33_method_12_code_78)
  obtain ⟨tb_7i, tb_7v⟩ := TO.2.2 l0 (by rw [li]; omega) (by rw [li]; omega)
  obtain ⟨cl6, Ar6, Qc6, Sz6, Ng6, Hs6, Ft6⟩ := id V4
  obtain ⟨T6, h6, X6, e6, W6, st6⟩ := stB X5 hx hZ e5 Ar6 (j := i3) (inb_of Sz6 b3) (g := (mkF m 84 #[.val (.int q1), .val (.int ix), .val (.ref bf), .val (.int q1), .val (.int r1), .val (.int i3), .val (.int (0 : Int32))] [(.int ((48 : Int32) + l0 % 10)), (.int i3), (.ref bf)])) rfl rfl (hb hby d_jdk_33_method_12_code_84)
  have N6 := Fr.snoc X6 N4 gb
  have U6 := Arv.set Ar6 Qc6 Sz6 Ng6 Hs6 Ft6 (fits_nar_byte _) W6 (ix.toNatClampNeg - 3) n3 (by simp only [List.length_set, hvl]; exact own_i hix2 3 (by decide))
  have V6 : Arv Z h6 bf kb .byte (16 : Int32) (((vs.set (ix.toNatClampNeg - 1) (.int (48 + p1 % 10))).set (ix.toNatClampNeg - 2) (.int (48 + p1 / 10 % 10))).set (ix.toNatClampNeg - 3) (.int (48 + p1 / 100 % 10))) (.int 0) := by rw [← hd3]; exact U6
  have K_8 : Keep h0 h6 [bf] := K_5.wr W6 (Or.inl (by simp))
  have Z_6 : n0 ≤ h6.size := by rw [W6.size]; exact Z_4
  obtain ⟨fs, hr, hrun, hended, hW, hsame⟩ := X6.leave (v := (some (.int i3))) (fun h => by rw [Bd.returns] at h; cases h) (hlocks := hlk)
  refine ⟨_, _, pre0 _ ?_, hrun, hended, _, _, rfl, ?_, ⟨_, rfl⟩, hW, hsame.mono (by decide) (by decide)⟩
  · show Steps p.tables e below (s₁.setTop (mkF m 0 #[.val (.int p1), .val (.int ix), .val (.ref bf), .unset, .unset, .unset, .unset] [])) _
    refine XS.iloadN X0.here hx rfl (hb hby d_jdk_33_method_12_code_0) rfl ?_
    show Steps p.tables e below (s₁.setTop (mkF m 1 #[.val (.int p1), .val (.int ix), .val (.ref bf), .unset, .unset, .unset, .unset] [(.int ix)])) _
    refine XS.istore X0.here hx rfl (hb hby d_jdk_33_method_12_code_1) rfl (l' := #[.val (.int p1), .val (.int ix), .val (.ref bf), .unset, .unset, .val (.int ix), .unset]) rfl ?_
    show Steps p.tables e below (s₁.setTop (mkF m 3 #[.val (.int p1), .val (.int ix), .val (.ref bf), .unset, .unset, .val (.int ix), .unset] [])) _
    refine XS.iloadN X0.here hx rfl (hb hby d_jdk_33_method_12_code_3) rfl ?_
    show Steps p.tables e below (s₁.setTop (mkF m 4 #[.val (.int p1), .val (.int ix), .val (.ref bf), .unset, .unset, .val (.int ix), .unset] [(.int p1)])) _
    refine XS.ifYes X0.here hx rfl (pc0 := 4) (pc' := 11) rfl (hb hby d_jdk_33_method_12_code_4) rfl ((if0 _ _).trans (flt hp0).2.1) (by decide) (by decide) ?_
    show Steps p.tables e below (s₁.setTop (mkF m 11 #[.val (.int p1), .val (.int ix), .val (.ref bf), .unset, .unset, .val (.int ix), .unset] [])) _
    refine XT.iconstV X0.here hx rfl (0 : Int32) (hb hby d_jdk_33_method_12_code_11) (by decide) ?_
    show Steps p.tables e below (s₁.setTop (mkF m 12 #[.val (.int p1), .val (.int ix), .val (.ref bf), .unset, .unset, .val (.int ix), .unset] [(.int (0 : Int32))])) _
    refine XS.istore X0.here hx rfl (hb hby d_jdk_33_method_12_code_12) rfl (l' := #[.val (.int p1), .val (.int ix), .val (.ref bf), .unset, .unset, .val (.int ix), .val (.int (0 : Int32))]) rfl ?_
    show Steps p.tables e below (s₁.setTop (mkF m 14 #[.val (.int p1), .val (.int ix), .val (.ref bf), .unset, .unset, .val (.int ix), .val (.int (0 : Int32))] [])) _
    refine XS.iload X0.here hx rfl (hb hby d_jdk_33_method_12_code_14) rfl ?_
    show Steps p.tables e below (s₁.setTop (mkF m 16 #[.val (.int p1), .val (.int ix), .val (.ref bf), .unset, .unset, .val (.int ix), .val (.int (0 : Int32))] [(.int (0 : Int32))])) _
    refine XS.ifNo X0.here hx rfl (hb hby d_jdk_33_method_12_code_16) rfl (by decide) ?_
    show Steps p.tables e below (s₁.setTop (mkF m 19 #[.val (.int p1), .val (.int ix), .val (.ref bf), .unset, .unset, .val (.int ix), .val (.int (0 : Int32))] [])) _
    refine XS.iloadN X0.here hx rfl (hb hby d_jdk_33_method_12_code_19) rfl ?_
    show Steps p.tables e below (s₁.setTop (mkF m 20 #[.val (.int p1), .val (.int ix), .val (.ref bf), .unset, .unset, .val (.int ix), .val (.int (0 : Int32))] [(.int p1)])) _
    refine XS.ineg X0.here hx rfl (hb hby d_jdk_33_method_12_code_20) rfl ?_
    show Steps p.tables e below (s₁.setTop (mkF m 21 #[.val (.int p1), .val (.int ix), .val (.ref bf), .unset, .unset, .val (.int ix), .val (.int (0 : Int32))] [(.int (-p1))])) _
    rw [← hm0]
    show Steps p.tables e below (s₁.setTop (mkF m 21 #[.val (.int p1), .val (.int ix), .val (.ref bf), .unset, .unset, .val (.int ix), .val (.int (0 : Int32))] [(.int m0)])) _
    refine XS.istoreN X0.here hx rfl (hb hby d_jdk_33_method_12_code_21) rfl (l' := #[.val (.int m0), .val (.int ix), .val (.ref bf), .unset, .unset, .val (.int ix), .val (.int (0 : Int32))]) rfl ?_
    show Steps p.tables e below (s₁.setTop (mkF m 22 #[.val (.int m0), .val (.int ix), .val (.ref bf), .unset, .unset, .val (.int ix), .val (.int (0 : Int32))] [])) _
    refine XS.iloadN X0.here hx rfl (hb hby d_jdk_33_method_12_code_22) rfl ?_
    show Steps p.tables e below (s₁.setTop (mkF m 23 #[.val (.int m0), .val (.int ix), .val (.ref bf), .unset, .unset, .val (.int ix), .val (.int (0 : Int32))] [(.int m0)])) _
    refine XT.bipushV X0.here hx rfl (-100 : Int32) (hb hby d_jdk_33_method_12_code_23) (by decide) ?_
    show Steps p.tables e below (s₁.setTop (mkF m 25 #[.val (.int m0), .val (.int ix), .val (.ref bf), .unset, .unset, .val (.int ix), .val (.int (0 : Int32))] [(.int (-100 : Int32)), (.int m0)])) _
    refine XS.icmpNo X0.here hx rfl (hb hby d_jdk_33_method_12_code_25) rfl (flt (own_le (a := (-100 : Int32)) (b := m0) (by rw [ci1, own_m100]; omega))).2.2.1 ?_
    show Steps p.tables e below (s₁.setTop (mkF m 28 #[.val (.int m0), .val (.int ix), .val (.ref bf), .unset, .unset, .val (.int ix), .val (.int (0 : Int32))] [])) _
    refine XS.iloadN X0.here hx rfl (hb hby d_jdk_33_method_12_code_28) rfl ?_
    show Steps p.tables e below (s₁.setTop (mkF m 29 #[.val (.int m0), .val (.int ix), .val (.ref bf), .unset, .unset, .val (.int ix), .val (.int (0 : Int32))] [(.int m0)])) _
    refine XT.bipushV X0.here hx rfl (100 : Int32) (hb hby d_jdk_33_method_12_code_29) (by decide) ?_
    show Steps p.tables e below (s₁.setTop (mkF m 31 #[.val (.int m0), .val (.int ix), .val (.ref bf), .unset, .unset, .val (.int ix), .val (.int (0 : Int32))] [(.int (100 : Int32)), (.int m0)])) _
    refine XS.idiv X0.here hx rfl (hb hby d_jdk_33_method_12_code_31) rfl (by decide) ?_
    show Steps p.tables e below (s₁.setTop (mkF m 32 #[.val (.int m0), .val (.int ix), .val (.ref bf), .unset, .unset, .val (.int ix), .val (.int (0 : Int32))] [(.int (m0 / (100 : Int32)))])) _
    rw [← hq1]
    show Steps p.tables e below (s₁.setTop (mkF m 32 #[.val (.int m0), .val (.int ix), .val (.ref bf), .unset, .unset, .val (.int ix), .val (.int (0 : Int32))] [(.int q1)])) _
    refine XS.istoreN X0.here hx rfl (hb hby d_jdk_33_method_12_code_32) rfl (l' := #[.val (.int m0), .val (.int ix), .val (.ref bf), .val (.int q1), .unset, .val (.int ix), .val (.int (0 : Int32))]) rfl ?_
    show Steps p.tables e below (s₁.setTop (mkF m 33 #[.val (.int m0), .val (.int ix), .val (.ref bf), .val (.int q1), .unset, .val (.int ix), .val (.int (0 : Int32))] [])) _
    refine XS.iloadN X0.here hx rfl (hb hby d_jdk_33_method_12_code_33) rfl ?_
    show Steps p.tables e below (s₁.setTop (mkF m 34 #[.val (.int m0), .val (.int ix), .val (.ref bf), .val (.int q1), .unset, .val (.int ix), .val (.int (0 : Int32))] [(.int q1)])) _
    refine XT.bipushV X0.here hx rfl (100 : Int32) (hb hby d_jdk_33_method_12_code_34) (by decide) ?_
    show Steps p.tables e below (s₁.setTop (mkF m 36 #[.val (.int m0), .val (.int ix), .val (.ref bf), .val (.int q1), .unset, .val (.int ix), .val (.int (0 : Int32))] [(.int (100 : Int32)), (.int q1)])) _
    refine XS.imul X0.here hx rfl (hb hby d_jdk_33_method_12_code_36) rfl ?_
    show Steps p.tables e below (s₁.setTop (mkF m 37 #[.val (.int m0), .val (.int ix), .val (.ref bf), .val (.int q1), .unset, .val (.int ix), .val (.int (0 : Int32))] [(.int (q1 * (100 : Int32)))])) _
    refine XS.iloadN X0.here hx rfl (hb hby d_jdk_33_method_12_code_37) rfl ?_
    show Steps p.tables e below (s₁.setTop (mkF m 38 #[.val (.int m0), .val (.int ix), .val (.ref bf), .val (.int q1), .unset, .val (.int ix), .val (.int (0 : Int32))] [(.int m0), (.int (q1 * (100 : Int32)))])) _
    refine XS.isub X0.here hx rfl (hb hby d_jdk_33_method_12_code_38) rfl ?_
    show Steps p.tables e below (s₁.setTop (mkF m 39 #[.val (.int m0), .val (.int ix), .val (.ref bf), .val (.int q1), .unset, .val (.int ix), .val (.int (0 : Int32))] [(.int ((q1 * (100 : Int32)) - m0))])) _
    rw [← hr1]
    show Steps p.tables e below (s₁.setTop (mkF m 39 #[.val (.int m0), .val (.int ix), .val (.ref bf), .val (.int q1), .unset, .val (.int ix), .val (.int (0 : Int32))] [(.int r1)])) _
    refine XS.istore X0.here hx rfl (hb hby d_jdk_33_method_12_code_39) rfl (l' := #[.val (.int m0), .val (.int ix), .val (.ref bf), .val (.int q1), .val (.int r1), .val (.int ix), .val (.int (0 : Int32))]) rfl ?_
    show Steps p.tables e below (s₁.setTop (mkF m 41 #[.val (.int m0), .val (.int ix), .val (.ref bf), .val (.int q1), .val (.int r1), .val (.int ix), .val (.int (0 : Int32))] [])) _
    refine XS.iloadN X0.here hx rfl (hb hby d_jdk_33_method_12_code_41) rfl ?_
    show Steps p.tables e below (s₁.setTop (mkF m 42 #[.val (.int m0), .val (.int ix), .val (.ref bf), .val (.int q1), .val (.int r1), .val (.int ix), .val (.int (0 : Int32))] [(.int q1)])) _
    refine XS.istoreN X0.here hx rfl (hb hby d_jdk_33_method_12_code_42) rfl (l' := #[.val (.int q1), .val (.int ix), .val (.ref bf), .val (.int q1), .val (.int r1), .val (.int ix), .val (.int (0 : Int32))]) rfl ?_
    show Steps p.tables e below (s₁.setTop (mkF m 43 #[.val (.int q1), .val (.int ix), .val (.ref bf), .val (.int q1), .val (.int r1), .val (.int ix), .val (.int (0 : Int32))] [])) _
    refine XS.aloadN X0.here hx rfl (hb hby d_jdk_33_method_12_code_43) rfl rfl ?_
    show Steps p.tables e below (s₁.setTop (mkF m 44 #[.val (.int q1), .val (.int ix), .val (.ref bf), .val (.int q1), .val (.int r1), .val (.int ix), .val (.int (0 : Int32))] [(.ref bf)])) _
    refine XT.iincV X0.here hx rfl (-1 : Int32) (hb hby d_jdk_33_method_12_code_44) (by decide) rfl (l' := #[.val (.int q1), .val (.int ix), .val (.ref bf), .val (.int q1), .val (.int r1), .val (.int (ix + (-1 : Int32))), .val (.int (0 : Int32))]) rfl ?_
    show Steps p.tables e below (s₁.setTop (mkF m 47 #[.val (.int q1), .val (.int ix), .val (.ref bf), .val (.int q1), .val (.int r1), .val (.int (ix + (-1 : Int32))), .val (.int (0 : Int32))] [(.ref bf)])) _
    rw [← hi1]
    show Steps p.tables e below (s₁.setTop (mkF m 47 #[.val (.int q1), .val (.int ix), .val (.ref bf), .val (.int q1), .val (.int r1), .val (.int i1), .val (.int (0 : Int32))] [(.ref bf)])) _
    refine XS.iload X0.here hx rfl (hb hby d_jdk_33_method_12_code_47) rfl ?_
    show Steps p.tables e below (s₁.setTop (mkF m 49 #[.val (.int q1), .val (.int ix), .val (.ref bf), .val (.int q1), .val (.int r1), .val (.int i1), .val (.int (0 : Int32))] [(.int i1), (.ref bf)])) _
    refine st1 _ ?_
    show Steps p.tables e below (T1.setTop (mkF m 52 #[.val (.int q1), .val (.int ix), .val (.ref bf), .val (.int q1), .val (.int r1), .val (.int i1), .val (.int (0 : Int32))] [(.ref dO), (.int i1), (.ref bf)])) _
    refine XS.iload X1.here hx rfl (hb hby d_jdk_33_method_12_code_52) rfl ?_
    show Steps p.tables e below (T1.setTop (mkF m 54 #[.val (.int q1), .val (.int ix), .val (.ref bf), .val (.int q1), .val (.int r1), .val (.int i1), .val (.int (0 : Int32))] [(.int r1), (.ref dO), (.int i1), (.ref bf)])) _
    refine X1.baloadBytes hx (j := r1) (v := .int ((48 : Int32) + r1 % 10)) (by rw [e1]; exact X00.2.2 _ _ TO.2.1.1) (State.isArrayOf_alike hZ.alike TO.2.1.2.1) TO.2.1.2.2 tb_1i tb_1v (g := (mkF m 54 #[.val (.int q1), .val (.int ix), .val (.ref bf), .val (.int q1), .val (.int r1), .val (.int i1), .val (.int (0 : Int32))] [(.int r1), (.ref dO), (.int i1), (.ref bf)])) rfl rfl (hb hby d_jdk_33_method_12_code_54) _ ?_
    show Steps p.tables e below (T1.setTop (mkF m 55 #[.val (.int q1), .val (.int ix), .val (.ref bf), .val (.int q1), .val (.int r1), .val (.int i1), .val (.int (0 : Int32))] [(.int ((48 : Int32) + r1 % 10)), (.int i1), (.ref bf)])) _
    refine st2 _ ?_
    show Steps p.tables e below (T2.setTop (mkF m 56 #[.val (.int q1), .val (.int ix), .val (.ref bf), .val (.int q1), .val (.int r1), .val (.int i1), .val (.int (0 : Int32))] [])) _
    refine XS.aloadN X2.here hx rfl (hb hby d_jdk_33_method_12_code_56) rfl rfl ?_
    show Steps p.tables e below (T2.setTop (mkF m 57 #[.val (.int q1), .val (.int ix), .val (.ref bf), .val (.int q1), .val (.int r1), .val (.int i1), .val (.int (0 : Int32))] [(.ref bf)])) _
    refine XT.iincV X2.here hx rfl (-1 : Int32) (hb hby d_jdk_33_method_12_code_57) (by decide) rfl (l' := #[.val (.int q1), .val (.int ix), .val (.ref bf), .val (.int q1), .val (.int r1), .val (.int (i1 + (-1 : Int32))), .val (.int (0 : Int32))]) rfl ?_
    show Steps p.tables e below (T2.setTop (mkF m 60 #[.val (.int q1), .val (.int ix), .val (.ref bf), .val (.int q1), .val (.int r1), .val (.int (i1 + (-1 : Int32))), .val (.int (0 : Int32))] [(.ref bf)])) _
    rw [← hi2]
    show Steps p.tables e below (T2.setTop (mkF m 60 #[.val (.int q1), .val (.int ix), .val (.ref bf), .val (.int q1), .val (.int r1), .val (.int i2), .val (.int (0 : Int32))] [(.ref bf)])) _
    refine XS.iload X2.here hx rfl (hb hby d_jdk_33_method_12_code_60) rfl ?_
    show Steps p.tables e below (T2.setTop (mkF m 62 #[.val (.int q1), .val (.int ix), .val (.ref bf), .val (.int q1), .val (.int r1), .val (.int i2), .val (.int (0 : Int32))] [(.int i2), (.ref bf)])) _
    refine st3 _ ?_
    show Steps p.tables e below (T3.setTop (mkF m 65 #[.val (.int q1), .val (.int ix), .val (.ref bf), .val (.int q1), .val (.int r1), .val (.int i2), .val (.int (0 : Int32))] [(.ref dT), (.int i2), (.ref bf)])) _
    refine XS.iload X3.here hx rfl (hb hby d_jdk_33_method_12_code_65) rfl ?_
    show Steps p.tables e below (T3.setTop (mkF m 67 #[.val (.int q1), .val (.int ix), .val (.ref bf), .val (.int q1), .val (.int r1), .val (.int i2), .val (.int (0 : Int32))] [(.int r1), (.ref dT), (.int i2), (.ref bf)])) _
    refine X3.baloadBytes hx (j := r1) (v := .int ((48 : Int32) + r1 / 10)) (by rw [e3]; exact O_3.2.2 _ _ TT.2.1.1) (State.isArrayOf_alike hZ.alike TT.2.1.2.1) TT.2.1.2.2 tb_4i tb_4v (g := (mkF m 67 #[.val (.int q1), .val (.int ix), .val (.ref bf), .val (.int q1), .val (.int r1), .val (.int i2), .val (.int (0 : Int32))] [(.int r1), (.ref dT), (.int i2), (.ref bf)])) rfl rfl (hb hby d_jdk_33_method_12_code_67) _ ?_
    show Steps p.tables e below (T3.setTop (mkF m 68 #[.val (.int q1), .val (.int ix), .val (.ref bf), .val (.int q1), .val (.int r1), .val (.int i2), .val (.int (0 : Int32))] [(.int ((48 : Int32) + r1 / 10)), (.int i2), (.ref bf)])) _
    refine st4 _ ?_
    show Steps p.tables e below (T4.setTop (mkF m 69 #[.val (.int q1), .val (.int ix), .val (.ref bf), .val (.int q1), .val (.int r1), .val (.int i2), .val (.int (0 : Int32))] [])) _
    refine XS.goto X4.here hx rfl (pc0 := 69) (pc' := 22) rfl (hb hby d_jdk_33_method_12_code_69) (by decide) (by decide) ?_
    show Steps p.tables e below (T4.setTop (mkF m 22 #[.val (.int q1), .val (.int ix), .val (.ref bf), .val (.int q1), .val (.int r1), .val (.int i2), .val (.int (0 : Int32))] [])) _
    refine XS.iloadN X4.here hx rfl (hb hby d_jdk_33_method_12_code_22) rfl ?_
    show Steps p.tables e below (T4.setTop (mkF m 23 #[.val (.int q1), .val (.int ix), .val (.ref bf), .val (.int q1), .val (.int r1), .val (.int i2), .val (.int (0 : Int32))] [(.int q1)])) _
    refine XT.bipushV X4.here hx rfl (-100 : Int32) (hb hby d_jdk_33_method_12_code_23) (by decide) ?_
    show Steps p.tables e below (T4.setTop (mkF m 25 #[.val (.int q1), .val (.int ix), .val (.ref bf), .val (.int q1), .val (.int r1), .val (.int i2), .val (.int (0 : Int32))] [(.int (-100 : Int32)), (.int q1)])) _
    refine XS.icmpYes X4.here hx rfl (pc0 := 25) (pc' := 72) rfl (hb hby d_jdk_33_method_12_code_25) rfl (tlt (own_lt (a := (-100 : Int32)) (b := q1) (by rw [ci2, own_m100]; omega))).2.2.1 (by decide) (by decide) ?_
    show Steps p.tables e below (T4.setTop (mkF m 72 #[.val (.int q1), .val (.int ix), .val (.ref bf), .val (.int q1), .val (.int r1), .val (.int i2), .val (.int (0 : Int32))] [])) _
    refine XS.aloadN X4.here hx rfl (hb hby d_jdk_33_method_12_code_72) rfl rfl ?_
    show Steps p.tables e below (T4.setTop (mkF m 73 #[.val (.int q1), .val (.int ix), .val (.ref bf), .val (.int q1), .val (.int r1), .val (.int i2), .val (.int (0 : Int32))] [(.ref bf)])) _
    refine XT.iincV X4.here hx rfl (-1 : Int32) (hb hby d_jdk_33_method_12_code_73) (by decide) rfl (l' := #[.val (.int q1), .val (.int ix), .val (.ref bf), .val (.int q1), .val (.int r1), .val (.int (i2 + (-1 : Int32))), .val (.int (0 : Int32))]) rfl ?_
    show Steps p.tables e below (T4.setTop (mkF m 76 #[.val (.int q1), .val (.int ix), .val (.ref bf), .val (.int q1), .val (.int r1), .val (.int (i2 + (-1 : Int32))), .val (.int (0 : Int32))] [(.ref bf)])) _
    rw [← hi3]
    show Steps p.tables e below (T4.setTop (mkF m 76 #[.val (.int q1), .val (.int ix), .val (.ref bf), .val (.int q1), .val (.int r1), .val (.int i3), .val (.int (0 : Int32))] [(.ref bf)])) _
    refine XS.iload X4.here hx rfl (hb hby d_jdk_33_method_12_code_76) rfl ?_
    show Steps p.tables e below (T4.setTop (mkF m 78 #[.val (.int q1), .val (.int ix), .val (.ref bf), .val (.int q1), .val (.int r1), .val (.int i3), .val (.int (0 : Int32))] [(.int i3), (.ref bf)])) _
    refine st5 _ ?_
    show Steps p.tables e below (T5.setTop (mkF m 81 #[.val (.int q1), .val (.int ix), .val (.ref bf), .val (.int q1), .val (.int r1), .val (.int i3), .val (.int (0 : Int32))] [(.ref dO), (.int i3), (.ref bf)])) _
    refine XS.iloadN X5.here hx rfl (hb hby d_jdk_33_method_12_code_81) rfl ?_
    show Steps p.tables e below (T5.setTop (mkF m 82 #[.val (.int q1), .val (.int ix), .val (.ref bf), .val (.int q1), .val (.int r1), .val (.int i3), .val (.int (0 : Int32))] [(.int q1), (.ref dO), (.int i3), (.ref bf)])) _
    refine XS.ineg X5.here hx rfl (hb hby d_jdk_33_method_12_code_82) rfl ?_
    show Steps p.tables e below (T5.setTop (mkF m 83 #[.val (.int q1), .val (.int ix), .val (.ref bf), .val (.int q1), .val (.int r1), .val (.int i3), .val (.int (0 : Int32))] [(.int (-q1)), (.ref dO), (.int i3), (.ref bf)])) _
    rw [← hl0]
    show Steps p.tables e below (T5.setTop (mkF m 83 #[.val (.int q1), .val (.int ix), .val (.ref bf), .val (.int q1), .val (.int r1), .val (.int i3), .val (.int (0 : Int32))] [(.int l0), (.ref dO), (.int i3), (.ref bf)])) _
    refine X5.baloadBytes hx (j := l0) (v := .int ((48 : Int32) + l0 % 10)) (by rw [e5]; exact O_6.2.2 _ _ TO.2.1.1) (State.isArrayOf_alike hZ.alike TO.2.1.2.1) TO.2.1.2.2 tb_7i tb_7v (g := (mkF m 83 #[.val (.int q1), .val (.int ix), .val (.ref bf), .val (.int q1), .val (.int r1), .val (.int i3), .val (.int (0 : Int32))] [(.int l0), (.ref dO), (.int i3), (.ref bf)])) rfl rfl (hb hby d_jdk_33_method_12_code_83) _ ?_
    show Steps p.tables e below (T5.setTop (mkF m 84 #[.val (.int q1), .val (.int ix), .val (.ref bf), .val (.int q1), .val (.int r1), .val (.int i3), .val (.int (0 : Int32))] [(.int ((48 : Int32) + l0 % 10)), (.int i3), (.ref bf)])) _
    refine st6 _ ?_
    show Steps p.tables e below (T6.setTop (mkF m 85 #[.val (.int q1), .val (.int ix), .val (.ref bf), .val (.int q1), .val (.int r1), .val (.int i3), .val (.int (0 : Int32))] [])) _
    refine XS.iloadN X6.here hx rfl (hb hby d_jdk_33_method_12_code_85) rfl ?_
    show Steps p.tables e below (T6.setTop (mkF m 86 #[.val (.int q1), .val (.int ix), .val (.ref bf), .val (.int q1), .val (.int r1), .val (.int i3), .val (.int (0 : Int32))] [(.int q1)])) _
    refine XT.bipushV X6.here hx rfl (-9 : Int32) (hb hby d_jdk_33_method_12_code_86) (by decide) ?_
    show Steps p.tables e below (T6.setTop (mkF m 88 #[.val (.int q1), .val (.int ix), .val (.ref bf), .val (.int q1), .val (.int r1), .val (.int i3), .val (.int (0 : Int32))] [(.int (-9 : Int32)), (.int q1)])) _
    refine XS.icmpYes X6.here hx rfl (pc0 := 88) (pc' := 104) rfl (hb hby d_jdk_33_method_12_code_88) rfl (flt (own_le (a := q1) (b := (-9 : Int32)) (by rw [ci2, own_m9]; omega))).2.1 (by decide) (by decide) ?_
    show Steps p.tables e below (T6.setTop (mkF m 104 #[.val (.int q1), .val (.int ix), .val (.ref bf), .val (.int q1), .val (.int r1), .val (.int i3), .val (.int (0 : Int32))] [])) _
    refine XS.iload X6.here hx rfl (hb hby d_jdk_33_method_12_code_104) rfl ?_
    show Steps p.tables e below (T6.setTop (mkF m 106 #[.val (.int q1), .val (.int ix), .val (.ref bf), .val (.int q1), .val (.int r1), .val (.int i3), .val (.int (0 : Int32))] [(.int (0 : Int32))])) _
    refine XS.ifYes X6.here hx rfl (pc0 := 106) (pc' := 118) rfl (hb hby d_jdk_33_method_12_code_106) rfl (by decide) (by decide) (by decide) ?_
    show Steps p.tables e below (T6.setTop (mkF m 118 #[.val (.int q1), .val (.int ix), .val (.ref bf), .val (.int q1), .val (.int r1), .val (.int i3), .val (.int (0 : Int32))] [])) _
    refine XS.iload X6.here hx rfl (hb hby d_jdk_33_method_12_code_118) rfl ?_
    show Steps p.tables e below (T6.setTop (mkF m 120 #[.val (.int q1), .val (.int ix), .val (.ref bf), .val (.int q1), .val (.int r1), .val (.int i3), .val (.int (0 : Int32))] [(.int i3)])) _
    exact retI X6 hx Bd.returns (hb hby d_jdk_33_method_12_code_120) hr
  · refine ⟨by rw [hret], N6, ?_, ?_⟩
    · show Keep h0 T6.heap _; rw [e6]; exact K_8
    · show Arv Z T6.heap _ _ _ _ _ _; rw [e6, own_gcE3 ⟨hlo, hhi⟩]; exact V6
def Q_gc_4 (Z : State) (p1 ix : Int32) (bf : Addr) (kb : ClassId) (vs : List Value) (dO dT : Addr) (cO cT : Cell) (h0 : Heap) (n0 : Nat) (v : Option Value) (h : Heap) (L : List Loc) : Prop := v = some (.int (ix - own_sz p1)) ∧ Fr n0 L ∧ Keep h0 h [bf] ∧ Arv Z h bf kb .byte (16 : Int32) (own_gc vs ix.toNatClampNeg p1) (.int 0)
set_option maxRecDepth 65536 in
set_option maxHeartbeats 40000000 in
theorem gc_4 (l : Launch) (Z : State) (a0 : Array Value) (hw : ∀ d ∈ tables_1, d.before a0 Z = true) (ws : List Jvm.Cond) (p1 ix : Int32) (bf : Addr) (kb : ClassId) (vs : List Value) (dO dT : Addr) (cO cT : Cell) (h0 : Heap) (n0 : Nat) (Z0 : n0 ≤ h0.size) (X00 : Old Z n0 h0)(TO : own_O Z dO cO) (TT : own_T Z dT cT)(Vb : Arv Z h0 bf kb .byte (16 : Int32) vs (.int 0)) (gb : n0 ≤ bf) (hvl : vs.length = 16) (hix1 : (own_sz p1).toInt ≤ ix.toInt) (hix2 : ix.toInt ≤ 16)(hlo : 1000 ≤ p1.toInt) (hhi : p1.toInt < 10000) :
    MetFree l (⟨"java/lang/Integer", "getChars", "(II[B)I"⟩ : MethodName) (head1 (Jvm.Cond.code (⟨"java/lang/Integer", "getChars", "(II[B)I"⟩ : MethodName) jdk_33_method_12_code 7 (Option.some Jvm.ClassFile.FieldType.int) :: ws) ({ frames := 0, cells := 0, slots := 0, locals := 0 } : Room)) (fun a U => a = #[(.int p1), (.int ix), (.ref bf)] ∧ Z.Warmed39 U.vm ∧ U.heap = h0) (fun _ _ _ _ _ => True) (fun _ U o U' => ∃ v L, o = .returned v ∧ Q_gc_4 Z p1 ix bf kb vs dO dT cO cT h0 n0 v U'.heap L ∧ FrameEnd U o U' L ({ frames := 0, cells := 0, slots := 0, locals := 0 } : Room).cells ({ frames := 0, cells := 0, slots := 0, locals := 0 } : Room).slots) := by
  refine MetFree.of_bodySF (plainFor_of_name pn_46) hisR ?_
  intro p e s m args below meth c s₁ Bd hml0 hP hK
  obtain ⟨rfl, hZ, hh⟩ := hP
  have hx := Bd.exec
  have hby := Bd.bytes
  have hml : c.maxLocals = 7 := hml0
  have hown : s.vm.findClass "java/lang/Integer" = some m.cls := findClass_of_methodNamed Bd.named
  have hnm := (name_of_methodNamed Bd.named Bd.method).1
  have X0 : Stand p l e ({ frames := 0, cells := 0, slots := 0, locals := 0 } : Room) s m #[(.int p1), (.int ix), (.ref bf)] below meth c s₁ [] 0 0 := Stand.of_body Bd
  have e0 : s₁.heap = h0 := by rw [← hh, Bd.state]; rfl
  have N0 := Fr.nil n0
  have hlk : meth.locks = false := BodyLoose.notSynchronized Bd
  have pre0 : ∀ t, Steps p.tables e below (s₁.setTop (mkF m 0 #[.val (.int p1), .val (.int ix), .val (.ref bf), .unset, .unset, .unset, .unset] [])) t → Steps p.tables e below (s₁.setTop (entryFrame m #[(.int p1), (.int ix), (.ref bf)] 7)) t := fun t k => castTop (ef_112 m p1 ix bf) k
  have hsz : own_sz p1 = (4 : Int32) := own_szE4 ⟨hlo, hhi⟩
  have hix : 4 ≤ ix.toInt := by rw [hsz] at hix1; exact hix1
  clear hix1
  have hp0 : ¬ p1 < 0 := own_le (a := p1) (b := 0) (by rw [own_p0]; omega)
  obtain ⟨m0, hm0⟩ : ∃ z, z = -p1 := ⟨_, rfl⟩
  have ci1 : m0.toInt = -p1.toInt := by rw [hm0]; exact own_neg p1 (by omega)
  obtain ⟨q1, hq1⟩ : ∃ z, z = m0 / (100 : Int32) := ⟨_, rfl⟩
  have ci2 : q1.toInt = -(p1.toInt / 100) := by rw [hq1]; exact own_q ci1 (by omega) (by omega)
  obtain ⟨r1, hr1⟩ : ∃ z, z = q1 * (100 : Int32) - m0 := ⟨_, rfl⟩
  have ri1 : r1.toInt = p1.toInt % 100 := by rw [hr1]; exact own_r ci1 ci2 (by omega) (by omega)
  obtain ⟨l0, hl0⟩ : ∃ z, z = -q1 := ⟨_, rfl⟩
  have li : l0.toInt = p1.toInt / 100 := by rw [hl0, own_neg' q1 (by rw [ci2]; omega), ci2]; omega
  have hd1 : nar .byte ((48 : Int32) + r1 % 10) = 48 + p1 % 10 := own_nar (by rw [own_oneI r1 (by rw [ri1]; omega) (by rw [ri1]; omega), ri1, own_dg0 p1 (by omega)]; try omega) (by rw [own_dg0 p1 (by omega)]; omega) (by rw [own_dg0 p1 (by omega)]; omega)
  have hd2 : nar .byte ((48 : Int32) + r1 / 10) = 48 + p1 / 10 % 10 := own_nar (by rw [own_tenI r1 (by rw [ri1]; omega) (by rw [ri1]; omega), ri1, own_dg p1 10 10 rfl (by decide) (by omega) (by omega)]; try omega) (by rw [own_dg p1 10 10 rfl (by decide) (by omega) (by omega)]; omega) (by rw [own_dg p1 10 10 rfl (by decide) (by omega) (by omega)]; omega)
  have hd3 : nar .byte ((48 : Int32) + l0 % 10) = 48 + p1 / 100 % 10 := own_nar (by rw [own_oneI l0 (by rw [li]; omega) (by rw [li]; omega), li, own_dg p1 100 100 rfl (by decide) (by omega) (by omega)]; try omega) (by rw [own_dg p1 100 100 rfl (by decide) (by omega) (by omega)]; omega) (by rw [own_dg p1 100 100 rfl (by decide) (by omega) (by omega)]; omega)
  have hd4 : nar .byte ((48 : Int32) + l0 / 10) = 48 + p1 / 1000 % 10 := own_nar (by rw [own_tenI l0 (by rw [li]; omega) (by rw [li]; omega), li, own_dg p1 1000 1000 rfl (by decide) (by omega) (by omega)]; try omega) (by rw [own_dg p1 1000 1000 rfl (by decide) (by omega) (by omega)]; omega) (by rw [own_dg p1 1000 1000 rfl (by decide) (by omega) (by omega)]; omega)
  obtain ⟨i1, hi1⟩ : ∃ z, z = ix + (-1 : Int32) := ⟨_, rfl⟩
  have j1 : i1.toInt = ix.toInt - 1 := by rw [hi1]; exact own_dec' rfl (by omega)
  have b1 : ¬ i1 < 0 ∧ i1 < 16 := own_b j1 (by omega) (by omega)
  have n1 : i1.toNatClampNeg = ix.toNatClampNeg - 1 := own_tn (t := 1) j1 (by omega)
  obtain ⟨i2, hi2⟩ : ∃ z, z = i1 + (-1 : Int32) := ⟨_, rfl⟩
  have j2 : i2.toInt = ix.toInt - 2 := by rw [hi2]; exact (own_dec' j1 (by omega)).trans (own_ss ix.toInt 1)
  have b2 : ¬ i2 < 0 ∧ i2 < 16 := own_b j2 (by omega) (by omega)
  have n2 : i2.toNatClampNeg = ix.toNatClampNeg - 2 := own_tn (t := 2) j2 (by omega)
  obtain ⟨i3, hi3⟩ : ∃ z, z = i2 + (-1 : Int32) := ⟨_, rfl⟩
  have j3 : i3.toInt = ix.toInt - 3 := by rw [hi3]; exact (own_dec' j2 (by omega)).trans (own_ss ix.toInt 2)
  have b3 : ¬ i3 < 0 ∧ i3 < 16 := own_b j3 (by omega) (by omega)
  have n3 : i3.toNatClampNeg = ix.toNatClampNeg - 3 := own_tn (t := 3) j3 (by omega)
  obtain ⟨i4, hi4⟩ : ∃ z, z = i3 + (-1 : Int32) := ⟨_, rfl⟩
  have j4 : i4.toInt = ix.toInt - 4 := by rw [hi4]; exact (own_dec' j3 (by omega)).trans (own_ss ix.toInt 3)
  have b4 : ¬ i4 < 0 ∧ i4 < 16 := own_b j4 (by omega) (by omega)
  have n4 : i4.toNatClampNeg = ix.toNatClampNeg - 4 := own_tn (t := 4) j4 (by omega)
  have hret : i4 = ix - own_sz p1 := by rw [hsz]; exact Int32.toInt_inj.mp (by rw [j4]; exact (own_sbd ix 4 4 rfl (by omega) (by omega)).symm)
  have K0 : Keep h0 h0 [bf] := Keep.refl h0 _
  obtain ⟨T1, X1, e1, st1⟩ := getS X0 hx hZ (host := "") hown (hw _ (List.mem_of_getElem? (i := 71) rfl)) Via.refl e0 (TO.1.ext X00.2) (g := (mkF m 49 #[.val (.int q1), .val (.int ix), .val (.ref bf), .val (.int q1), .val (.int r1), .val (.int i1), .val (.int (0 : Int32))] [(.int i1), (.ref bf)])) rfl (hb hby d_jdk_33_method_12_code_49)
  obtain ⟨tb_1i, tb_1v⟩ := TO.2.2 r1 (by rw [ri1]; omega) (by rw [ri1]; omega)
  obtain ⟨cl2, Ar2, Qc2, Sz2, Ng2, Hs2, Ft2⟩ := id Vb
  obtain ⟨T2, h2, X2, e2, W2, st2⟩ := stB X1 hx hZ e1 Ar2 (j := i1) (inb_of Sz2 b1) (g := (mkF m 55 #[.val (.int q1), .val (.int ix), .val (.ref bf), .val (.int q1), .val (.int r1), .val (.int i1), .val (.int (0 : Int32))] [(.int ((48 : Int32) + r1 % 10)), (.int i1), (.ref bf)])) rfl rfl (hb hby d_jdk_33_method_12_code_55)
  have N2 := Fr.snoc X2 N0 gb
  have U2 := Arv.set Ar2 Qc2 Sz2 Ng2 Hs2 Ft2 (fits_nar_byte _) W2 (ix.toNatClampNeg - 1) n1 (by simp only [List.length_set, hvl]; exact own_i hix2 1 (by decide))
  have V2 : Arv Z h2 bf kb .byte (16 : Int32) (vs.set (ix.toNatClampNeg - 1) (.int (48 + p1 % 10))) (.int 0) := by rw [← hd1]; exact U2
  have K_2 : Keep h0 h2 [bf] := K0.wr W2 (Or.inl (by simp))
  have Z_2 : n0 ≤ h2.size := by rw [W2.size]; exact Z0
  have O_3 := (X00.wr W2 gb)
  obtain ⟨T3, X3, e3, st3⟩ := getS X2 hx hZ (host := "") hown (hw _ (List.mem_of_getElem? (i := 120) rfl)) Via.refl e2 (TT.1.ext O_3.2) (g := (mkF m 62 #[.val (.int q1), .val (.int ix), .val (.ref bf), .val (.int q1), .val (.int r1), .val (.int i2), .val (.int (0 : Int32))] [(.int i2), (.ref bf)])) rfl (hb hby d_jdk_33_method_12_code_62)
  obtain ⟨tb_4i, tb_4v⟩ := TT.2.2 r1 (by rw [ri1]; omega) (by rw [ri1]; omega)
  obtain ⟨cl4, Ar4, Qc4, Sz4, Ng4, Hs4, Ft4⟩ := id V2
  obtain ⟨T4, h4, X4, e4, W4, st4⟩ := stB X3 hx hZ e3 Ar4 (j := i2) (inb_of Sz4 b2) (g := (mkF m 68 #[.val (.int q1), .val (.int ix), .val (.ref bf), .val (.int q1), .val (.int r1), .val (.int i2), .val (.int (0 : Int32))] [(.int ((48 : Int32) + r1 / 10)), (.int i2), (.ref bf)])) rfl rfl (hb hby d_jdk_33_method_12_code_68)
  have N4 := Fr.snoc X4 N2 gb
  have U4 := Arv.set Ar4 Qc4 Sz4 Ng4 Hs4 Ft4 (fits_nar_byte _) W4 (ix.toNatClampNeg - 2) n2 (by simp only [List.length_set, hvl]; exact own_i hix2 2 (by decide))
  have V4 : Arv Z h4 bf kb .byte (16 : Int32) ((vs.set (ix.toNatClampNeg - 1) (.int (48 + p1 % 10))).set (ix.toNatClampNeg - 2) (.int (48 + p1 / 10 % 10))) (.int 0) := by rw [← hd2]; exact U4
  have K_5 : Keep h0 h4 [bf] := K_2.wr W4 (Or.inl (by simp))
  have Z_4 : n0 ≤ h4.size := by rw [W4.size]; exact Z_2
  have O_6 := (O_3.wr W4 gb)
  obtain ⟨T5, X5, e5, st5⟩ := getS X4 hx hZ (host := "") hown (hw _ (List.mem_of_getElem? (i := 71) rfl)) Via.refl e4 (TO.1.ext O_6.2) (g := (mkF m 78 #[.val (.int q1), .val (.int ix), .val (.ref bf), .val (.int q1), .val (.int r1), .val (.int i3), .val (.int (0 : Int32))] [(.int i3), (.ref bf)])) rfl (hb hby d_jdk_33_method_12_code_78)
  obtain ⟨tb_7i, tb_7v⟩ := TO.2.2 l0 (by rw [li]; omega) (by rw [li]; omega)
  obtain ⟨cl6, Ar6, Qc6, Sz6, Ng6, Hs6, Ft6⟩ := id V4
  obtain ⟨T6, h6, X6, e6, W6, st6⟩ := stB X5 hx hZ e5 Ar6 (j := i3) (inb_of Sz6 b3) (g := (mkF m 84 #[.val (.int q1), .val (.int ix), .val (.ref bf), .val (.int q1), .val (.int r1), .val (.int i3), .val (.int (0 : Int32))] [(.int ((48 : Int32) + l0 % 10)), (.int i3), (.ref bf)])) rfl rfl (hb hby d_jdk_33_method_12_code_84)
  have N6 := Fr.snoc X6 N4 gb
  have U6 := Arv.set Ar6 Qc6 Sz6 Ng6 Hs6 Ft6 (fits_nar_byte _) W6 (ix.toNatClampNeg - 3) n3 (by simp only [List.length_set, hvl]; exact own_i hix2 3 (by decide))
  have V6 : Arv Z h6 bf kb .byte (16 : Int32) (((vs.set (ix.toNatClampNeg - 1) (.int (48 + p1 % 10))).set (ix.toNatClampNeg - 2) (.int (48 + p1 / 10 % 10))).set (ix.toNatClampNeg - 3) (.int (48 + p1 / 100 % 10))) (.int 0) := by rw [← hd3]; exact U6
  have K_8 : Keep h0 h6 [bf] := K_5.wr W6 (Or.inl (by simp))
  have Z_6 : n0 ≤ h6.size := by rw [W6.size]; exact Z_4
  have O_9 := (O_6.wr W6 gb)
  obtain ⟨T7, X7, e7, st7⟩ := getS X6 hx hZ (host := "") hown (hw _ (List.mem_of_getElem? (i := 120) rfl)) Via.refl e6 (TT.1.ext O_9.2) (g := (mkF m 97 #[.val (.int q1), .val (.int ix), .val (.ref bf), .val (.int q1), .val (.int r1), .val (.int i4), .val (.int (0 : Int32))] [(.int i4), (.ref bf)])) rfl (hb hby d_jdk_33_method_12_code_97)
  obtain ⟨tb_10i, tb_10v⟩ := TT.2.2 l0 (by rw [li]; omega) (by rw [li]; omega)
  obtain ⟨cl8, Ar8, Qc8, Sz8, Ng8, Hs8, Ft8⟩ := id V6
  obtain ⟨T8, h8, X8, e8, W8, st8⟩ := stB X7 hx hZ e7 Ar8 (j := i4) (inb_of Sz8 b4) (g := (mkF m 103 #[.val (.int q1), .val (.int ix), .val (.ref bf), .val (.int q1), .val (.int r1), .val (.int i4), .val (.int (0 : Int32))] [(.int ((48 : Int32) + l0 / 10)), (.int i4), (.ref bf)])) rfl rfl (hb hby d_jdk_33_method_12_code_103)
  have N8 := Fr.snoc X8 N6 gb
  have U8 := Arv.set Ar8 Qc8 Sz8 Ng8 Hs8 Ft8 (fits_nar_byte _) W8 (ix.toNatClampNeg - 4) n4 (by simp only [List.length_set, hvl]; exact own_i hix2 4 (by decide))
  have V8 : Arv Z h8 bf kb .byte (16 : Int32) ((((vs.set (ix.toNatClampNeg - 1) (.int (48 + p1 % 10))).set (ix.toNatClampNeg - 2) (.int (48 + p1 / 10 % 10))).set (ix.toNatClampNeg - 3) (.int (48 + p1 / 100 % 10))).set (ix.toNatClampNeg - 4) (.int (48 + p1 / 1000 % 10))) (.int 0) := by rw [← hd4]; exact U8
  have K_11 : Keep h0 h8 [bf] := K_8.wr W8 (Or.inl (by simp))
  have Z_8 : n0 ≤ h8.size := by rw [W8.size]; exact Z_6
  obtain ⟨fs, hr, hrun, hended, hW, hsame⟩ := X8.leave (v := (some (.int i4))) (fun h => by rw [Bd.returns] at h; cases h) (hlocks := hlk)
  refine ⟨_, _, pre0 _ ?_, hrun, hended, _, _, rfl, ?_, ⟨_, rfl⟩, hW, hsame.mono (by decide) (by decide)⟩
  · show Steps p.tables e below (s₁.setTop (mkF m 0 #[.val (.int p1), .val (.int ix), .val (.ref bf), .unset, .unset, .unset, .unset] [])) _
    refine XS.iloadN X0.here hx rfl (hb hby d_jdk_33_method_12_code_0) rfl ?_
    show Steps p.tables e below (s₁.setTop (mkF m 1 #[.val (.int p1), .val (.int ix), .val (.ref bf), .unset, .unset, .unset, .unset] [(.int ix)])) _
    refine XS.istore X0.here hx rfl (hb hby d_jdk_33_method_12_code_1) rfl (l' := #[.val (.int p1), .val (.int ix), .val (.ref bf), .unset, .unset, .val (.int ix), .unset]) rfl ?_
    show Steps p.tables e below (s₁.setTop (mkF m 3 #[.val (.int p1), .val (.int ix), .val (.ref bf), .unset, .unset, .val (.int ix), .unset] [])) _
    refine XS.iloadN X0.here hx rfl (hb hby d_jdk_33_method_12_code_3) rfl ?_
    show Steps p.tables e below (s₁.setTop (mkF m 4 #[.val (.int p1), .val (.int ix), .val (.ref bf), .unset, .unset, .val (.int ix), .unset] [(.int p1)])) _
    refine XS.ifYes X0.here hx rfl (pc0 := 4) (pc' := 11) rfl (hb hby d_jdk_33_method_12_code_4) rfl ((if0 _ _).trans (flt hp0).2.1) (by decide) (by decide) ?_
    show Steps p.tables e below (s₁.setTop (mkF m 11 #[.val (.int p1), .val (.int ix), .val (.ref bf), .unset, .unset, .val (.int ix), .unset] [])) _
    refine XT.iconstV X0.here hx rfl (0 : Int32) (hb hby d_jdk_33_method_12_code_11) (by decide) ?_
    show Steps p.tables e below (s₁.setTop (mkF m 12 #[.val (.int p1), .val (.int ix), .val (.ref bf), .unset, .unset, .val (.int ix), .unset] [(.int (0 : Int32))])) _
    refine XS.istore X0.here hx rfl (hb hby d_jdk_33_method_12_code_12) rfl (l' := #[.val (.int p1), .val (.int ix), .val (.ref bf), .unset, .unset, .val (.int ix), .val (.int (0 : Int32))]) rfl ?_
    show Steps p.tables e below (s₁.setTop (mkF m 14 #[.val (.int p1), .val (.int ix), .val (.ref bf), .unset, .unset, .val (.int ix), .val (.int (0 : Int32))] [])) _
    refine XS.iload X0.here hx rfl (hb hby d_jdk_33_method_12_code_14) rfl ?_
    show Steps p.tables e below (s₁.setTop (mkF m 16 #[.val (.int p1), .val (.int ix), .val (.ref bf), .unset, .unset, .val (.int ix), .val (.int (0 : Int32))] [(.int (0 : Int32))])) _
    refine XS.ifNo X0.here hx rfl (hb hby d_jdk_33_method_12_code_16) rfl (by decide) ?_
    show Steps p.tables e below (s₁.setTop (mkF m 19 #[.val (.int p1), .val (.int ix), .val (.ref bf), .unset, .unset, .val (.int ix), .val (.int (0 : Int32))] [])) _
    refine XS.iloadN X0.here hx rfl (hb hby d_jdk_33_method_12_code_19) rfl ?_
    show Steps p.tables e below (s₁.setTop (mkF m 20 #[.val (.int p1), .val (.int ix), .val (.ref bf), .unset, .unset, .val (.int ix), .val (.int (0 : Int32))] [(.int p1)])) _
    refine XS.ineg X0.here hx rfl (hb hby d_jdk_33_method_12_code_20) rfl ?_
    show Steps p.tables e below (s₁.setTop (mkF m 21 #[.val (.int p1), .val (.int ix), .val (.ref bf), .unset, .unset, .val (.int ix), .val (.int (0 : Int32))] [(.int (-p1))])) _
    rw [← hm0]
    show Steps p.tables e below (s₁.setTop (mkF m 21 #[.val (.int p1), .val (.int ix), .val (.ref bf), .unset, .unset, .val (.int ix), .val (.int (0 : Int32))] [(.int m0)])) _
    refine XS.istoreN X0.here hx rfl (hb hby d_jdk_33_method_12_code_21) rfl (l' := #[.val (.int m0), .val (.int ix), .val (.ref bf), .unset, .unset, .val (.int ix), .val (.int (0 : Int32))]) rfl ?_
    show Steps p.tables e below (s₁.setTop (mkF m 22 #[.val (.int m0), .val (.int ix), .val (.ref bf), .unset, .unset, .val (.int ix), .val (.int (0 : Int32))] [])) _
    refine XS.iloadN X0.here hx rfl (hb hby d_jdk_33_method_12_code_22) rfl ?_
    show Steps p.tables e below (s₁.setTop (mkF m 23 #[.val (.int m0), .val (.int ix), .val (.ref bf), .unset, .unset, .val (.int ix), .val (.int (0 : Int32))] [(.int m0)])) _
    refine XT.bipushV X0.here hx rfl (-100 : Int32) (hb hby d_jdk_33_method_12_code_23) (by decide) ?_
    show Steps p.tables e below (s₁.setTop (mkF m 25 #[.val (.int m0), .val (.int ix), .val (.ref bf), .unset, .unset, .val (.int ix), .val (.int (0 : Int32))] [(.int (-100 : Int32)), (.int m0)])) _
    refine XS.icmpNo X0.here hx rfl (hb hby d_jdk_33_method_12_code_25) rfl (flt (own_le (a := (-100 : Int32)) (b := m0) (by rw [ci1, own_m100]; omega))).2.2.1 ?_
    show Steps p.tables e below (s₁.setTop (mkF m 28 #[.val (.int m0), .val (.int ix), .val (.ref bf), .unset, .unset, .val (.int ix), .val (.int (0 : Int32))] [])) _
    refine XS.iloadN X0.here hx rfl (hb hby d_jdk_33_method_12_code_28) rfl ?_
    show Steps p.tables e below (s₁.setTop (mkF m 29 #[.val (.int m0), .val (.int ix), .val (.ref bf), .unset, .unset, .val (.int ix), .val (.int (0 : Int32))] [(.int m0)])) _
    refine XT.bipushV X0.here hx rfl (100 : Int32) (hb hby d_jdk_33_method_12_code_29) (by decide) ?_
    show Steps p.tables e below (s₁.setTop (mkF m 31 #[.val (.int m0), .val (.int ix), .val (.ref bf), .unset, .unset, .val (.int ix), .val (.int (0 : Int32))] [(.int (100 : Int32)), (.int m0)])) _
    refine XS.idiv X0.here hx rfl (hb hby d_jdk_33_method_12_code_31) rfl (by decide) ?_
    show Steps p.tables e below (s₁.setTop (mkF m 32 #[.val (.int m0), .val (.int ix), .val (.ref bf), .unset, .unset, .val (.int ix), .val (.int (0 : Int32))] [(.int (m0 / (100 : Int32)))])) _
    rw [← hq1]
    show Steps p.tables e below (s₁.setTop (mkF m 32 #[.val (.int m0), .val (.int ix), .val (.ref bf), .unset, .unset, .val (.int ix), .val (.int (0 : Int32))] [(.int q1)])) _
    refine XS.istoreN X0.here hx rfl (hb hby d_jdk_33_method_12_code_32) rfl (l' := #[.val (.int m0), .val (.int ix), .val (.ref bf), .val (.int q1), .unset, .val (.int ix), .val (.int (0 : Int32))]) rfl ?_
    show Steps p.tables e below (s₁.setTop (mkF m 33 #[.val (.int m0), .val (.int ix), .val (.ref bf), .val (.int q1), .unset, .val (.int ix), .val (.int (0 : Int32))] [])) _
    refine XS.iloadN X0.here hx rfl (hb hby d_jdk_33_method_12_code_33) rfl ?_
    show Steps p.tables e below (s₁.setTop (mkF m 34 #[.val (.int m0), .val (.int ix), .val (.ref bf), .val (.int q1), .unset, .val (.int ix), .val (.int (0 : Int32))] [(.int q1)])) _
    refine XT.bipushV X0.here hx rfl (100 : Int32) (hb hby d_jdk_33_method_12_code_34) (by decide) ?_
    show Steps p.tables e below (s₁.setTop (mkF m 36 #[.val (.int m0), .val (.int ix), .val (.ref bf), .val (.int q1), .unset, .val (.int ix), .val (.int (0 : Int32))] [(.int (100 : Int32)), (.int q1)])) _
    refine XS.imul X0.here hx rfl (hb hby d_jdk_33_method_12_code_36) rfl ?_
    show Steps p.tables e below (s₁.setTop (mkF m 37 #[.val (.int m0), .val (.int ix), .val (.ref bf), .val (.int q1), .unset, .val (.int ix), .val (.int (0 : Int32))] [(.int (q1 * (100 : Int32)))])) _
    refine XS.iloadN X0.here hx rfl (hb hby d_jdk_33_method_12_code_37) rfl ?_
    show Steps p.tables e below (s₁.setTop (mkF m 38 #[.val (.int m0), .val (.int ix), .val (.ref bf), .val (.int q1), .unset, .val (.int ix), .val (.int (0 : Int32))] [(.int m0), (.int (q1 * (100 : Int32)))])) _
    refine XS.isub X0.here hx rfl (hb hby d_jdk_33_method_12_code_38) rfl ?_
    show Steps p.tables e below (s₁.setTop (mkF m 39 #[.val (.int m0), .val (.int ix), .val (.ref bf), .val (.int q1), .unset, .val (.int ix), .val (.int (0 : Int32))] [(.int ((q1 * (100 : Int32)) - m0))])) _
    rw [← hr1]
    show Steps p.tables e below (s₁.setTop (mkF m 39 #[.val (.int m0), .val (.int ix), .val (.ref bf), .val (.int q1), .unset, .val (.int ix), .val (.int (0 : Int32))] [(.int r1)])) _
    refine XS.istore X0.here hx rfl (hb hby d_jdk_33_method_12_code_39) rfl (l' := #[.val (.int m0), .val (.int ix), .val (.ref bf), .val (.int q1), .val (.int r1), .val (.int ix), .val (.int (0 : Int32))]) rfl ?_
    show Steps p.tables e below (s₁.setTop (mkF m 41 #[.val (.int m0), .val (.int ix), .val (.ref bf), .val (.int q1), .val (.int r1), .val (.int ix), .val (.int (0 : Int32))] [])) _
    refine XS.iloadN X0.here hx rfl (hb hby d_jdk_33_method_12_code_41) rfl ?_
    show Steps p.tables e below (s₁.setTop (mkF m 42 #[.val (.int m0), .val (.int ix), .val (.ref bf), .val (.int q1), .val (.int r1), .val (.int ix), .val (.int (0 : Int32))] [(.int q1)])) _
    refine XS.istoreN X0.here hx rfl (hb hby d_jdk_33_method_12_code_42) rfl (l' := #[.val (.int q1), .val (.int ix), .val (.ref bf), .val (.int q1), .val (.int r1), .val (.int ix), .val (.int (0 : Int32))]) rfl ?_
    show Steps p.tables e below (s₁.setTop (mkF m 43 #[.val (.int q1), .val (.int ix), .val (.ref bf), .val (.int q1), .val (.int r1), .val (.int ix), .val (.int (0 : Int32))] [])) _
    refine XS.aloadN X0.here hx rfl (hb hby d_jdk_33_method_12_code_43) rfl rfl ?_
    show Steps p.tables e below (s₁.setTop (mkF m 44 #[.val (.int q1), .val (.int ix), .val (.ref bf), .val (.int q1), .val (.int r1), .val (.int ix), .val (.int (0 : Int32))] [(.ref bf)])) _
    refine XT.iincV X0.here hx rfl (-1 : Int32) (hb hby d_jdk_33_method_12_code_44) (by decide) rfl (l' := #[.val (.int q1), .val (.int ix), .val (.ref bf), .val (.int q1), .val (.int r1), .val (.int (ix + (-1 : Int32))), .val (.int (0 : Int32))]) rfl ?_
    show Steps p.tables e below (s₁.setTop (mkF m 47 #[.val (.int q1), .val (.int ix), .val (.ref bf), .val (.int q1), .val (.int r1), .val (.int (ix + (-1 : Int32))), .val (.int (0 : Int32))] [(.ref bf)])) _
    rw [← hi1]
    show Steps p.tables e below (s₁.setTop (mkF m 47 #[.val (.int q1), .val (.int ix), .val (.ref bf), .val (.int q1), .val (.int r1), .val (.int i1), .val (.int (0 : Int32))] [(.ref bf)])) _
    refine XS.iload X0.here hx rfl (hb hby d_jdk_33_method_12_code_47) rfl ?_
    show Steps p.tables e below (s₁.setTop (mkF m 49 #[.val (.int q1), .val (.int ix), .val (.ref bf), .val (.int q1), .val (.int r1), .val (.int i1), .val (.int (0 : Int32))] [(.int i1), (.ref bf)])) _
    refine st1 _ ?_
    show Steps p.tables e below (T1.setTop (mkF m 52 #[.val (.int q1), .val (.int ix), .val (.ref bf), .val (.int q1), .val (.int r1), .val (.int i1), .val (.int (0 : Int32))] [(.ref dO), (.int i1), (.ref bf)])) _
    refine XS.iload X1.here hx rfl (hb hby d_jdk_33_method_12_code_52) rfl ?_
    show Steps p.tables e below (T1.setTop (mkF m 54 #[.val (.int q1), .val (.int ix), .val (.ref bf), .val (.int q1), .val (.int r1), .val (.int i1), .val (.int (0 : Int32))] [(.int r1), (.ref dO), (.int i1), (.ref bf)])) _
    refine X1.baloadBytes hx (j := r1) (v := .int ((48 : Int32) + r1 % 10)) (by rw [e1]; exact X00.2.2 _ _ TO.2.1.1) (State.isArrayOf_alike hZ.alike TO.2.1.2.1) TO.2.1.2.2 tb_1i tb_1v (g := (mkF m 54 #[.val (.int q1), .val (.int ix), .val (.ref bf), .val (.int q1), .val (.int r1), .val (.int i1), .val (.int (0 : Int32))] [(.int r1), (.ref dO), (.int i1), (.ref bf)])) rfl rfl (hb hby d_jdk_33_method_12_code_54) _ ?_
    show Steps p.tables e below (T1.setTop (mkF m 55 #[.val (.int q1), .val (.int ix), .val (.ref bf), .val (.int q1), .val (.int r1), .val (.int i1), .val (.int (0 : Int32))] [(.int ((48 : Int32) + r1 % 10)), (.int i1), (.ref bf)])) _
    refine st2 _ ?_
    show Steps p.tables e below (T2.setTop (mkF m 56 #[.val (.int q1), .val (.int ix), .val (.ref bf), .val (.int q1), .val (.int r1), .val (.int i1), .val (.int (0 : Int32))] [])) _
    refine XS.aloadN X2.here hx rfl (hb hby d_jdk_33_method_12_code_56) rfl rfl ?_
    show Steps p.tables e below (T2.setTop (mkF m 57 #[.val (.int q1), .val (.int ix), .val (.ref bf), .val (.int q1), .val (.int r1), .val (.int i1), .val (.int (0 : Int32))] [(.ref bf)])) _
    refine XT.iincV X2.here hx rfl (-1 : Int32) (hb hby d_jdk_33_method_12_code_57) (by decide) rfl (l' := #[.val (.int q1), .val (.int ix), .val (.ref bf), .val (.int q1), .val (.int r1), .val (.int (i1 + (-1 : Int32))), .val (.int (0 : Int32))]) rfl ?_
    show Steps p.tables e below (T2.setTop (mkF m 60 #[.val (.int q1), .val (.int ix), .val (.ref bf), .val (.int q1), .val (.int r1), .val (.int (i1 + (-1 : Int32))), .val (.int (0 : Int32))] [(.ref bf)])) _
    rw [← hi2]
    show Steps p.tables e below (T2.setTop (mkF m 60 #[.val (.int q1), .val (.int ix), .val (.ref bf), .val (.int q1), .val (.int r1), .val (.int i2), .val (.int (0 : Int32))] [(.ref bf)])) _
    refine XS.iload X2.here hx rfl (hb hby d_jdk_33_method_12_code_60) rfl ?_
    show Steps p.tables e below (T2.setTop (mkF m 62 #[.val (.int q1), .val (.int ix), .val (.ref bf), .val (.int q1), .val (.int r1), .val (.int i2), .val (.int (0 : Int32))] [(.int i2), (.ref bf)])) _
    refine st3 _ ?_
    show Steps p.tables e below (T3.setTop (mkF m 65 #[.val (.int q1), .val (.int ix), .val (.ref bf), .val (.int q1), .val (.int r1), .val (.int i2), .val (.int (0 : Int32))] [(.ref dT), (.int i2), (.ref bf)])) _
    refine XS.iload X3.here hx rfl (hb hby d_jdk_33_method_12_code_65) rfl ?_
    show Steps p.tables e below (T3.setTop (mkF m 67 #[.val (.int q1), .val (.int ix), .val (.ref bf), .val (.int q1), .val (.int r1), .val (.int i2), .val (.int (0 : Int32))] [(.int r1), (.ref dT), (.int i2), (.ref bf)])) _
    refine X3.baloadBytes hx (j := r1) (v := .int ((48 : Int32) + r1 / 10)) (by rw [e3]; exact O_3.2.2 _ _ TT.2.1.1) (State.isArrayOf_alike hZ.alike TT.2.1.2.1) TT.2.1.2.2 tb_4i tb_4v (g := (mkF m 67 #[.val (.int q1), .val (.int ix), .val (.ref bf), .val (.int q1), .val (.int r1), .val (.int i2), .val (.int (0 : Int32))] [(.int r1), (.ref dT), (.int i2), (.ref bf)])) rfl rfl (hb hby d_jdk_33_method_12_code_67) _ ?_
    show Steps p.tables e below (T3.setTop (mkF m 68 #[.val (.int q1), .val (.int ix), .val (.ref bf), .val (.int q1), .val (.int r1), .val (.int i2), .val (.int (0 : Int32))] [(.int ((48 : Int32) + r1 / 10)), (.int i2), (.ref bf)])) _
    refine st4 _ ?_
    show Steps p.tables e below (T4.setTop (mkF m 69 #[.val (.int q1), .val (.int ix), .val (.ref bf), .val (.int q1), .val (.int r1), .val (.int i2), .val (.int (0 : Int32))] [])) _
    refine XS.goto X4.here hx rfl (pc0 := 69) (pc' := 22) rfl (hb hby d_jdk_33_method_12_code_69) (by decide) (by decide) ?_
    show Steps p.tables e below (T4.setTop (mkF m 22 #[.val (.int q1), .val (.int ix), .val (.ref bf), .val (.int q1), .val (.int r1), .val (.int i2), .val (.int (0 : Int32))] [])) _
    refine XS.iloadN X4.here hx rfl (hb hby d_jdk_33_method_12_code_22) rfl ?_
    show Steps p.tables e below (T4.setTop (mkF m 23 #[.val (.int q1), .val (.int ix), .val (.ref bf), .val (.int q1), .val (.int r1), .val (.int i2), .val (.int (0 : Int32))] [(.int q1)])) _
    refine XT.bipushV X4.here hx rfl (-100 : Int32) (hb hby d_jdk_33_method_12_code_23) (by decide) ?_
    show Steps p.tables e below (T4.setTop (mkF m 25 #[.val (.int q1), .val (.int ix), .val (.ref bf), .val (.int q1), .val (.int r1), .val (.int i2), .val (.int (0 : Int32))] [(.int (-100 : Int32)), (.int q1)])) _
    refine XS.icmpYes X4.here hx rfl (pc0 := 25) (pc' := 72) rfl (hb hby d_jdk_33_method_12_code_25) rfl (tlt (own_lt (a := (-100 : Int32)) (b := q1) (by rw [ci2, own_m100]; omega))).2.2.1 (by decide) (by decide) ?_
    show Steps p.tables e below (T4.setTop (mkF m 72 #[.val (.int q1), .val (.int ix), .val (.ref bf), .val (.int q1), .val (.int r1), .val (.int i2), .val (.int (0 : Int32))] [])) _
    refine XS.aloadN X4.here hx rfl (hb hby d_jdk_33_method_12_code_72) rfl rfl ?_
    show Steps p.tables e below (T4.setTop (mkF m 73 #[.val (.int q1), .val (.int ix), .val (.ref bf), .val (.int q1), .val (.int r1), .val (.int i2), .val (.int (0 : Int32))] [(.ref bf)])) _
    refine XT.iincV X4.here hx rfl (-1 : Int32) (hb hby d_jdk_33_method_12_code_73) (by decide) rfl (l' := #[.val (.int q1), .val (.int ix), .val (.ref bf), .val (.int q1), .val (.int r1), .val (.int (i2 + (-1 : Int32))), .val (.int (0 : Int32))]) rfl ?_
    show Steps p.tables e below (T4.setTop (mkF m 76 #[.val (.int q1), .val (.int ix), .val (.ref bf), .val (.int q1), .val (.int r1), .val (.int (i2 + (-1 : Int32))), .val (.int (0 : Int32))] [(.ref bf)])) _
    rw [← hi3]
    show Steps p.tables e below (T4.setTop (mkF m 76 #[.val (.int q1), .val (.int ix), .val (.ref bf), .val (.int q1), .val (.int r1), .val (.int i3), .val (.int (0 : Int32))] [(.ref bf)])) _
    refine XS.iload X4.here hx rfl (hb hby d_jdk_33_method_12_code_76) rfl ?_
    show Steps p.tables e below (T4.setTop (mkF m 78 #[.val (.int q1), .val (.int ix), .val (.ref bf), .val (.int q1), .val (.int r1), .val (.int i3), .val (.int (0 : Int32))] [(.int i3), (.ref bf)])) _
    refine st5 _ ?_
    show Steps p.tables e below (T5.setTop (mkF m 81 #[.val (.int q1), .val (.int ix), .val (.ref bf), .val (.int q1), .val (.int r1), .val (.int i3), .val (.int (0 : Int32))] [(.ref dO), (.int i3), (.ref bf)])) _
    refine XS.iloadN X5.here hx rfl (hb hby d_jdk_33_method_12_code_81) rfl ?_
    show Steps p.tables e below (T5.setTop (mkF m 82 #[.val (.int q1), .val (.int ix), .val (.ref bf), .val (.int q1), .val (.int r1), .val (.int i3), .val (.int (0 : Int32))] [(.int q1), (.ref dO), (.int i3), (.ref bf)])) _
    refine XS.ineg X5.here hx rfl (hb hby d_jdk_33_method_12_code_82) rfl ?_
    show Steps p.tables e below (T5.setTop (mkF m 83 #[.val (.int q1), .val (.int ix), .val (.ref bf), .val (.int q1), .val (.int r1), .val (.int i3), .val (.int (0 : Int32))] [(.int (-q1)), (.ref dO), (.int i3), (.ref bf)])) _
    rw [← hl0]
    show Steps p.tables e below (T5.setTop (mkF m 83 #[.val (.int q1), .val (.int ix), .val (.ref bf), .val (.int q1), .val (.int r1), .val (.int i3), .val (.int (0 : Int32))] [(.int l0), (.ref dO), (.int i3), (.ref bf)])) _
    refine X5.baloadBytes hx (j := l0) (v := .int ((48 : Int32) + l0 % 10)) (by rw [e5]; exact O_6.2.2 _ _ TO.2.1.1) (State.isArrayOf_alike hZ.alike TO.2.1.2.1) TO.2.1.2.2 tb_7i tb_7v (g := (mkF m 83 #[.val (.int q1), .val (.int ix), .val (.ref bf), .val (.int q1), .val (.int r1), .val (.int i3), .val (.int (0 : Int32))] [(.int l0), (.ref dO), (.int i3), (.ref bf)])) rfl rfl (hb hby d_jdk_33_method_12_code_83) _ ?_
    show Steps p.tables e below (T5.setTop (mkF m 84 #[.val (.int q1), .val (.int ix), .val (.ref bf), .val (.int q1), .val (.int r1), .val (.int i3), .val (.int (0 : Int32))] [(.int ((48 : Int32) + l0 % 10)), (.int i3), (.ref bf)])) _
    refine st6 _ ?_
    show Steps p.tables e below (T6.setTop (mkF m 85 #[.val (.int q1), .val (.int ix), .val (.ref bf), .val (.int q1), .val (.int r1), .val (.int i3), .val (.int (0 : Int32))] [])) _
    refine XS.iloadN X6.here hx rfl (hb hby d_jdk_33_method_12_code_85) rfl ?_
    show Steps p.tables e below (T6.setTop (mkF m 86 #[.val (.int q1), .val (.int ix), .val (.ref bf), .val (.int q1), .val (.int r1), .val (.int i3), .val (.int (0 : Int32))] [(.int q1)])) _
    refine XT.bipushV X6.here hx rfl (-9 : Int32) (hb hby d_jdk_33_method_12_code_86) (by decide) ?_
    show Steps p.tables e below (T6.setTop (mkF m 88 #[.val (.int q1), .val (.int ix), .val (.ref bf), .val (.int q1), .val (.int r1), .val (.int i3), .val (.int (0 : Int32))] [(.int (-9 : Int32)), (.int q1)])) _
    refine XS.icmpNo X6.here hx rfl (hb hby d_jdk_33_method_12_code_88) rfl (tlt (own_lt (a := q1) (b := (-9 : Int32)) (by rw [ci2, own_m9]; omega))).2.1 ?_
    show Steps p.tables e below (T6.setTop (mkF m 91 #[.val (.int q1), .val (.int ix), .val (.ref bf), .val (.int q1), .val (.int r1), .val (.int i3), .val (.int (0 : Int32))] [])) _
    refine XS.aloadN X6.here hx rfl (hb hby d_jdk_33_method_12_code_91) rfl rfl ?_
    show Steps p.tables e below (T6.setTop (mkF m 92 #[.val (.int q1), .val (.int ix), .val (.ref bf), .val (.int q1), .val (.int r1), .val (.int i3), .val (.int (0 : Int32))] [(.ref bf)])) _
    refine XT.iincV X6.here hx rfl (-1 : Int32) (hb hby d_jdk_33_method_12_code_92) (by decide) rfl (l' := #[.val (.int q1), .val (.int ix), .val (.ref bf), .val (.int q1), .val (.int r1), .val (.int (i3 + (-1 : Int32))), .val (.int (0 : Int32))]) rfl ?_
    show Steps p.tables e below (T6.setTop (mkF m 95 #[.val (.int q1), .val (.int ix), .val (.ref bf), .val (.int q1), .val (.int r1), .val (.int (i3 + (-1 : Int32))), .val (.int (0 : Int32))] [(.ref bf)])) _
    rw [← hi4]
    show Steps p.tables e below (T6.setTop (mkF m 95 #[.val (.int q1), .val (.int ix), .val (.ref bf), .val (.int q1), .val (.int r1), .val (.int i4), .val (.int (0 : Int32))] [(.ref bf)])) _
    refine XS.iload X6.here hx rfl (hb hby d_jdk_33_method_12_code_95) rfl ?_
    show Steps p.tables e below (T6.setTop (mkF m 97 #[.val (.int q1), .val (.int ix), .val (.ref bf), .val (.int q1), .val (.int r1), .val (.int i4), .val (.int (0 : Int32))] [(.int i4), (.ref bf)])) _
    refine st7 _ ?_
    show Steps p.tables e below (T7.setTop (mkF m 100 #[.val (.int q1), .val (.int ix), .val (.ref bf), .val (.int q1), .val (.int r1), .val (.int i4), .val (.int (0 : Int32))] [(.ref dT), (.int i4), (.ref bf)])) _
    refine XS.iloadN X7.here hx rfl (hb hby d_jdk_33_method_12_code_100) rfl ?_
    show Steps p.tables e below (T7.setTop (mkF m 101 #[.val (.int q1), .val (.int ix), .val (.ref bf), .val (.int q1), .val (.int r1), .val (.int i4), .val (.int (0 : Int32))] [(.int q1), (.ref dT), (.int i4), (.ref bf)])) _
    refine XS.ineg X7.here hx rfl (hb hby d_jdk_33_method_12_code_101) rfl ?_
    show Steps p.tables e below (T7.setTop (mkF m 102 #[.val (.int q1), .val (.int ix), .val (.ref bf), .val (.int q1), .val (.int r1), .val (.int i4), .val (.int (0 : Int32))] [(.int (-q1)), (.ref dT), (.int i4), (.ref bf)])) _
    rw [← hl0]
    show Steps p.tables e below (T7.setTop (mkF m 102 #[.val (.int q1), .val (.int ix), .val (.ref bf), .val (.int q1), .val (.int r1), .val (.int i4), .val (.int (0 : Int32))] [(.int l0), (.ref dT), (.int i4), (.ref bf)])) _
    refine X7.baloadBytes hx (j := l0) (v := .int ((48 : Int32) + l0 / 10)) (by rw [e7]; exact O_9.2.2 _ _ TT.2.1.1) (State.isArrayOf_alike hZ.alike TT.2.1.2.1) TT.2.1.2.2 tb_10i tb_10v (g := (mkF m 102 #[.val (.int q1), .val (.int ix), .val (.ref bf), .val (.int q1), .val (.int r1), .val (.int i4), .val (.int (0 : Int32))] [(.int l0), (.ref dT), (.int i4), (.ref bf)])) rfl rfl (hb hby d_jdk_33_method_12_code_102) _ ?_
    show Steps p.tables e below (T7.setTop (mkF m 103 #[.val (.int q1), .val (.int ix), .val (.ref bf), .val (.int q1), .val (.int r1), .val (.int i4), .val (.int (0 : Int32))] [(.int ((48 : Int32) + l0 / 10)), (.int i4), (.ref bf)])) _
    refine st8 _ ?_
    show Steps p.tables e below (T8.setTop (mkF m 104 #[.val (.int q1), .val (.int ix), .val (.ref bf), .val (.int q1), .val (.int r1), .val (.int i4), .val (.int (0 : Int32))] [])) _
    refine XS.iload X8.here hx rfl (hb hby d_jdk_33_method_12_code_104) rfl ?_
    show Steps p.tables e below (T8.setTop (mkF m 106 #[.val (.int q1), .val (.int ix), .val (.ref bf), .val (.int q1), .val (.int r1), .val (.int i4), .val (.int (0 : Int32))] [(.int (0 : Int32))])) _
    refine XS.ifYes X8.here hx rfl (pc0 := 106) (pc' := 118) rfl (hb hby d_jdk_33_method_12_code_106) rfl (by decide) (by decide) (by decide) ?_
    show Steps p.tables e below (T8.setTop (mkF m 118 #[.val (.int q1), .val (.int ix), .val (.ref bf), .val (.int q1), .val (.int r1), .val (.int i4), .val (.int (0 : Int32))] [])) _
    refine XS.iload X8.here hx rfl (hb hby d_jdk_33_method_12_code_118) rfl ?_
    show Steps p.tables e below (T8.setTop (mkF m 120 #[.val (.int q1), .val (.int ix), .val (.ref bf), .val (.int q1), .val (.int r1), .val (.int i4), .val (.int (0 : Int32))] [(.int i4)])) _
    exact retI X8 hx Bd.returns (hb hby d_jdk_33_method_12_code_120) hr
  · refine ⟨by rw [hret], N8, ?_, ?_⟩
    · show Keep h0 T8.heap _; rw [e8]; exact K_11
    · show Arv Z T8.heap _ _ _ _ _ _; rw [e8, own_gcE4 ⟨hlo, hhi⟩]; exact V8
def Q_gc_5 (Z : State) (p1 ix : Int32) (bf : Addr) (kb : ClassId) (vs : List Value) (dO dT : Addr) (cO cT : Cell) (h0 : Heap) (n0 : Nat) (v : Option Value) (h : Heap) (L : List Loc) : Prop := v = some (.int (ix - own_sz p1)) ∧ Fr n0 L ∧ Keep h0 h [bf] ∧ Arv Z h bf kb .byte (16 : Int32) (own_gc vs ix.toNatClampNeg p1) (.int 0)
set_option maxRecDepth 65536 in
set_option maxHeartbeats 40000000 in
theorem gc_5 (l : Launch) (Z : State) (a0 : Array Value) (hw : ∀ d ∈ tables_1, d.before a0 Z = true) (ws : List Jvm.Cond) (p1 ix : Int32) (bf : Addr) (kb : ClassId) (vs : List Value) (dO dT : Addr) (cO cT : Cell) (h0 : Heap) (n0 : Nat) (Z0 : n0 ≤ h0.size) (X00 : Old Z n0 h0)(TO : own_O Z dO cO) (TT : own_T Z dT cT)(Vb : Arv Z h0 bf kb .byte (16 : Int32) vs (.int 0)) (gb : n0 ≤ bf) (hvl : vs.length = 16) (hix1 : (own_sz p1).toInt ≤ ix.toInt) (hix2 : ix.toInt ≤ 16)(hlo : 10000 ≤ p1.toInt) (hhi : p1.toInt < 65536) :
    MetFree l (⟨"java/lang/Integer", "getChars", "(II[B)I"⟩ : MethodName) (head1 (Jvm.Cond.code (⟨"java/lang/Integer", "getChars", "(II[B)I"⟩ : MethodName) jdk_33_method_12_code 7 (Option.some Jvm.ClassFile.FieldType.int) :: ws) ({ frames := 0, cells := 0, slots := 0, locals := 0 } : Room)) (fun a U => a = #[(.int p1), (.int ix), (.ref bf)] ∧ Z.Warmed39 U.vm ∧ U.heap = h0) (fun _ _ _ _ _ => True) (fun _ U o U' => ∃ v L, o = .returned v ∧ Q_gc_5 Z p1 ix bf kb vs dO dT cO cT h0 n0 v U'.heap L ∧ FrameEnd U o U' L ({ frames := 0, cells := 0, slots := 0, locals := 0 } : Room).cells ({ frames := 0, cells := 0, slots := 0, locals := 0 } : Room).slots) := by
  refine MetFree.of_bodySF (plainFor_of_name pn_46) hisR ?_
  intro p e s m args below meth c s₁ Bd hml0 hP hK
  obtain ⟨rfl, hZ, hh⟩ := hP
  have hx := Bd.exec
  have hby := Bd.bytes
  have hml : c.maxLocals = 7 := hml0
  have hown : s.vm.findClass "java/lang/Integer" = some m.cls := findClass_of_methodNamed Bd.named
  have hnm := (name_of_methodNamed Bd.named Bd.method).1
  have X0 : Stand p l e ({ frames := 0, cells := 0, slots := 0, locals := 0 } : Room) s m #[(.int p1), (.int ix), (.ref bf)] below meth c s₁ [] 0 0 := Stand.of_body Bd
  have e0 : s₁.heap = h0 := by rw [← hh, Bd.state]; rfl
  have N0 := Fr.nil n0
  have hlk : meth.locks = false := BodyLoose.notSynchronized Bd
  have pre0 : ∀ t, Steps p.tables e below (s₁.setTop (mkF m 0 #[.val (.int p1), .val (.int ix), .val (.ref bf), .unset, .unset, .unset, .unset] [])) t → Steps p.tables e below (s₁.setTop (entryFrame m #[(.int p1), (.int ix), (.ref bf)] 7)) t := fun t k => castTop (ef_112 m p1 ix bf) k
  have hsz : own_sz p1 = (5 : Int32) := own_szE5 ⟨hlo, hhi⟩
  have hix : 5 ≤ ix.toInt := by rw [hsz] at hix1; exact hix1
  clear hix1
  have hp0 : ¬ p1 < 0 := own_le (a := p1) (b := 0) (by rw [own_p0]; omega)
  obtain ⟨m0, hm0⟩ : ∃ z, z = -p1 := ⟨_, rfl⟩
  have ci1 : m0.toInt = -p1.toInt := by rw [hm0]; exact own_neg p1 (by omega)
  obtain ⟨q1, hq1⟩ : ∃ z, z = m0 / (100 : Int32) := ⟨_, rfl⟩
  have ci2 : q1.toInt = -(p1.toInt / 100) := by rw [hq1]; exact own_q ci1 (by omega) (by omega)
  obtain ⟨r1, hr1⟩ : ∃ z, z = q1 * (100 : Int32) - m0 := ⟨_, rfl⟩
  have ri1 : r1.toInt = p1.toInt % 100 := by rw [hr1]; exact own_r ci1 ci2 (by omega) (by omega)
  obtain ⟨q2, hq2⟩ : ∃ z, z = q1 / (100 : Int32) := ⟨_, rfl⟩
  have ci3 : q2.toInt = -(p1.toInt / 100 / 100) := by rw [hq2]; exact own_q ci2 (by omega) (by omega)
  obtain ⟨r2, hr2⟩ : ∃ z, z = q2 * (100 : Int32) - q1 := ⟨_, rfl⟩
  have ri2 : r2.toInt = p1.toInt / 100 % 100 := by rw [hr2]; exact own_r ci2 ci3 (by omega) (by omega)
  obtain ⟨l0, hl0⟩ : ∃ z, z = -q2 := ⟨_, rfl⟩
  have li : l0.toInt = p1.toInt / 100 / 100 := by rw [hl0, own_neg' q2 (by rw [ci3]; omega), ci3]; omega
  have hd1 : nar .byte ((48 : Int32) + r1 % 10) = 48 + p1 % 10 := own_nar (by rw [own_oneI r1 (by rw [ri1]; omega) (by rw [ri1]; omega), ri1, own_dg0 p1 (by omega)]; try omega) (by rw [own_dg0 p1 (by omega)]; omega) (by rw [own_dg0 p1 (by omega)]; omega)
  have hd2 : nar .byte ((48 : Int32) + r1 / 10) = 48 + p1 / 10 % 10 := own_nar (by rw [own_tenI r1 (by rw [ri1]; omega) (by rw [ri1]; omega), ri1, own_dg p1 10 10 rfl (by decide) (by omega) (by omega)]; try omega) (by rw [own_dg p1 10 10 rfl (by decide) (by omega) (by omega)]; omega) (by rw [own_dg p1 10 10 rfl (by decide) (by omega) (by omega)]; omega)
  have hd3 : nar .byte ((48 : Int32) + r2 % 10) = 48 + p1 / 100 % 10 := own_nar (by rw [own_oneI r2 (by rw [ri2]; omega) (by rw [ri2]; omega), ri2, own_dg p1 100 100 rfl (by decide) (by omega) (by omega)]; try omega) (by rw [own_dg p1 100 100 rfl (by decide) (by omega) (by omega)]; omega) (by rw [own_dg p1 100 100 rfl (by decide) (by omega) (by omega)]; omega)
  have hd4 : nar .byte ((48 : Int32) + r2 / 10) = 48 + p1 / 1000 % 10 := own_nar (by rw [own_tenI r2 (by rw [ri2]; omega) (by rw [ri2]; omega), ri2, own_dg p1 1000 1000 rfl (by decide) (by omega) (by omega)]; try omega) (by rw [own_dg p1 1000 1000 rfl (by decide) (by omega) (by omega)]; omega) (by rw [own_dg p1 1000 1000 rfl (by decide) (by omega) (by omega)]; omega)
  have hd5 : nar .byte ((48 : Int32) + l0 % 10) = 48 + p1 / 10000 % 10 := own_nar (by rw [own_oneI l0 (by rw [li]; omega) (by rw [li]; omega), li, own_dg p1 10000 10000 rfl (by decide) (by omega) (by omega)]; try omega) (by rw [own_dg p1 10000 10000 rfl (by decide) (by omega) (by omega)]; omega) (by rw [own_dg p1 10000 10000 rfl (by decide) (by omega) (by omega)]; omega)
  obtain ⟨i1, hi1⟩ : ∃ z, z = ix + (-1 : Int32) := ⟨_, rfl⟩
  have j1 : i1.toInt = ix.toInt - 1 := by rw [hi1]; exact own_dec' rfl (by omega)
  have b1 : ¬ i1 < 0 ∧ i1 < 16 := own_b j1 (by omega) (by omega)
  have n1 : i1.toNatClampNeg = ix.toNatClampNeg - 1 := own_tn (t := 1) j1 (by omega)
  obtain ⟨i2, hi2⟩ : ∃ z, z = i1 + (-1 : Int32) := ⟨_, rfl⟩
  have j2 : i2.toInt = ix.toInt - 2 := by rw [hi2]; exact (own_dec' j1 (by omega)).trans (own_ss ix.toInt 1)
  have b2 : ¬ i2 < 0 ∧ i2 < 16 := own_b j2 (by omega) (by omega)
  have n2 : i2.toNatClampNeg = ix.toNatClampNeg - 2 := own_tn (t := 2) j2 (by omega)
  obtain ⟨i3, hi3⟩ : ∃ z, z = i2 + (-1 : Int32) := ⟨_, rfl⟩
  have j3 : i3.toInt = ix.toInt - 3 := by rw [hi3]; exact (own_dec' j2 (by omega)).trans (own_ss ix.toInt 2)
  have b3 : ¬ i3 < 0 ∧ i3 < 16 := own_b j3 (by omega) (by omega)
  have n3 : i3.toNatClampNeg = ix.toNatClampNeg - 3 := own_tn (t := 3) j3 (by omega)
  obtain ⟨i4, hi4⟩ : ∃ z, z = i3 + (-1 : Int32) := ⟨_, rfl⟩
  have j4 : i4.toInt = ix.toInt - 4 := by rw [hi4]; exact (own_dec' j3 (by omega)).trans (own_ss ix.toInt 3)
  have b4 : ¬ i4 < 0 ∧ i4 < 16 := own_b j4 (by omega) (by omega)
  have n4 : i4.toNatClampNeg = ix.toNatClampNeg - 4 := own_tn (t := 4) j4 (by omega)
  obtain ⟨i5, hi5⟩ : ∃ z, z = i4 + (-1 : Int32) := ⟨_, rfl⟩
  have j5 : i5.toInt = ix.toInt - 5 := by rw [hi5]; exact (own_dec' j4 (by omega)).trans (own_ss ix.toInt 4)
  have b5 : ¬ i5 < 0 ∧ i5 < 16 := own_b j5 (by omega) (by omega)
  have n5 : i5.toNatClampNeg = ix.toNatClampNeg - 5 := own_tn (t := 5) j5 (by omega)
  have hret : i5 = ix - own_sz p1 := by rw [hsz]; exact Int32.toInt_inj.mp (by rw [j5]; exact (own_sbd ix 5 5 rfl (by omega) (by omega)).symm)
  have K0 : Keep h0 h0 [bf] := Keep.refl h0 _
  obtain ⟨T1, X1, e1, st1⟩ := getS X0 hx hZ (host := "") hown (hw _ (List.mem_of_getElem? (i := 71) rfl)) Via.refl e0 (TO.1.ext X00.2) (g := (mkF m 49 #[.val (.int q1), .val (.int ix), .val (.ref bf), .val (.int q1), .val (.int r1), .val (.int i1), .val (.int (0 : Int32))] [(.int i1), (.ref bf)])) rfl (hb hby d_jdk_33_method_12_code_49)
  obtain ⟨tb_1i, tb_1v⟩ := TO.2.2 r1 (by rw [ri1]; omega) (by rw [ri1]; omega)
  obtain ⟨cl2, Ar2, Qc2, Sz2, Ng2, Hs2, Ft2⟩ := id Vb
  obtain ⟨T2, h2, X2, e2, W2, st2⟩ := stB X1 hx hZ e1 Ar2 (j := i1) (inb_of Sz2 b1) (g := (mkF m 55 #[.val (.int q1), .val (.int ix), .val (.ref bf), .val (.int q1), .val (.int r1), .val (.int i1), .val (.int (0 : Int32))] [(.int ((48 : Int32) + r1 % 10)), (.int i1), (.ref bf)])) rfl rfl (hb hby d_jdk_33_method_12_code_55)
  have N2 := Fr.snoc X2 N0 gb
  have U2 := Arv.set Ar2 Qc2 Sz2 Ng2 Hs2 Ft2 (fits_nar_byte _) W2 (ix.toNatClampNeg - 1) n1 (by simp only [List.length_set, hvl]; exact own_i hix2 1 (by decide))
  have V2 : Arv Z h2 bf kb .byte (16 : Int32) (vs.set (ix.toNatClampNeg - 1) (.int (48 + p1 % 10))) (.int 0) := by rw [← hd1]; exact U2
  have K_2 : Keep h0 h2 [bf] := K0.wr W2 (Or.inl (by simp))
  have Z_2 : n0 ≤ h2.size := by rw [W2.size]; exact Z0
  have O_3 := (X00.wr W2 gb)
  obtain ⟨T3, X3, e3, st3⟩ := getS X2 hx hZ (host := "") hown (hw _ (List.mem_of_getElem? (i := 120) rfl)) Via.refl e2 (TT.1.ext O_3.2) (g := (mkF m 62 #[.val (.int q1), .val (.int ix), .val (.ref bf), .val (.int q1), .val (.int r1), .val (.int i2), .val (.int (0 : Int32))] [(.int i2), (.ref bf)])) rfl (hb hby d_jdk_33_method_12_code_62)
  obtain ⟨tb_4i, tb_4v⟩ := TT.2.2 r1 (by rw [ri1]; omega) (by rw [ri1]; omega)
  obtain ⟨cl4, Ar4, Qc4, Sz4, Ng4, Hs4, Ft4⟩ := id V2
  obtain ⟨T4, h4, X4, e4, W4, st4⟩ := stB X3 hx hZ e3 Ar4 (j := i2) (inb_of Sz4 b2) (g := (mkF m 68 #[.val (.int q1), .val (.int ix), .val (.ref bf), .val (.int q1), .val (.int r1), .val (.int i2), .val (.int (0 : Int32))] [(.int ((48 : Int32) + r1 / 10)), (.int i2), (.ref bf)])) rfl rfl (hb hby d_jdk_33_method_12_code_68)
  have N4 := Fr.snoc X4 N2 gb
  have U4 := Arv.set Ar4 Qc4 Sz4 Ng4 Hs4 Ft4 (fits_nar_byte _) W4 (ix.toNatClampNeg - 2) n2 (by simp only [List.length_set, hvl]; exact own_i hix2 2 (by decide))
  have V4 : Arv Z h4 bf kb .byte (16 : Int32) ((vs.set (ix.toNatClampNeg - 1) (.int (48 + p1 % 10))).set (ix.toNatClampNeg - 2) (.int (48 + p1 / 10 % 10))) (.int 0) := by rw [← hd2]; exact U4
  have K_5 : Keep h0 h4 [bf] := K_2.wr W4 (Or.inl (by simp))
  have Z_4 : n0 ≤ h4.size := by rw [W4.size]; exact Z_2
  have O_6 := (O_3.wr W4 gb)
  obtain ⟨T5, X5, e5, st5⟩ := getS X4 hx hZ (host := "") hown (hw _ (List.mem_of_getElem? (i := 71) rfl)) Via.refl e4 (TO.1.ext O_6.2) (g := (mkF m 49 #[.val (.int q2), .val (.int ix), .val (.ref bf), .val (.int q2), .val (.int r2), .val (.int i3), .val (.int (0 : Int32))] [(.int i3), (.ref bf)])) rfl (hb hby d_jdk_33_method_12_code_49)
  obtain ⟨tb_7i, tb_7v⟩ := TO.2.2 r2 (by rw [ri2]; omega) (by rw [ri2]; omega)
  obtain ⟨cl6, Ar6, Qc6, Sz6, Ng6, Hs6, Ft6⟩ := id V4
  obtain ⟨T6, h6, X6, e6, W6, st6⟩ := stB X5 hx hZ e5 Ar6 (j := i3) (inb_of Sz6 b3) (g := (mkF m 55 #[.val (.int q2), .val (.int ix), .val (.ref bf), .val (.int q2), .val (.int r2), .val (.int i3), .val (.int (0 : Int32))] [(.int ((48 : Int32) + r2 % 10)), (.int i3), (.ref bf)])) rfl rfl (hb hby d_jdk_33_method_12_code_55)
  have N6 := Fr.snoc X6 N4 gb
  have U6 := Arv.set Ar6 Qc6 Sz6 Ng6 Hs6 Ft6 (fits_nar_byte _) W6 (ix.toNatClampNeg - 3) n3 (by simp only [List.length_set, hvl]; exact own_i hix2 3 (by decide))
  have V6 : Arv Z h6 bf kb .byte (16 : Int32) (((vs.set (ix.toNatClampNeg - 1) (.int (48 + p1 % 10))).set (ix.toNatClampNeg - 2) (.int (48 + p1 / 10 % 10))).set (ix.toNatClampNeg - 3) (.int (48 + p1 / 100 % 10))) (.int 0) := by rw [← hd3]; exact U6
  have K_8 : Keep h0 h6 [bf] := K_5.wr W6 (Or.inl (by simp))
  have Z_6 : n0 ≤ h6.size := by rw [W6.size]; exact Z_4
  have O_9 := (O_6.wr W6 gb)
  obtain ⟨T7, X7, e7, st7⟩ := getS X6 hx hZ (host := "") hown (hw _ (List.mem_of_getElem? (i := 120) rfl)) Via.refl e6 (TT.1.ext O_9.2) (g := (mkF m 62 #[.val (.int q2), .val (.int ix), .val (.ref bf), .val (.int q2), .val (.int r2), .val (.int i4), .val (.int (0 : Int32))] [(.int i4), (.ref bf)])) rfl (hb hby d_jdk_33_method_12_code_62)
  obtain ⟨tb_10i, tb_10v⟩ := TT.2.2 r2 (by rw [ri2]; omega) (by rw [ri2]; omega)
  obtain ⟨cl8, Ar8, Qc8, Sz8, Ng8, Hs8, Ft8⟩ := id V6
  obtain ⟨T8, h8, X8, e8, W8, st8⟩ := stB X7 hx hZ e7 Ar8 (j := i4) (inb_of Sz8 b4) (g := (mkF m 68 #[.val (.int q2), .val (.int ix), .val (.ref bf), .val (.int q2), .val (.int r2), .val (.int i4), .val (.int (0 : Int32))] [(.int ((48 : Int32) + r2 / 10)), (.int i4), (.ref bf)])) rfl rfl (hb hby d_jdk_33_method_12_code_68)
  have N8 := Fr.snoc X8 N6 gb
  have U8 := Arv.set Ar8 Qc8 Sz8 Ng8 Hs8 Ft8 (fits_nar_byte _) W8 (ix.toNatClampNeg - 4) n4 (by simp only [List.length_set, hvl]; exact own_i hix2 4 (by decide))
  have V8 : Arv Z h8 bf kb .byte (16 : Int32) ((((vs.set (ix.toNatClampNeg - 1) (.int (48 + p1 % 10))).set (ix.toNatClampNeg - 2) (.int (48 + p1 / 10 % 10))).set (ix.toNatClampNeg - 3) (.int (48 + p1 / 100 % 10))).set (ix.toNatClampNeg - 4) (.int (48 + p1 / 1000 % 10))) (.int 0) := by rw [← hd4]; exact U8
  have K_11 : Keep h0 h8 [bf] := K_8.wr W8 (Or.inl (by simp))
  have Z_8 : n0 ≤ h8.size := by rw [W8.size]; exact Z_6
  have O_12 := (O_9.wr W8 gb)
  obtain ⟨T9, X9, e9, st9⟩ := getS X8 hx hZ (host := "") hown (hw _ (List.mem_of_getElem? (i := 71) rfl)) Via.refl e8 (TO.1.ext O_12.2) (g := (mkF m 78 #[.val (.int q2), .val (.int ix), .val (.ref bf), .val (.int q2), .val (.int r2), .val (.int i5), .val (.int (0 : Int32))] [(.int i5), (.ref bf)])) rfl (hb hby d_jdk_33_method_12_code_78)
  obtain ⟨tb_13i, tb_13v⟩ := TO.2.2 l0 (by rw [li]; omega) (by rw [li]; omega)
  obtain ⟨cl10, Ar10, Qc10, Sz10, Ng10, Hs10, Ft10⟩ := id V8
  obtain ⟨T10, h10, X10, e10, W10, st10⟩ := stB X9 hx hZ e9 Ar10 (j := i5) (inb_of Sz10 b5) (g := (mkF m 84 #[.val (.int q2), .val (.int ix), .val (.ref bf), .val (.int q2), .val (.int r2), .val (.int i5), .val (.int (0 : Int32))] [(.int ((48 : Int32) + l0 % 10)), (.int i5), (.ref bf)])) rfl rfl (hb hby d_jdk_33_method_12_code_84)
  have N10 := Fr.snoc X10 N8 gb
  have U10 := Arv.set Ar10 Qc10 Sz10 Ng10 Hs10 Ft10 (fits_nar_byte _) W10 (ix.toNatClampNeg - 5) n5 (by simp only [List.length_set, hvl]; exact own_i hix2 5 (by decide))
  have V10 : Arv Z h10 bf kb .byte (16 : Int32) (((((vs.set (ix.toNatClampNeg - 1) (.int (48 + p1 % 10))).set (ix.toNatClampNeg - 2) (.int (48 + p1 / 10 % 10))).set (ix.toNatClampNeg - 3) (.int (48 + p1 / 100 % 10))).set (ix.toNatClampNeg - 4) (.int (48 + p1 / 1000 % 10))).set (ix.toNatClampNeg - 5) (.int (48 + p1 / 10000 % 10))) (.int 0) := by rw [← hd5]; exact U10
  have K_14 : Keep h0 h10 [bf] := K_11.wr W10 (Or.inl (by simp))
  have Z_10 : n0 ≤ h10.size := by rw [W10.size]; exact Z_8
  obtain ⟨fs, hr, hrun, hended, hW, hsame⟩ := X10.leave (v := (some (.int i5))) (fun h => by rw [Bd.returns] at h; cases h) (hlocks := hlk)
  refine ⟨_, _, pre0 _ ?_, hrun, hended, _, _, rfl, ?_, ⟨_, rfl⟩, hW, hsame.mono (by decide) (by decide)⟩
  · show Steps p.tables e below (s₁.setTop (mkF m 0 #[.val (.int p1), .val (.int ix), .val (.ref bf), .unset, .unset, .unset, .unset] [])) _
    refine XS.iloadN X0.here hx rfl (hb hby d_jdk_33_method_12_code_0) rfl ?_
    show Steps p.tables e below (s₁.setTop (mkF m 1 #[.val (.int p1), .val (.int ix), .val (.ref bf), .unset, .unset, .unset, .unset] [(.int ix)])) _
    refine XS.istore X0.here hx rfl (hb hby d_jdk_33_method_12_code_1) rfl (l' := #[.val (.int p1), .val (.int ix), .val (.ref bf), .unset, .unset, .val (.int ix), .unset]) rfl ?_
    show Steps p.tables e below (s₁.setTop (mkF m 3 #[.val (.int p1), .val (.int ix), .val (.ref bf), .unset, .unset, .val (.int ix), .unset] [])) _
    refine XS.iloadN X0.here hx rfl (hb hby d_jdk_33_method_12_code_3) rfl ?_
    show Steps p.tables e below (s₁.setTop (mkF m 4 #[.val (.int p1), .val (.int ix), .val (.ref bf), .unset, .unset, .val (.int ix), .unset] [(.int p1)])) _
    refine XS.ifYes X0.here hx rfl (pc0 := 4) (pc' := 11) rfl (hb hby d_jdk_33_method_12_code_4) rfl ((if0 _ _).trans (flt hp0).2.1) (by decide) (by decide) ?_
    show Steps p.tables e below (s₁.setTop (mkF m 11 #[.val (.int p1), .val (.int ix), .val (.ref bf), .unset, .unset, .val (.int ix), .unset] [])) _
    refine XT.iconstV X0.here hx rfl (0 : Int32) (hb hby d_jdk_33_method_12_code_11) (by decide) ?_
    show Steps p.tables e below (s₁.setTop (mkF m 12 #[.val (.int p1), .val (.int ix), .val (.ref bf), .unset, .unset, .val (.int ix), .unset] [(.int (0 : Int32))])) _
    refine XS.istore X0.here hx rfl (hb hby d_jdk_33_method_12_code_12) rfl (l' := #[.val (.int p1), .val (.int ix), .val (.ref bf), .unset, .unset, .val (.int ix), .val (.int (0 : Int32))]) rfl ?_
    show Steps p.tables e below (s₁.setTop (mkF m 14 #[.val (.int p1), .val (.int ix), .val (.ref bf), .unset, .unset, .val (.int ix), .val (.int (0 : Int32))] [])) _
    refine XS.iload X0.here hx rfl (hb hby d_jdk_33_method_12_code_14) rfl ?_
    show Steps p.tables e below (s₁.setTop (mkF m 16 #[.val (.int p1), .val (.int ix), .val (.ref bf), .unset, .unset, .val (.int ix), .val (.int (0 : Int32))] [(.int (0 : Int32))])) _
    refine XS.ifNo X0.here hx rfl (hb hby d_jdk_33_method_12_code_16) rfl (by decide) ?_
    show Steps p.tables e below (s₁.setTop (mkF m 19 #[.val (.int p1), .val (.int ix), .val (.ref bf), .unset, .unset, .val (.int ix), .val (.int (0 : Int32))] [])) _
    refine XS.iloadN X0.here hx rfl (hb hby d_jdk_33_method_12_code_19) rfl ?_
    show Steps p.tables e below (s₁.setTop (mkF m 20 #[.val (.int p1), .val (.int ix), .val (.ref bf), .unset, .unset, .val (.int ix), .val (.int (0 : Int32))] [(.int p1)])) _
    refine XS.ineg X0.here hx rfl (hb hby d_jdk_33_method_12_code_20) rfl ?_
    show Steps p.tables e below (s₁.setTop (mkF m 21 #[.val (.int p1), .val (.int ix), .val (.ref bf), .unset, .unset, .val (.int ix), .val (.int (0 : Int32))] [(.int (-p1))])) _
    rw [← hm0]
    show Steps p.tables e below (s₁.setTop (mkF m 21 #[.val (.int p1), .val (.int ix), .val (.ref bf), .unset, .unset, .val (.int ix), .val (.int (0 : Int32))] [(.int m0)])) _
    refine XS.istoreN X0.here hx rfl (hb hby d_jdk_33_method_12_code_21) rfl (l' := #[.val (.int m0), .val (.int ix), .val (.ref bf), .unset, .unset, .val (.int ix), .val (.int (0 : Int32))]) rfl ?_
    show Steps p.tables e below (s₁.setTop (mkF m 22 #[.val (.int m0), .val (.int ix), .val (.ref bf), .unset, .unset, .val (.int ix), .val (.int (0 : Int32))] [])) _
    refine XS.iloadN X0.here hx rfl (hb hby d_jdk_33_method_12_code_22) rfl ?_
    show Steps p.tables e below (s₁.setTop (mkF m 23 #[.val (.int m0), .val (.int ix), .val (.ref bf), .unset, .unset, .val (.int ix), .val (.int (0 : Int32))] [(.int m0)])) _
    refine XT.bipushV X0.here hx rfl (-100 : Int32) (hb hby d_jdk_33_method_12_code_23) (by decide) ?_
    show Steps p.tables e below (s₁.setTop (mkF m 25 #[.val (.int m0), .val (.int ix), .val (.ref bf), .unset, .unset, .val (.int ix), .val (.int (0 : Int32))] [(.int (-100 : Int32)), (.int m0)])) _
    refine XS.icmpNo X0.here hx rfl (hb hby d_jdk_33_method_12_code_25) rfl (flt (own_le (a := (-100 : Int32)) (b := m0) (by rw [ci1, own_m100]; omega))).2.2.1 ?_
    show Steps p.tables e below (s₁.setTop (mkF m 28 #[.val (.int m0), .val (.int ix), .val (.ref bf), .unset, .unset, .val (.int ix), .val (.int (0 : Int32))] [])) _
    refine XS.iloadN X0.here hx rfl (hb hby d_jdk_33_method_12_code_28) rfl ?_
    show Steps p.tables e below (s₁.setTop (mkF m 29 #[.val (.int m0), .val (.int ix), .val (.ref bf), .unset, .unset, .val (.int ix), .val (.int (0 : Int32))] [(.int m0)])) _
    refine XT.bipushV X0.here hx rfl (100 : Int32) (hb hby d_jdk_33_method_12_code_29) (by decide) ?_
    show Steps p.tables e below (s₁.setTop (mkF m 31 #[.val (.int m0), .val (.int ix), .val (.ref bf), .unset, .unset, .val (.int ix), .val (.int (0 : Int32))] [(.int (100 : Int32)), (.int m0)])) _
    refine XS.idiv X0.here hx rfl (hb hby d_jdk_33_method_12_code_31) rfl (by decide) ?_
    show Steps p.tables e below (s₁.setTop (mkF m 32 #[.val (.int m0), .val (.int ix), .val (.ref bf), .unset, .unset, .val (.int ix), .val (.int (0 : Int32))] [(.int (m0 / (100 : Int32)))])) _
    rw [← hq1]
    show Steps p.tables e below (s₁.setTop (mkF m 32 #[.val (.int m0), .val (.int ix), .val (.ref bf), .unset, .unset, .val (.int ix), .val (.int (0 : Int32))] [(.int q1)])) _
    refine XS.istoreN X0.here hx rfl (hb hby d_jdk_33_method_12_code_32) rfl (l' := #[.val (.int m0), .val (.int ix), .val (.ref bf), .val (.int q1), .unset, .val (.int ix), .val (.int (0 : Int32))]) rfl ?_
    show Steps p.tables e below (s₁.setTop (mkF m 33 #[.val (.int m0), .val (.int ix), .val (.ref bf), .val (.int q1), .unset, .val (.int ix), .val (.int (0 : Int32))] [])) _
    refine XS.iloadN X0.here hx rfl (hb hby d_jdk_33_method_12_code_33) rfl ?_
    show Steps p.tables e below (s₁.setTop (mkF m 34 #[.val (.int m0), .val (.int ix), .val (.ref bf), .val (.int q1), .unset, .val (.int ix), .val (.int (0 : Int32))] [(.int q1)])) _
    refine XT.bipushV X0.here hx rfl (100 : Int32) (hb hby d_jdk_33_method_12_code_34) (by decide) ?_
    show Steps p.tables e below (s₁.setTop (mkF m 36 #[.val (.int m0), .val (.int ix), .val (.ref bf), .val (.int q1), .unset, .val (.int ix), .val (.int (0 : Int32))] [(.int (100 : Int32)), (.int q1)])) _
    refine XS.imul X0.here hx rfl (hb hby d_jdk_33_method_12_code_36) rfl ?_
    show Steps p.tables e below (s₁.setTop (mkF m 37 #[.val (.int m0), .val (.int ix), .val (.ref bf), .val (.int q1), .unset, .val (.int ix), .val (.int (0 : Int32))] [(.int (q1 * (100 : Int32)))])) _
    refine XS.iloadN X0.here hx rfl (hb hby d_jdk_33_method_12_code_37) rfl ?_
    show Steps p.tables e below (s₁.setTop (mkF m 38 #[.val (.int m0), .val (.int ix), .val (.ref bf), .val (.int q1), .unset, .val (.int ix), .val (.int (0 : Int32))] [(.int m0), (.int (q1 * (100 : Int32)))])) _
    refine XS.isub X0.here hx rfl (hb hby d_jdk_33_method_12_code_38) rfl ?_
    show Steps p.tables e below (s₁.setTop (mkF m 39 #[.val (.int m0), .val (.int ix), .val (.ref bf), .val (.int q1), .unset, .val (.int ix), .val (.int (0 : Int32))] [(.int ((q1 * (100 : Int32)) - m0))])) _
    rw [← hr1]
    show Steps p.tables e below (s₁.setTop (mkF m 39 #[.val (.int m0), .val (.int ix), .val (.ref bf), .val (.int q1), .unset, .val (.int ix), .val (.int (0 : Int32))] [(.int r1)])) _
    refine XS.istore X0.here hx rfl (hb hby d_jdk_33_method_12_code_39) rfl (l' := #[.val (.int m0), .val (.int ix), .val (.ref bf), .val (.int q1), .val (.int r1), .val (.int ix), .val (.int (0 : Int32))]) rfl ?_
    show Steps p.tables e below (s₁.setTop (mkF m 41 #[.val (.int m0), .val (.int ix), .val (.ref bf), .val (.int q1), .val (.int r1), .val (.int ix), .val (.int (0 : Int32))] [])) _
    refine XS.iloadN X0.here hx rfl (hb hby d_jdk_33_method_12_code_41) rfl ?_
    show Steps p.tables e below (s₁.setTop (mkF m 42 #[.val (.int m0), .val (.int ix), .val (.ref bf), .val (.int q1), .val (.int r1), .val (.int ix), .val (.int (0 : Int32))] [(.int q1)])) _
    refine XS.istoreN X0.here hx rfl (hb hby d_jdk_33_method_12_code_42) rfl (l' := #[.val (.int q1), .val (.int ix), .val (.ref bf), .val (.int q1), .val (.int r1), .val (.int ix), .val (.int (0 : Int32))]) rfl ?_
    show Steps p.tables e below (s₁.setTop (mkF m 43 #[.val (.int q1), .val (.int ix), .val (.ref bf), .val (.int q1), .val (.int r1), .val (.int ix), .val (.int (0 : Int32))] [])) _
    refine XS.aloadN X0.here hx rfl (hb hby d_jdk_33_method_12_code_43) rfl rfl ?_
    show Steps p.tables e below (s₁.setTop (mkF m 44 #[.val (.int q1), .val (.int ix), .val (.ref bf), .val (.int q1), .val (.int r1), .val (.int ix), .val (.int (0 : Int32))] [(.ref bf)])) _
    refine XT.iincV X0.here hx rfl (-1 : Int32) (hb hby d_jdk_33_method_12_code_44) (by decide) rfl (l' := #[.val (.int q1), .val (.int ix), .val (.ref bf), .val (.int q1), .val (.int r1), .val (.int (ix + (-1 : Int32))), .val (.int (0 : Int32))]) rfl ?_
    show Steps p.tables e below (s₁.setTop (mkF m 47 #[.val (.int q1), .val (.int ix), .val (.ref bf), .val (.int q1), .val (.int r1), .val (.int (ix + (-1 : Int32))), .val (.int (0 : Int32))] [(.ref bf)])) _
    rw [← hi1]
    show Steps p.tables e below (s₁.setTop (mkF m 47 #[.val (.int q1), .val (.int ix), .val (.ref bf), .val (.int q1), .val (.int r1), .val (.int i1), .val (.int (0 : Int32))] [(.ref bf)])) _
    refine XS.iload X0.here hx rfl (hb hby d_jdk_33_method_12_code_47) rfl ?_
    show Steps p.tables e below (s₁.setTop (mkF m 49 #[.val (.int q1), .val (.int ix), .val (.ref bf), .val (.int q1), .val (.int r1), .val (.int i1), .val (.int (0 : Int32))] [(.int i1), (.ref bf)])) _
    refine st1 _ ?_
    show Steps p.tables e below (T1.setTop (mkF m 52 #[.val (.int q1), .val (.int ix), .val (.ref bf), .val (.int q1), .val (.int r1), .val (.int i1), .val (.int (0 : Int32))] [(.ref dO), (.int i1), (.ref bf)])) _
    refine XS.iload X1.here hx rfl (hb hby d_jdk_33_method_12_code_52) rfl ?_
    show Steps p.tables e below (T1.setTop (mkF m 54 #[.val (.int q1), .val (.int ix), .val (.ref bf), .val (.int q1), .val (.int r1), .val (.int i1), .val (.int (0 : Int32))] [(.int r1), (.ref dO), (.int i1), (.ref bf)])) _
    refine X1.baloadBytes hx (j := r1) (v := .int ((48 : Int32) + r1 % 10)) (by rw [e1]; exact X00.2.2 _ _ TO.2.1.1) (State.isArrayOf_alike hZ.alike TO.2.1.2.1) TO.2.1.2.2 tb_1i tb_1v (g := (mkF m 54 #[.val (.int q1), .val (.int ix), .val (.ref bf), .val (.int q1), .val (.int r1), .val (.int i1), .val (.int (0 : Int32))] [(.int r1), (.ref dO), (.int i1), (.ref bf)])) rfl rfl (hb hby d_jdk_33_method_12_code_54) _ ?_
    show Steps p.tables e below (T1.setTop (mkF m 55 #[.val (.int q1), .val (.int ix), .val (.ref bf), .val (.int q1), .val (.int r1), .val (.int i1), .val (.int (0 : Int32))] [(.int ((48 : Int32) + r1 % 10)), (.int i1), (.ref bf)])) _
    refine st2 _ ?_
    show Steps p.tables e below (T2.setTop (mkF m 56 #[.val (.int q1), .val (.int ix), .val (.ref bf), .val (.int q1), .val (.int r1), .val (.int i1), .val (.int (0 : Int32))] [])) _
    refine XS.aloadN X2.here hx rfl (hb hby d_jdk_33_method_12_code_56) rfl rfl ?_
    show Steps p.tables e below (T2.setTop (mkF m 57 #[.val (.int q1), .val (.int ix), .val (.ref bf), .val (.int q1), .val (.int r1), .val (.int i1), .val (.int (0 : Int32))] [(.ref bf)])) _
    refine XT.iincV X2.here hx rfl (-1 : Int32) (hb hby d_jdk_33_method_12_code_57) (by decide) rfl (l' := #[.val (.int q1), .val (.int ix), .val (.ref bf), .val (.int q1), .val (.int r1), .val (.int (i1 + (-1 : Int32))), .val (.int (0 : Int32))]) rfl ?_
    show Steps p.tables e below (T2.setTop (mkF m 60 #[.val (.int q1), .val (.int ix), .val (.ref bf), .val (.int q1), .val (.int r1), .val (.int (i1 + (-1 : Int32))), .val (.int (0 : Int32))] [(.ref bf)])) _
    rw [← hi2]
    show Steps p.tables e below (T2.setTop (mkF m 60 #[.val (.int q1), .val (.int ix), .val (.ref bf), .val (.int q1), .val (.int r1), .val (.int i2), .val (.int (0 : Int32))] [(.ref bf)])) _
    refine XS.iload X2.here hx rfl (hb hby d_jdk_33_method_12_code_60) rfl ?_
    show Steps p.tables e below (T2.setTop (mkF m 62 #[.val (.int q1), .val (.int ix), .val (.ref bf), .val (.int q1), .val (.int r1), .val (.int i2), .val (.int (0 : Int32))] [(.int i2), (.ref bf)])) _
    refine st3 _ ?_
    show Steps p.tables e below (T3.setTop (mkF m 65 #[.val (.int q1), .val (.int ix), .val (.ref bf), .val (.int q1), .val (.int r1), .val (.int i2), .val (.int (0 : Int32))] [(.ref dT), (.int i2), (.ref bf)])) _
    refine XS.iload X3.here hx rfl (hb hby d_jdk_33_method_12_code_65) rfl ?_
    show Steps p.tables e below (T3.setTop (mkF m 67 #[.val (.int q1), .val (.int ix), .val (.ref bf), .val (.int q1), .val (.int r1), .val (.int i2), .val (.int (0 : Int32))] [(.int r1), (.ref dT), (.int i2), (.ref bf)])) _
    refine X3.baloadBytes hx (j := r1) (v := .int ((48 : Int32) + r1 / 10)) (by rw [e3]; exact O_3.2.2 _ _ TT.2.1.1) (State.isArrayOf_alike hZ.alike TT.2.1.2.1) TT.2.1.2.2 tb_4i tb_4v (g := (mkF m 67 #[.val (.int q1), .val (.int ix), .val (.ref bf), .val (.int q1), .val (.int r1), .val (.int i2), .val (.int (0 : Int32))] [(.int r1), (.ref dT), (.int i2), (.ref bf)])) rfl rfl (hb hby d_jdk_33_method_12_code_67) _ ?_
    show Steps p.tables e below (T3.setTop (mkF m 68 #[.val (.int q1), .val (.int ix), .val (.ref bf), .val (.int q1), .val (.int r1), .val (.int i2), .val (.int (0 : Int32))] [(.int ((48 : Int32) + r1 / 10)), (.int i2), (.ref bf)])) _
    refine st4 _ ?_
    show Steps p.tables e below (T4.setTop (mkF m 69 #[.val (.int q1), .val (.int ix), .val (.ref bf), .val (.int q1), .val (.int r1), .val (.int i2), .val (.int (0 : Int32))] [])) _
    refine XS.goto X4.here hx rfl (pc0 := 69) (pc' := 22) rfl (hb hby d_jdk_33_method_12_code_69) (by decide) (by decide) ?_
    show Steps p.tables e below (T4.setTop (mkF m 22 #[.val (.int q1), .val (.int ix), .val (.ref bf), .val (.int q1), .val (.int r1), .val (.int i2), .val (.int (0 : Int32))] [])) _
    refine XS.iloadN X4.here hx rfl (hb hby d_jdk_33_method_12_code_22) rfl ?_
    show Steps p.tables e below (T4.setTop (mkF m 23 #[.val (.int q1), .val (.int ix), .val (.ref bf), .val (.int q1), .val (.int r1), .val (.int i2), .val (.int (0 : Int32))] [(.int q1)])) _
    refine XT.bipushV X4.here hx rfl (-100 : Int32) (hb hby d_jdk_33_method_12_code_23) (by decide) ?_
    show Steps p.tables e below (T4.setTop (mkF m 25 #[.val (.int q1), .val (.int ix), .val (.ref bf), .val (.int q1), .val (.int r1), .val (.int i2), .val (.int (0 : Int32))] [(.int (-100 : Int32)), (.int q1)])) _
    refine XS.icmpNo X4.here hx rfl (hb hby d_jdk_33_method_12_code_25) rfl (flt (own_le (a := (-100 : Int32)) (b := q1) (by rw [ci2, own_m100]; omega))).2.2.1 ?_
    show Steps p.tables e below (T4.setTop (mkF m 28 #[.val (.int q1), .val (.int ix), .val (.ref bf), .val (.int q1), .val (.int r1), .val (.int i2), .val (.int (0 : Int32))] [])) _
    refine XS.iloadN X4.here hx rfl (hb hby d_jdk_33_method_12_code_28) rfl ?_
    show Steps p.tables e below (T4.setTop (mkF m 29 #[.val (.int q1), .val (.int ix), .val (.ref bf), .val (.int q1), .val (.int r1), .val (.int i2), .val (.int (0 : Int32))] [(.int q1)])) _
    refine XT.bipushV X4.here hx rfl (100 : Int32) (hb hby d_jdk_33_method_12_code_29) (by decide) ?_
    show Steps p.tables e below (T4.setTop (mkF m 31 #[.val (.int q1), .val (.int ix), .val (.ref bf), .val (.int q1), .val (.int r1), .val (.int i2), .val (.int (0 : Int32))] [(.int (100 : Int32)), (.int q1)])) _
    refine XS.idiv X4.here hx rfl (hb hby d_jdk_33_method_12_code_31) rfl (by decide) ?_
    show Steps p.tables e below (T4.setTop (mkF m 32 #[.val (.int q1), .val (.int ix), .val (.ref bf), .val (.int q1), .val (.int r1), .val (.int i2), .val (.int (0 : Int32))] [(.int (q1 / (100 : Int32)))])) _
    rw [← hq2]
    show Steps p.tables e below (T4.setTop (mkF m 32 #[.val (.int q1), .val (.int ix), .val (.ref bf), .val (.int q1), .val (.int r1), .val (.int i2), .val (.int (0 : Int32))] [(.int q2)])) _
    refine XS.istoreN X4.here hx rfl (hb hby d_jdk_33_method_12_code_32) rfl (l' := #[.val (.int q1), .val (.int ix), .val (.ref bf), .val (.int q2), .val (.int r1), .val (.int i2), .val (.int (0 : Int32))]) rfl ?_
    show Steps p.tables e below (T4.setTop (mkF m 33 #[.val (.int q1), .val (.int ix), .val (.ref bf), .val (.int q2), .val (.int r1), .val (.int i2), .val (.int (0 : Int32))] [])) _
    refine XS.iloadN X4.here hx rfl (hb hby d_jdk_33_method_12_code_33) rfl ?_
    show Steps p.tables e below (T4.setTop (mkF m 34 #[.val (.int q1), .val (.int ix), .val (.ref bf), .val (.int q2), .val (.int r1), .val (.int i2), .val (.int (0 : Int32))] [(.int q2)])) _
    refine XT.bipushV X4.here hx rfl (100 : Int32) (hb hby d_jdk_33_method_12_code_34) (by decide) ?_
    show Steps p.tables e below (T4.setTop (mkF m 36 #[.val (.int q1), .val (.int ix), .val (.ref bf), .val (.int q2), .val (.int r1), .val (.int i2), .val (.int (0 : Int32))] [(.int (100 : Int32)), (.int q2)])) _
    refine XS.imul X4.here hx rfl (hb hby d_jdk_33_method_12_code_36) rfl ?_
    show Steps p.tables e below (T4.setTop (mkF m 37 #[.val (.int q1), .val (.int ix), .val (.ref bf), .val (.int q2), .val (.int r1), .val (.int i2), .val (.int (0 : Int32))] [(.int (q2 * (100 : Int32)))])) _
    refine XS.iloadN X4.here hx rfl (hb hby d_jdk_33_method_12_code_37) rfl ?_
    show Steps p.tables e below (T4.setTop (mkF m 38 #[.val (.int q1), .val (.int ix), .val (.ref bf), .val (.int q2), .val (.int r1), .val (.int i2), .val (.int (0 : Int32))] [(.int q1), (.int (q2 * (100 : Int32)))])) _
    refine XS.isub X4.here hx rfl (hb hby d_jdk_33_method_12_code_38) rfl ?_
    show Steps p.tables e below (T4.setTop (mkF m 39 #[.val (.int q1), .val (.int ix), .val (.ref bf), .val (.int q2), .val (.int r1), .val (.int i2), .val (.int (0 : Int32))] [(.int ((q2 * (100 : Int32)) - q1))])) _
    rw [← hr2]
    show Steps p.tables e below (T4.setTop (mkF m 39 #[.val (.int q1), .val (.int ix), .val (.ref bf), .val (.int q2), .val (.int r1), .val (.int i2), .val (.int (0 : Int32))] [(.int r2)])) _
    refine XS.istore X4.here hx rfl (hb hby d_jdk_33_method_12_code_39) rfl (l' := #[.val (.int q1), .val (.int ix), .val (.ref bf), .val (.int q2), .val (.int r2), .val (.int i2), .val (.int (0 : Int32))]) rfl ?_
    show Steps p.tables e below (T4.setTop (mkF m 41 #[.val (.int q1), .val (.int ix), .val (.ref bf), .val (.int q2), .val (.int r2), .val (.int i2), .val (.int (0 : Int32))] [])) _
    refine XS.iloadN X4.here hx rfl (hb hby d_jdk_33_method_12_code_41) rfl ?_
    show Steps p.tables e below (T4.setTop (mkF m 42 #[.val (.int q1), .val (.int ix), .val (.ref bf), .val (.int q2), .val (.int r2), .val (.int i2), .val (.int (0 : Int32))] [(.int q2)])) _
    refine XS.istoreN X4.here hx rfl (hb hby d_jdk_33_method_12_code_42) rfl (l' := #[.val (.int q2), .val (.int ix), .val (.ref bf), .val (.int q2), .val (.int r2), .val (.int i2), .val (.int (0 : Int32))]) rfl ?_
    show Steps p.tables e below (T4.setTop (mkF m 43 #[.val (.int q2), .val (.int ix), .val (.ref bf), .val (.int q2), .val (.int r2), .val (.int i2), .val (.int (0 : Int32))] [])) _
    refine XS.aloadN X4.here hx rfl (hb hby d_jdk_33_method_12_code_43) rfl rfl ?_
    show Steps p.tables e below (T4.setTop (mkF m 44 #[.val (.int q2), .val (.int ix), .val (.ref bf), .val (.int q2), .val (.int r2), .val (.int i2), .val (.int (0 : Int32))] [(.ref bf)])) _
    refine XT.iincV X4.here hx rfl (-1 : Int32) (hb hby d_jdk_33_method_12_code_44) (by decide) rfl (l' := #[.val (.int q2), .val (.int ix), .val (.ref bf), .val (.int q2), .val (.int r2), .val (.int (i2 + (-1 : Int32))), .val (.int (0 : Int32))]) rfl ?_
    show Steps p.tables e below (T4.setTop (mkF m 47 #[.val (.int q2), .val (.int ix), .val (.ref bf), .val (.int q2), .val (.int r2), .val (.int (i2 + (-1 : Int32))), .val (.int (0 : Int32))] [(.ref bf)])) _
    rw [← hi3]
    show Steps p.tables e below (T4.setTop (mkF m 47 #[.val (.int q2), .val (.int ix), .val (.ref bf), .val (.int q2), .val (.int r2), .val (.int i3), .val (.int (0 : Int32))] [(.ref bf)])) _
    refine XS.iload X4.here hx rfl (hb hby d_jdk_33_method_12_code_47) rfl ?_
    show Steps p.tables e below (T4.setTop (mkF m 49 #[.val (.int q2), .val (.int ix), .val (.ref bf), .val (.int q2), .val (.int r2), .val (.int i3), .val (.int (0 : Int32))] [(.int i3), (.ref bf)])) _
    refine st5 _ ?_
    show Steps p.tables e below (T5.setTop (mkF m 52 #[.val (.int q2), .val (.int ix), .val (.ref bf), .val (.int q2), .val (.int r2), .val (.int i3), .val (.int (0 : Int32))] [(.ref dO), (.int i3), (.ref bf)])) _
    refine XS.iload X5.here hx rfl (hb hby d_jdk_33_method_12_code_52) rfl ?_
    show Steps p.tables e below (T5.setTop (mkF m 54 #[.val (.int q2), .val (.int ix), .val (.ref bf), .val (.int q2), .val (.int r2), .val (.int i3), .val (.int (0 : Int32))] [(.int r2), (.ref dO), (.int i3), (.ref bf)])) _
    refine X5.baloadBytes hx (j := r2) (v := .int ((48 : Int32) + r2 % 10)) (by rw [e5]; exact O_6.2.2 _ _ TO.2.1.1) (State.isArrayOf_alike hZ.alike TO.2.1.2.1) TO.2.1.2.2 tb_7i tb_7v (g := (mkF m 54 #[.val (.int q2), .val (.int ix), .val (.ref bf), .val (.int q2), .val (.int r2), .val (.int i3), .val (.int (0 : Int32))] [(.int r2), (.ref dO), (.int i3), (.ref bf)])) rfl rfl (hb hby d_jdk_33_method_12_code_54) _ ?_
    show Steps p.tables e below (T5.setTop (mkF m 55 #[.val (.int q2), .val (.int ix), .val (.ref bf), .val (.int q2), .val (.int r2), .val (.int i3), .val (.int (0 : Int32))] [(.int ((48 : Int32) + r2 % 10)), (.int i3), (.ref bf)])) _
    refine st6 _ ?_
    show Steps p.tables e below (T6.setTop (mkF m 56 #[.val (.int q2), .val (.int ix), .val (.ref bf), .val (.int q2), .val (.int r2), .val (.int i3), .val (.int (0 : Int32))] [])) _
    refine XS.aloadN X6.here hx rfl (hb hby d_jdk_33_method_12_code_56) rfl rfl ?_
    show Steps p.tables e below (T6.setTop (mkF m 57 #[.val (.int q2), .val (.int ix), .val (.ref bf), .val (.int q2), .val (.int r2), .val (.int i3), .val (.int (0 : Int32))] [(.ref bf)])) _
    refine XT.iincV X6.here hx rfl (-1 : Int32) (hb hby d_jdk_33_method_12_code_57) (by decide) rfl (l' := #[.val (.int q2), .val (.int ix), .val (.ref bf), .val (.int q2), .val (.int r2), .val (.int (i3 + (-1 : Int32))), .val (.int (0 : Int32))]) rfl ?_
    show Steps p.tables e below (T6.setTop (mkF m 60 #[.val (.int q2), .val (.int ix), .val (.ref bf), .val (.int q2), .val (.int r2), .val (.int (i3 + (-1 : Int32))), .val (.int (0 : Int32))] [(.ref bf)])) _
    rw [← hi4]
    show Steps p.tables e below (T6.setTop (mkF m 60 #[.val (.int q2), .val (.int ix), .val (.ref bf), .val (.int q2), .val (.int r2), .val (.int i4), .val (.int (0 : Int32))] [(.ref bf)])) _
    refine XS.iload X6.here hx rfl (hb hby d_jdk_33_method_12_code_60) rfl ?_
    show Steps p.tables e below (T6.setTop (mkF m 62 #[.val (.int q2), .val (.int ix), .val (.ref bf), .val (.int q2), .val (.int r2), .val (.int i4), .val (.int (0 : Int32))] [(.int i4), (.ref bf)])) _
    refine st7 _ ?_
    show Steps p.tables e below (T7.setTop (mkF m 65 #[.val (.int q2), .val (.int ix), .val (.ref bf), .val (.int q2), .val (.int r2), .val (.int i4), .val (.int (0 : Int32))] [(.ref dT), (.int i4), (.ref bf)])) _
    refine XS.iload X7.here hx rfl (hb hby d_jdk_33_method_12_code_65) rfl ?_
    show Steps p.tables e below (T7.setTop (mkF m 67 #[.val (.int q2), .val (.int ix), .val (.ref bf), .val (.int q2), .val (.int r2), .val (.int i4), .val (.int (0 : Int32))] [(.int r2), (.ref dT), (.int i4), (.ref bf)])) _
    refine X7.baloadBytes hx (j := r2) (v := .int ((48 : Int32) + r2 / 10)) (by rw [e7]; exact O_9.2.2 _ _ TT.2.1.1) (State.isArrayOf_alike hZ.alike TT.2.1.2.1) TT.2.1.2.2 tb_10i tb_10v (g := (mkF m 67 #[.val (.int q2), .val (.int ix), .val (.ref bf), .val (.int q2), .val (.int r2), .val (.int i4), .val (.int (0 : Int32))] [(.int r2), (.ref dT), (.int i4), (.ref bf)])) rfl rfl (hb hby d_jdk_33_method_12_code_67) _ ?_
    show Steps p.tables e below (T7.setTop (mkF m 68 #[.val (.int q2), .val (.int ix), .val (.ref bf), .val (.int q2), .val (.int r2), .val (.int i4), .val (.int (0 : Int32))] [(.int ((48 : Int32) + r2 / 10)), (.int i4), (.ref bf)])) _
    refine st8 _ ?_
    show Steps p.tables e below (T8.setTop (mkF m 69 #[.val (.int q2), .val (.int ix), .val (.ref bf), .val (.int q2), .val (.int r2), .val (.int i4), .val (.int (0 : Int32))] [])) _
    refine XS.goto X8.here hx rfl (pc0 := 69) (pc' := 22) rfl (hb hby d_jdk_33_method_12_code_69) (by decide) (by decide) ?_
    show Steps p.tables e below (T8.setTop (mkF m 22 #[.val (.int q2), .val (.int ix), .val (.ref bf), .val (.int q2), .val (.int r2), .val (.int i4), .val (.int (0 : Int32))] [])) _
    refine XS.iloadN X8.here hx rfl (hb hby d_jdk_33_method_12_code_22) rfl ?_
    show Steps p.tables e below (T8.setTop (mkF m 23 #[.val (.int q2), .val (.int ix), .val (.ref bf), .val (.int q2), .val (.int r2), .val (.int i4), .val (.int (0 : Int32))] [(.int q2)])) _
    refine XT.bipushV X8.here hx rfl (-100 : Int32) (hb hby d_jdk_33_method_12_code_23) (by decide) ?_
    show Steps p.tables e below (T8.setTop (mkF m 25 #[.val (.int q2), .val (.int ix), .val (.ref bf), .val (.int q2), .val (.int r2), .val (.int i4), .val (.int (0 : Int32))] [(.int (-100 : Int32)), (.int q2)])) _
    refine XS.icmpYes X8.here hx rfl (pc0 := 25) (pc' := 72) rfl (hb hby d_jdk_33_method_12_code_25) rfl (tlt (own_lt (a := (-100 : Int32)) (b := q2) (by rw [ci3, own_m100]; omega))).2.2.1 (by decide) (by decide) ?_
    show Steps p.tables e below (T8.setTop (mkF m 72 #[.val (.int q2), .val (.int ix), .val (.ref bf), .val (.int q2), .val (.int r2), .val (.int i4), .val (.int (0 : Int32))] [])) _
    refine XS.aloadN X8.here hx rfl (hb hby d_jdk_33_method_12_code_72) rfl rfl ?_
    show Steps p.tables e below (T8.setTop (mkF m 73 #[.val (.int q2), .val (.int ix), .val (.ref bf), .val (.int q2), .val (.int r2), .val (.int i4), .val (.int (0 : Int32))] [(.ref bf)])) _
    refine XT.iincV X8.here hx rfl (-1 : Int32) (hb hby d_jdk_33_method_12_code_73) (by decide) rfl (l' := #[.val (.int q2), .val (.int ix), .val (.ref bf), .val (.int q2), .val (.int r2), .val (.int (i4 + (-1 : Int32))), .val (.int (0 : Int32))]) rfl ?_
    show Steps p.tables e below (T8.setTop (mkF m 76 #[.val (.int q2), .val (.int ix), .val (.ref bf), .val (.int q2), .val (.int r2), .val (.int (i4 + (-1 : Int32))), .val (.int (0 : Int32))] [(.ref bf)])) _
    rw [← hi5]
    show Steps p.tables e below (T8.setTop (mkF m 76 #[.val (.int q2), .val (.int ix), .val (.ref bf), .val (.int q2), .val (.int r2), .val (.int i5), .val (.int (0 : Int32))] [(.ref bf)])) _
    refine XS.iload X8.here hx rfl (hb hby d_jdk_33_method_12_code_76) rfl ?_
    show Steps p.tables e below (T8.setTop (mkF m 78 #[.val (.int q2), .val (.int ix), .val (.ref bf), .val (.int q2), .val (.int r2), .val (.int i5), .val (.int (0 : Int32))] [(.int i5), (.ref bf)])) _
    refine st9 _ ?_
    show Steps p.tables e below (T9.setTop (mkF m 81 #[.val (.int q2), .val (.int ix), .val (.ref bf), .val (.int q2), .val (.int r2), .val (.int i5), .val (.int (0 : Int32))] [(.ref dO), (.int i5), (.ref bf)])) _
    refine XS.iloadN X9.here hx rfl (hb hby d_jdk_33_method_12_code_81) rfl ?_
    show Steps p.tables e below (T9.setTop (mkF m 82 #[.val (.int q2), .val (.int ix), .val (.ref bf), .val (.int q2), .val (.int r2), .val (.int i5), .val (.int (0 : Int32))] [(.int q2), (.ref dO), (.int i5), (.ref bf)])) _
    refine XS.ineg X9.here hx rfl (hb hby d_jdk_33_method_12_code_82) rfl ?_
    show Steps p.tables e below (T9.setTop (mkF m 83 #[.val (.int q2), .val (.int ix), .val (.ref bf), .val (.int q2), .val (.int r2), .val (.int i5), .val (.int (0 : Int32))] [(.int (-q2)), (.ref dO), (.int i5), (.ref bf)])) _
    rw [← hl0]
    show Steps p.tables e below (T9.setTop (mkF m 83 #[.val (.int q2), .val (.int ix), .val (.ref bf), .val (.int q2), .val (.int r2), .val (.int i5), .val (.int (0 : Int32))] [(.int l0), (.ref dO), (.int i5), (.ref bf)])) _
    refine X9.baloadBytes hx (j := l0) (v := .int ((48 : Int32) + l0 % 10)) (by rw [e9]; exact O_12.2.2 _ _ TO.2.1.1) (State.isArrayOf_alike hZ.alike TO.2.1.2.1) TO.2.1.2.2 tb_13i tb_13v (g := (mkF m 83 #[.val (.int q2), .val (.int ix), .val (.ref bf), .val (.int q2), .val (.int r2), .val (.int i5), .val (.int (0 : Int32))] [(.int l0), (.ref dO), (.int i5), (.ref bf)])) rfl rfl (hb hby d_jdk_33_method_12_code_83) _ ?_
    show Steps p.tables e below (T9.setTop (mkF m 84 #[.val (.int q2), .val (.int ix), .val (.ref bf), .val (.int q2), .val (.int r2), .val (.int i5), .val (.int (0 : Int32))] [(.int ((48 : Int32) + l0 % 10)), (.int i5), (.ref bf)])) _
    refine st10 _ ?_
    show Steps p.tables e below (T10.setTop (mkF m 85 #[.val (.int q2), .val (.int ix), .val (.ref bf), .val (.int q2), .val (.int r2), .val (.int i5), .val (.int (0 : Int32))] [])) _
    refine XS.iloadN X10.here hx rfl (hb hby d_jdk_33_method_12_code_85) rfl ?_
    show Steps p.tables e below (T10.setTop (mkF m 86 #[.val (.int q2), .val (.int ix), .val (.ref bf), .val (.int q2), .val (.int r2), .val (.int i5), .val (.int (0 : Int32))] [(.int q2)])) _
    refine XT.bipushV X10.here hx rfl (-9 : Int32) (hb hby d_jdk_33_method_12_code_86) (by decide) ?_
    show Steps p.tables e below (T10.setTop (mkF m 88 #[.val (.int q2), .val (.int ix), .val (.ref bf), .val (.int q2), .val (.int r2), .val (.int i5), .val (.int (0 : Int32))] [(.int (-9 : Int32)), (.int q2)])) _
    refine XS.icmpYes X10.here hx rfl (pc0 := 88) (pc' := 104) rfl (hb hby d_jdk_33_method_12_code_88) rfl (flt (own_le (a := q2) (b := (-9 : Int32)) (by rw [ci3, own_m9]; omega))).2.1 (by decide) (by decide) ?_
    show Steps p.tables e below (T10.setTop (mkF m 104 #[.val (.int q2), .val (.int ix), .val (.ref bf), .val (.int q2), .val (.int r2), .val (.int i5), .val (.int (0 : Int32))] [])) _
    refine XS.iload X10.here hx rfl (hb hby d_jdk_33_method_12_code_104) rfl ?_
    show Steps p.tables e below (T10.setTop (mkF m 106 #[.val (.int q2), .val (.int ix), .val (.ref bf), .val (.int q2), .val (.int r2), .val (.int i5), .val (.int (0 : Int32))] [(.int (0 : Int32))])) _
    refine XS.ifYes X10.here hx rfl (pc0 := 106) (pc' := 118) rfl (hb hby d_jdk_33_method_12_code_106) rfl (by decide) (by decide) (by decide) ?_
    show Steps p.tables e below (T10.setTop (mkF m 118 #[.val (.int q2), .val (.int ix), .val (.ref bf), .val (.int q2), .val (.int r2), .val (.int i5), .val (.int (0 : Int32))] [])) _
    refine XS.iload X10.here hx rfl (hb hby d_jdk_33_method_12_code_118) rfl ?_
    show Steps p.tables e below (T10.setTop (mkF m 120 #[.val (.int q2), .val (.int ix), .val (.ref bf), .val (.int q2), .val (.int r2), .val (.int i5), .val (.int (0 : Int32))] [(.int i5)])) _
    exact retI X10 hx Bd.returns (hb hby d_jdk_33_method_12_code_120) hr
  · refine ⟨by rw [hret], N10, ?_, ?_⟩
    · show Keep h0 T10.heap _; rw [e10]; exact K_14
    · show Arv Z T10.heap _ _ _ _ _ _; rw [e10, own_gcE5 ⟨hlo, hhi⟩]; exact V10
def Q_gc (Z : State) (p1 ix : Int32) (bf : Addr) (kb : ClassId) (vs : List Value) (dO dT : Addr) (cO cT : Cell) (h0 : Heap) (n0 : Nat) (v : Option Value) (h : Heap) (L : List Loc) : Prop := v = some (.int (ix - own_sz p1)) ∧ Fr n0 L ∧ Keep h0 h [bf] ∧ Arv Z h bf kb .byte (16 : Int32) (own_gc vs ix.toNatClampNeg p1) (.int 0)
theorem gc (l : Launch) (Z : State) (a0 : Array Value) (hw : ∀ d ∈ tables_1, d.before a0 Z = true) (ws : List Jvm.Cond) (p1 ix : Int32) (bf : Addr) (kb : ClassId) (vs : List Value) (dO dT : Addr) (cO cT : Cell) (h0 : Heap) (n0 : Nat) (Z0 : n0 ≤ h0.size) (X00 : Old Z n0 h0)(TO : own_O Z dO cO) (TT : own_T Z dT cT)(Vb : Arv Z h0 bf kb .byte (16 : Int32) vs (.int 0)) (gb : n0 ≤ bf) (hvl : vs.length = 16) (hix1 : (own_sz p1).toInt ≤ ix.toInt) (hix2 : ix.toInt ≤ 16)(hlo : 0 ≤ p1.toInt) (hhi : p1.toInt < 65536) :
    MetFree l (⟨"java/lang/Integer", "getChars", "(II[B)I"⟩ : MethodName) (head1 (Jvm.Cond.code (⟨"java/lang/Integer", "getChars", "(II[B)I"⟩ : MethodName) jdk_33_method_12_code 7 (Option.some Jvm.ClassFile.FieldType.int) :: ws) ({ frames := 0, cells := 0, slots := 0, locals := 0 } : Room)) (fun a U => a = #[(.int p1), (.int ix), (.ref bf)] ∧ Z.Warmed39 U.vm ∧ U.heap = h0) (fun _ _ _ _ _ => True) (fun _ U o U' => ∃ v L, o = .returned v ∧ Q_gc Z p1 ix bf kb vs dO dT cO cT h0 n0 v U'.heap L ∧ FrameEnd U o U' L ({ frames := 0, cells := 0, slots := 0, locals := 0 } : Room).cells ({ frames := 0, cells := 0, slots := 0, locals := 0 } : Room).slots) := by
  rcases own_rng p1 hlo hhi with q | q | q | q | q
  · exact gc_1 l Z a0 hw ws p1 ix bf kb vs dO dT cO cT h0 n0 Z0 X00 TO TT Vb gb hvl hix1 hix2 q.1 q.2
  · exact gc_2 l Z a0 hw ws p1 ix bf kb vs dO dT cO cT h0 n0 Z0 X00 TO TT Vb gb hvl hix1 hix2 q.1 q.2
  · exact gc_3 l Z a0 hw ws p1 ix bf kb vs dO dT cO cT h0 n0 Z0 X00 TO TT Vb gb hvl hix1 hix2 q.1 q.2
  · exact gc_4 l Z a0 hw ws p1 ix bf kb vs dO dT cO cT h0 n0 Z0 X00 TO TT Vb gb hvl hix1 hix2 q.1 q.2
  · exact gc_5 l Z a0 hw ws p1 ix bf kb vs dO dT cO cT h0 n0 Z0 X00 TO TT Vb gb hvl hix1 hix2 q.1 q.2
theorem d_jdk_68_method_32_code_0 : decode jdk_68_method_32_code 0 = .ok (.aload_n 0, 1) := by decide +kernel
theorem d_jdk_68_method_32_code_1 : decode jdk_68_method_32_code 1 = .ok (.getfield 79, 3) := by decide +kernel
theorem d_jdk_68_method_32_code_4 : decode jdk_68_method_32_code 4 = .ok (.istore_n 2, 1) := by decide +kernel
theorem d_jdk_68_method_32_code_5 : decode jdk_68_method_32_code 5 = .ok (.iload_n 2, 1) := by decide +kernel
theorem d_jdk_68_method_32_code_6 : decode jdk_68_method_32_code 6 = .ok (.iload_n 1, 1) := by decide +kernel
theorem d_jdk_68_method_32_code_7 : decode jdk_68_method_32_code 7 = .ok (.invokestatic 245, 3) := by decide +kernel
theorem pd_154 : parseMethodDescriptor "(I)I" = some ⟨[.int], some .int⟩ := by decide +kernel
theorem d_jdk_68_method_32_code_10 : decode jdk_68_method_32_code 10 = .ok (.iadd, 1) := by decide +kernel
theorem d_jdk_68_method_32_code_11 : decode jdk_68_method_32_code 11 = .ok (.istore_n 3, 1) := by decide +kernel
theorem d_jdk_68_method_32_code_12 : decode jdk_68_method_32_code 12 = .ok (.aload_n 0, 1) := by decide +kernel
theorem d_jdk_68_method_32_code_13 : decode jdk_68_method_32_code 13 = .ok (.iload_n 3, 1) := by decide +kernel
theorem d_jdk_68_method_32_code_14 : decode jdk_68_method_32_code 14 = .ok (.invokevirtual 100, 3) := by decide +kernel
theorem d_jdk_68_method_32_code_17 : decode jdk_68_method_32_code 17 = .ok (.aload_n 0, 1) := by decide +kernel
theorem d_jdk_68_method_32_code_18 : decode jdk_68_method_32_code 18 = .ok (.invokevirtual 83, 3) := by decide +kernel
theorem pd_162 : parseMethodDescriptor "()Z" = some ⟨[], some .boolean⟩ := by decide +kernel
theorem d_jdk_68_method_32_code_21 : decode jdk_68_method_32_code 21 = .ok (.ifCond .eq 16, 3) := by decide +kernel
theorem d_jdk_68_method_32_code_24 : decode jdk_68_method_32_code 24 = .ok (.iload_n 1, 1) := by decide +kernel
theorem d_jdk_68_method_32_code_25 : decode jdk_68_method_32_code 25 = .ok (.iload_n 3, 1) := by decide +kernel
theorem d_jdk_68_method_32_code_26 : decode jdk_68_method_32_code 26 = .ok (.aload_n 0, 1) := by decide +kernel
theorem d_jdk_68_method_32_code_27 : decode jdk_68_method_32_code 27 = .ok (.getfield 15, 3) := by decide +kernel
theorem d_jdk_68_method_32_code_30 : decode jdk_68_method_32_code 30 = .ok (.invokestatic 248, 3) := by decide +kernel
theorem pd_169 : parseMethodDescriptor "(II[B)I" = some ⟨[.int, .int, (.array .byte)], some .int⟩ := by decide +kernel
theorem d_jdk_68_method_32_code_33 : decode jdk_68_method_32_code 33 = .ok (.pop, 1) := by decide +kernel
theorem d_jdk_68_method_32_code_34 : decode jdk_68_method_32_code 34 = .ok (.goto 14, 3) := by decide +kernel
theorem d_jdk_68_method_32_code_48 : decode jdk_68_method_32_code 48 = .ok (.aload_n 0, 1) := by decide +kernel
theorem d_jdk_68_method_32_code_49 : decode jdk_68_method_32_code 49 = .ok (.iload_n 3, 1) := by decide +kernel
theorem d_jdk_68_method_32_code_50 : decode jdk_68_method_32_code 50 = .ok (.putfield 79, 3) := by decide +kernel
theorem d_jdk_68_method_32_code_53 : decode jdk_68_method_32_code 53 = .ok (.aload_n 0, 1) := by decide +kernel
theorem d_jdk_68_method_32_code_54 : decode jdk_68_method_32_code 54 = .ok (.areturn, 1) := by decide +kernel
theorem ef_177 (m : MethodId) (x0 : Addr) (x1 : Int32) : entryFrame m #[(.ref x0), (.int x1)] 4 = mkF m 0 #[.val (.ref x0), .val (.int x1), .unset, .unset] [] := by first | (simp [entryFrame, mkF, argsToLocals, Value.category]; done) | rfl
def Q_asb_appI (Z : State) (sb bf : Addr) (kb : ClassId) (cnt : Int32) (vs : List Value) (p1 : Int32) (zc : Int32) (dO dT : Addr) (cO cT : Cell) (h0 : Heap) (n0 : Nat) (v : Option Value) (h : Heap) (L : List Loc) : Prop := v = some (.ref sb) ∧ Fr n0 L ∧ Keep h0 h [sb, bf] ∧ Exa Z h sb "java/lang/StringBuilder" ∧ Fld Z h sb "java/lang/AbstractStringBuilder" "value" "[B" (.ref bf) ∧ Fld Z h sb "java/lang/AbstractStringBuilder" "coder" "B" (.int (0 : Int32)) ∧ Fld Z h sb "java/lang/AbstractStringBuilder" "count" "I" (.int (cnt + own_sz p1)) ∧ Arv Z h bf kb .byte (16 : Int32) (own_gc vs (cnt + own_sz p1).toNatClampNeg p1) (.int 0)
set_option maxRecDepth 65536 in
set_option maxHeartbeats 40000000 in
theorem asb_appI (l : Launch) (Z : State) (a0 : Array Value) (hw : ∀ d ∈ tables_1, d.before a0 Z = true) (ws : List Jvm.Cond) (sb bf : Addr) (kb : ClassId) (cnt : Int32) (vs : List Value) (p1 : Int32) (zc : Int32) (dO dT : Addr) (cO cT : Cell) (h0 : Heap) (n0 : Nat) (Z0 : n0 ≤ h0.size) (X00 : Old Z n0 h0)(SC : Sta Z Z.heap "java/lang/String" "COMPACT_STRINGS" "Z" (.int zc)) (hzc : ¬ zc = 0)(TO : own_O Z dO cO) (TT : own_T Z dT cT)(Esb : Exa Z h0 sb "java/lang/StringBuilder") (Fv : Fld Z h0 sb "java/lang/AbstractStringBuilder" "value" "[B" (.ref bf)) (Fc : Fld Z h0 sb "java/lang/AbstractStringBuilder" "coder" "B" (.int (0 : Int32))) (Fn : Fld Z h0 sb "java/lang/AbstractStringBuilder" "count" "I" (.int cnt)) (Vb : Arv Z h0 bf kb .byte (16 : Int32) vs (.int 0)) (nb : sb ≠ bf) (gs : n0 ≤ sb) (gb : n0 ≤ bf)(hvl : vs.length = 16) (hlo : 0 ≤ p1.toInt) (hhi : p1.toInt < 65536) (hc0 : 0 ≤ cnt.toInt) (hc1 : cnt.toInt + (own_sz p1).toInt ≤ 16) :
    MetFree l (⟨"java/lang/AbstractStringBuilder", "append", "(I)Ljava/lang/AbstractStringBuilder;"⟩ : MethodName) (head1 (Jvm.Cond.code (⟨"java/lang/AbstractStringBuilder", "append", "(I)Ljava/lang/AbstractStringBuilder;"⟩ : MethodName) jdk_68_method_32_code 4 (Option.some (Jvm.ClassFile.FieldType.object "java/lang/AbstractStringBuilder")) :: ws) ({ frames := 1, cells := 0, slots := 0, locals := 18 } : Room)) (fun a U => a = #[(.ref sb), (.int p1)] ∧ Z.Warmed39 U.vm ∧ U.heap = h0) (fun _ _ _ _ _ => True) (fun _ U o U' => ∃ v L, o = .returned v ∧ Q_asb_appI Z sb bf kb cnt vs p1 zc dO dT cO cT h0 n0 v U'.heap L ∧ FrameEnd U o U' L ({ frames := 1, cells := 0, slots := 0, locals := 18 } : Room).cells ({ frames := 1, cells := 0, slots := 0, locals := 18 } : Room).slots) := by
  refine MetFree.of_bodySF (plainFor_of_name pn_14) hisR ?_
  intro p e s m args below meth c s₁ Bd hml0 hP hK
  obtain ⟨rfl, hZ, hh⟩ := hP
  have hx := Bd.exec
  have hby := Bd.bytes
  have hml : c.maxLocals = 4 := hml0
  have hown : s.vm.findClass "java/lang/AbstractStringBuilder" = some m.cls := findClass_of_methodNamed Bd.named
  have hnm := (name_of_methodNamed Bd.named Bd.method).1
  have X0 : Stand p l e ({ frames := 1, cells := 0, slots := 0, locals := 18 } : Room) s m #[(.ref sb), (.int p1)] below meth c s₁ [] 0 0 := Stand.of_body Bd
  have e0 : s₁.heap = h0 := by rw [← hh, Bd.state]; rfl
  have N0 := Fr.nil n0
  have hlk : meth.locks = false := BodyLoose.notSynchronized Bd
  have pre0 : ∀ t, Steps p.tables e below (s₁.setTop (mkF m 0 #[.val (.ref sb), .val (.int p1), .unset, .unset] [])) t → Steps p.tables e below (s₁.setTop (entryFrame m #[(.ref sb), (.int p1)] 4)) t := fun t k => castTop (ef_177 m sb p1) k
  have hsr := own_szR p1 hlo hhi
  obtain ⟨ct, hct⟩ : ∃ z, z = cnt + own_sz p1 := ⟨_, rfl⟩
  have cti : ct.toInt = cnt.toInt + (own_sz p1).toInt := by rw [hct]; exact own_addI hc0 (by omega) (by omega)
  have K0 : Keep h0 h0 [sb, bf] := Keep.refl h0 _
  obtain ⟨T1, X1, e1, st1⟩ := getF X0 hx hZ hown (host := "") (Or.inl (hw _ (List.mem_of_getElem? (i := 52) rfl))) Via.refl e0 Fn (g := (mkF m 1 #[.val (.ref sb), .val (.int p1), .unset, .unset] [(.ref sb)])) rfl rfl (hb hby d_jdk_68_method_32_code_1)
  obtain ⟨_, _, ⟨T2, L2, k2, n2⟩, -, X2, ⟨Lc2, hQ2, l2, y2, z2⟩, st2⟩ := Jvm.LawKit.callS X1 hx (y := (⟨"java/lang/Integer", "stringSize", "(I)I"⟩ : MethodName)) hown (mvT hZ (hw _ (List.mem_of_getElem? (i := 54) rfl))) (mvT hZ (hw _ (List.mem_of_getElem? (i := 55) rfl))) (mvT hZ (hw _ (List.mem_of_getElem? (i := 56) rfl))) (mvT hZ (hw _ (List.mem_of_getElem? (i := 57) rfl))) (by decide) (backOf (W := 1) (ss l Z a0 hw [] p1 h0 n0 Z0 hlo hhi) hZ (hw _ (List.mem_of_getElem? (i := 57) rfl)) (hw _ (List.mem_of_getElem? (i := 56) rfl)) (by decide) (by decide)) (g := (mkF m 7 #[.val (.ref sb), .val (.int p1), .val (.int cnt), .unset] [(.int p1), (.int cnt)])) rfl (by rw [hml]; rfl) (argsL := [(.int p1)]) (rest := [(.int cnt)]) (lenOf pd_154 rfl) rfl (by show 2 * 0 + _ ≤ _; exact Nat.le_of_eq rfl) (hb hby d_jdk_68_method_32_code_7) (fun _ _ => ⟨rfl, e1, (by decide : 0 + 0 ≤ _), (by decide : 0 + 0 ≤ _)⟩)
  dsimp only [Pt.U, Pt.locs, Pt.cells, Pt.slots] at X2 l2 y2 z2 st2 hQ2
  subst l2 y2 z2
  obtain ⟨rfl, N2q, e2⟩ := hQ2
  have N2 := Fr.app N0 N2q
  obtain ⟨cq3, kq3, q3a, q3b, q3c⟩ := isOf hZ e2 Esb
  obtain ⟨_, _, ⟨T3, L3, k3, n3⟩, -, X3, ⟨Lc3, hQ3, l3, y3, z3⟩, st3⟩ := X2.virtualBack hx (y := (⟨"java/lang/AbstractStringBuilder", "ensureCapacityInternal", "(I)V"⟩ : MethodName)) (z := (⟨"java/lang/AbstractStringBuilder", "ensureCapacityInternal", "(I)V"⟩ : MethodName)) hown (mvT hZ (hw _ (List.mem_of_getElem? (i := 58) rfl))) (mvT hZ (own_decl (hw _ (List.mem_of_getElem? (i := 59) rfl)) (hw _ (List.mem_of_getElem? (i := 62) rfl)))) (notFace_of_selects (args := #[]) (mvT hZ (hw _ (List.mem_of_getElem? (i := 61) rfl)))) (mvT hZ (hw _ (List.mem_of_getElem? (i := 61) rfl))) (mvT hZ (hw _ (List.mem_of_getElem? (i := 59) rfl))) (by decide) (backOf (W := 0) (ensure l Z a0 hw [] sb bf kb vs ct h0 n0 Z0 Fv Fc Vb (by omega) (by omega)) hZ (hw _ (List.mem_of_getElem? (i := 62) rfl)) (hw _ (List.mem_of_getElem? (i := 32) rfl)) (by decide) (by decide)) q3a q3c (g := (mkF m 14 #[.val (.ref sb), .val (.int p1), .val (.int cnt), .val (.int ct)] [(.int ct), (.ref sb)])) rfl (by rw [hml]; rfl) (Steps.refl _) (argsL := [(.int ct)]) (rest := []) (lenOf pd_18 rfl) rfl (by show 2 * 0 + _ ≤ _; exact Nat.le_of_eq rfl) (hb hby d_jdk_68_method_32_code_14) (fun _ _ => ⟨rfl, e2, (by decide : 0 + 0 ≤ _), (by decide : 0 + 0 ≤ _)⟩)
  dsimp only [Pt.U, Pt.locs, Pt.cells, Pt.slots] at X3 l3 y3 z3 st3 hQ3
  subst l3 y3 z3
  obtain ⟨rfl, N3q, e3⟩ := hQ3
  have N3 := Fr.app N2 N3q
  obtain ⟨cq4, kq4, q4a, q4b, q4c⟩ := isOf hZ e3 Esb
  obtain ⟨_, _, ⟨T4, L4, k4, n4⟩, -, X4, ⟨Lc4, hQ4, l4, y4, z4⟩, st4⟩ := X3.virtualBack hx (y := (⟨"java/lang/AbstractStringBuilder", "isLatin1", "()Z"⟩ : MethodName)) (z := (⟨"java/lang/AbstractStringBuilder", "isLatin1", "()Z"⟩ : MethodName)) hown (mvT hZ (hw _ (List.mem_of_getElem? (i := 63) rfl))) (mvT hZ (hw _ (List.mem_of_getElem? (i := 64) rfl))) (notFace_of_selects (args := #[]) (mvT hZ (hw _ (List.mem_of_getElem? (i := 66) rfl)))) (mvT hZ (hw _ (List.mem_of_getElem? (i := 66) rfl))) (mvT hZ (hw _ (List.mem_of_getElem? (i := 65) rfl))) (by decide) (backOf (W := 0) (asb_lat l Z a0 hw [] sb zc h0 n0 Z0 X00 SC hzc Fc) hZ (hw _ (List.mem_of_getElem? (i := 67) rfl)) (hw _ (List.mem_of_getElem? (i := 32) rfl)) (by decide) (by decide)) q4a q4c (g := (mkF m 18 #[.val (.ref sb), .val (.int p1), .val (.int cnt), .val (.int ct)] [(.ref sb)])) rfl (by rw [hml]; rfl) (Steps.refl _) (argsL := []) (rest := []) (lenOf pd_162 rfl) rfl (by show 2 * 0 + _ ≤ _; exact Nat.le_of_eq rfl) (hb hby d_jdk_68_method_32_code_18) (fun _ _ => ⟨rfl, e3, (by decide : 0 + 0 ≤ _), (by decide : 0 + 0 ≤ _)⟩)
  dsimp only [Pt.U, Pt.locs, Pt.cells, Pt.slots] at X4 l4 y4 z4 st4 hQ4
  subst l4 y4 z4
  obtain ⟨rfl, N4q, e4⟩ := hQ4
  have N4 := Fr.app N3 N4q
  obtain ⟨T5, X5, e5, st5⟩ := getF X4 hx hZ hown (host := "") (Or.inl (hw _ (List.mem_of_getElem? (i := 38) rfl))) Via.refl e4 Fv (g := (mkF m 27 #[.val (.ref sb), .val (.int p1), .val (.int cnt), .val (.int ct)] [(.ref sb), (.int ct), (.int p1)])) rfl rfl (hb hby d_jdk_68_method_32_code_27)
  obtain ⟨_, _, ⟨T6, L6, k6, n6⟩, -, X6, ⟨Lc6, hQ6, l6, y6, z6⟩, st6⟩ := Jvm.LawKit.callS X5 hx (y := (⟨"java/lang/Integer", "getChars", "(II[B)I"⟩ : MethodName)) hown (mvT hZ (hw _ (List.mem_of_getElem? (i := 68) rfl))) (mvT hZ (hw _ (List.mem_of_getElem? (i := 69) rfl))) (mvT hZ (hw _ (List.mem_of_getElem? (i := 56) rfl))) (mvT hZ (hw _ (List.mem_of_getElem? (i := 70) rfl))) (by decide) (backOf (W := 0) (gc l Z a0 hw [] p1 ct bf kb vs dO dT cO cT h0 n0 Z0 X00 TO TT Vb gb hvl (by omega) (by omega) hlo hhi) hZ (hw _ (List.mem_of_getElem? (i := 70) rfl)) (hw _ (List.mem_of_getElem? (i := 56) rfl)) (by decide) (by decide)) (g := (mkF m 30 #[.val (.ref sb), .val (.int p1), .val (.int cnt), .val (.int ct)] [(.ref bf), (.int ct), (.int p1)])) rfl (by rw [hml]; rfl) (argsL := [(.int p1), (.int ct), (.ref bf)]) (rest := []) (lenOf pd_169 rfl) rfl (by show 2 * 0 + _ ≤ _; exact Nat.le_of_eq rfl) (hb hby d_jdk_68_method_32_code_30) (fun _ _ => ⟨rfl, e5, (by decide : 0 + 0 ≤ _), (by decide : 0 + 0 ≤ _)⟩)
  dsimp only [Pt.U, Pt.locs, Pt.cells, Pt.slots] at X6 l6 y6 z6 st6 hQ6
  subst l6 y6 z6
  obtain ⟨rfl, N6q, Kc6, VG⟩ := hQ6
  have N6 := Fr.app N4 N6q
  have K_1 : Keep h0 T6.heap [sb, bf] := K0.trans Kc6 (allS (Or.inl (by simp)) all0)
  have Z_6 : n0 ≤ T6.heap.size := Nat.le_trans Z0 Kc6.1
  have F_2 := (Fn.keep Kc6 (ninS nb nin0))
  have E_3 := (Esb.keep Kc6)
  obtain ⟨T7, h7, X7, e7, W7, st7⟩ := putF X6 hx hZ hown (host := "") (Or.inl (hw _ (List.mem_of_getElem? (i := 52) rfl))) Via.refl rfl F_2 E_3 (Or.inl (hw _ (List.mem_of_getElem? (i := 53) rfl))) (hw _ (List.mem_of_getElem? (i := 23) rfl)) (ty := .int) (by decide) rfl rfl (g := (mkF m 50 #[.val (.ref sb), .val (.int p1), .val (.int cnt), .val (.int ct)] [(.int ct), (.ref sb)])) rfl rfl (hb hby d_jdk_68_method_32_code_50)
  have N7 := Fr.snoc X7 N6 gs
  have K_4 : Keep h0 h7 [sb, bf] := K_1.wr W7 (Or.inl (by simp))
  have Z_7 : n0 ≤ h7.size := by rw [W7.size]; exact Z_6
  have E_5 := (E_3.wr W7)
  have F_6 := ((Fv.keep Kc6 (ninS nb nin0)).other W7 (Or.inr (slot_ne (Or.inl (hw _ (List.mem_of_getElem? (i := 39) rfl))) (Or.inl (hw _ (List.mem_of_getElem? (i := 53) rfl))) (by decide) (t := (.array .byte)) (t' := .int) (by decide) (by decide))))
  have F_7 := ((Fc.keep Kc6 (ninS nb nin0)).other W7 (Or.inr (slot_ne (Or.inl (hw _ (List.mem_of_getElem? (i := 41) rfl))) (Or.inl (hw _ (List.mem_of_getElem? (i := 53) rfl))) (by decide) (t := .byte) (t' := .int) (by decide) (by decide))))
  have V_8 := (VG.other W7 (Ne.symm nb))
  obtain ⟨fs, hr, hrun, hended, hW, hsame⟩ := X7.leave (v := (some (.ref sb))) (fun h => by rw [Bd.returns] at h; cases h) (hlocks := hlk)
  refine ⟨_, _, pre0 _ ?_, hrun, hended, _, _, rfl, ?_, ⟨_, rfl⟩, hW, hsame.mono (by decide) (by decide)⟩
  · show Steps p.tables e below (s₁.setTop (mkF m 0 #[.val (.ref sb), .val (.int p1), .unset, .unset] [])) _
    refine XS.aloadN X0.here hx rfl (hb hby d_jdk_68_method_32_code_0) rfl rfl ?_
    show Steps p.tables e below (s₁.setTop (mkF m 1 #[.val (.ref sb), .val (.int p1), .unset, .unset] [(.ref sb)])) _
    refine st1 _ ?_
    show Steps p.tables e below (T1.setTop (mkF m 4 #[.val (.ref sb), .val (.int p1), .unset, .unset] [(.int cnt)])) _
    refine XS.istoreN X1.here hx rfl (hb hby d_jdk_68_method_32_code_4) rfl (l' := #[.val (.ref sb), .val (.int p1), .val (.int cnt), .unset]) rfl ?_
    show Steps p.tables e below (T1.setTop (mkF m 5 #[.val (.ref sb), .val (.int p1), .val (.int cnt), .unset] [])) _
    refine XS.iloadN X1.here hx rfl (hb hby d_jdk_68_method_32_code_5) rfl ?_
    show Steps p.tables e below (T1.setTop (mkF m 6 #[.val (.ref sb), .val (.int p1), .val (.int cnt), .unset] [(.int cnt)])) _
    refine XS.iloadN X1.here hx rfl (hb hby d_jdk_68_method_32_code_6) rfl ?_
    show Steps p.tables e below (T1.setTop (mkF m 7 #[.val (.ref sb), .val (.int p1), .val (.int cnt), .unset] [(.int p1), (.int cnt)])) _
    refine st2 _ ?_
    show Steps p.tables e below (T2.setTop (mkF m 10 #[.val (.ref sb), .val (.int p1), .val (.int cnt), .unset] [(.int (own_sz p1)), (.int cnt)])) _
    refine XS.iadd X2.here hx rfl (hb hby d_jdk_68_method_32_code_10) rfl ?_
    show Steps p.tables e below (T2.setTop (mkF m 11 #[.val (.ref sb), .val (.int p1), .val (.int cnt), .unset] [(.int (cnt + (own_sz p1)))])) _
    rw [← hct]
    show Steps p.tables e below (T2.setTop (mkF m 11 #[.val (.ref sb), .val (.int p1), .val (.int cnt), .unset] [(.int ct)])) _
    refine XS.istoreN X2.here hx rfl (hb hby d_jdk_68_method_32_code_11) rfl (l' := #[.val (.ref sb), .val (.int p1), .val (.int cnt), .val (.int ct)]) rfl ?_
    show Steps p.tables e below (T2.setTop (mkF m 12 #[.val (.ref sb), .val (.int p1), .val (.int cnt), .val (.int ct)] [])) _
    refine XS.aloadN X2.here hx rfl (hb hby d_jdk_68_method_32_code_12) rfl rfl ?_
    show Steps p.tables e below (T2.setTop (mkF m 13 #[.val (.ref sb), .val (.int p1), .val (.int cnt), .val (.int ct)] [(.ref sb)])) _
    refine XS.iloadN X2.here hx rfl (hb hby d_jdk_68_method_32_code_13) rfl ?_
    show Steps p.tables e below (T2.setTop (mkF m 14 #[.val (.ref sb), .val (.int p1), .val (.int cnt), .val (.int ct)] [(.int ct), (.ref sb)])) _
    refine st3.trans ?_
    show Steps p.tables e below (T3.setTop (mkF m 17 #[.val (.ref sb), .val (.int p1), .val (.int cnt), .val (.int ct)] [])) _
    refine XS.aloadN X3.here hx rfl (hb hby d_jdk_68_method_32_code_17) rfl rfl ?_
    show Steps p.tables e below (T3.setTop (mkF m 18 #[.val (.ref sb), .val (.int p1), .val (.int cnt), .val (.int ct)] [(.ref sb)])) _
    refine st4.trans ?_
    show Steps p.tables e below (T4.setTop (mkF m 21 #[.val (.ref sb), .val (.int p1), .val (.int cnt), .val (.int ct)] [(.int (1 : Int32))])) _
    refine XS.ifNo X4.here hx rfl (hb hby d_jdk_68_method_32_code_21) rfl (by decide) ?_
    show Steps p.tables e below (T4.setTop (mkF m 24 #[.val (.ref sb), .val (.int p1), .val (.int cnt), .val (.int ct)] [])) _
    refine XS.iloadN X4.here hx rfl (hb hby d_jdk_68_method_32_code_24) rfl ?_
    show Steps p.tables e below (T4.setTop (mkF m 25 #[.val (.ref sb), .val (.int p1), .val (.int cnt), .val (.int ct)] [(.int p1)])) _
    refine XS.iloadN X4.here hx rfl (hb hby d_jdk_68_method_32_code_25) rfl ?_
    show Steps p.tables e below (T4.setTop (mkF m 26 #[.val (.ref sb), .val (.int p1), .val (.int cnt), .val (.int ct)] [(.int ct), (.int p1)])) _
    refine XS.aloadN X4.here hx rfl (hb hby d_jdk_68_method_32_code_26) rfl rfl ?_
    show Steps p.tables e below (T4.setTop (mkF m 27 #[.val (.ref sb), .val (.int p1), .val (.int cnt), .val (.int ct)] [(.ref sb), (.int ct), (.int p1)])) _
    refine st5 _ ?_
    show Steps p.tables e below (T5.setTop (mkF m 30 #[.val (.ref sb), .val (.int p1), .val (.int cnt), .val (.int ct)] [(.ref bf), (.int ct), (.int p1)])) _
    refine st6 _ ?_
    show Steps p.tables e below (T6.setTop (mkF m 33 #[.val (.ref sb), .val (.int p1), .val (.int cnt), .val (.int ct)] [(.int (ct - own_sz p1))])) _
    refine XT.pop X6.here hx rfl (hb hby d_jdk_68_method_32_code_33) rfl rfl ?_
    show Steps p.tables e below (T6.setTop (mkF m 34 #[.val (.ref sb), .val (.int p1), .val (.int cnt), .val (.int ct)] [])) _
    refine XS.goto X6.here hx rfl (pc0 := 34) (pc' := 48) rfl (hb hby d_jdk_68_method_32_code_34) (by decide) (by decide) ?_
    show Steps p.tables e below (T6.setTop (mkF m 48 #[.val (.ref sb), .val (.int p1), .val (.int cnt), .val (.int ct)] [])) _
    refine XS.aloadN X6.here hx rfl (hb hby d_jdk_68_method_32_code_48) rfl rfl ?_
    show Steps p.tables e below (T6.setTop (mkF m 49 #[.val (.ref sb), .val (.int p1), .val (.int cnt), .val (.int ct)] [(.ref sb)])) _
    refine XS.iloadN X6.here hx rfl (hb hby d_jdk_68_method_32_code_49) rfl ?_
    show Steps p.tables e below (T6.setTop (mkF m 50 #[.val (.ref sb), .val (.int p1), .val (.int cnt), .val (.int ct)] [(.int ct), (.ref sb)])) _
    refine st7 _ ?_
    show Steps p.tables e below (T7.setTop (mkF m 53 #[.val (.ref sb), .val (.int p1), .val (.int cnt), .val (.int ct)] [])) _
    refine XS.aloadN X7.here hx rfl (hb hby d_jdk_68_method_32_code_53) rfl rfl ?_
    show Steps p.tables e below (T7.setTop (mkF m 54 #[.val (.ref sb), .val (.int p1), .val (.int cnt), .val (.int ct)] [(.ref sb)])) _
    exact retOut X7 hx Bd.returns rfl (Or.inr (Or.inr (Or.inr (Or.inr ⟨rfl, rfl, rfl⟩)))) (hb hby d_jdk_68_method_32_code_54) hr
  · show Q_asb_appI Z sb bf kb cnt vs p1 zc dO dT cO cT h0 n0 _ T7.heap _; rw [e7, Q_asb_appI, ← hct]; exact ⟨rfl, N7, K_4, E_5, F_6, F_7, (F_2.same W7), V_8⟩
theorem d_jdk_67_method_15_code_0 : decode jdk_67_method_15_code 0 = .ok (.aload_n 0, 1) := by decide +kernel
theorem d_jdk_67_method_15_code_1 : decode jdk_67_method_15_code 1 = .ok (.iload_n 1, 1) := by decide +kernel
theorem d_jdk_67_method_15_code_2 : decode jdk_67_method_15_code 2 = .ok (.invokespecial 53, 3) := by decide +kernel
theorem pd_181 : parseMethodDescriptor "(I)Ljava/lang/AbstractStringBuilder;" = some ⟨[.int], some (.object "java/lang/AbstractStringBuilder")⟩ := by decide +kernel
theorem d_jdk_67_method_15_code_5 : decode jdk_67_method_15_code 5 = .ok (.pop, 1) := by decide +kernel
theorem d_jdk_67_method_15_code_6 : decode jdk_67_method_15_code 6 = .ok (.aload_n 0, 1) := by decide +kernel
theorem d_jdk_67_method_15_code_7 : decode jdk_67_method_15_code 7 = .ok (.areturn, 1) := by decide +kernel
def Q_sb_appI (Z : State) (sb bf : Addr) (kb : ClassId) (cnt : Int32) (vs : List Value) (p1 : Int32) (zc : Int32) (dO dT : Addr) (cO cT : Cell) (h0 : Heap) (n0 : Nat) (v : Option Value) (h : Heap) (L : List Loc) : Prop := v = some (.ref sb) ∧ Fr n0 L ∧ Keep h0 h [sb, bf] ∧ Exa Z h sb "java/lang/StringBuilder" ∧ Fld Z h sb "java/lang/AbstractStringBuilder" "value" "[B" (.ref bf) ∧ Fld Z h sb "java/lang/AbstractStringBuilder" "coder" "B" (.int (0 : Int32)) ∧ Fld Z h sb "java/lang/AbstractStringBuilder" "count" "I" (.int (cnt + own_sz p1)) ∧ Arv Z h bf kb .byte (16 : Int32) (own_gc vs (cnt + own_sz p1).toNatClampNeg p1) (.int 0)
set_option maxRecDepth 65536 in
set_option maxHeartbeats 40000000 in
theorem sb_appI (l : Launch) (Z : State) (a0 : Array Value) (hw : ∀ d ∈ tables_1, d.before a0 Z = true) (ws : List Jvm.Cond) (sb bf : Addr) (kb : ClassId) (cnt : Int32) (vs : List Value) (p1 : Int32) (zc : Int32) (dO dT : Addr) (cO cT : Cell) (h0 : Heap) (n0 : Nat) (Z0 : n0 ≤ h0.size) (X00 : Old Z n0 h0)(SC : Sta Z Z.heap "java/lang/String" "COMPACT_STRINGS" "Z" (.int zc)) (hzc : ¬ zc = 0)(TO : own_O Z dO cO) (TT : own_T Z dT cT)(Esb : Exa Z h0 sb "java/lang/StringBuilder") (Fv : Fld Z h0 sb "java/lang/AbstractStringBuilder" "value" "[B" (.ref bf)) (Fc : Fld Z h0 sb "java/lang/AbstractStringBuilder" "coder" "B" (.int (0 : Int32))) (Fn : Fld Z h0 sb "java/lang/AbstractStringBuilder" "count" "I" (.int cnt)) (Vb : Arv Z h0 bf kb .byte (16 : Int32) vs (.int 0)) (nb : sb ≠ bf) (gs : n0 ≤ sb) (gb : n0 ≤ bf)(hvl : vs.length = 16) (hlo : 0 ≤ p1.toInt) (hhi : p1.toInt < 65536) (hc0 : 0 ≤ cnt.toInt) (hc1 : cnt.toInt + (own_sz p1).toInt ≤ 16) :
    MetFree l (⟨"java/lang/StringBuilder", "append", "(I)Ljava/lang/StringBuilder;"⟩ : MethodName) (head1 (Jvm.Cond.code (⟨"java/lang/StringBuilder", "append", "(I)Ljava/lang/StringBuilder;"⟩ : MethodName) jdk_67_method_15_code 2 (Option.some (Jvm.ClassFile.FieldType.object "java/lang/StringBuilder")) :: ws) ({ frames := 2, cells := 0, slots := 0, locals := 33 } : Room)) (fun a U => a = #[(.ref sb), (.int p1)] ∧ Z.Warmed39 U.vm ∧ U.heap = h0) (fun _ _ _ _ _ => True) (fun _ U o U' => ∃ v L, o = .returned v ∧ Q_sb_appI Z sb bf kb cnt vs p1 zc dO dT cO cT h0 n0 v U'.heap L ∧ FrameEnd U o U' L ({ frames := 2, cells := 0, slots := 0, locals := 33 } : Room).cells ({ frames := 2, cells := 0, slots := 0, locals := 33 } : Room).slots) := by
  refine MetFree.of_bodySF (plainFor_of_name pn_21) hisR ?_
  intro p e s m args below meth c s₁ Bd hml0 hP hK
  obtain ⟨rfl, hZ, hh⟩ := hP
  have hx := Bd.exec
  have hby := Bd.bytes
  have hml : c.maxLocals = 2 := hml0
  have hown : s.vm.findClass "java/lang/StringBuilder" = some m.cls := findClass_of_methodNamed Bd.named
  have hnm := (name_of_methodNamed Bd.named Bd.method).1
  have X0 : Stand p l e ({ frames := 2, cells := 0, slots := 0, locals := 33 } : Room) s m #[(.ref sb), (.int p1)] below meth c s₁ [] 0 0 := Stand.of_body Bd
  have e0 : s₁.heap = h0 := by rw [← hh, Bd.state]; rfl
  have N0 := Fr.nil n0
  have hlk : meth.locks = false := BodyLoose.notSynchronized Bd
  have pre0 : ∀ t, Steps p.tables e below (s₁.setTop (mkF m 0 #[.val (.ref sb), .val (.int p1)] [])) t → Steps p.tables e below (s₁.setTop (entryFrame m #[(.ref sb), (.int p1)] 2)) t := fun t k => castTop (ef_13 m sb p1) k
  obtain ⟨_, _, ⟨T1, L1, k1, n1⟩, -, X1, ⟨Lc1, hQ1, l1, y1, z1⟩, st1⟩ := superBack (y := (⟨"java/lang/AbstractStringBuilder", "append", "(I)Ljava/lang/AbstractStringBuilder;"⟩ : MethodName)) X0 hx hZ hown (hw _ (List.mem_of_getElem? (i := 47) rfl)) (own_same (y := (⟨"java/lang/AbstractStringBuilder", "append", "(I)Ljava/lang/AbstractStringBuilder;"⟩ : MethodName)) (y' := (⟨"java/lang/AbstractStringBuilder", "isLatin1", "()Z"⟩ : MethodName)) rfl (hw _ (List.mem_of_getElem? (i := 66) rfl)) (hw _ (List.mem_of_getElem? (i := 48) rfl)) (by decide)) (hw _ (List.mem_of_getElem? (i := 48) rfl)) (hw _ (List.mem_of_getElem? (i := 49) rfl)) (by decide) (backOf (W := 0) (asb_appI l Z a0 hw [] sb bf kb cnt vs p1 zc dO dT cO cT h0 n0 Z0 X00 SC hzc TO TT Esb Fv Fc Fn Vb nb gs gb hvl hlo hhi hc0 hc1) hZ (hw _ (List.mem_of_getElem? (i := 51) rfl)) (hw _ (List.mem_of_getElem? (i := 32) rfl)) (by decide) (by decide)) e0 (Ins.self Esb) (g := (mkF m 2 #[.val (.ref sb), .val (.int p1)] [(.int p1), (.ref sb)])) rfl (by rw [hml]; rfl) (hw _ (List.mem_of_getElem? (i := 51) rfl)) (argsL := [(.int p1)]) (rest := []) (lenOf pd_181 rfl) rfl (by show 2 * 0 + _ ≤ _; exact Nat.le_of_eq rfl) (hb hby d_jdk_67_method_15_code_2) (fun _ _ => ⟨rfl, e0, (by decide : 0 + 0 ≤ _), (by decide : 0 + 0 ≤ _)⟩)
  dsimp only [Pt.U, Pt.locs, Pt.cells, Pt.slots] at X1 l1 y1 z1 st1 hQ1
  subst l1 y1 z1
  obtain ⟨rfl, N1q, Kc1, QR⟩ := hQ1
  have N1 := Fr.app N0 N1q
  have Z_1 : n0 ≤ T1.heap.size := Nat.le_trans Z0 Kc1.1
  obtain ⟨fs, hr, hrun, hended, hW, hsame⟩ := X1.leave (v := (some (.ref sb))) (fun h => by rw [Bd.returns] at h; cases h) (hlocks := hlk)
  refine ⟨_, _, pre0 _ ?_, hrun, hended, _, _, rfl, ?_, ⟨_, rfl⟩, hW, hsame.mono (by decide) (by decide)⟩
  · show Steps p.tables e below (s₁.setTop (mkF m 0 #[.val (.ref sb), .val (.int p1)] [])) _
    refine XS.aloadN X0.here hx rfl (hb hby d_jdk_67_method_15_code_0) rfl rfl ?_
    show Steps p.tables e below (s₁.setTop (mkF m 1 #[.val (.ref sb), .val (.int p1)] [(.ref sb)])) _
    refine XS.iloadN X0.here hx rfl (hb hby d_jdk_67_method_15_code_1) rfl ?_
    show Steps p.tables e below (s₁.setTop (mkF m 2 #[.val (.ref sb), .val (.int p1)] [(.int p1), (.ref sb)])) _
    refine st1.trans ?_
    show Steps p.tables e below (T1.setTop (mkF m 5 #[.val (.ref sb), .val (.int p1)] [(.ref sb)])) _
    refine XT.pop X1.here hx rfl (hb hby d_jdk_67_method_15_code_5) rfl rfl ?_
    show Steps p.tables e below (T1.setTop (mkF m 6 #[.val (.ref sb), .val (.int p1)] [])) _
    refine XS.aloadN X1.here hx rfl (hb hby d_jdk_67_method_15_code_6) rfl rfl ?_
    show Steps p.tables e below (T1.setTop (mkF m 7 #[.val (.ref sb), .val (.int p1)] [(.ref sb)])) _
    exact retOut X1 hx Bd.returns rfl (Or.inr (Or.inr (Or.inr (Or.inr ⟨rfl, rfl, rfl⟩)))) (hb hby d_jdk_67_method_15_code_7) hr
  · exact ⟨rfl, N1, Kc1, QR⟩
theorem d_jdk_42_method_152_code_0 : decode jdk_42_method_152_code 0 = .ok (.getstatic 38, 3) := by decide +kernel
theorem d_jdk_42_method_152_code_3 : decode jdk_42_method_152_code 3 = .ok (.ifCond .eq 10, 3) := by decide +kernel
theorem d_jdk_42_method_152_code_6 : decode jdk_42_method_152_code 6 = .ok (.aload_n 0, 1) := by decide +kernel
theorem d_jdk_42_method_152_code_7 : decode jdk_42_method_152_code 7 = .ok (.getfield 15, 3) := by decide +kernel
theorem d_jdk_42_method_152_code_10 : decode jdk_42_method_152_code 10 = .ok (.goto 4, 3) := by decide +kernel
theorem d_jdk_42_method_152_code_14 : decode jdk_42_method_152_code 14 = .ok (.ireturn, 1) := by decide +kernel
def Q_st_coder (Z : State) (str : Addr) (zc : Int32) (h0 : Heap) (n0 : Nat) (v : Option Value) (h : Heap) (L : List Loc) : Prop := v = some (.int (0 : Int32)) ∧ Fr n0 L ∧ h = h0
set_option maxRecDepth 65536 in
set_option maxHeartbeats 40000000 in
theorem st_coder (l : Launch) (Z : State) (a0 : Array Value) (hw : ∀ d ∈ tables_1, d.before a0 Z = true) (ws : List Jvm.Cond) (str : Addr) (zc : Int32) (h0 : Heap) (n0 : Nat) (Z0 : n0 ≤ h0.size) (X00 : Old Z n0 h0)(SC : Sta Z Z.heap "java/lang/String" "COMPACT_STRINGS" "Z" (.int zc)) (hzc : ¬ zc = 0)(Gc : Fld Z h0 str "java/lang/String" "coder" "B" (.int (0 : Int32))) :
    MetFree l (⟨"java/lang/String", "coder", "()B"⟩ : MethodName) (head1 (Jvm.Cond.code (⟨"java/lang/String", "coder", "()B"⟩ : MethodName) jdk_42_method_152_code 1 (Option.some Jvm.ClassFile.FieldType.byte) :: ws) ({ frames := 0, cells := 0, slots := 0, locals := 0 } : Room)) (fun a U => a = #[(.ref str)] ∧ Z.Warmed39 U.vm ∧ U.heap = h0) (fun _ _ _ _ _ => True) (fun _ U o U' => ∃ v L, o = .returned v ∧ Q_st_coder Z str zc h0 n0 v U'.heap L ∧ FrameEnd U o U' L ({ frames := 0, cells := 0, slots := 0, locals := 0 } : Room).cells ({ frames := 0, cells := 0, slots := 0, locals := 0 } : Room).slots) := by
  refine MetFree.of_bodySF (plainFor_of_name pn_82) hisR ?_
  intro p e s m args below meth c s₁ Bd hml0 hP hK
  obtain ⟨rfl, hZ, hh⟩ := hP
  have hx := Bd.exec
  have hby := Bd.bytes
  have hml : c.maxLocals = 1 := hml0
  have hown : s.vm.findClass "java/lang/String" = some m.cls := findClass_of_methodNamed Bd.named
  have hnm := (name_of_methodNamed Bd.named Bd.method).1
  have X0 : Stand p l e ({ frames := 0, cells := 0, slots := 0, locals := 0 } : Room) s m #[(.ref str)] below meth c s₁ [] 0 0 := Stand.of_body Bd
  have e0 : s₁.heap = h0 := by rw [← hh, Bd.state]; rfl
  have N0 := Fr.nil n0
  have hlk : meth.locks = false := BodyLoose.notSynchronized Bd
  have pre0 : ∀ t, Steps p.tables e below (s₁.setTop (mkF m 0 #[.val (.ref str)] [])) t → Steps p.tables e below (s₁.setTop (entryFrame m #[(.ref str)] 1)) t := fun t k => castTop (ef_20 m str) k
  obtain ⟨T1, X1, e1, st1⟩ := getS X0 hx hZ (host := "") hown (hw _ (List.mem_of_getElem? (i := 98) rfl)) Via.refl e0 (SC.ext X00.2) (g := (mkF m 0 #[.val (.ref str)] [])) rfl (hb hby d_jdk_42_method_152_code_0)
  obtain ⟨T2, X2, e2, st2⟩ := getF X1 hx hZ hown (host := "") (Or.inl (hw _ (List.mem_of_getElem? (i := 99) rfl))) Via.refl e1 Gc (g := (mkF m 7 #[.val (.ref str)] [(.ref str)])) rfl rfl (hb hby d_jdk_42_method_152_code_7)
  obtain ⟨fs, hr, hrun, hended, hW, hsame⟩ := X2.leave (v := (some (.int (0 : Int32)))) (fun h => by rw [Bd.returns] at h; cases h) (hlocks := hlk)
  refine ⟨_, _, pre0 _ ?_, hrun, hended, _, _, rfl, ?_, ⟨_, rfl⟩, hW, hsame.mono (by decide) (by decide)⟩
  · show Steps p.tables e below (s₁.setTop (mkF m 0 #[.val (.ref str)] [])) _
    refine st1 _ ?_
    show Steps p.tables e below (T1.setTop (mkF m 3 #[.val (.ref str)] [(.int zc)])) _
    refine XS.ifNo X1.here hx rfl (hb hby d_jdk_42_method_152_code_3) rfl ((if0 _ _).trans (feq hzc).1) ?_
    show Steps p.tables e below (T1.setTop (mkF m 6 #[.val (.ref str)] [])) _
    refine XS.aloadN X1.here hx rfl (hb hby d_jdk_42_method_152_code_6) rfl rfl ?_
    show Steps p.tables e below (T1.setTop (mkF m 7 #[.val (.ref str)] [(.ref str)])) _
    refine st2 _ ?_
    show Steps p.tables e below (T2.setTop (mkF m 10 #[.val (.ref str)] [(.int (0 : Int32))])) _
    refine XS.goto X2.here hx rfl (pc0 := 10) (pc' := 14) rfl (hb hby d_jdk_42_method_152_code_10) (by decide) (by decide) ?_
    show Steps p.tables e below (T2.setTop (mkF m 14 #[.val (.ref str)] [(.int (0 : Int32))])) _
    exact retN X2 hx (t := .byte) Bd.returns (by simp) (hb hby d_jdk_42_method_152_code_14) hr
  · exact ⟨rfl, N0, e2⟩
theorem d_jdk_42_method_54_code_0 : decode jdk_42_method_54_code 0 = .ok (.aload_n 0, 1) := by decide +kernel
theorem d_jdk_42_method_54_code_1 : decode jdk_42_method_54_code 1 = .ok (.getfield 9, 3) := by decide +kernel
theorem d_jdk_42_method_54_code_4 : decode jdk_42_method_54_code 4 = .ok (.arraylength, 1) := by decide +kernel
theorem d_jdk_42_method_54_code_5 : decode jdk_42_method_54_code 5 = .ok (.aload_n 0, 1) := by decide +kernel
theorem d_jdk_42_method_54_code_6 : decode jdk_42_method_54_code 6 = .ok (.invokevirtual 335, 3) := by decide +kernel
theorem pd_196 : parseMethodDescriptor "()B" = some ⟨[], some .byte⟩ := by decide +kernel
theorem d_jdk_42_method_54_code_9 : decode jdk_42_method_54_code 9 = .ok (.ishr, 1) := by decide +kernel
theorem d_jdk_42_method_54_code_10 : decode jdk_42_method_54_code 10 = .ok (.ireturn, 1) := by decide +kernel
def Q_st_len (Z : State) (str sv : Addr) (ks : ClassId) (len : Int32) (bs : List Value) (zc : Int32) (h0 : Heap) (n0 : Nat) (v : Option Value) (h : Heap) (L : List Loc) : Prop := v = some (.int len) ∧ Fr n0 L ∧ h = h0
set_option maxRecDepth 65536 in
set_option maxHeartbeats 40000000 in
theorem st_len (l : Launch) (Z : State) (a0 : Array Value) (hw : ∀ d ∈ tables_1, d.before a0 Z = true) (ws : List Jvm.Cond) (str sv : Addr) (ks : ClassId) (len : Int32) (bs : List Value) (zc : Int32) (h0 : Heap) (n0 : Nat) (Z0 : n0 ≤ h0.size) (X00 : Old Z n0 h0)(SC : Sta Z Z.heap "java/lang/String" "COMPACT_STRINGS" "Z" (.int zc)) (hzc : ¬ zc = 0)(Est : Exa Z h0 str "java/lang/String") (Gv : Fld Z h0 str "java/lang/String" "value" "[B" (.ref sv)) (Gc : Fld Z h0 str "java/lang/String" "coder" "B" (.int (0 : Int32)))(Vs : Arv Z h0 sv ks .byte len bs (.int 0)) :
    MetFree l (⟨"java/lang/String", "length", "()I"⟩ : MethodName) (head1 (Jvm.Cond.code (⟨"java/lang/String", "length", "()I"⟩ : MethodName) jdk_42_method_54_code 1 (Option.some Jvm.ClassFile.FieldType.int) :: ws) ({ frames := 1, cells := 0, slots := 0, locals := 13 } : Room)) (fun a U => a = #[(.ref str)] ∧ Z.Warmed39 U.vm ∧ U.heap = h0) (fun _ _ _ _ _ => True) (fun _ U o U' => ∃ v L, o = .returned v ∧ Q_st_len Z str sv ks len bs zc h0 n0 v U'.heap L ∧ FrameEnd U o U' L ({ frames := 1, cells := 0, slots := 0, locals := 13 } : Room).cells ({ frames := 1, cells := 0, slots := 0, locals := 13 } : Room).slots) := by
  refine MetFree.of_bodySF (plainFor_of_name pn_82) hisR ?_
  intro p e s m args below meth c s₁ Bd hml0 hP hK
  obtain ⟨rfl, hZ, hh⟩ := hP
  have hx := Bd.exec
  have hby := Bd.bytes
  have hml : c.maxLocals = 1 := hml0
  have hown : s.vm.findClass "java/lang/String" = some m.cls := findClass_of_methodNamed Bd.named
  have hnm := (name_of_methodNamed Bd.named Bd.method).1
  have X0 : Stand p l e ({ frames := 1, cells := 0, slots := 0, locals := 13 } : Room) s m #[(.ref str)] below meth c s₁ [] 0 0 := Stand.of_body Bd
  have e0 : s₁.heap = h0 := by rw [← hh, Bd.state]; rfl
  have N0 := Fr.nil n0
  have hlk : meth.locks = false := BodyLoose.notSynchronized Bd
  have pre0 : ∀ t, Steps p.tables e below (s₁.setTop (mkF m 0 #[.val (.ref str)] [])) t → Steps p.tables e below (s₁.setTop (entryFrame m #[(.ref str)] 1)) t := fun t k => castTop (ef_20 m str) k
  obtain ⟨T1, X1, e1, st1⟩ := getF X0 hx hZ hown (host := "") (Or.inl (hw _ (List.mem_of_getElem? (i := 92) rfl))) Via.refl e0 Gv (g := (mkF m 1 #[.val (.ref str)] [(.ref str)])) rfl rfl (hb hby d_jdk_42_method_54_code_1)
  obtain ⟨cl_1, Arcl_1, Qccl_1, Szcl_1, Ngcl_1, Hscl_1, Ftcl_1⟩ := id Vs
  have Lncl_1 : cl_1.slots.size.toInt32 = len := len_of Szcl_1 Ngcl_1
  obtain ⟨cq2, kq2, q2a, q2b, q2c⟩ := isOf hZ e1 Est
  obtain ⟨_, _, ⟨T2, L2, k2, n2⟩, -, X2, ⟨Lc2, hQ2, l2, y2, z2⟩, st2⟩ := X1.virtualBack hx (y := (⟨"java/lang/String", "coder", "()B"⟩ : MethodName)) (z := (⟨"java/lang/String", "coder", "()B"⟩ : MethodName)) hown (mvT hZ (hw _ (List.mem_of_getElem? (i := 93) rfl))) (mvT hZ (hw _ (List.mem_of_getElem? (i := 94) rfl))) (notFace_of_selects (args := #[]) (mvT hZ (hw _ (List.mem_of_getElem? (i := 96) rfl)))) (mvT hZ (hw _ (List.mem_of_getElem? (i := 96) rfl))) (mvT hZ (hw _ (List.mem_of_getElem? (i := 95) rfl))) (by decide) (backOf (W := 1) (st_coder l Z a0 hw [] str zc h0 n0 Z0 X00 SC hzc Gc) hZ (hw _ (List.mem_of_getElem? (i := 97) rfl)) (hw _ (List.mem_of_getElem? (i := 36) rfl)) (by decide) (by decide)) q2a q2c (g := (mkF m 6 #[.val (.ref str)] [(.ref str), (.int len)])) rfl (by rw [hml]; rfl) (Steps.refl _) (argsL := []) (rest := [(.int len)]) (lenOf pd_196 rfl) rfl (by show 2 * 0 + _ ≤ _; exact Nat.le_of_eq rfl) (hb hby d_jdk_42_method_54_code_6) (fun _ _ => ⟨rfl, e1, (by decide : 0 + 0 ≤ _), (by decide : 0 + 0 ≤ _)⟩)
  dsimp only [Pt.U, Pt.locs, Pt.cells, Pt.slots] at X2 l2 y2 z2 st2 hQ2
  subst l2 y2 z2
  obtain ⟨rfl, N2q, e2⟩ := hQ2
  have N2 := Fr.app N0 N2q
  obtain ⟨fs, hr, hrun, hended, hW, hsame⟩ := X2.leave (v := (some (.int len))) (fun h => by rw [Bd.returns] at h; cases h) (hlocks := hlk)
  refine ⟨_, _, pre0 _ ?_, hrun, hended, _, _, rfl, ?_, ⟨_, rfl⟩, hW, hsame.mono (by decide) (by decide)⟩
  · show Steps p.tables e below (s₁.setTop (mkF m 0 #[.val (.ref str)] [])) _
    refine XS.aloadN X0.here hx rfl (hb hby d_jdk_42_method_54_code_0) rfl rfl ?_
    show Steps p.tables e below (s₁.setTop (mkF m 1 #[.val (.ref str)] [(.ref str)])) _
    refine st1 _ ?_
    show Steps p.tables e below (T1.setTop (mkF m 4 #[.val (.ref str)] [(.ref sv)])) _
    refine X1.arraylength hx (by first | exact Arcl_1.1 | (rw [e1]; exact Arcl_1.1)) (State.isArrayOf_alike hZ.alike Arcl_1.2.1) (g := (mkF m 4 #[.val (.ref str)] [(.ref sv)])) rfl rfl (hb hby d_jdk_42_method_54_code_4) _ ?_
    show Steps p.tables e below (T1.setTop (mkF m 5 #[.val (.ref str)] [(.int cl_1.slots.size.toInt32)])) _
    rw [Lncl_1]
    show Steps p.tables e below (T1.setTop (mkF m 5 #[.val (.ref str)] [(.int len)])) _
    refine XS.aloadN X1.here hx rfl (hb hby d_jdk_42_method_54_code_5) rfl rfl ?_
    show Steps p.tables e below (T1.setTop (mkF m 6 #[.val (.ref str)] [(.ref str), (.int len)])) _
    refine st2.trans ?_
    show Steps p.tables e below (T2.setTop (mkF m 9 #[.val (.ref str)] [(.int (0 : Int32)), (.int len)])) _
    refine XT.ishr X2.here hx rfl (hb hby d_jdk_42_method_54_code_9) rfl ?_
    show Steps p.tables e below (T2.setTop (mkF m 10 #[.val (.ref str)] [(.int (len >>> ((0 : Int32) &&& 31)))])) _
    rw [own_shr0 len]
    show Steps p.tables e below (T2.setTop (mkF m 10 #[.val (.ref str)] [(.int len)])) _
    exact retI X2 hx Bd.returns (hb hby d_jdk_42_method_54_code_10) hr
  · exact ⟨rfl, N2, e2⟩
theorem d_jdk_68_method_71_code_0 : decode jdk_68_method_71_code 0 = .ok (.getstatic 18, 3) := by decide +kernel
theorem d_jdk_68_method_71_code_3 : decode jdk_68_method_71_code 3 = .ok (.ifCond .eq 18, 3) := by decide +kernel
theorem d_jdk_68_method_71_code_6 : decode jdk_68_method_71_code 6 = .ok (.aload_n 0, 1) := by decide +kernel
theorem d_jdk_68_method_71_code_7 : decode jdk_68_method_71_code 7 = .ok (.getfield 22, 3) := by decide +kernel
theorem d_jdk_68_method_71_code_10 : decode jdk_68_method_71_code 10 = .ok (.aload_n 1, 1) := by decide +kernel
theorem d_jdk_68_method_71_code_11 : decode jdk_68_method_71_code 11 = .ok (.invokevirtual 40, 3) := by decide +kernel
theorem d_jdk_68_method_71_code_14 : decode jdk_68_method_71_code 14 = .ok (.if_icmp .eq 7, 3) := by decide +kernel
theorem d_jdk_68_method_71_code_21 : decode jdk_68_method_71_code 21 = .ok (.return_, 1) := by decide +kernel
theorem ef_207 (m : MethodId) (x0 : Addr) (x1 : Addr) : entryFrame m #[(.ref x0), (.ref x1)] 2 = mkF m 0 #[.val (.ref x0), .val (.ref x1)] [] := by first | (simp [entryFrame, mkF, argsToLocals, Value.category]; done) | rfl
def Q_inflate (Z : State) (sb str : Addr) (zc : Int32) (h0 : Heap) (n0 : Nat) (v : Option Value) (h : Heap) (L : List Loc) : Prop := v = none ∧ Fr n0 L ∧ h = h0
set_option maxRecDepth 65536 in
set_option maxHeartbeats 40000000 in
theorem inflate (l : Launch) (Z : State) (a0 : Array Value) (hw : ∀ d ∈ tables_1, d.before a0 Z = true) (ws : List Jvm.Cond) (sb str : Addr) (zc : Int32) (h0 : Heap) (n0 : Nat) (Z0 : n0 ≤ h0.size) (X00 : Old Z n0 h0)(SC : Sta Z Z.heap "java/lang/String" "COMPACT_STRINGS" "Z" (.int zc)) (hzc : ¬ zc = 0)(Fc : Fld Z h0 sb "java/lang/AbstractStringBuilder" "coder" "B" (.int (0 : Int32))) (Est : Exa Z h0 str "java/lang/String") (Gc : Fld Z h0 str "java/lang/String" "coder" "B" (.int (0 : Int32))) :
    MetFree l (⟨"java/lang/AbstractStringBuilder", "inflateIfNeededFor", "(Ljava/lang/String;)V"⟩ : MethodName) (head1 (Jvm.Cond.code (⟨"java/lang/AbstractStringBuilder", "inflateIfNeededFor", "(Ljava/lang/String;)V"⟩ : MethodName) jdk_68_method_71_code 2 (Option.none : Option Jvm.ClassFile.FieldType) :: ws) ({ frames := 1, cells := 0, slots := 0, locals := 13 } : Room)) (fun a U => a = #[(.ref sb), (.ref str)] ∧ Z.Warmed39 U.vm ∧ U.heap = h0) (fun _ _ _ _ _ => True) (fun _ U o U' => ∃ v L, o = .returned v ∧ Q_inflate Z sb str zc h0 n0 v U'.heap L ∧ FrameEnd U o U' L ({ frames := 1, cells := 0, slots := 0, locals := 13 } : Room).cells ({ frames := 1, cells := 0, slots := 0, locals := 13 } : Room).slots) := by
  refine MetFree.of_bodySF (plainFor_of_name pn_14) hisR ?_
  intro p e s m args below meth c s₁ Bd hml0 hP hK
  obtain ⟨rfl, hZ, hh⟩ := hP
  have hx := Bd.exec
  have hby := Bd.bytes
  have hml : c.maxLocals = 2 := hml0
  have hown : s.vm.findClass "java/lang/AbstractStringBuilder" = some m.cls := findClass_of_methodNamed Bd.named
  have hnm := (name_of_methodNamed Bd.named Bd.method).1
  have X0 : Stand p l e ({ frames := 1, cells := 0, slots := 0, locals := 13 } : Room) s m #[(.ref sb), (.ref str)] below meth c s₁ [] 0 0 := Stand.of_body Bd
  have e0 : s₁.heap = h0 := by rw [← hh, Bd.state]; rfl
  have N0 := Fr.nil n0
  have hlk : meth.locks = false := BodyLoose.notSynchronized Bd
  have pre0 : ∀ t, Steps p.tables e below (s₁.setTop (mkF m 0 #[.val (.ref sb), .val (.ref str)] [])) t → Steps p.tables e below (s₁.setTop (entryFrame m #[(.ref sb), (.ref str)] 2)) t := fun t k => castTop (ef_207 m sb str) k
  obtain ⟨T1, X1, e1, st1⟩ := getS X0 hx hZ (host := "") hown (hw _ (List.mem_of_getElem? (i := 35) rfl)) Via.refl e0 (SC.ext X00.2) (g := (mkF m 0 #[.val (.ref sb), .val (.ref str)] [])) rfl (hb hby d_jdk_68_method_71_code_0)
  obtain ⟨T2, X2, e2, st2⟩ := getF X1 hx hZ hown (host := "") (Or.inl (hw _ (List.mem_of_getElem? (i := 40) rfl))) Via.refl e1 Fc (g := (mkF m 7 #[.val (.ref sb), .val (.ref str)] [(.ref sb)])) rfl rfl (hb hby d_jdk_68_method_71_code_7)
  obtain ⟨cq3, kq3, q3a, q3b, q3c⟩ := isOf hZ e2 Est
  obtain ⟨_, _, ⟨T3, L3, k3, n3⟩, -, X3, ⟨Lc3, hQ3, l3, y3, z3⟩, st3⟩ := X2.virtualBack hx (y := (⟨"java/lang/String", "coder", "()B"⟩ : MethodName)) (z := (⟨"java/lang/String", "coder", "()B"⟩ : MethodName)) hown (mvT hZ (hw _ (List.mem_of_getElem? (i := 110) rfl))) (mvT hZ (hw _ (List.mem_of_getElem? (i := 94) rfl))) (notFace_of_selects (args := #[]) (mvT hZ (hw _ (List.mem_of_getElem? (i := 96) rfl)))) (mvT hZ (hw _ (List.mem_of_getElem? (i := 96) rfl))) (mvT hZ (hw _ (List.mem_of_getElem? (i := 95) rfl))) (by decide) (backOf (W := 1) (st_coder l Z a0 hw [] str zc h0 n0 Z0 X00 SC hzc Gc) hZ (hw _ (List.mem_of_getElem? (i := 97) rfl)) (hw _ (List.mem_of_getElem? (i := 36) rfl)) (by decide) (by decide)) q3a q3c (g := (mkF m 11 #[.val (.ref sb), .val (.ref str)] [(.ref str), (.int (0 : Int32))])) rfl (by rw [hml]; rfl) (Steps.refl _) (argsL := []) (rest := [(.int (0 : Int32))]) (lenOf pd_196 rfl) rfl (by show 2 * 0 + _ ≤ _; exact Nat.le_of_eq rfl) (hb hby d_jdk_68_method_71_code_11) (fun _ _ => ⟨rfl, e2, (by decide : 0 + 0 ≤ _), (by decide : 0 + 0 ≤ _)⟩)
  dsimp only [Pt.U, Pt.locs, Pt.cells, Pt.slots] at X3 l3 y3 z3 st3 hQ3
  subst l3 y3 z3
  obtain ⟨rfl, N3q, e3⟩ := hQ3
  have N3 := Fr.app N0 N3q
  obtain ⟨fs, hr, hrun, hended, hW, hsame⟩ := X3.leave (v := none) (fun _ => rfl) (hlocks := hlk)
  refine ⟨_, _, pre0 _ ?_, hrun, hended, _, _, rfl, ?_, ⟨_, rfl⟩, hW, hsame.mono (by decide) (by decide)⟩
  · show Steps p.tables e below (s₁.setTop (mkF m 0 #[.val (.ref sb), .val (.ref str)] [])) _
    refine st1 _ ?_
    show Steps p.tables e below (T1.setTop (mkF m 3 #[.val (.ref sb), .val (.ref str)] [(.int zc)])) _
    refine XS.ifNo X1.here hx rfl (hb hby d_jdk_68_method_71_code_3) rfl ((if0 _ _).trans (feq hzc).1) ?_
    show Steps p.tables e below (T1.setTop (mkF m 6 #[.val (.ref sb), .val (.ref str)] [])) _
    refine XS.aloadN X1.here hx rfl (hb hby d_jdk_68_method_71_code_6) rfl rfl ?_
    show Steps p.tables e below (T1.setTop (mkF m 7 #[.val (.ref sb), .val (.ref str)] [(.ref sb)])) _
    refine st2 _ ?_
    show Steps p.tables e below (T2.setTop (mkF m 10 #[.val (.ref sb), .val (.ref str)] [(.int (0 : Int32))])) _
    refine XS.aloadN X2.here hx rfl (hb hby d_jdk_68_method_71_code_10) rfl rfl ?_
    show Steps p.tables e below (T2.setTop (mkF m 11 #[.val (.ref sb), .val (.ref str)] [(.ref str), (.int (0 : Int32))])) _
    refine st3.trans ?_
    show Steps p.tables e below (T3.setTop (mkF m 14 #[.val (.ref sb), .val (.ref str)] [(.int (0 : Int32)), (.int (0 : Int32))])) _
    refine XS.icmpYes X3.here hx rfl (pc0 := 14) (pc' := 21) rfl (hb hby d_jdk_68_method_71_code_14) rfl (by decide) (by decide) (by decide) ?_
    show Steps p.tables e below (T3.setTop (mkF m 21 #[.val (.ref sb), .val (.ref str)] [])) _
    exact X3.returnOut hx Bd.returns (hb hby d_jdk_68_method_71_code_21) hr
  · exact ⟨rfl, N3, e3⟩
theorem d_jdk_42_method_147_code_0 : decode jdk_42_method_147_code 0 = .ok (.aload_n 0, 1) := by decide +kernel
theorem d_jdk_42_method_147_code_1 : decode jdk_42_method_147_code 1 = .ok (.invokevirtual 335, 3) := by decide +kernel
theorem d_jdk_42_method_147_code_4 : decode jdk_42_method_147_code 4 = .ok (.iload_n 3, 1) := by decide +kernel
theorem d_jdk_42_method_147_code_5 : decode jdk_42_method_147_code 5 = .ok (.if_icmp .ne 23, 3) := by decide +kernel
theorem d_jdk_42_method_147_code_8 : decode jdk_42_method_147_code 8 = .ok (.aload_n 0, 1) := by decide +kernel
theorem d_jdk_42_method_147_code_9 : decode jdk_42_method_147_code 9 = .ok (.getfield 9, 3) := by decide +kernel
theorem d_jdk_42_method_147_code_12 : decode jdk_42_method_147_code 12 = .ok (.iconst 0, 1) := by decide +kernel
theorem d_jdk_42_method_147_code_13 : decode jdk_42_method_147_code 13 = .ok (.aload_n 1, 1) := by decide +kernel
theorem d_jdk_42_method_147_code_14 : decode jdk_42_method_147_code 14 = .ok (.iload_n 2, 1) := by decide +kernel
theorem d_jdk_42_method_147_code_15 : decode jdk_42_method_147_code 15 = .ok (.iload_n 3, 1) := by decide +kernel
theorem d_jdk_42_method_147_code_16 : decode jdk_42_method_147_code 16 = .ok (.ishl, 1) := by decide +kernel
theorem d_jdk_42_method_147_code_17 : decode jdk_42_method_147_code 17 = .ok (.aload_n 0, 1) := by decide +kernel
theorem d_jdk_42_method_147_code_18 : decode jdk_42_method_147_code 18 = .ok (.getfield 9, 3) := by decide +kernel
theorem d_jdk_42_method_147_code_21 : decode jdk_42_method_147_code 21 = .ok (.arraylength, 1) := by decide +kernel
theorem d_jdk_42_method_147_code_22 : decode jdk_42_method_147_code 22 = .ok (.invokestatic 212, 3) := by decide +kernel
theorem d_jdk_42_method_147_code_25 : decode jdk_42_method_147_code 25 = .ok (.goto 18, 3) := by decide +kernel
theorem d_jdk_42_method_147_code_43 : decode jdk_42_method_147_code 43 = .ok (.return_, 1) := by decide +kernel
theorem ef_225 (m : MethodId) (x0 : Addr) (x1 : Addr) (x2 : Int32) (x3 : Int32) : entryFrame m #[(.ref x0), (.ref x1), (.int x2), (.int x3)] 4 = mkF m 0 #[.val (.ref x0), .val (.ref x1), .val (.int x2), .val (.int x3)] [] := by first | (simp [entryFrame, mkF, argsToLocals, Value.category]; done) | rfl
def Q_st_get (Z : State) (str sv : Addr) (ks : ClassId) (bf : Addr) (kb : ClassId) (cnt : Int32) (vs : List Value) (zc : Int32) (h0 : Heap) (n0 : Nat) (v : Option Value) (h : Heap) (L : List Loc) : Prop := v = none ∧ Fr n0 L ∧ Keep h0 h [bf] ∧ Arv Z h bf kb .byte (16 : Int32) (own_dot vs cnt.toNatClampNeg) (.int 0)
set_option maxRecDepth 65536 in
set_option maxHeartbeats 40000000 in
theorem st_get (l : Launch) (Z : State) (a0 : Array Value) (hw : ∀ d ∈ tables_1, d.before a0 Z = true) (ws : List Jvm.Cond) (str sv : Addr) (ks : ClassId) (bf : Addr) (kb : ClassId) (cnt : Int32) (vs : List Value) (zc : Int32) (h0 : Heap) (n0 : Nat) (Z0 : n0 ≤ h0.size) (X00 : Old Z n0 h0)(SC : Sta Z Z.heap "java/lang/String" "COMPACT_STRINGS" "Z" (.int zc)) (hzc : ¬ zc = 0)(Est : Exa Z h0 str "java/lang/String") (Gv : Fld Z h0 str "java/lang/String" "value" "[B" (.ref sv)) (Gc : Fld Z h0 str "java/lang/String" "coder" "B" (.int (0 : Int32)))(Vs : Arv Z h0 sv ks .byte (2 : Int32) [.int 46, .int 46] (.int 0)) (Vb : Arv Z h0 bf kb .byte (16 : Int32) vs (.int 0)) (gb : n0 ≤ bf) (hvl : vs.length = 16) (hc0 : 0 ≤ cnt.toInt) (hc2 : cnt.toInt + 2 ≤ 16) :
    MetFree l (⟨"java/lang/String", "getBytes", "([BIB)V"⟩ : MethodName) (head1 (Jvm.Cond.code (⟨"java/lang/String", "getBytes", "([BIB)V"⟩ : MethodName) jdk_42_method_147_code 4 (Option.none : Option Jvm.ClassFile.FieldType) :: ws) ({ frames := 1, cells := 0, slots := 0, locals := 19 } : Room)) (fun a U => a = #[(.ref str), (.ref bf), (.int cnt), (.int (0 : Int32))] ∧ Z.Warmed39 U.vm ∧ U.heap = h0) (fun _ _ _ _ _ => True) (fun _ U o U' => ∃ v L, o = .returned v ∧ Q_st_get Z str sv ks bf kb cnt vs zc h0 n0 v U'.heap L ∧ FrameEnd U o U' L ({ frames := 1, cells := 0, slots := 0, locals := 19 } : Room).cells ({ frames := 1, cells := 0, slots := 0, locals := 19 } : Room).slots) := by
  refine MetFree.of_bodySF (plainFor_of_name pn_82) hisR ?_
  intro p e s m args below meth c s₁ Bd hml0 hP hK
  obtain ⟨rfl, hZ, hh⟩ := hP
  have hx := Bd.exec
  have hby := Bd.bytes
  have hml : c.maxLocals = 4 := hml0
  have hown : s.vm.findClass "java/lang/String" = some m.cls := findClass_of_methodNamed Bd.named
  have hnm := (name_of_methodNamed Bd.named Bd.method).1
  have X0 : Stand p l e ({ frames := 1, cells := 0, slots := 0, locals := 19 } : Room) s m #[(.ref str), (.ref bf), (.int cnt), (.int (0 : Int32))] below meth c s₁ [] 0 0 := Stand.of_body Bd
  have e0 : s₁.heap = h0 := by rw [← hh, Bd.state]; rfl
  have N0 := Fr.nil n0
  have hlk : meth.locks = false := BodyLoose.notSynchronized Bd
  have pre0 : ∀ t, Steps p.tables e below (s₁.setTop (mkF m 0 #[.val (.ref str), .val (.ref bf), .val (.int cnt), .val (.int (0 : Int32))] [])) t → Steps p.tables e below (s₁.setTop (entryFrame m #[(.ref str), (.ref bf), (.int cnt), (.int (0 : Int32))] 4)) t := fun t k => castTop (ef_225 m str bf cnt (0 : Int32)) k
  have hcn : ¬ cnt < 0 := own_le (a := cnt) (b := 0) (by rw [own_p0]; omega)
  have hcb : cnt.toNatClampNeg + 2 ≤ 16 := by have h2 := nat_of hcn; generalize cnt.toNatClampNeg = q at *; generalize cnt.toInt = r at *; omega
  have K0 : Keep h0 h0 [bf] := Keep.refl h0 _
  obtain ⟨cq1, kq1, q1a, q1b, q1c⟩ := isOf hZ e0 Est
  obtain ⟨_, _, ⟨T1, L1, k1, n1⟩, -, X1, ⟨Lc1, hQ1, l1, y1, z1⟩, st1⟩ := X0.virtualBack hx (y := (⟨"java/lang/String", "coder", "()B"⟩ : MethodName)) (z := (⟨"java/lang/String", "coder", "()B"⟩ : MethodName)) hown (mvT hZ (hw _ (List.mem_of_getElem? (i := 93) rfl))) (mvT hZ (hw _ (List.mem_of_getElem? (i := 94) rfl))) (notFace_of_selects (args := #[]) (mvT hZ (hw _ (List.mem_of_getElem? (i := 96) rfl)))) (mvT hZ (hw _ (List.mem_of_getElem? (i := 96) rfl))) (mvT hZ (hw _ (List.mem_of_getElem? (i := 95) rfl))) (by decide) (backOf (W := 0) (st_coder l Z a0 hw [] str zc h0 n0 Z0 X00 SC hzc Gc) hZ (hw _ (List.mem_of_getElem? (i := 97) rfl)) (hw _ (List.mem_of_getElem? (i := 36) rfl)) (by decide) (by decide)) q1a q1c (g := (mkF m 1 #[.val (.ref str), .val (.ref bf), .val (.int cnt), .val (.int (0 : Int32))] [(.ref str)])) rfl (by rw [hml]; rfl) (Steps.refl _) (argsL := []) (rest := []) (lenOf pd_196 rfl) rfl (by show 2 * 0 + _ ≤ _; exact Nat.le_of_eq rfl) (hb hby d_jdk_42_method_147_code_1) (fun _ _ => ⟨rfl, e0, (by decide : 0 + 0 ≤ _), (by decide : 0 + 0 ≤ _)⟩)
  dsimp only [Pt.U, Pt.locs, Pt.cells, Pt.slots] at X1 l1 y1 z1 st1 hQ1
  subst l1 y1 z1
  obtain ⟨rfl, N1q, e1⟩ := hQ1
  have N1 := Fr.app N0 N1q
  obtain ⟨T2, X2, e2, st2⟩ := getF X1 hx hZ hown (host := "") (Or.inl (hw _ (List.mem_of_getElem? (i := 92) rfl))) Via.refl e1 Gv (g := (mkF m 9 #[.val (.ref str), .val (.ref bf), .val (.int cnt), .val (.int (0 : Int32))] [(.ref str)])) rfl rfl (hb hby d_jdk_42_method_147_code_9)
  obtain ⟨T3, X3, e3, st3⟩ := getF X2 hx hZ hown (host := "") (Or.inl (hw _ (List.mem_of_getElem? (i := 92) rfl))) Via.refl e2 Gv (g := (mkF m 18 #[.val (.ref str), .val (.ref bf), .val (.int cnt), .val (.int (0 : Int32))] [(.ref str), (.int cnt), (.ref bf), (.int (0 : Int32)), (.ref sv)])) rfl rfl (hb hby d_jdk_42_method_147_code_18)
  obtain ⟨cl_1, Arcl_1, Qccl_1, Szcl_1, Ngcl_1, Hscl_1, Ftcl_1⟩ := id Vs
  have Lncl_1 : cl_1.slots.size.toInt32 = (2 : Int32) := len_of Szcl_1 Ngcl_1
  obtain ⟨T4, h4, L4, X4, e4, N4, Kp4, Vc4, st4⟩ := cpA X3 hx hZ hown (hw _ (List.mem_of_getElem? (i := 116) rfl)) (hw _ (List.mem_of_getElem? (i := 119) rfl)) (hw _ (List.mem_of_getElem? (i := 117) rfl)) (hw _ (List.mem_of_getElem? (i := 118) rfl)) e3 Vs Vb (us := [.int 46, .int 46]) (sp := (0 : Int32)) (dp := cnt) (nn := (2 : Int32)) (Or.inl ⟨rfl, rfl⟩) (by decide) hcn (by decide) (by decide) hcb rfl (by rw [hvl]; exact hcb) N1 gb (g := (mkF m 22 #[.val (.ref str), .val (.ref bf), .val (.int cnt), .val (.int (0 : Int32))] [(.int (2 : Int32)), (.int cnt), (.ref bf), (.int (0 : Int32)), (.ref sv)])) rfl (by rw [hml]; rfl) rfl (hb hby d_jdk_42_method_147_code_22) (by decide) (W := 0) (by show 2 * 0 + _ ≤ _; exact Nat.le_of_eq rfl) (by decide)
  have K_2 : Keep h0 h4 [bf] := K0.trans Kp4 (allS (Or.inl (by simp)) all0)
  have Z_4 : n0 ≤ h4.size := Nat.le_trans Z0 Kp4.1
  obtain ⟨fs, hr, hrun, hended, hW, hsame⟩ := X4.leave (v := none) (fun _ => rfl) (hlocks := hlk)
  refine ⟨_, _, pre0 _ ?_, hrun, hended, _, _, rfl, ?_, ⟨_, rfl⟩, hW, hsame.mono (by decide) (by decide)⟩
  · show Steps p.tables e below (s₁.setTop (mkF m 0 #[.val (.ref str), .val (.ref bf), .val (.int cnt), .val (.int (0 : Int32))] [])) _
    refine XS.aloadN X0.here hx rfl (hb hby d_jdk_42_method_147_code_0) rfl rfl ?_
    show Steps p.tables e below (s₁.setTop (mkF m 1 #[.val (.ref str), .val (.ref bf), .val (.int cnt), .val (.int (0 : Int32))] [(.ref str)])) _
    refine st1.trans ?_
    show Steps p.tables e below (T1.setTop (mkF m 4 #[.val (.ref str), .val (.ref bf), .val (.int cnt), .val (.int (0 : Int32))] [(.int (0 : Int32))])) _
    refine XS.iloadN X1.here hx rfl (hb hby d_jdk_42_method_147_code_4) rfl ?_
    show Steps p.tables e below (T1.setTop (mkF m 5 #[.val (.ref str), .val (.ref bf), .val (.int cnt), .val (.int (0 : Int32))] [(.int (0 : Int32)), (.int (0 : Int32))])) _
    refine XS.icmpNo X1.here hx rfl (hb hby d_jdk_42_method_147_code_5) rfl (by decide) ?_
    show Steps p.tables e below (T1.setTop (mkF m 8 #[.val (.ref str), .val (.ref bf), .val (.int cnt), .val (.int (0 : Int32))] [])) _
    refine XS.aloadN X1.here hx rfl (hb hby d_jdk_42_method_147_code_8) rfl rfl ?_
    show Steps p.tables e below (T1.setTop (mkF m 9 #[.val (.ref str), .val (.ref bf), .val (.int cnt), .val (.int (0 : Int32))] [(.ref str)])) _
    refine st2 _ ?_
    show Steps p.tables e below (T2.setTop (mkF m 12 #[.val (.ref str), .val (.ref bf), .val (.int cnt), .val (.int (0 : Int32))] [(.ref sv)])) _
    refine XT.iconstV X2.here hx rfl (0 : Int32) (hb hby d_jdk_42_method_147_code_12) (by decide) ?_
    show Steps p.tables e below (T2.setTop (mkF m 13 #[.val (.ref str), .val (.ref bf), .val (.int cnt), .val (.int (0 : Int32))] [(.int (0 : Int32)), (.ref sv)])) _
    refine XS.aloadN X2.here hx rfl (hb hby d_jdk_42_method_147_code_13) rfl rfl ?_
    show Steps p.tables e below (T2.setTop (mkF m 14 #[.val (.ref str), .val (.ref bf), .val (.int cnt), .val (.int (0 : Int32))] [(.ref bf), (.int (0 : Int32)), (.ref sv)])) _
    refine XS.iloadN X2.here hx rfl (hb hby d_jdk_42_method_147_code_14) rfl ?_
    show Steps p.tables e below (T2.setTop (mkF m 15 #[.val (.ref str), .val (.ref bf), .val (.int cnt), .val (.int (0 : Int32))] [(.int cnt), (.ref bf), (.int (0 : Int32)), (.ref sv)])) _
    refine XS.iloadN X2.here hx rfl (hb hby d_jdk_42_method_147_code_15) rfl ?_
    show Steps p.tables e below (T2.setTop (mkF m 16 #[.val (.ref str), .val (.ref bf), .val (.int cnt), .val (.int (0 : Int32))] [(.int (0 : Int32)), (.int cnt), (.ref bf), (.int (0 : Int32)), (.ref sv)])) _
    refine XT.ishl X2.here hx rfl (hb hby d_jdk_42_method_147_code_16) rfl ?_
    show Steps p.tables e below (T2.setTop (mkF m 17 #[.val (.ref str), .val (.ref bf), .val (.int cnt), .val (.int (0 : Int32))] [(.int (cnt <<< ((0 : Int32) &&& 31))), (.ref bf), (.int (0 : Int32)), (.ref sv)])) _
    rw [own_shl0 cnt]
    show Steps p.tables e below (T2.setTop (mkF m 17 #[.val (.ref str), .val (.ref bf), .val (.int cnt), .val (.int (0 : Int32))] [(.int cnt), (.ref bf), (.int (0 : Int32)), (.ref sv)])) _
    refine XS.aloadN X2.here hx rfl (hb hby d_jdk_42_method_147_code_17) rfl rfl ?_
    show Steps p.tables e below (T2.setTop (mkF m 18 #[.val (.ref str), .val (.ref bf), .val (.int cnt), .val (.int (0 : Int32))] [(.ref str), (.int cnt), (.ref bf), (.int (0 : Int32)), (.ref sv)])) _
    refine st3 _ ?_
    show Steps p.tables e below (T3.setTop (mkF m 21 #[.val (.ref str), .val (.ref bf), .val (.int cnt), .val (.int (0 : Int32))] [(.ref sv), (.int cnt), (.ref bf), (.int (0 : Int32)), (.ref sv)])) _
    refine X3.arraylength hx (by first | exact Arcl_1.1 | (rw [e3]; exact Arcl_1.1)) (State.isArrayOf_alike hZ.alike Arcl_1.2.1) (g := (mkF m 21 #[.val (.ref str), .val (.ref bf), .val (.int cnt), .val (.int (0 : Int32))] [(.ref sv), (.int cnt), (.ref bf), (.int (0 : Int32)), (.ref sv)])) rfl rfl (hb hby d_jdk_42_method_147_code_21) _ ?_
    show Steps p.tables e below (T3.setTop (mkF m 22 #[.val (.ref str), .val (.ref bf), .val (.int cnt), .val (.int (0 : Int32))] [(.int cl_1.slots.size.toInt32), (.int cnt), (.ref bf), (.int (0 : Int32)), (.ref sv)])) _
    rw [Lncl_1]
    show Steps p.tables e below (T3.setTop (mkF m 22 #[.val (.ref str), .val (.ref bf), .val (.int cnt), .val (.int (0 : Int32))] [(.int (2 : Int32)), (.int cnt), (.ref bf), (.int (0 : Int32)), (.ref sv)])) _
    refine st4 _ ?_
    show Steps p.tables e below (T4.setTop (mkF m 25 #[.val (.ref str), .val (.ref bf), .val (.int cnt), .val (.int (0 : Int32))] [])) _
    refine XS.goto X4.here hx rfl (pc0 := 25) (pc' := 43) rfl (hb hby d_jdk_42_method_147_code_25) (by decide) (by decide) ?_
    show Steps p.tables e below (T4.setTop (mkF m 43 #[.val (.ref str), .val (.ref bf), .val (.int cnt), .val (.int (0 : Int32))] [])) _
    exact X4.returnOut hx Bd.returns (hb hby d_jdk_42_method_147_code_43) hr
  · show Q_st_get Z str sv ks bf kb cnt vs zc h0 n0 _ T4.heap _; rw [e4]; exact ⟨rfl, N4, K_2, Vc4⟩
theorem d_jdk_68_method_73_code_0 : decode jdk_68_method_73_code 0 = .ok (.aload_n 0, 1) := by decide +kernel
theorem d_jdk_68_method_73_code_1 : decode jdk_68_method_73_code 1 = .ok (.aload_n 2, 1) := by decide +kernel
theorem d_jdk_68_method_73_code_2 : decode jdk_68_method_73_code 2 = .ok (.invokevirtual 397, 3) := by decide +kernel
theorem pd_229 : parseMethodDescriptor "(Ljava/lang/String;)V" = some ⟨[(.object "java/lang/String")], none⟩ := by decide +kernel
theorem d_jdk_68_method_73_code_5 : decode jdk_68_method_73_code 5 = .ok (.aload_n 2, 1) := by decide +kernel
theorem d_jdk_68_method_73_code_6 : decode jdk_68_method_73_code 6 = .ok (.aload_n 0, 1) := by decide +kernel
theorem d_jdk_68_method_73_code_7 : decode jdk_68_method_73_code 7 = .ok (.getfield 15, 3) := by decide +kernel
theorem d_jdk_68_method_73_code_10 : decode jdk_68_method_73_code 10 = .ok (.iload_n 1, 1) := by decide +kernel
theorem d_jdk_68_method_73_code_11 : decode jdk_68_method_73_code 11 = .ok (.aload_n 0, 1) := by decide +kernel
theorem d_jdk_68_method_73_code_12 : decode jdk_68_method_73_code 12 = .ok (.getfield 22, 3) := by decide +kernel
theorem d_jdk_68_method_73_code_15 : decode jdk_68_method_73_code 15 = .ok (.invokevirtual 399, 3) := by decide +kernel
theorem pd_237 : parseMethodDescriptor "([BIB)V" = some ⟨[(.array .byte), .int, .byte], none⟩ := by decide +kernel
theorem d_jdk_68_method_73_code_18 : decode jdk_68_method_73_code 18 = .ok (.return_, 1) := by decide +kernel
theorem ef_239 (m : MethodId) (x0 : Addr) (x1 : Int32) (x2 : Addr) : entryFrame m #[(.ref x0), (.int x1), (.ref x2)] 3 = mkF m 0 #[.val (.ref x0), .val (.int x1), .val (.ref x2)] [] := by first | (simp [entryFrame, mkF, argsToLocals, Value.category]; done) | rfl
def Q_asb_put (Z : State) (sb bf : Addr) (kb : ClassId) (cnt : Int32) (vs : List Value) (str sv : Addr) (ks : ClassId) (zc : Int32) (h0 : Heap) (n0 : Nat) (v : Option Value) (h : Heap) (L : List Loc) : Prop := v = none ∧ Fr n0 L ∧ Keep h0 h [bf] ∧ Arv Z h bf kb .byte (16 : Int32) (own_dot vs cnt.toNatClampNeg) (.int 0)
set_option maxRecDepth 65536 in
set_option maxHeartbeats 40000000 in
theorem asb_put (l : Launch) (Z : State) (a0 : Array Value) (hw : ∀ d ∈ tables_1, d.before a0 Z = true) (ws : List Jvm.Cond) (sb bf : Addr) (kb : ClassId) (cnt : Int32) (vs : List Value) (str sv : Addr) (ks : ClassId) (zc : Int32) (h0 : Heap) (n0 : Nat) (Z0 : n0 ≤ h0.size) (X00 : Old Z n0 h0)(SC : Sta Z Z.heap "java/lang/String" "COMPACT_STRINGS" "Z" (.int zc)) (hzc : ¬ zc = 0)(Esb : Exa Z h0 sb "java/lang/StringBuilder") (Fv : Fld Z h0 sb "java/lang/AbstractStringBuilder" "value" "[B" (.ref bf)) (Fc : Fld Z h0 sb "java/lang/AbstractStringBuilder" "coder" "B" (.int (0 : Int32))) (Fn : Fld Z h0 sb "java/lang/AbstractStringBuilder" "count" "I" (.int cnt)) (Vb : Arv Z h0 bf kb .byte (16 : Int32) vs (.int 0)) (nb : sb ≠ bf) (gs : n0 ≤ sb) (gb : n0 ≤ bf)(Est : Exa Z h0 str "java/lang/String") (Gv : Fld Z h0 str "java/lang/String" "value" "[B" (.ref sv)) (Gc : Fld Z h0 str "java/lang/String" "coder" "B" (.int (0 : Int32)))(Vs : Arv Z h0 sv ks .byte (2 : Int32) [.int 46, .int 46] (.int 0)) (hvl : vs.length = 16) (hc0 : 0 ≤ cnt.toInt) (hc2 : cnt.toInt + 2 ≤ 16) :
    MetFree l (⟨"java/lang/AbstractStringBuilder", "putStringAt", "(ILjava/lang/String;)V"⟩ : MethodName) (head1 (Jvm.Cond.code (⟨"java/lang/AbstractStringBuilder", "putStringAt", "(ILjava/lang/String;)V"⟩ : MethodName) jdk_68_method_73_code 3 (Option.none : Option Jvm.ClassFile.FieldType) :: ws) ({ frames := 2, cells := 0, slots := 0, locals := 34 } : Room)) (fun a U => a = #[(.ref sb), (.int cnt), (.ref str)] ∧ Z.Warmed39 U.vm ∧ U.heap = h0) (fun _ _ _ _ _ => True) (fun _ U o U' => ∃ v L, o = .returned v ∧ Q_asb_put Z sb bf kb cnt vs str sv ks zc h0 n0 v U'.heap L ∧ FrameEnd U o U' L ({ frames := 2, cells := 0, slots := 0, locals := 34 } : Room).cells ({ frames := 2, cells := 0, slots := 0, locals := 34 } : Room).slots) := by
  refine MetFree.of_bodySF (plainFor_of_name pn_14) hisR ?_
  intro p e s m args below meth c s₁ Bd hml0 hP hK
  obtain ⟨rfl, hZ, hh⟩ := hP
  have hx := Bd.exec
  have hby := Bd.bytes
  have hml : c.maxLocals = 3 := hml0
  have hown : s.vm.findClass "java/lang/AbstractStringBuilder" = some m.cls := findClass_of_methodNamed Bd.named
  have hnm := (name_of_methodNamed Bd.named Bd.method).1
  have X0 : Stand p l e ({ frames := 2, cells := 0, slots := 0, locals := 34 } : Room) s m #[(.ref sb), (.int cnt), (.ref str)] below meth c s₁ [] 0 0 := Stand.of_body Bd
  have e0 : s₁.heap = h0 := by rw [← hh, Bd.state]; rfl
  have N0 := Fr.nil n0
  have hlk : meth.locks = false := BodyLoose.notSynchronized Bd
  have pre0 : ∀ t, Steps p.tables e below (s₁.setTop (mkF m 0 #[.val (.ref sb), .val (.int cnt), .val (.ref str)] [])) t → Steps p.tables e below (s₁.setTop (entryFrame m #[(.ref sb), (.int cnt), (.ref str)] 3)) t := fun t k => castTop (ef_239 m sb cnt str) k
  have K0 : Keep h0 h0 [bf] := Keep.refl h0 _
  obtain ⟨cq1, kq1, q1a, q1b, q1c⟩ := isOf hZ e0 Esb
  obtain ⟨_, _, ⟨T1, L1, k1, n1⟩, -, X1, ⟨Lc1, hQ1, l1, y1, z1⟩, st1⟩ := X0.virtualBack hx (y := (⟨"java/lang/AbstractStringBuilder", "inflateIfNeededFor", "(Ljava/lang/String;)V"⟩ : MethodName)) (z := (⟨"java/lang/AbstractStringBuilder", "inflateIfNeededFor", "(Ljava/lang/String;)V"⟩ : MethodName)) hown (mvT hZ (hw _ (List.mem_of_getElem? (i := 105) rfl))) (mvT hZ (own_decl (hw _ (List.mem_of_getElem? (i := 106) rfl)) (hw _ (List.mem_of_getElem? (i := 109) rfl)))) (notFace_of_selects (args := #[]) (mvT hZ (hw _ (List.mem_of_getElem? (i := 108) rfl)))) (mvT hZ (hw _ (List.mem_of_getElem? (i := 108) rfl))) (mvT hZ (hw _ (List.mem_of_getElem? (i := 106) rfl))) (by decide) (backOf (W := 0) (inflate l Z a0 hw [] sb str zc h0 n0 Z0 X00 SC hzc Fc Est Gc) hZ (hw _ (List.mem_of_getElem? (i := 109) rfl)) (hw _ (List.mem_of_getElem? (i := 32) rfl)) (by decide) (by decide)) q1a q1c (g := (mkF m 2 #[.val (.ref sb), .val (.int cnt), .val (.ref str)] [(.ref str), (.ref sb)])) rfl (by rw [hml]; rfl) (Steps.refl _) (argsL := [(.ref str)]) (rest := []) (lenOf pd_229 rfl) rfl (by show 2 * 0 + _ ≤ _; exact Nat.le_of_eq rfl) (hb hby d_jdk_68_method_73_code_2) (fun _ _ => ⟨rfl, e0, (by decide : 0 + 0 ≤ _), (by decide : 0 + 0 ≤ _)⟩)
  dsimp only [Pt.U, Pt.locs, Pt.cells, Pt.slots] at X1 l1 y1 z1 st1 hQ1
  subst l1 y1 z1
  obtain ⟨rfl, N1q, e1⟩ := hQ1
  have N1 := Fr.app N0 N1q
  obtain ⟨T2, X2, e2, st2⟩ := getF X1 hx hZ hown (host := "") (Or.inl (hw _ (List.mem_of_getElem? (i := 38) rfl))) Via.refl e1 Fv (g := (mkF m 7 #[.val (.ref sb), .val (.int cnt), .val (.ref str)] [(.ref sb), (.ref str)])) rfl rfl (hb hby d_jdk_68_method_73_code_7)
  obtain ⟨T3, X3, e3, st3⟩ := getF X2 hx hZ hown (host := "") (Or.inl (hw _ (List.mem_of_getElem? (i := 40) rfl))) Via.refl e2 Fc (g := (mkF m 12 #[.val (.ref sb), .val (.int cnt), .val (.ref str)] [(.ref sb), (.int cnt), (.ref bf), (.ref str)])) rfl rfl (hb hby d_jdk_68_method_73_code_12)
  obtain ⟨cq4, kq4, q4a, q4b, q4c⟩ := isOf hZ e3 Est
  obtain ⟨_, _, ⟨T4, L4, k4, n4⟩, -, X4, ⟨Lc4, hQ4, l4, y4, z4⟩, st4⟩ := X3.virtualBack hx (y := (⟨"java/lang/String", "getBytes", "([BIB)V"⟩ : MethodName)) (z := (⟨"java/lang/String", "getBytes", "([BIB)V"⟩ : MethodName)) hown (mvT hZ (hw _ (List.mem_of_getElem? (i := 111) rfl))) (mvT hZ (hw _ (List.mem_of_getElem? (i := 112) rfl))) (notFace_of_selects (args := #[]) (mvT hZ (hw _ (List.mem_of_getElem? (i := 114) rfl)))) (mvT hZ (hw _ (List.mem_of_getElem? (i := 114) rfl))) (mvT hZ (hw _ (List.mem_of_getElem? (i := 113) rfl))) (by decide) (backOf (W := 0) (st_get l Z a0 hw [] str sv ks bf kb cnt vs zc h0 n0 Z0 X00 SC hzc Est Gv Gc Vs Vb gb hvl hc0 hc2) hZ (hw _ (List.mem_of_getElem? (i := 115) rfl)) (hw _ (List.mem_of_getElem? (i := 36) rfl)) (by decide) (by decide)) q4a q4c (g := (mkF m 15 #[.val (.ref sb), .val (.int cnt), .val (.ref str)] [(.int (0 : Int32)), (.int cnt), (.ref bf), (.ref str)])) rfl (by rw [hml]; rfl) (Steps.refl _) (argsL := [(.ref bf), (.int cnt), (.int (0 : Int32))]) (rest := []) (lenOf pd_237 rfl) rfl (by show 2 * 0 + _ ≤ _; exact Nat.le_of_eq rfl) (hb hby d_jdk_68_method_73_code_15) (fun _ _ => ⟨rfl, e3, (by decide : 0 + 0 ≤ _), (by decide : 0 + 0 ≤ _)⟩)
  dsimp only [Pt.U, Pt.locs, Pt.cells, Pt.slots] at X4 l4 y4 z4 st4 hQ4
  subst l4 y4 z4
  obtain ⟨rfl, N4q, Kc4, VG⟩ := hQ4
  have N4 := Fr.app N1 N4q
  have K_1 : Keep h0 T4.heap [bf] := K0.trans Kc4 (allS (Or.inl (by simp)) all0)
  have Z_4 : n0 ≤ T4.heap.size := Nat.le_trans Z0 Kc4.1
  obtain ⟨fs, hr, hrun, hended, hW, hsame⟩ := X4.leave (v := none) (fun _ => rfl) (hlocks := hlk)
  refine ⟨_, _, pre0 _ ?_, hrun, hended, _, _, rfl, ?_, ⟨_, rfl⟩, hW, hsame.mono (by decide) (by decide)⟩
  · show Steps p.tables e below (s₁.setTop (mkF m 0 #[.val (.ref sb), .val (.int cnt), .val (.ref str)] [])) _
    refine XS.aloadN X0.here hx rfl (hb hby d_jdk_68_method_73_code_0) rfl rfl ?_
    show Steps p.tables e below (s₁.setTop (mkF m 1 #[.val (.ref sb), .val (.int cnt), .val (.ref str)] [(.ref sb)])) _
    refine XS.aloadN X0.here hx rfl (hb hby d_jdk_68_method_73_code_1) rfl rfl ?_
    show Steps p.tables e below (s₁.setTop (mkF m 2 #[.val (.ref sb), .val (.int cnt), .val (.ref str)] [(.ref str), (.ref sb)])) _
    refine st1.trans ?_
    show Steps p.tables e below (T1.setTop (mkF m 5 #[.val (.ref sb), .val (.int cnt), .val (.ref str)] [])) _
    refine XS.aloadN X1.here hx rfl (hb hby d_jdk_68_method_73_code_5) rfl rfl ?_
    show Steps p.tables e below (T1.setTop (mkF m 6 #[.val (.ref sb), .val (.int cnt), .val (.ref str)] [(.ref str)])) _
    refine XS.aloadN X1.here hx rfl (hb hby d_jdk_68_method_73_code_6) rfl rfl ?_
    show Steps p.tables e below (T1.setTop (mkF m 7 #[.val (.ref sb), .val (.int cnt), .val (.ref str)] [(.ref sb), (.ref str)])) _
    refine st2 _ ?_
    show Steps p.tables e below (T2.setTop (mkF m 10 #[.val (.ref sb), .val (.int cnt), .val (.ref str)] [(.ref bf), (.ref str)])) _
    refine XS.iloadN X2.here hx rfl (hb hby d_jdk_68_method_73_code_10) rfl ?_
    show Steps p.tables e below (T2.setTop (mkF m 11 #[.val (.ref sb), .val (.int cnt), .val (.ref str)] [(.int cnt), (.ref bf), (.ref str)])) _
    refine XS.aloadN X2.here hx rfl (hb hby d_jdk_68_method_73_code_11) rfl rfl ?_
    show Steps p.tables e below (T2.setTop (mkF m 12 #[.val (.ref sb), .val (.int cnt), .val (.ref str)] [(.ref sb), (.int cnt), (.ref bf), (.ref str)])) _
    refine st3 _ ?_
    show Steps p.tables e below (T3.setTop (mkF m 15 #[.val (.ref sb), .val (.int cnt), .val (.ref str)] [(.int (0 : Int32)), (.int cnt), (.ref bf), (.ref str)])) _
    refine st4.trans ?_
    show Steps p.tables e below (T4.setTop (mkF m 18 #[.val (.ref sb), .val (.int cnt), .val (.ref str)] [])) _
    exact X4.returnOut hx Bd.returns (hb hby d_jdk_68_method_73_code_18) hr
  · exact ⟨rfl, N4, Kc4, VG⟩
theorem d_jdk_68_method_22_code_0 : decode jdk_68_method_22_code 0 = .ok (.aload_n 1, 1) := by decide +kernel
theorem d_jdk_68_method_22_code_1 : decode jdk_68_method_22_code 1 = .ok (.ifnonnull 8, 3) := by decide +kernel
theorem d_jdk_68_method_22_code_9 : decode jdk_68_method_22_code 9 = .ok (.aload_n 1, 1) := by decide +kernel
theorem d_jdk_68_method_22_code_10 : decode jdk_68_method_22_code 10 = .ok (.invokevirtual 32, 3) := by decide +kernel
theorem pd_244 : parseMethodDescriptor "()I" = some ⟨[], some .int⟩ := by decide +kernel
theorem d_jdk_68_method_22_code_13 : decode jdk_68_method_22_code 13 = .ok (.istore_n 2, 1) := by decide +kernel
theorem d_jdk_68_method_22_code_14 : decode jdk_68_method_22_code 14 = .ok (.aload_n 0, 1) := by decide +kernel
theorem d_jdk_68_method_22_code_15 : decode jdk_68_method_22_code 15 = .ok (.aload_n 0, 1) := by decide +kernel
theorem d_jdk_68_method_22_code_16 : decode jdk_68_method_22_code 16 = .ok (.getfield 79, 3) := by decide +kernel
theorem d_jdk_68_method_22_code_19 : decode jdk_68_method_22_code 19 = .ok (.iload_n 2, 1) := by decide +kernel
theorem d_jdk_68_method_22_code_20 : decode jdk_68_method_22_code 20 = .ok (.iadd, 1) := by decide +kernel
theorem d_jdk_68_method_22_code_21 : decode jdk_68_method_22_code 21 = .ok (.invokevirtual 100, 3) := by decide +kernel
theorem d_jdk_68_method_22_code_24 : decode jdk_68_method_22_code 24 = .ok (.aload_n 0, 1) := by decide +kernel
theorem d_jdk_68_method_22_code_25 : decode jdk_68_method_22_code 25 = .ok (.aload_n 0, 1) := by decide +kernel
theorem d_jdk_68_method_22_code_26 : decode jdk_68_method_22_code 26 = .ok (.getfield 79, 3) := by decide +kernel
theorem d_jdk_68_method_22_code_29 : decode jdk_68_method_22_code 29 = .ok (.aload_n 1, 1) := by decide +kernel
theorem d_jdk_68_method_22_code_30 : decode jdk_68_method_22_code 30 = .ok (.invokevirtual 208, 3) := by decide +kernel
theorem pd_257 : parseMethodDescriptor "(ILjava/lang/String;)V" = some ⟨[.int, (.object "java/lang/String")], none⟩ := by decide +kernel
theorem d_jdk_68_method_22_code_33 : decode jdk_68_method_22_code 33 = .ok (.aload_n 0, 1) := by decide +kernel
theorem d_jdk_68_method_22_code_34 : decode jdk_68_method_22_code 34 = .ok (.dup, 1) := by decide +kernel
theorem d_jdk_68_method_22_code_35 : decode jdk_68_method_22_code 35 = .ok (.getfield 79, 3) := by decide +kernel
theorem d_jdk_68_method_22_code_38 : decode jdk_68_method_22_code 38 = .ok (.iload_n 2, 1) := by decide +kernel
theorem d_jdk_68_method_22_code_39 : decode jdk_68_method_22_code 39 = .ok (.iadd, 1) := by decide +kernel
theorem d_jdk_68_method_22_code_40 : decode jdk_68_method_22_code 40 = .ok (.putfield 79, 3) := by decide +kernel
theorem d_jdk_68_method_22_code_43 : decode jdk_68_method_22_code 43 = .ok (.aload_n 0, 1) := by decide +kernel
theorem d_jdk_68_method_22_code_44 : decode jdk_68_method_22_code 44 = .ok (.areturn, 1) := by decide +kernel
theorem ef_266 (m : MethodId) (x0 : Addr) (x1 : Addr) : entryFrame m #[(.ref x0), (.ref x1)] 3 = mkF m 0 #[.val (.ref x0), .val (.ref x1), .unset] [] := by first | (simp [entryFrame, mkF, argsToLocals, Value.category]; done) | rfl
def Q_asb_appS (Z : State) (sb bf : Addr) (kb : ClassId) (cnt : Int32) (vs : List Value) (str sv : Addr) (ks : ClassId) (zc : Int32) (h0 : Heap) (n0 : Nat) (v : Option Value) (h : Heap) (L : List Loc) : Prop := v = some (.ref sb) ∧ Fr n0 L ∧ Keep h0 h [sb, bf] ∧ Exa Z h sb "java/lang/StringBuilder" ∧ Fld Z h sb "java/lang/AbstractStringBuilder" "value" "[B" (.ref bf) ∧ Fld Z h sb "java/lang/AbstractStringBuilder" "coder" "B" (.int (0 : Int32)) ∧ Fld Z h sb "java/lang/AbstractStringBuilder" "count" "I" (.int (cnt + 2)) ∧ Arv Z h bf kb .byte (16 : Int32) (own_dot vs cnt.toNatClampNeg) (.int 0)
set_option maxRecDepth 65536 in
set_option maxHeartbeats 40000000 in
theorem asb_appS (l : Launch) (Z : State) (a0 : Array Value) (hw : ∀ d ∈ tables_1, d.before a0 Z = true) (ws : List Jvm.Cond) (sb bf : Addr) (kb : ClassId) (cnt : Int32) (vs : List Value) (str sv : Addr) (ks : ClassId) (zc : Int32) (h0 : Heap) (n0 : Nat) (Z0 : n0 ≤ h0.size) (X00 : Old Z n0 h0)(SC : Sta Z Z.heap "java/lang/String" "COMPACT_STRINGS" "Z" (.int zc)) (hzc : ¬ zc = 0)(Esb : Exa Z h0 sb "java/lang/StringBuilder") (Fv : Fld Z h0 sb "java/lang/AbstractStringBuilder" "value" "[B" (.ref bf)) (Fc : Fld Z h0 sb "java/lang/AbstractStringBuilder" "coder" "B" (.int (0 : Int32))) (Fn : Fld Z h0 sb "java/lang/AbstractStringBuilder" "count" "I" (.int cnt)) (Vb : Arv Z h0 bf kb .byte (16 : Int32) vs (.int 0)) (nb : sb ≠ bf) (gs : n0 ≤ sb) (gb : n0 ≤ bf)(Est : Exa Z h0 str "java/lang/String") (Gv : Fld Z h0 str "java/lang/String" "value" "[B" (.ref sv)) (Gc : Fld Z h0 str "java/lang/String" "coder" "B" (.int (0 : Int32)))(Vs : Arv Z h0 sv ks .byte (2 : Int32) [.int 46, .int 46] (.int 0)) (hvl : vs.length = 16) (hc0 : 0 ≤ cnt.toInt) (hc2 : cnt.toInt + 2 ≤ 16) :
    MetFree l (⟨"java/lang/AbstractStringBuilder", "append", "(Ljava/lang/String;)Ljava/lang/AbstractStringBuilder;"⟩ : MethodName) (head1 (Jvm.Cond.code (⟨"java/lang/AbstractStringBuilder", "append", "(Ljava/lang/String;)Ljava/lang/AbstractStringBuilder;"⟩ : MethodName) jdk_68_method_22_code 3 (Option.some (Jvm.ClassFile.FieldType.object "java/lang/AbstractStringBuilder")) :: ws) ({ frames := 3, cells := 0, slots := 0, locals := 48 } : Room)) (fun a U => a = #[(.ref sb), (.ref str)] ∧ Z.Warmed39 U.vm ∧ U.heap = h0) (fun _ _ _ _ _ => True) (fun _ U o U' => ∃ v L, o = .returned v ∧ Q_asb_appS Z sb bf kb cnt vs str sv ks zc h0 n0 v U'.heap L ∧ FrameEnd U o U' L ({ frames := 3, cells := 0, slots := 0, locals := 48 } : Room).cells ({ frames := 3, cells := 0, slots := 0, locals := 48 } : Room).slots) := by
  refine MetFree.of_bodySF (plainFor_of_name pn_14) hisR ?_
  intro p e s m args below meth c s₁ Bd hml0 hP hK
  obtain ⟨rfl, hZ, hh⟩ := hP
  have hx := Bd.exec
  have hby := Bd.bytes
  have hml : c.maxLocals = 3 := hml0
  have hown : s.vm.findClass "java/lang/AbstractStringBuilder" = some m.cls := findClass_of_methodNamed Bd.named
  have hnm := (name_of_methodNamed Bd.named Bd.method).1
  have X0 : Stand p l e ({ frames := 3, cells := 0, slots := 0, locals := 48 } : Room) s m #[(.ref sb), (.ref str)] below meth c s₁ [] 0 0 := Stand.of_body Bd
  have e0 : s₁.heap = h0 := by rw [← hh, Bd.state]; rfl
  have N0 := Fr.nil n0
  have hlk : meth.locks = false := BodyLoose.notSynchronized Bd
  have pre0 : ∀ t, Steps p.tables e below (s₁.setTop (mkF m 0 #[.val (.ref sb), .val (.ref str), .unset] [])) t → Steps p.tables e below (s₁.setTop (entryFrame m #[(.ref sb), (.ref str)] 3)) t := fun t k => castTop (ef_266 m sb str) k
  obtain ⟨ct, hct⟩ : ∃ z, z = cnt + (2 : Int32) := ⟨_, rfl⟩
  have cti : ct.toInt = cnt.toInt + 2 := by rw [hct]; exact own_addI hc0 (by decide) (by show _ + (2 : Int) < _; omega)
  have K0 : Keep h0 h0 [sb, bf] := Keep.refl h0 _
  obtain ⟨cq1, kq1, q1a, q1b, q1c⟩ := isOf hZ e0 Est
  obtain ⟨_, _, ⟨T1, L1, k1, n1⟩, -, X1, ⟨Lc1, hQ1, l1, y1, z1⟩, st1⟩ := X0.virtualBack hx (y := (⟨"java/lang/String", "length", "()I"⟩ : MethodName)) (z := (⟨"java/lang/String", "length", "()I"⟩ : MethodName)) hown (mvT hZ (hw _ (List.mem_of_getElem? (i := 87) rfl))) (mvT hZ (hw _ (List.mem_of_getElem? (i := 88) rfl))) (notFace_of_selects (args := #[]) (mvT hZ (hw _ (List.mem_of_getElem? (i := 90) rfl)))) (mvT hZ (hw _ (List.mem_of_getElem? (i := 90) rfl))) (mvT hZ (hw _ (List.mem_of_getElem? (i := 89) rfl))) (by decide) (backOf (W := 0) (st_len l Z a0 hw [] str sv ks (2 : Int32) [.int 46, .int 46] zc h0 n0 Z0 X00 SC hzc Est Gv Gc Vs) hZ (hw _ (List.mem_of_getElem? (i := 91) rfl)) (hw _ (List.mem_of_getElem? (i := 36) rfl)) (by decide) (by decide)) q1a q1c (g := (mkF m 10 #[.val (.ref sb), .val (.ref str), .unset] [(.ref str)])) rfl (by rw [hml]; rfl) (Steps.refl _) (argsL := []) (rest := []) (lenOf pd_244 rfl) rfl (by show 2 * 0 + _ ≤ _; exact Nat.le_of_eq rfl) (hb hby d_jdk_68_method_22_code_10) (fun _ _ => ⟨rfl, e0, (by decide : 0 + 0 ≤ _), (by decide : 0 + 0 ≤ _)⟩)
  dsimp only [Pt.U, Pt.locs, Pt.cells, Pt.slots] at X1 l1 y1 z1 st1 hQ1
  subst l1 y1 z1
  obtain ⟨rfl, N1q, e1⟩ := hQ1
  have N1 := Fr.app N0 N1q
  obtain ⟨T2, X2, e2, st2⟩ := getF X1 hx hZ hown (host := "") (Or.inl (hw _ (List.mem_of_getElem? (i := 52) rfl))) Via.refl e1 Fn (g := (mkF m 16 #[.val (.ref sb), .val (.ref str), .val (.int (2 : Int32))] [(.ref sb), (.ref sb)])) rfl rfl (hb hby d_jdk_68_method_22_code_16)
  obtain ⟨cq3, kq3, q3a, q3b, q3c⟩ := isOf hZ e2 Esb
  obtain ⟨_, _, ⟨T3, L3, k3, n3⟩, -, X3, ⟨Lc3, hQ3, l3, y3, z3⟩, st3⟩ := X2.virtualBack hx (y := (⟨"java/lang/AbstractStringBuilder", "ensureCapacityInternal", "(I)V"⟩ : MethodName)) (z := (⟨"java/lang/AbstractStringBuilder", "ensureCapacityInternal", "(I)V"⟩ : MethodName)) hown (mvT hZ (hw _ (List.mem_of_getElem? (i := 58) rfl))) (mvT hZ (own_decl (hw _ (List.mem_of_getElem? (i := 59) rfl)) (hw _ (List.mem_of_getElem? (i := 62) rfl)))) (notFace_of_selects (args := #[]) (mvT hZ (hw _ (List.mem_of_getElem? (i := 61) rfl)))) (mvT hZ (hw _ (List.mem_of_getElem? (i := 61) rfl))) (mvT hZ (hw _ (List.mem_of_getElem? (i := 59) rfl))) (by decide) (backOf (W := 0) (ensure l Z a0 hw [] sb bf kb vs ct h0 n0 Z0 Fv Fc Vb (by omega) (by omega)) hZ (hw _ (List.mem_of_getElem? (i := 62) rfl)) (hw _ (List.mem_of_getElem? (i := 32) rfl)) (by decide) (by decide)) q3a q3c (g := (mkF m 21 #[.val (.ref sb), .val (.ref str), .val (.int (2 : Int32))] [(.int ct), (.ref sb)])) rfl (by rw [hml]; rfl) (Steps.refl _) (argsL := [(.int ct)]) (rest := []) (lenOf pd_18 rfl) rfl (by show 2 * 0 + _ ≤ _; exact Nat.le_of_eq rfl) (hb hby d_jdk_68_method_22_code_21) (fun _ _ => ⟨rfl, e2, (by decide : 0 + 0 ≤ _), (by decide : 0 + 0 ≤ _)⟩)
  dsimp only [Pt.U, Pt.locs, Pt.cells, Pt.slots] at X3 l3 y3 z3 st3 hQ3
  subst l3 y3 z3
  obtain ⟨rfl, N3q, e3⟩ := hQ3
  have N3 := Fr.app N1 N3q
  obtain ⟨T4, X4, e4, st4⟩ := getF X3 hx hZ hown (host := "") (Or.inl (hw _ (List.mem_of_getElem? (i := 52) rfl))) Via.refl e3 Fn (g := (mkF m 26 #[.val (.ref sb), .val (.ref str), .val (.int (2 : Int32))] [(.ref sb), (.ref sb)])) rfl rfl (hb hby d_jdk_68_method_22_code_26)
  obtain ⟨cq5, kq5, q5a, q5b, q5c⟩ := isOf hZ e4 Esb
  obtain ⟨_, _, ⟨T5, L5, k5, n5⟩, -, X5, ⟨Lc5, hQ5, l5, y5, z5⟩, st5⟩ := X4.virtualBack hx (y := (⟨"java/lang/AbstractStringBuilder", "putStringAt", "(ILjava/lang/String;)V"⟩ : MethodName)) (z := (⟨"java/lang/AbstractStringBuilder", "putStringAt", "(ILjava/lang/String;)V"⟩ : MethodName)) hown (mvT hZ (hw _ (List.mem_of_getElem? (i := 100) rfl))) (mvT hZ (own_decl (hw _ (List.mem_of_getElem? (i := 101) rfl)) (hw _ (List.mem_of_getElem? (i := 104) rfl)))) (notFace_of_selects (args := #[]) (mvT hZ (hw _ (List.mem_of_getElem? (i := 103) rfl)))) (mvT hZ (hw _ (List.mem_of_getElem? (i := 103) rfl))) (mvT hZ (hw _ (List.mem_of_getElem? (i := 101) rfl))) (by decide) (backOf (W := 0) (asb_put l Z a0 hw [] sb bf kb cnt vs str sv ks zc h0 n0 Z0 X00 SC hzc Esb Fv Fc Fn Vb nb gs gb Est Gv Gc Vs hvl hc0 hc2) hZ (hw _ (List.mem_of_getElem? (i := 104) rfl)) (hw _ (List.mem_of_getElem? (i := 32) rfl)) (by decide) (by decide)) q5a q5c (g := (mkF m 30 #[.val (.ref sb), .val (.ref str), .val (.int (2 : Int32))] [(.ref str), (.int cnt), (.ref sb)])) rfl (by rw [hml]; rfl) (Steps.refl _) (argsL := [(.int cnt), (.ref str)]) (rest := []) (lenOf pd_257 rfl) rfl (by show 2 * 0 + _ ≤ _; exact Nat.le_of_eq rfl) (hb hby d_jdk_68_method_22_code_30) (fun _ _ => ⟨rfl, e4, (by decide : 0 + 0 ≤ _), (by decide : 0 + 0 ≤ _)⟩)
  dsimp only [Pt.U, Pt.locs, Pt.cells, Pt.slots] at X5 l5 y5 z5 st5 hQ5
  subst l5 y5 z5
  obtain ⟨rfl, N5q, Kc5, VG⟩ := hQ5
  have N5 := Fr.app N3 N5q
  have K_1 : Keep h0 T5.heap [sb, bf] := K0.trans Kc5 (allS (Or.inl (by simp)) all0)
  have Z_5 : n0 ≤ T5.heap.size := Nat.le_trans Z0 Kc5.1
  have F_2 := (Fn.keep Kc5 (ninS nb nin0))
  obtain ⟨T6, X6, e6, st6⟩ := getF X5 hx hZ hown (host := "") (Or.inl (hw _ (List.mem_of_getElem? (i := 52) rfl))) Via.refl rfl F_2 (g := (mkF m 35 #[.val (.ref sb), .val (.ref str), .val (.int (2 : Int32))] [(.ref sb), (.ref sb)])) rfl rfl (hb hby d_jdk_68_method_22_code_35)
  have E_3 := (Esb.keep Kc5)
  obtain ⟨T7, h7, X7, e7, W7, st7⟩ := putF X6 hx hZ hown (host := "") (Or.inl (hw _ (List.mem_of_getElem? (i := 52) rfl))) Via.refl e6 F_2 E_3 (Or.inl (hw _ (List.mem_of_getElem? (i := 53) rfl))) (hw _ (List.mem_of_getElem? (i := 23) rfl)) (ty := .int) (by decide) rfl rfl (g := (mkF m 40 #[.val (.ref sb), .val (.ref str), .val (.int (2 : Int32))] [(.int ct), (.ref sb)])) rfl rfl (hb hby d_jdk_68_method_22_code_40)
  have N7 := Fr.snoc X7 N5 gs
  have K_4 : Keep h0 h7 [sb, bf] := K_1.wr W7 (Or.inl (by simp))
  have Z_7 : n0 ≤ h7.size := by rw [W7.size]; exact Z_5
  have E_5 := (E_3.wr W7)
  have F_6 := ((Fv.keep Kc5 (ninS nb nin0)).other W7 (Or.inr (slot_ne (Or.inl (hw _ (List.mem_of_getElem? (i := 39) rfl))) (Or.inl (hw _ (List.mem_of_getElem? (i := 53) rfl))) (by decide) (t := (.array .byte)) (t' := .int) (by decide) (by decide))))
  have F_7 := ((Fc.keep Kc5 (ninS nb nin0)).other W7 (Or.inr (slot_ne (Or.inl (hw _ (List.mem_of_getElem? (i := 41) rfl))) (Or.inl (hw _ (List.mem_of_getElem? (i := 53) rfl))) (by decide) (t := .byte) (t' := .int) (by decide) (by decide))))
  have V_8 := (VG.other W7 (Ne.symm nb))
  obtain ⟨fs, hr, hrun, hended, hW, hsame⟩ := X7.leave (v := (some (.ref sb))) (fun h => by rw [Bd.returns] at h; cases h) (hlocks := hlk)
  refine ⟨_, _, pre0 _ ?_, hrun, hended, _, _, rfl, ?_, ⟨_, rfl⟩, hW, hsame.mono (by decide) (by decide)⟩
  · show Steps p.tables e below (s₁.setTop (mkF m 0 #[.val (.ref sb), .val (.ref str), .unset] [])) _
    refine XS.aloadN X0.here hx rfl (hb hby d_jdk_68_method_22_code_0) rfl rfl ?_
    show Steps p.tables e below (s₁.setTop (mkF m 1 #[.val (.ref sb), .val (.ref str), .unset] [(.ref str)])) _
    refine XT.nonnullYes X0.here hx rfl (pc0 := 1) (pc' := 9) rfl (hb hby d_jdk_68_method_22_code_1) rfl rfl (by simp) (by decide) (by decide) ?_
    show Steps p.tables e below (s₁.setTop (mkF m 9 #[.val (.ref sb), .val (.ref str), .unset] [])) _
    refine XS.aloadN X0.here hx rfl (hb hby d_jdk_68_method_22_code_9) rfl rfl ?_
    show Steps p.tables e below (s₁.setTop (mkF m 10 #[.val (.ref sb), .val (.ref str), .unset] [(.ref str)])) _
    refine st1.trans ?_
    show Steps p.tables e below (T1.setTop (mkF m 13 #[.val (.ref sb), .val (.ref str), .unset] [(.int (2 : Int32))])) _
    refine XS.istoreN X1.here hx rfl (hb hby d_jdk_68_method_22_code_13) rfl (l' := #[.val (.ref sb), .val (.ref str), .val (.int (2 : Int32))]) rfl ?_
    show Steps p.tables e below (T1.setTop (mkF m 14 #[.val (.ref sb), .val (.ref str), .val (.int (2 : Int32))] [])) _
    refine XS.aloadN X1.here hx rfl (hb hby d_jdk_68_method_22_code_14) rfl rfl ?_
    show Steps p.tables e below (T1.setTop (mkF m 15 #[.val (.ref sb), .val (.ref str), .val (.int (2 : Int32))] [(.ref sb)])) _
    refine XS.aloadN X1.here hx rfl (hb hby d_jdk_68_method_22_code_15) rfl rfl ?_
    show Steps p.tables e below (T1.setTop (mkF m 16 #[.val (.ref sb), .val (.ref str), .val (.int (2 : Int32))] [(.ref sb), (.ref sb)])) _
    refine st2 _ ?_
    show Steps p.tables e below (T2.setTop (mkF m 19 #[.val (.ref sb), .val (.ref str), .val (.int (2 : Int32))] [(.int cnt), (.ref sb)])) _
    refine XS.iloadN X2.here hx rfl (hb hby d_jdk_68_method_22_code_19) rfl ?_
    show Steps p.tables e below (T2.setTop (mkF m 20 #[.val (.ref sb), .val (.ref str), .val (.int (2 : Int32))] [(.int (2 : Int32)), (.int cnt), (.ref sb)])) _
    refine XS.iadd X2.here hx rfl (hb hby d_jdk_68_method_22_code_20) rfl ?_
    show Steps p.tables e below (T2.setTop (mkF m 21 #[.val (.ref sb), .val (.ref str), .val (.int (2 : Int32))] [(.int (cnt + (2 : Int32))), (.ref sb)])) _
    rw [← hct]
    show Steps p.tables e below (T2.setTop (mkF m 21 #[.val (.ref sb), .val (.ref str), .val (.int (2 : Int32))] [(.int ct), (.ref sb)])) _
    refine st3.trans ?_
    show Steps p.tables e below (T3.setTop (mkF m 24 #[.val (.ref sb), .val (.ref str), .val (.int (2 : Int32))] [])) _
    refine XS.aloadN X3.here hx rfl (hb hby d_jdk_68_method_22_code_24) rfl rfl ?_
    show Steps p.tables e below (T3.setTop (mkF m 25 #[.val (.ref sb), .val (.ref str), .val (.int (2 : Int32))] [(.ref sb)])) _
    refine XS.aloadN X3.here hx rfl (hb hby d_jdk_68_method_22_code_25) rfl rfl ?_
    show Steps p.tables e below (T3.setTop (mkF m 26 #[.val (.ref sb), .val (.ref str), .val (.int (2 : Int32))] [(.ref sb), (.ref sb)])) _
    refine st4 _ ?_
    show Steps p.tables e below (T4.setTop (mkF m 29 #[.val (.ref sb), .val (.ref str), .val (.int (2 : Int32))] [(.int cnt), (.ref sb)])) _
    refine XS.aloadN X4.here hx rfl (hb hby d_jdk_68_method_22_code_29) rfl rfl ?_
    show Steps p.tables e below (T4.setTop (mkF m 30 #[.val (.ref sb), .val (.ref str), .val (.int (2 : Int32))] [(.ref str), (.int cnt), (.ref sb)])) _
    refine st5.trans ?_
    show Steps p.tables e below (T5.setTop (mkF m 33 #[.val (.ref sb), .val (.ref str), .val (.int (2 : Int32))] [])) _
    refine XS.aloadN X5.here hx rfl (hb hby d_jdk_68_method_22_code_33) rfl rfl ?_
    show Steps p.tables e below (T5.setTop (mkF m 34 #[.val (.ref sb), .val (.ref str), .val (.int (2 : Int32))] [(.ref sb)])) _
    refine XS.dup X5.here hx rfl (hb hby d_jdk_68_method_22_code_34) rfl rfl ?_
    show Steps p.tables e below (T5.setTop (mkF m 35 #[.val (.ref sb), .val (.ref str), .val (.int (2 : Int32))] [(.ref sb), (.ref sb)])) _
    refine st6 _ ?_
    show Steps p.tables e below (T6.setTop (mkF m 38 #[.val (.ref sb), .val (.ref str), .val (.int (2 : Int32))] [(.int cnt), (.ref sb)])) _
    refine XS.iloadN X6.here hx rfl (hb hby d_jdk_68_method_22_code_38) rfl ?_
    show Steps p.tables e below (T6.setTop (mkF m 39 #[.val (.ref sb), .val (.ref str), .val (.int (2 : Int32))] [(.int (2 : Int32)), (.int cnt), (.ref sb)])) _
    refine XS.iadd X6.here hx rfl (hb hby d_jdk_68_method_22_code_39) rfl ?_
    show Steps p.tables e below (T6.setTop (mkF m 40 #[.val (.ref sb), .val (.ref str), .val (.int (2 : Int32))] [(.int (cnt + (2 : Int32))), (.ref sb)])) _
    rw [← hct]
    show Steps p.tables e below (T6.setTop (mkF m 40 #[.val (.ref sb), .val (.ref str), .val (.int (2 : Int32))] [(.int ct), (.ref sb)])) _
    refine st7 _ ?_
    show Steps p.tables e below (T7.setTop (mkF m 43 #[.val (.ref sb), .val (.ref str), .val (.int (2 : Int32))] [])) _
    refine XS.aloadN X7.here hx rfl (hb hby d_jdk_68_method_22_code_43) rfl rfl ?_
    show Steps p.tables e below (T7.setTop (mkF m 44 #[.val (.ref sb), .val (.ref str), .val (.int (2 : Int32))] [(.ref sb)])) _
    exact retOut X7 hx Bd.returns rfl (Or.inr (Or.inr (Or.inr (Or.inr ⟨rfl, rfl, rfl⟩)))) (hb hby d_jdk_68_method_22_code_44) hr
  · show Q_asb_appS Z sb bf kb cnt vs str sv ks zc h0 n0 _ T7.heap _; rw [e7, Q_asb_appS, ← hct]; exact ⟨rfl, N7, K_4, E_5, F_6, F_7, (F_2.same W7), V_8⟩
theorem d_jdk_67_method_7_code_0 : decode jdk_67_method_7_code 0 = .ok (.aload_n 0, 1) := by decide +kernel
theorem d_jdk_67_method_7_code_1 : decode jdk_67_method_7_code 1 = .ok (.aload_n 1, 1) := by decide +kernel
theorem d_jdk_67_method_7_code_2 : decode jdk_67_method_7_code 2 = .ok (.invokespecial 29, 3) := by decide +kernel
theorem pd_270 : parseMethodDescriptor "(Ljava/lang/String;)Ljava/lang/AbstractStringBuilder;" = some ⟨[(.object "java/lang/String")], some (.object "java/lang/AbstractStringBuilder")⟩ := by decide +kernel
theorem d_jdk_67_method_7_code_5 : decode jdk_67_method_7_code 5 = .ok (.pop, 1) := by decide +kernel
theorem d_jdk_67_method_7_code_6 : decode jdk_67_method_7_code 6 = .ok (.aload_n 0, 1) := by decide +kernel
theorem d_jdk_67_method_7_code_7 : decode jdk_67_method_7_code 7 = .ok (.areturn, 1) := by decide +kernel
def Q_sb_appS (Z : State) (sb bf : Addr) (kb : ClassId) (cnt : Int32) (vs : List Value) (str sv : Addr) (ks : ClassId) (zc : Int32) (h0 : Heap) (n0 : Nat) (v : Option Value) (h : Heap) (L : List Loc) : Prop := v = some (.ref sb) ∧ Fr n0 L ∧ Keep h0 h [sb, bf] ∧ Exa Z h sb "java/lang/StringBuilder" ∧ Fld Z h sb "java/lang/AbstractStringBuilder" "value" "[B" (.ref bf) ∧ Fld Z h sb "java/lang/AbstractStringBuilder" "coder" "B" (.int (0 : Int32)) ∧ Fld Z h sb "java/lang/AbstractStringBuilder" "count" "I" (.int (cnt + 2)) ∧ Arv Z h bf kb .byte (16 : Int32) (own_dot vs cnt.toNatClampNeg) (.int 0)
set_option maxRecDepth 65536 in
set_option maxHeartbeats 40000000 in
theorem sb_appS (l : Launch) (Z : State) (a0 : Array Value) (hw : ∀ d ∈ tables_1, d.before a0 Z = true) (ws : List Jvm.Cond) (sb bf : Addr) (kb : ClassId) (cnt : Int32) (vs : List Value) (str sv : Addr) (ks : ClassId) (zc : Int32) (h0 : Heap) (n0 : Nat) (Z0 : n0 ≤ h0.size) (X00 : Old Z n0 h0)(SC : Sta Z Z.heap "java/lang/String" "COMPACT_STRINGS" "Z" (.int zc)) (hzc : ¬ zc = 0)(Esb : Exa Z h0 sb "java/lang/StringBuilder") (Fv : Fld Z h0 sb "java/lang/AbstractStringBuilder" "value" "[B" (.ref bf)) (Fc : Fld Z h0 sb "java/lang/AbstractStringBuilder" "coder" "B" (.int (0 : Int32))) (Fn : Fld Z h0 sb "java/lang/AbstractStringBuilder" "count" "I" (.int cnt)) (Vb : Arv Z h0 bf kb .byte (16 : Int32) vs (.int 0)) (nb : sb ≠ bf) (gs : n0 ≤ sb) (gb : n0 ≤ bf)(Est : Exa Z h0 str "java/lang/String") (Gv : Fld Z h0 str "java/lang/String" "value" "[B" (.ref sv)) (Gc : Fld Z h0 str "java/lang/String" "coder" "B" (.int (0 : Int32)))(Vs : Arv Z h0 sv ks .byte (2 : Int32) [.int 46, .int 46] (.int 0)) (hvl : vs.length = 16) (hc0 : 0 ≤ cnt.toInt) (hc2 : cnt.toInt + 2 ≤ 16) :
    MetFree l (⟨"java/lang/StringBuilder", "append", "(Ljava/lang/String;)Ljava/lang/StringBuilder;"⟩ : MethodName) (head1 (Jvm.Cond.code (⟨"java/lang/StringBuilder", "append", "(Ljava/lang/String;)Ljava/lang/StringBuilder;"⟩ : MethodName) jdk_67_method_7_code 2 (Option.some (Jvm.ClassFile.FieldType.object "java/lang/StringBuilder")) :: ws) ({ frames := 4, cells := 0, slots := 0, locals := 62 } : Room)) (fun a U => a = #[(.ref sb), (.ref str)] ∧ Z.Warmed39 U.vm ∧ U.heap = h0) (fun _ _ _ _ _ => True) (fun _ U o U' => ∃ v L, o = .returned v ∧ Q_sb_appS Z sb bf kb cnt vs str sv ks zc h0 n0 v U'.heap L ∧ FrameEnd U o U' L ({ frames := 4, cells := 0, slots := 0, locals := 62 } : Room).cells ({ frames := 4, cells := 0, slots := 0, locals := 62 } : Room).slots) := by
  refine MetFree.of_bodySF (plainFor_of_name pn_21) hisR ?_
  intro p e s m args below meth c s₁ Bd hml0 hP hK
  obtain ⟨rfl, hZ, hh⟩ := hP
  have hx := Bd.exec
  have hby := Bd.bytes
  have hml : c.maxLocals = 2 := hml0
  have hown : s.vm.findClass "java/lang/StringBuilder" = some m.cls := findClass_of_methodNamed Bd.named
  have hnm := (name_of_methodNamed Bd.named Bd.method).1
  have X0 : Stand p l e ({ frames := 4, cells := 0, slots := 0, locals := 62 } : Room) s m #[(.ref sb), (.ref str)] below meth c s₁ [] 0 0 := Stand.of_body Bd
  have e0 : s₁.heap = h0 := by rw [← hh, Bd.state]; rfl
  have N0 := Fr.nil n0
  have hlk : meth.locks = false := BodyLoose.notSynchronized Bd
  have pre0 : ∀ t, Steps p.tables e below (s₁.setTop (mkF m 0 #[.val (.ref sb), .val (.ref str)] [])) t → Steps p.tables e below (s₁.setTop (entryFrame m #[(.ref sb), (.ref str)] 2)) t := fun t k => castTop (ef_207 m sb str) k
  obtain ⟨_, _, ⟨T1, L1, k1, n1⟩, -, X1, ⟨Lc1, hQ1, l1, y1, z1⟩, st1⟩ := superBack (y := (⟨"java/lang/AbstractStringBuilder", "append", "(Ljava/lang/String;)Ljava/lang/AbstractStringBuilder;"⟩ : MethodName)) X0 hx hZ hown (hw _ (List.mem_of_getElem? (i := 83) rfl)) (own_same (y := (⟨"java/lang/AbstractStringBuilder", "append", "(Ljava/lang/String;)Ljava/lang/AbstractStringBuilder;"⟩ : MethodName)) (y' := (⟨"java/lang/AbstractStringBuilder", "isLatin1", "()Z"⟩ : MethodName)) rfl (hw _ (List.mem_of_getElem? (i := 66) rfl)) (hw _ (List.mem_of_getElem? (i := 84) rfl)) (by decide)) (hw _ (List.mem_of_getElem? (i := 84) rfl)) (hw _ (List.mem_of_getElem? (i := 49) rfl)) (by decide) (backOf (W := 0) (asb_appS l Z a0 hw [] sb bf kb cnt vs str sv ks zc h0 n0 Z0 X00 SC hzc Esb Fv Fc Fn Vb nb gs gb Est Gv Gc Vs hvl hc0 hc2) hZ (hw _ (List.mem_of_getElem? (i := 86) rfl)) (hw _ (List.mem_of_getElem? (i := 32) rfl)) (by decide) (by decide)) e0 (Ins.self Esb) (g := (mkF m 2 #[.val (.ref sb), .val (.ref str)] [(.ref str), (.ref sb)])) rfl (by rw [hml]; rfl) (hw _ (List.mem_of_getElem? (i := 86) rfl)) (argsL := [(.ref str)]) (rest := []) (lenOf pd_270 rfl) rfl (by show 2 * 0 + _ ≤ _; exact Nat.le_of_eq rfl) (hb hby d_jdk_67_method_7_code_2) (fun _ _ => ⟨rfl, e0, (by decide : 0 + 0 ≤ _), (by decide : 0 + 0 ≤ _)⟩)
  dsimp only [Pt.U, Pt.locs, Pt.cells, Pt.slots] at X1 l1 y1 z1 st1 hQ1
  subst l1 y1 z1
  obtain ⟨rfl, N1q, Kc1, QR⟩ := hQ1
  have N1 := Fr.app N0 N1q
  have Z_1 : n0 ≤ T1.heap.size := Nat.le_trans Z0 Kc1.1
  obtain ⟨fs, hr, hrun, hended, hW, hsame⟩ := X1.leave (v := (some (.ref sb))) (fun h => by rw [Bd.returns] at h; cases h) (hlocks := hlk)
  refine ⟨_, _, pre0 _ ?_, hrun, hended, _, _, rfl, ?_, ⟨_, rfl⟩, hW, hsame.mono (by decide) (by decide)⟩
  · show Steps p.tables e below (s₁.setTop (mkF m 0 #[.val (.ref sb), .val (.ref str)] [])) _
    refine XS.aloadN X0.here hx rfl (hb hby d_jdk_67_method_7_code_0) rfl rfl ?_
    show Steps p.tables e below (s₁.setTop (mkF m 1 #[.val (.ref sb), .val (.ref str)] [(.ref sb)])) _
    refine XS.aloadN X0.here hx rfl (hb hby d_jdk_67_method_7_code_1) rfl rfl ?_
    show Steps p.tables e below (s₁.setTop (mkF m 2 #[.val (.ref sb), .val (.ref str)] [(.ref str), (.ref sb)])) _
    refine st1.trans ?_
    show Steps p.tables e below (T1.setTop (mkF m 5 #[.val (.ref sb), .val (.ref str)] [(.ref sb)])) _
    refine XT.pop X1.here hx rfl (hb hby d_jdk_67_method_7_code_5) rfl rfl ?_
    show Steps p.tables e below (T1.setTop (mkF m 6 #[.val (.ref sb), .val (.ref str)] [])) _
    refine XS.aloadN X1.here hx rfl (hb hby d_jdk_67_method_7_code_6) rfl rfl ?_
    show Steps p.tables e below (T1.setTop (mkF m 7 #[.val (.ref sb), .val (.ref str)] [(.ref sb)])) _
    exact retOut X1 hx Bd.returns rfl (Or.inr (Or.inr (Or.inr (Or.inr ⟨rfl, rfl, rfl⟩)))) (hb hby d_jdk_67_method_7_code_7) hr
  · exact ⟨rfl, N1, Kc1, QR⟩
theorem d_jdk_68_method_64_code_0 : decode jdk_68_method_64_code 0 = .ok (.aload_n 0, 1) := by decide +kernel
theorem d_jdk_68_method_64_code_1 : decode jdk_68_method_64_code 1 = .ok (.getfield 15, 3) := by decide +kernel
theorem d_jdk_68_method_64_code_4 : decode jdk_68_method_64_code 4 = .ok (.areturn, 1) := by decide +kernel
def Q_asb_val (Z : State) (sb bf : Addr) (h0 : Heap) (n0 : Nat) (v : Option Value) (h : Heap) (L : List Loc) : Prop := v = some (.ref bf) ∧ Fr n0 L ∧ h = h0
set_option maxRecDepth 65536 in
set_option maxHeartbeats 40000000 in
theorem asb_val (l : Launch) (Z : State) (a0 : Array Value) (hw : ∀ d ∈ tables_1, d.before a0 Z = true) (ws : List Jvm.Cond) (sb bf : Addr) (h0 : Heap) (n0 : Nat) (Z0 : n0 ≤ h0.size) (Fv : Fld Z h0 sb "java/lang/AbstractStringBuilder" "value" "[B" (.ref bf)) :
    MetFree l (⟨"java/lang/AbstractStringBuilder", "getValue", "()[B"⟩ : MethodName) (head1 (Jvm.Cond.code (⟨"java/lang/AbstractStringBuilder", "getValue", "()[B"⟩ : MethodName) jdk_68_method_64_code 1 (Option.some (Jvm.ClassFile.FieldType.array Jvm.ClassFile.FieldType.byte)) :: ws) ({ frames := 0, cells := 0, slots := 0, locals := 0 } : Room)) (fun a U => a = #[(.ref sb)] ∧ Z.Warmed39 U.vm ∧ U.heap = h0) (fun _ _ _ _ _ => True) (fun _ U o U' => ∃ v L, o = .returned v ∧ Q_asb_val Z sb bf h0 n0 v U'.heap L ∧ FrameEnd U o U' L ({ frames := 0, cells := 0, slots := 0, locals := 0 } : Room).cells ({ frames := 0, cells := 0, slots := 0, locals := 0 } : Room).slots) := by
  refine MetFree.of_bodySF (plainFor_of_name pn_14) hisR ?_
  intro p e s m args below meth c s₁ Bd hml0 hP hK
  obtain ⟨rfl, hZ, hh⟩ := hP
  have hx := Bd.exec
  have hby := Bd.bytes
  have hml : c.maxLocals = 1 := hml0
  have hown : s.vm.findClass "java/lang/AbstractStringBuilder" = some m.cls := findClass_of_methodNamed Bd.named
  have hnm := (name_of_methodNamed Bd.named Bd.method).1
  have X0 : Stand p l e ({ frames := 0, cells := 0, slots := 0, locals := 0 } : Room) s m #[(.ref sb)] below meth c s₁ [] 0 0 := Stand.of_body Bd
  have e0 : s₁.heap = h0 := by rw [← hh, Bd.state]; rfl
  have N0 := Fr.nil n0
  have hlk : meth.locks = false := BodyLoose.notSynchronized Bd
  have pre0 : ∀ t, Steps p.tables e below (s₁.setTop (mkF m 0 #[.val (.ref sb)] [])) t → Steps p.tables e below (s₁.setTop (entryFrame m #[(.ref sb)] 1)) t := fun t k => castTop (ef_20 m sb) k
  obtain ⟨T1, X1, e1, st1⟩ := getF X0 hx hZ hown (host := "") (Or.inl (hw _ (List.mem_of_getElem? (i := 38) rfl))) Via.refl e0 Fv (g := (mkF m 1 #[.val (.ref sb)] [(.ref sb)])) rfl rfl (hb hby d_jdk_68_method_64_code_1)
  obtain ⟨fs, hr, hrun, hended, hW, hsame⟩ := X1.leave (v := (some (.ref bf))) (fun h => by rw [Bd.returns] at h; cases h) (hlocks := hlk)
  refine ⟨_, _, pre0 _ ?_, hrun, hended, _, _, rfl, ?_, ⟨_, rfl⟩, hW, hsame.mono (by decide) (by decide)⟩
  · show Steps p.tables e below (s₁.setTop (mkF m 0 #[.val (.ref sb)] [])) _
    refine XS.aloadN X0.here hx rfl (hb hby d_jdk_68_method_64_code_0) rfl rfl ?_
    show Steps p.tables e below (s₁.setTop (mkF m 1 #[.val (.ref sb)] [(.ref sb)])) _
    refine st1 _ ?_
    show Steps p.tables e below (T1.setTop (mkF m 4 #[.val (.ref sb)] [(.ref bf)])) _
    exact retOut X1 hx Bd.returns rfl (Or.inr (Or.inr (Or.inr (Or.inr ⟨rfl, rfl, rfl⟩)))) (hb hby d_jdk_68_method_64_code_4) hr
  · exact ⟨rfl, N0, e1⟩
theorem d_jdk_68_method_6_code_0 : decode jdk_68_method_6_code 0 = .ok (.aload_n 0, 1) := by decide +kernel
theorem d_jdk_68_method_6_code_1 : decode jdk_68_method_6_code 1 = .ok (.getfield 79, 3) := by decide +kernel
theorem d_jdk_68_method_6_code_4 : decode jdk_68_method_6_code 4 = .ok (.ireturn, 1) := by decide +kernel
def Q_asb_len (Z : State) (sb : Addr) (cnt : Int32) (h0 : Heap) (n0 : Nat) (v : Option Value) (h : Heap) (L : List Loc) : Prop := v = some (.int cnt) ∧ Fr n0 L ∧ h = h0
set_option maxRecDepth 65536 in
set_option maxHeartbeats 40000000 in
theorem asb_len (l : Launch) (Z : State) (a0 : Array Value) (hw : ∀ d ∈ tables_1, d.before a0 Z = true) (ws : List Jvm.Cond) (sb : Addr) (cnt : Int32) (h0 : Heap) (n0 : Nat) (Z0 : n0 ≤ h0.size) (Fn : Fld Z h0 sb "java/lang/AbstractStringBuilder" "count" "I" (.int cnt)) :
    MetFree l (⟨"java/lang/AbstractStringBuilder", "length", "()I"⟩ : MethodName) (head1 (Jvm.Cond.code (⟨"java/lang/AbstractStringBuilder", "length", "()I"⟩ : MethodName) jdk_68_method_6_code 1 (Option.some Jvm.ClassFile.FieldType.int) :: ws) ({ frames := 0, cells := 0, slots := 0, locals := 0 } : Room)) (fun a U => a = #[(.ref sb)] ∧ Z.Warmed39 U.vm ∧ U.heap = h0) (fun _ _ _ _ _ => True) (fun _ U o U' => ∃ v L, o = .returned v ∧ Q_asb_len Z sb cnt h0 n0 v U'.heap L ∧ FrameEnd U o U' L ({ frames := 0, cells := 0, slots := 0, locals := 0 } : Room).cells ({ frames := 0, cells := 0, slots := 0, locals := 0 } : Room).slots) := by
  refine MetFree.of_bodySF (plainFor_of_name pn_14) hisR ?_
  intro p e s m args below meth c s₁ Bd hml0 hP hK
  obtain ⟨rfl, hZ, hh⟩ := hP
  have hx := Bd.exec
  have hby := Bd.bytes
  have hml : c.maxLocals = 1 := hml0
  have hown : s.vm.findClass "java/lang/AbstractStringBuilder" = some m.cls := findClass_of_methodNamed Bd.named
  have hnm := (name_of_methodNamed Bd.named Bd.method).1
  have X0 : Stand p l e ({ frames := 0, cells := 0, slots := 0, locals := 0 } : Room) s m #[(.ref sb)] below meth c s₁ [] 0 0 := Stand.of_body Bd
  have e0 : s₁.heap = h0 := by rw [← hh, Bd.state]; rfl
  have N0 := Fr.nil n0
  have hlk : meth.locks = false := BodyLoose.notSynchronized Bd
  have pre0 : ∀ t, Steps p.tables e below (s₁.setTop (mkF m 0 #[.val (.ref sb)] [])) t → Steps p.tables e below (s₁.setTop (entryFrame m #[(.ref sb)] 1)) t := fun t k => castTop (ef_20 m sb) k
  obtain ⟨T1, X1, e1, st1⟩ := getF X0 hx hZ hown (host := "") (Or.inl (hw _ (List.mem_of_getElem? (i := 52) rfl))) Via.refl e0 Fn (g := (mkF m 1 #[.val (.ref sb)] [(.ref sb)])) rfl rfl (hb hby d_jdk_68_method_6_code_1)
  obtain ⟨fs, hr, hrun, hended, hW, hsame⟩ := X1.leave (v := (some (.int cnt))) (fun h => by rw [Bd.returns] at h; cases h) (hlocks := hlk)
  refine ⟨_, _, pre0 _ ?_, hrun, hended, _, _, rfl, ?_, ⟨_, rfl⟩, hW, hsame.mono (by decide) (by decide)⟩
  · show Steps p.tables e below (s₁.setTop (mkF m 0 #[.val (.ref sb)] [])) _
    refine XS.aloadN X0.here hx rfl (hb hby d_jdk_68_method_6_code_0) rfl rfl ?_
    show Steps p.tables e below (s₁.setTop (mkF m 1 #[.val (.ref sb)] [(.ref sb)])) _
    refine st1 _ ?_
    show Steps p.tables e below (T1.setTop (mkF m 4 #[.val (.ref sb)] [(.int cnt)])) _
    exact retI X1 hx Bd.returns (hb hby d_jdk_68_method_6_code_4) hr
  · exact ⟨rfl, N0, e1⟩
theorem d_jdk_67_method_93_code_0 : decode jdk_67_method_93_code 0 = .ok (.aload_n 0, 1) := by decide +kernel
theorem d_jdk_67_method_93_code_1 : decode jdk_67_method_93_code 1 = .ok (.invokespecial 343, 3) := by decide +kernel
theorem d_jdk_67_method_93_code_4 : decode jdk_67_method_93_code 4 = .ok (.ireturn, 1) := by decide +kernel
def Q_sb_len (Z : State) (sb : Addr) (cnt : Int32) (h0 : Heap) (n0 : Nat) (v : Option Value) (h : Heap) (L : List Loc) : Prop := v = some (.int cnt) ∧ Fr n0 L ∧ h = h0
set_option maxRecDepth 65536 in
set_option maxHeartbeats 40000000 in
theorem sb_len (l : Launch) (Z : State) (a0 : Array Value) (hw : ∀ d ∈ tables_1, d.before a0 Z = true) (ws : List Jvm.Cond) (sb : Addr) (cnt : Int32) (h0 : Heap) (n0 : Nat) (Z0 : n0 ≤ h0.size) (Esb : Exa Z h0 sb "java/lang/StringBuilder") (Fn : Fld Z h0 sb "java/lang/AbstractStringBuilder" "count" "I" (.int cnt)) :
    MetFree l (⟨"java/lang/StringBuilder", "length", "()I"⟩ : MethodName) (head1 (Jvm.Cond.code (⟨"java/lang/StringBuilder", "length", "()I"⟩ : MethodName) jdk_67_method_93_code 1 (Option.some Jvm.ClassFile.FieldType.int) :: ws) ({ frames := 1, cells := 0, slots := 0, locals := 12 } : Room)) (fun a U => a = #[(.ref sb)] ∧ Z.Warmed39 U.vm ∧ U.heap = h0) (fun _ _ _ _ _ => True) (fun _ U o U' => ∃ v L, o = .returned v ∧ Q_sb_len Z sb cnt h0 n0 v U'.heap L ∧ FrameEnd U o U' L ({ frames := 1, cells := 0, slots := 0, locals := 12 } : Room).cells ({ frames := 1, cells := 0, slots := 0, locals := 12 } : Room).slots) := by
  refine MetFree.of_bodySF (plainFor_of_name pn_21) hisR ?_
  intro p e s m args below meth c s₁ Bd hml0 hP hK
  obtain ⟨rfl, hZ, hh⟩ := hP
  have hx := Bd.exec
  have hby := Bd.bytes
  have hml : c.maxLocals = 1 := hml0
  have hown : s.vm.findClass "java/lang/StringBuilder" = some m.cls := findClass_of_methodNamed Bd.named
  have hnm := (name_of_methodNamed Bd.named Bd.method).1
  have X0 : Stand p l e ({ frames := 1, cells := 0, slots := 0, locals := 12 } : Room) s m #[(.ref sb)] below meth c s₁ [] 0 0 := Stand.of_body Bd
  have e0 : s₁.heap = h0 := by rw [← hh, Bd.state]; rfl
  have N0 := Fr.nil n0
  have hlk : meth.locks = false := BodyLoose.notSynchronized Bd
  have pre0 : ∀ t, Steps p.tables e below (s₁.setTop (mkF m 0 #[.val (.ref sb)] [])) t → Steps p.tables e below (s₁.setTop (entryFrame m #[(.ref sb)] 1)) t := fun t k => castTop (ef_20 m sb) k
  obtain ⟨_, _, ⟨T1, L1, k1, n1⟩, -, X1, ⟨Lc1, hQ1, l1, y1, z1⟩, st1⟩ := superBack (y := (⟨"java/lang/AbstractStringBuilder", "length", "()I"⟩ : MethodName)) X0 hx hZ hown (hw _ (List.mem_of_getElem? (i := 146) rfl)) (own_same (y := (⟨"java/lang/AbstractStringBuilder", "length", "()I"⟩ : MethodName)) (y' := (⟨"java/lang/AbstractStringBuilder", "isLatin1", "()Z"⟩ : MethodName)) rfl (hw _ (List.mem_of_getElem? (i := 66) rfl)) (hw _ (List.mem_of_getElem? (i := 142) rfl)) (by decide)) (hw _ (List.mem_of_getElem? (i := 142) rfl)) (hw _ (List.mem_of_getElem? (i := 49) rfl)) (by decide) (backOf (W := 0) (asb_len l Z a0 hw [] sb cnt h0 n0 Z0 Fn) hZ (hw _ (List.mem_of_getElem? (i := 147) rfl)) (hw _ (List.mem_of_getElem? (i := 32) rfl)) (by decide) (by decide)) e0 (Ins.self Esb) (g := (mkF m 1 #[.val (.ref sb)] [(.ref sb)])) rfl (by rw [hml]; rfl) (hw _ (List.mem_of_getElem? (i := 147) rfl)) (argsL := []) (rest := []) (lenOf pd_244 rfl) rfl (by show 2 * 0 + _ ≤ _; exact Nat.le_of_eq rfl) (hb hby d_jdk_67_method_93_code_1) (fun _ _ => ⟨rfl, e0, (by decide : 0 + 0 ≤ _), (by decide : 0 + 0 ≤ _)⟩)
  dsimp only [Pt.U, Pt.locs, Pt.cells, Pt.slots] at X1 l1 y1 z1 st1 hQ1
  subst l1 y1 z1
  obtain ⟨rfl, N1q, e1⟩ := hQ1
  have N1 := Fr.app N0 N1q
  obtain ⟨fs, hr, hrun, hended, hW, hsame⟩ := X1.leave (v := (some (.int cnt))) (fun h => by rw [Bd.returns] at h; cases h) (hlocks := hlk)
  refine ⟨_, _, pre0 _ ?_, hrun, hended, _, _, rfl, ?_, ⟨_, rfl⟩, hW, hsame.mono (by decide) (by decide)⟩
  · show Steps p.tables e below (s₁.setTop (mkF m 0 #[.val (.ref sb)] [])) _
    refine XS.aloadN X0.here hx rfl (hb hby d_jdk_67_method_93_code_0) rfl rfl ?_
    show Steps p.tables e below (s₁.setTop (mkF m 1 #[.val (.ref sb)] [(.ref sb)])) _
    refine st1.trans ?_
    show Steps p.tables e below (T1.setTop (mkF m 4 #[.val (.ref sb)] [(.int cnt)])) _
    exact retI X1 hx Bd.returns (hb hby d_jdk_67_method_93_code_4) hr
  · exact ⟨rfl, N1, e1⟩
theorem d_jdk_65_method_131_code_0 : decode jdk_65_method_131_code 0 = .ok (.iload_n 1, 1) := by decide +kernel
theorem d_jdk_65_method_131_code_1 : decode jdk_65_method_131_code 1 = .ok (.iload_n 0, 1) := by decide +kernel
theorem d_jdk_65_method_131_code_2 : decode jdk_65_method_131_code 2 = .ok (.if_icmp .ge 35, 3) := by decide +kernel
theorem d_jdk_65_method_131_code_37 : decode jdk_65_method_131_code 37 = .ok (.return_, 1) := by decide +kernel
theorem ef_287 (m : MethodId) (x0 : Int32) (x1 : Int32) : entryFrame m #[(.int x0), (.int x1)] 2 = mkF m 0 #[.val (.int x0), .val (.int x1)] [] := by first | (simp [entryFrame, mkF, argsToLocals, Value.category]; done) | rfl
theorem pn_288 : plainName "java/util/Arrays" = true := by first | (simp [plainName, overriddenIn]; done) | decide +kernel
def Q_chk (Z : State) (p1 : Int32) (h0 : Heap) (n0 : Nat) (v : Option Value) (h : Heap) (L : List Loc) : Prop := v = none ∧ Fr n0 L ∧ h = h0
set_option maxRecDepth 65536 in
set_option maxHeartbeats 40000000 in
theorem chk (l : Launch) (Z : State) (a0 : Array Value) (hw : ∀ d ∈ tables_1, d.before a0 Z = true) (ws : List Jvm.Cond) (p1 : Int32) (h0 : Heap) (n0 : Nat) (Z0 : n0 ≤ h0.size) (h0p : 0 ≤ p1.toInt) :
    MetFree l (⟨"java/util/Arrays", "checkLength", "(II)V"⟩ : MethodName) (head1 (Jvm.Cond.code (⟨"java/util/Arrays", "checkLength", "(II)V"⟩ : MethodName) jdk_65_method_131_code 2 (Option.none : Option Jvm.ClassFile.FieldType) :: ws) ({ frames := 0, cells := 0, slots := 0, locals := 0 } : Room)) (fun a U => a = #[(.int (0 : Int32)), (.int p1)] ∧ Z.Warmed39 U.vm ∧ U.heap = h0) (fun _ _ _ _ _ => True) (fun _ U o U' => ∃ v L, o = .returned v ∧ Q_chk Z p1 h0 n0 v U'.heap L ∧ FrameEnd U o U' L ({ frames := 0, cells := 0, slots := 0, locals := 0 } : Room).cells ({ frames := 0, cells := 0, slots := 0, locals := 0 } : Room).slots) := by
  refine MetFree.of_bodySF (plainFor_of_name pn_288) hisR ?_
  intro p e s m args below meth c s₁ Bd hml0 hP hK
  obtain ⟨rfl, hZ, hh⟩ := hP
  have hx := Bd.exec
  have hby := Bd.bytes
  have hml : c.maxLocals = 2 := hml0
  have hown : s.vm.findClass "java/util/Arrays" = some m.cls := findClass_of_methodNamed Bd.named
  have hnm := (name_of_methodNamed Bd.named Bd.method).1
  have X0 : Stand p l e ({ frames := 0, cells := 0, slots := 0, locals := 0 } : Room) s m #[(.int (0 : Int32)), (.int p1)] below meth c s₁ [] 0 0 := Stand.of_body Bd
  have e0 : s₁.heap = h0 := by rw [← hh, Bd.state]; rfl
  have N0 := Fr.nil n0
  have hlk : meth.locks = false := BodyLoose.notSynchronized Bd
  have pre0 : ∀ t, Steps p.tables e below (s₁.setTop (mkF m 0 #[.val (.int (0 : Int32)), .val (.int p1)] [])) t → Steps p.tables e below (s₁.setTop (entryFrame m #[(.int (0 : Int32)), (.int p1)] 2)) t := fun t k => castTop (ef_287 m (0 : Int32) p1) k
  obtain ⟨fs, hr, hrun, hended, hW, hsame⟩ := X0.leave (v := none) (fun _ => rfl) (hlocks := hlk)
  refine ⟨_, _, pre0 _ ?_, hrun, hended, _, _, rfl, ?_, ⟨_, rfl⟩, hW, hsame.mono (by decide) (by decide)⟩
  · show Steps p.tables e below (s₁.setTop (mkF m 0 #[.val (.int (0 : Int32)), .val (.int p1)] [])) _
    refine XS.iloadN X0.here hx rfl (hb hby d_jdk_65_method_131_code_0) rfl ?_
    show Steps p.tables e below (s₁.setTop (mkF m 1 #[.val (.int (0 : Int32)), .val (.int p1)] [(.int p1)])) _
    refine XS.iloadN X0.here hx rfl (hb hby d_jdk_65_method_131_code_1) rfl ?_
    show Steps p.tables e below (s₁.setTop (mkF m 2 #[.val (.int (0 : Int32)), .val (.int p1)] [(.int (0 : Int32)), (.int p1)])) _
    refine XS.icmpYes X0.here hx rfl (pc0 := 2) (pc' := 37) rfl (hb hby d_jdk_65_method_131_code_2) rfl (flt (own_le (a := p1) (b := (0 : Int32)) (by rw [own_p0]; exact h0p))).2.1 (by decide) (by decide) ?_
    show Steps p.tables e below (s₁.setTop (mkF m 37 #[.val (.int (0 : Int32)), .val (.int p1)] [])) _
    exact X0.returnOut hx Bd.returns (hb hby d_jdk_65_method_131_code_37) hr
  · exact ⟨rfl, N0, e0⟩
theorem d_jdk_29_method_69_code_0 : decode jdk_29_method_69_code 0 = .ok (.iload_n 0, 1) := by decide +kernel
theorem d_jdk_29_method_69_code_1 : decode jdk_29_method_69_code 1 = .ok (.iload_n 1, 1) := by decide +kernel
theorem d_jdk_29_method_69_code_2 : decode jdk_29_method_69_code 2 = .ok (.if_icmp .gt 7, 3) := by decide +kernel
theorem d_jdk_29_method_69_code_9 : decode jdk_29_method_69_code 9 = .ok (.iload_n 1, 1) := by decide +kernel
theorem d_jdk_29_method_69_code_10 : decode jdk_29_method_69_code 10 = .ok (.ireturn, 1) := by decide +kernel
def Q_mn (Z : State) (p1 p2 : Int32) (h0 : Heap) (n0 : Nat) (v : Option Value) (h : Heap) (L : List Loc) : Prop := v = some (.int p2) ∧ Fr n0 L ∧ h = h0
set_option maxRecDepth 65536 in
set_option maxHeartbeats 40000000 in
theorem mn (l : Launch) (Z : State) (a0 : Array Value) (hw : ∀ d ∈ tables_1, d.before a0 Z = true) (ws : List Jvm.Cond) (p1 p2 : Int32) (h0 : Heap) (n0 : Nat) (Z0 : n0 ≤ h0.size) (hlt : p2 < p1) :
    MetFree l (⟨"java/lang/Math", "min", "(II)I"⟩ : MethodName) (head1 (Jvm.Cond.code (⟨"java/lang/Math", "min", "(II)I"⟩ : MethodName) jdk_29_method_69_code 2 (Option.some Jvm.ClassFile.FieldType.int) :: ws) ({ frames := 0, cells := 0, slots := 0, locals := 0 } : Room)) (fun a U => a = #[(.int p1), (.int p2)] ∧ Z.Warmed39 U.vm ∧ U.heap = h0) (fun _ _ _ _ _ => True) (fun _ U o U' => ∃ v L, o = .returned v ∧ Q_mn Z p1 p2 h0 n0 v U'.heap L ∧ FrameEnd U o U' L ({ frames := 0, cells := 0, slots := 0, locals := 0 } : Room).cells ({ frames := 0, cells := 0, slots := 0, locals := 0 } : Room).slots) := by
  refine MetFree.of_bodySF (Jvm.Free.JP.mathPlain rfl (by decide)) hisR ?_
  intro p e s m args below meth c s₁ Bd hml0 hP hK
  obtain ⟨rfl, hZ, hh⟩ := hP
  have hx := Bd.exec
  have hby := Bd.bytes
  have hml : c.maxLocals = 2 := hml0
  have hown : s.vm.findClass "java/lang/Math" = some m.cls := findClass_of_methodNamed Bd.named
  have hnm := (name_of_methodNamed Bd.named Bd.method).1
  have X0 : Stand p l e ({ frames := 0, cells := 0, slots := 0, locals := 0 } : Room) s m #[(.int p1), (.int p2)] below meth c s₁ [] 0 0 := Stand.of_body Bd
  have e0 : s₁.heap = h0 := by rw [← hh, Bd.state]; rfl
  have N0 := Fr.nil n0
  have hlk : meth.locks = false := BodyLoose.notSynchronized Bd
  have pre0 : ∀ t, Steps p.tables e below (s₁.setTop (mkF m 0 #[.val (.int p1), .val (.int p2)] [])) t → Steps p.tables e below (s₁.setTop (entryFrame m #[(.int p1), (.int p2)] 2)) t := fun t k => castTop (ef_287 m p1 p2) k
  obtain ⟨fs, hr, hrun, hended, hW, hsame⟩ := X0.leave (v := (some (.int p2))) (fun h => by rw [Bd.returns] at h; cases h) (hlocks := hlk)
  refine ⟨_, _, pre0 _ ?_, hrun, hended, _, _, rfl, ?_, ⟨_, rfl⟩, hW, hsame.mono (by decide) (by decide)⟩
  · show Steps p.tables e below (s₁.setTop (mkF m 0 #[.val (.int p1), .val (.int p2)] [])) _
    refine XS.iloadN X0.here hx rfl (hb hby d_jdk_29_method_69_code_0) rfl ?_
    show Steps p.tables e below (s₁.setTop (mkF m 1 #[.val (.int p1), .val (.int p2)] [(.int p1)])) _
    refine XS.iloadN X0.here hx rfl (hb hby d_jdk_29_method_69_code_1) rfl ?_
    show Steps p.tables e below (s₁.setTop (mkF m 2 #[.val (.int p1), .val (.int p2)] [(.int p2), (.int p1)])) _
    refine XS.icmpYes X0.here hx rfl (pc0 := 2) (pc' := 9) rfl (hb hby d_jdk_29_method_69_code_2) rfl (tlt hlt).2.2.1 (by decide) (by decide) ?_
    show Steps p.tables e below (s₁.setTop (mkF m 9 #[.val (.int p1), .val (.int p2)] [])) _
    refine XS.iloadN X0.here hx rfl (hb hby d_jdk_29_method_69_code_9) rfl ?_
    show Steps p.tables e below (s₁.setTop (mkF m 10 #[.val (.int p1), .val (.int p2)] [(.int p2)])) _
    exact retI X0 hx Bd.returns (hb hby d_jdk_29_method_69_code_10) hr
  · exact ⟨rfl, N0, e0⟩
theorem d_jdk_65_method_133_code_0 : decode jdk_65_method_133_code 0 = .ok (.iload_n 1, 1) := by decide +kernel
theorem d_jdk_65_method_133_code_1 : decode jdk_65_method_133_code 1 = .ok (.iload_n 2, 1) := by decide +kernel
theorem d_jdk_65_method_133_code_2 : decode jdk_65_method_133_code 2 = .ok (.invokestatic 343, 3) := by decide +kernel
theorem pd_297 : parseMethodDescriptor "(II)V" = some ⟨[.int, .int], none⟩ := by decide +kernel
theorem d_jdk_65_method_133_code_5 : decode jdk_65_method_133_code 5 = .ok (.iload_n 2, 1) := by decide +kernel
theorem d_jdk_65_method_133_code_6 : decode jdk_65_method_133_code 6 = .ok (.iload_n 1, 1) := by decide +kernel
theorem d_jdk_65_method_133_code_7 : decode jdk_65_method_133_code 7 = .ok (.isub, 1) := by decide +kernel
theorem d_jdk_65_method_133_code_8 : decode jdk_65_method_133_code 8 = .ok (.istore_n 3, 1) := by decide +kernel
theorem d_jdk_65_method_133_code_9 : decode jdk_65_method_133_code 9 = .ok (.iload_n 3, 1) := by decide +kernel
theorem d_jdk_65_method_133_code_10 : decode jdk_65_method_133_code 10 = .ok (.newarray .byte, 2) := by decide +kernel
theorem d_jdk_65_method_133_code_12 : decode jdk_65_method_133_code 12 = .ok (.astore 4, 2) := by decide +kernel
theorem d_jdk_65_method_133_code_14 : decode jdk_65_method_133_code 14 = .ok (.aload_n 0, 1) := by decide +kernel
theorem d_jdk_65_method_133_code_15 : decode jdk_65_method_133_code 15 = .ok (.iload_n 1, 1) := by decide +kernel
theorem d_jdk_65_method_133_code_16 : decode jdk_65_method_133_code 16 = .ok (.aload 4, 2) := by decide +kernel
theorem d_jdk_65_method_133_code_18 : decode jdk_65_method_133_code 18 = .ok (.iconst 0, 1) := by decide +kernel
theorem d_jdk_65_method_133_code_19 : decode jdk_65_method_133_code 19 = .ok (.aload_n 0, 1) := by decide +kernel
theorem d_jdk_65_method_133_code_20 : decode jdk_65_method_133_code 20 = .ok (.arraylength, 1) := by decide +kernel
theorem d_jdk_65_method_133_code_21 : decode jdk_65_method_133_code 21 = .ok (.iload_n 1, 1) := by decide +kernel
theorem d_jdk_65_method_133_code_22 : decode jdk_65_method_133_code 22 = .ok (.isub, 1) := by decide +kernel
theorem d_jdk_65_method_133_code_23 : decode jdk_65_method_133_code 23 = .ok (.iload_n 3, 1) := by decide +kernel
theorem d_jdk_65_method_133_code_24 : decode jdk_65_method_133_code 24 = .ok (.invokestatic 304, 3) := by decide +kernel
theorem pd_315 : parseMethodDescriptor "(II)I" = some ⟨[.int, .int], some .int⟩ := by decide +kernel
theorem d_jdk_65_method_133_code_27 : decode jdk_65_method_133_code 27 = .ok (.invokestatic 150, 3) := by decide +kernel
theorem d_jdk_65_method_133_code_30 : decode jdk_65_method_133_code 30 = .ok (.aload 4, 2) := by decide +kernel
theorem d_jdk_65_method_133_code_32 : decode jdk_65_method_133_code 32 = .ok (.areturn, 1) := by decide +kernel
theorem ef_319 (m : MethodId) (x0 : Addr) (x1 : Int32) (x2 : Int32) : entryFrame m #[(.ref x0), (.int x1), (.int x2)] 5 = mkF m 0 #[.val (.ref x0), .val (.int x1), .val (.int x2), .unset, .unset] [] := by first | (simp [entryFrame, mkF, argsToLocals, Value.category]; done) | rfl
def Q_crb (Z : State) (bf : Addr) (kb : ClassId) (vs : List Value) (p1 : Int32) (h0 : Heap) (n0 : Nat) (v : Option Value) (h : Heap) (L : List Loc) : Prop := v = some (.ref h0.size) ∧ Fr n0 L ∧ Keep h0 h [] ∧ ∃ ka bs, Arv Z h h0.size ka .byte p1 bs (.int 0) ∧ ∀ j, j < p1.toNatClampNeg → bs.getD j (.int 0) = vs.getD j (.int 0)
set_option maxRecDepth 65536 in
set_option maxHeartbeats 40000000 in
theorem crb (l : Launch) (Z : State) (a0 : Array Value) (hw : ∀ d ∈ tables_1, d.before a0 Z = true) (ws : List Jvm.Cond) (bf : Addr) (kb : ClassId) (vs : List Value) (p1 : Int32) (h0 : Heap) (n0 : Nat) (Z0 : n0 ≤ h0.size) (X00 : Old Z n0 h0)(Vb : Arv Z h0 bf kb .byte (16 : Int32) vs (.int 0)) (hvl : vs.length = 16) (h0p : 0 ≤ p1.toInt) (hp16 : p1.toInt < 16) :
    MetFree l (⟨"java/util/Arrays", "copyOfRangeByte", "([BII)[B"⟩ : MethodName) (head1 (Jvm.Cond.code (⟨"java/util/Arrays", "copyOfRangeByte", "([BII)[B"⟩ : MethodName) jdk_65_method_133_code 5 (Option.some (Jvm.ClassFile.FieldType.array Jvm.ClassFile.FieldType.byte)) :: ws) ({ frames := 1, cells := 1, slots := 16, locals := 21 } : Room)) (fun a U => a = #[(.ref bf), (.int (0 : Int32)), (.int p1)] ∧ Z.Warmed39 U.vm ∧ U.heap = h0) (fun _ _ _ _ _ => True) (fun _ U o U' => ∃ v L, o = .returned v ∧ Q_crb Z bf kb vs p1 h0 n0 v U'.heap L ∧ FrameEnd U o U' L ({ frames := 1, cells := 1, slots := 16, locals := 21 } : Room).cells ({ frames := 1, cells := 1, slots := 16, locals := 21 } : Room).slots) := by
  refine MetFree.of_bodySF (plainFor_of_name pn_288) hisR ?_
  intro p e s m args below meth c s₁ Bd hml0 hP hK
  obtain ⟨rfl, hZ, hh⟩ := hP
  have hx := Bd.exec
  have hby := Bd.bytes
  have hml : c.maxLocals = 5 := hml0
  have hown : s.vm.findClass "java/util/Arrays" = some m.cls := findClass_of_methodNamed Bd.named
  have hnm := (name_of_methodNamed Bd.named Bd.method).1
  have X0 : Stand p l e ({ frames := 1, cells := 1, slots := 16, locals := 21 } : Room) s m #[(.ref bf), (.int (0 : Int32)), (.int p1)] below meth c s₁ [] 0 0 := Stand.of_body Bd
  have e0 : s₁.heap = h0 := by rw [← hh, Bd.state]; rfl
  have N0 := Fr.nil n0
  have hlk : meth.locks = false := BodyLoose.notSynchronized Bd
  have pre0 : ∀ t, Steps p.tables e below (s₁.setTop (mkF m 0 #[.val (.ref bf), .val (.int (0 : Int32)), .val (.int p1), .unset, .unset] [])) t → Steps p.tables e below (s₁.setTop (entryFrame m #[(.ref bf), (.int (0 : Int32)), (.int p1)] 5)) t := fun t k => castTop (ef_319 m bf (0 : Int32) p1) k
  have hpn : ¬ p1 < 0 := own_le (a := p1) (b := 0) (by rw [own_p0]; exact h0p)
  have hpt := own_tnn h0p hp16
  have K0 : Keep h0 h0 [] := Keep.refl h0 _
  obtain ⟨_, _, ⟨T1, L1, k1, n1⟩, -, X1, ⟨Lc1, hQ1, l1, y1, z1⟩, st1⟩ := Jvm.LawKit.callS X0 hx (y := (⟨"java/util/Arrays", "checkLength", "(II)V"⟩ : MethodName)) hown (mvT hZ (hw _ (List.mem_of_getElem? (i := 156) rfl))) (mvT hZ (hw _ (List.mem_of_getElem? (i := 157) rfl))) (mvT hZ (hw _ (List.mem_of_getElem? (i := 151) rfl))) (mvT hZ (hw _ (List.mem_of_getElem? (i := 158) rfl))) (by decide) (backOf (W := 0) (chk l Z a0 hw [] p1 h0 n0 Z0 h0p) hZ (hw _ (List.mem_of_getElem? (i := 158) rfl)) (hw _ (List.mem_of_getElem? (i := 151) rfl)) (by decide) (by decide)) (g := (mkF m 2 #[.val (.ref bf), .val (.int (0 : Int32)), .val (.int p1), .unset, .unset] [(.int p1), (.int (0 : Int32))])) rfl (by rw [hml]; rfl) (argsL := [(.int (0 : Int32)), (.int p1)]) (rest := []) (lenOf pd_297 rfl) rfl (by show 2 * 0 + _ ≤ _; exact Nat.le_of_eq rfl) (hb hby d_jdk_65_method_133_code_2) (fun _ _ => ⟨rfl, e0, (by decide : 0 + 0 ≤ _), (by decide : 0 + 0 ≤ _)⟩)
  dsimp only [Pt.U, Pt.locs, Pt.cells, Pt.slots] at X1 l1 y1 z1 st1 hQ1
  subst l1 y1 z1
  obtain ⟨rfl, N1q, e1⟩ := hQ1
  have N1 := Fr.app N0 N1q
  obtain ⟨T2, h2, k2, X2, e2, E2, A2, st2⟩ := newP X1 hx hZ (hw _ (List.mem_of_getElem? (i := 37) rfl)) e1 (g := (mkF m 10 #[.val (.ref bf), .val (.int (0 : Int32)), .val (.int p1), .val (.int p1), .unset] [(.int p1)])) rfl (hb hby d_jdk_65_method_133_code_10) rfl hpn (cap := 16) (Nat.le_of_lt hpt) (by decide) (by decide) (by decide)
  obtain ⟨ar, gar⟩ : ∃ z, z = h0.size := ⟨_, rfl⟩
  rw [← gar] at A2 st2
  have ge_ar : n0 ≤ ar := by rw [gar]; exact Z0
  have gk_ar : h0.size ≤ ar := by rw [gar]; exact K0.1
  have ne_bf_ar : bf ≠ ar := by rw [gar]; exact Nat.ne_of_lt Vb.lt
  have K_1 : Keep h0 h2 [] := K0.ext E2
  have Z_2 : n0 ≤ h2.size := Nat.le_trans Z0 E2.1
  have V_ar : Arv Z h2 ar k2 .byte p1 [] (.int 0) := Arv.new A2 hpn
  have W_ar := V_ar.pad (pad_rep [] (.int 0) p1.toNatClampNeg)
  have V_2 := (Vb.ext E2)
  obtain ⟨cl_3, Arcl_3, Qccl_3, Szcl_3, Ngcl_3, Hscl_3, Ftcl_3⟩ := id V_2
  have Lncl_3 : cl_3.slots.size.toInt32 = (16 : Int32) := len_of Szcl_3 Ngcl_3
  obtain ⟨_, _, ⟨T3, L3, k3, n3⟩, -, X3, ⟨Lc3, hQ3, l3, y3, z3⟩, st3⟩ := Jvm.LawKit.callS X2 hx (y := (⟨"java/lang/Math", "min", "(II)I"⟩ : MethodName)) hown (mvT hZ (hw _ (List.mem_of_getElem? (i := 159) rfl))) (mvT hZ (hw _ (List.mem_of_getElem? (i := 160) rfl))) (mvT hZ (hw _ (List.mem_of_getElem? (i := 161) rfl))) (mvT hZ (hw _ (List.mem_of_getElem? (i := 162) rfl))) (by decide) (backOf (W := 4) (mn l Z a0 hw [] ((16 : Int32) - (0 : Int32)) p1 h2 n0 Z_2 (own_min h0p hp16)) hZ (hw _ (List.mem_of_getElem? (i := 162) rfl)) (hw _ (List.mem_of_getElem? (i := 161) rfl)) (by decide) (by decide)) (g := (mkF m 24 #[.val (.ref bf), .val (.int (0 : Int32)), .val (.int p1), .val (.int p1), .val (.ref ar)] [(.int p1), (.int ((16 : Int32) - (0 : Int32))), (.int (0 : Int32)), (.ref ar), (.int (0 : Int32)), (.ref bf)])) rfl (by rw [hml]; rfl) (argsL := [(.int ((16 : Int32) - (0 : Int32))), (.int p1)]) (rest := [(.int (0 : Int32)), (.ref ar), (.int (0 : Int32)), (.ref bf)]) (lenOf pd_315 rfl) rfl (by show 2 * 0 + _ ≤ _; exact Nat.le_of_eq rfl) (hb hby d_jdk_65_method_133_code_24) (fun _ _ => ⟨rfl, e2, (by decide : 1 + 0 ≤ _), (by decide : 16 + 0 ≤ _)⟩)
  dsimp only [Pt.U, Pt.locs, Pt.cells, Pt.slots] at X3 l3 y3 z3 st3 hQ3
  subst l3 y3 z3
  obtain ⟨rfl, N3q, e3⟩ := hQ3
  have N3 := Fr.app N1 N3q
  obtain ⟨T4, h4, L4, X4, e4, N4, Kp4, Vc4, st4⟩ := cpA X3 hx hZ hown (hw _ (List.mem_of_getElem? (i := 163) rfl)) (hw _ (List.mem_of_getElem? (i := 119) rfl)) (hw _ (List.mem_of_getElem? (i := 117) rfl)) (hw _ (List.mem_of_getElem? (i := 118) rfl)) e3 V_2 W_ar (us := ((List.range p1.toNatClampNeg).map fun i => vs.getD (0 + i) (.int 0))) (sp := (0 : Int32)) (dp := (0 : Int32)) (nn := p1) (Or.inl ⟨rfl, rfl⟩) (by decide) (by decide) hpn (by show 0 + _ ≤ 16; omega) (by show 0 + _ ≤ _; omega) rfl (by simp) N3 ge_ar (g := (mkF m 27 #[.val (.ref bf), .val (.int (0 : Int32)), .val (.int p1), .val (.int p1), .val (.ref ar)] [(.int p1), (.int (0 : Int32)), (.ref ar), (.int (0 : Int32)), (.ref bf)])) rfl (by rw [hml]; rfl) rfl (hb hby d_jdk_65_method_133_code_27) (by decide) (W := 0) (by show 2 * 0 + _ ≤ _; exact Nat.le_of_eq rfl) (by decide)
  have K_4 : Keep h0 h4 [] := K_1.trans Kp4 (allS (Or.inr gk_ar) all0)
  have Z_4 : n0 ≤ h4.size := Nat.le_trans Z_2 Kp4.1
  obtain ⟨fs, hr, hrun, hended, hW, hsame⟩ := X4.leave (v := (some (.ref ar))) (fun h => by rw [Bd.returns] at h; cases h) (hlocks := hlk)
  refine ⟨_, _, pre0 _ ?_, hrun, hended, _, _, rfl, ?_, ⟨_, rfl⟩, hW, hsame.mono (by decide) (by decide)⟩
  · show Steps p.tables e below (s₁.setTop (mkF m 0 #[.val (.ref bf), .val (.int (0 : Int32)), .val (.int p1), .unset, .unset] [])) _
    refine XS.iloadN X0.here hx rfl (hb hby d_jdk_65_method_133_code_0) rfl ?_
    show Steps p.tables e below (s₁.setTop (mkF m 1 #[.val (.ref bf), .val (.int (0 : Int32)), .val (.int p1), .unset, .unset] [(.int (0 : Int32))])) _
    refine XS.iloadN X0.here hx rfl (hb hby d_jdk_65_method_133_code_1) rfl ?_
    show Steps p.tables e below (s₁.setTop (mkF m 2 #[.val (.ref bf), .val (.int (0 : Int32)), .val (.int p1), .unset, .unset] [(.int p1), (.int (0 : Int32))])) _
    refine st1 _ ?_
    show Steps p.tables e below (T1.setTop (mkF m 5 #[.val (.ref bf), .val (.int (0 : Int32)), .val (.int p1), .unset, .unset] [])) _
    refine XS.iloadN X1.here hx rfl (hb hby d_jdk_65_method_133_code_5) rfl ?_
    show Steps p.tables e below (T1.setTop (mkF m 6 #[.val (.ref bf), .val (.int (0 : Int32)), .val (.int p1), .unset, .unset] [(.int p1)])) _
    refine XS.iloadN X1.here hx rfl (hb hby d_jdk_65_method_133_code_6) rfl ?_
    show Steps p.tables e below (T1.setTop (mkF m 7 #[.val (.ref bf), .val (.int (0 : Int32)), .val (.int p1), .unset, .unset] [(.int (0 : Int32)), (.int p1)])) _
    refine XS.isub X1.here hx rfl (hb hby d_jdk_65_method_133_code_7) rfl ?_
    show Steps p.tables e below (T1.setTop (mkF m 8 #[.val (.ref bf), .val (.int (0 : Int32)), .val (.int p1), .unset, .unset] [(.int (p1 - (0 : Int32)))])) _
    rw [own_sub0 p1]
    show Steps p.tables e below (T1.setTop (mkF m 8 #[.val (.ref bf), .val (.int (0 : Int32)), .val (.int p1), .unset, .unset] [(.int p1)])) _
    refine XS.istoreN X1.here hx rfl (hb hby d_jdk_65_method_133_code_8) rfl (l' := #[.val (.ref bf), .val (.int (0 : Int32)), .val (.int p1), .val (.int p1), .unset]) rfl ?_
    show Steps p.tables e below (T1.setTop (mkF m 9 #[.val (.ref bf), .val (.int (0 : Int32)), .val (.int p1), .val (.int p1), .unset] [])) _
    refine XS.iloadN X1.here hx rfl (hb hby d_jdk_65_method_133_code_9) rfl ?_
    show Steps p.tables e below (T1.setTop (mkF m 10 #[.val (.ref bf), .val (.int (0 : Int32)), .val (.int p1), .val (.int p1), .unset] [(.int p1)])) _
    refine st2 _ ?_
    show Steps p.tables e below (T2.setTop (mkF m 12 #[.val (.ref bf), .val (.int (0 : Int32)), .val (.int p1), .val (.int p1), .unset] [(.ref ar)])) _
    refine XS.astore X2.here hx rfl (hb hby d_jdk_65_method_133_code_12) rfl rfl (l' := #[.val (.ref bf), .val (.int (0 : Int32)), .val (.int p1), .val (.int p1), .val (.ref ar)]) rfl ?_
    show Steps p.tables e below (T2.setTop (mkF m 14 #[.val (.ref bf), .val (.int (0 : Int32)), .val (.int p1), .val (.int p1), .val (.ref ar)] [])) _
    refine XS.aloadN X2.here hx rfl (hb hby d_jdk_65_method_133_code_14) rfl rfl ?_
    show Steps p.tables e below (T2.setTop (mkF m 15 #[.val (.ref bf), .val (.int (0 : Int32)), .val (.int p1), .val (.int p1), .val (.ref ar)] [(.ref bf)])) _
    refine XS.iloadN X2.here hx rfl (hb hby d_jdk_65_method_133_code_15) rfl ?_
    show Steps p.tables e below (T2.setTop (mkF m 16 #[.val (.ref bf), .val (.int (0 : Int32)), .val (.int p1), .val (.int p1), .val (.ref ar)] [(.int (0 : Int32)), (.ref bf)])) _
    refine XS.aload X2.here hx rfl (hb hby d_jdk_65_method_133_code_16) rfl rfl ?_
    show Steps p.tables e below (T2.setTop (mkF m 18 #[.val (.ref bf), .val (.int (0 : Int32)), .val (.int p1), .val (.int p1), .val (.ref ar)] [(.ref ar), (.int (0 : Int32)), (.ref bf)])) _
    refine XT.iconstV X2.here hx rfl (0 : Int32) (hb hby d_jdk_65_method_133_code_18) (by decide) ?_
    show Steps p.tables e below (T2.setTop (mkF m 19 #[.val (.ref bf), .val (.int (0 : Int32)), .val (.int p1), .val (.int p1), .val (.ref ar)] [(.int (0 : Int32)), (.ref ar), (.int (0 : Int32)), (.ref bf)])) _
    refine XS.aloadN X2.here hx rfl (hb hby d_jdk_65_method_133_code_19) rfl rfl ?_
    show Steps p.tables e below (T2.setTop (mkF m 20 #[.val (.ref bf), .val (.int (0 : Int32)), .val (.int p1), .val (.int p1), .val (.ref ar)] [(.ref bf), (.int (0 : Int32)), (.ref ar), (.int (0 : Int32)), (.ref bf)])) _
    refine X2.arraylength hx (by first | exact Arcl_3.1 | (rw [e2]; exact Arcl_3.1)) (State.isArrayOf_alike hZ.alike Arcl_3.2.1) (g := (mkF m 20 #[.val (.ref bf), .val (.int (0 : Int32)), .val (.int p1), .val (.int p1), .val (.ref ar)] [(.ref bf), (.int (0 : Int32)), (.ref ar), (.int (0 : Int32)), (.ref bf)])) rfl rfl (hb hby d_jdk_65_method_133_code_20) _ ?_
    show Steps p.tables e below (T2.setTop (mkF m 21 #[.val (.ref bf), .val (.int (0 : Int32)), .val (.int p1), .val (.int p1), .val (.ref ar)] [(.int cl_3.slots.size.toInt32), (.int (0 : Int32)), (.ref ar), (.int (0 : Int32)), (.ref bf)])) _
    rw [Lncl_3]
    show Steps p.tables e below (T2.setTop (mkF m 21 #[.val (.ref bf), .val (.int (0 : Int32)), .val (.int p1), .val (.int p1), .val (.ref ar)] [(.int (16 : Int32)), (.int (0 : Int32)), (.ref ar), (.int (0 : Int32)), (.ref bf)])) _
    refine XS.iloadN X2.here hx rfl (hb hby d_jdk_65_method_133_code_21) rfl ?_
    show Steps p.tables e below (T2.setTop (mkF m 22 #[.val (.ref bf), .val (.int (0 : Int32)), .val (.int p1), .val (.int p1), .val (.ref ar)] [(.int (0 : Int32)), (.int (16 : Int32)), (.int (0 : Int32)), (.ref ar), (.int (0 : Int32)), (.ref bf)])) _
    refine XS.isub X2.here hx rfl (hb hby d_jdk_65_method_133_code_22) rfl ?_
    show Steps p.tables e below (T2.setTop (mkF m 23 #[.val (.ref bf), .val (.int (0 : Int32)), .val (.int p1), .val (.int p1), .val (.ref ar)] [(.int ((16 : Int32) - (0 : Int32))), (.int (0 : Int32)), (.ref ar), (.int (0 : Int32)), (.ref bf)])) _
    refine XS.iloadN X2.here hx rfl (hb hby d_jdk_65_method_133_code_23) rfl ?_
    show Steps p.tables e below (T2.setTop (mkF m 24 #[.val (.ref bf), .val (.int (0 : Int32)), .val (.int p1), .val (.int p1), .val (.ref ar)] [(.int p1), (.int ((16 : Int32) - (0 : Int32))), (.int (0 : Int32)), (.ref ar), (.int (0 : Int32)), (.ref bf)])) _
    refine st3 _ ?_
    show Steps p.tables e below (T3.setTop (mkF m 27 #[.val (.ref bf), .val (.int (0 : Int32)), .val (.int p1), .val (.int p1), .val (.ref ar)] [(.int p1), (.int (0 : Int32)), (.ref ar), (.int (0 : Int32)), (.ref bf)])) _
    refine st4 _ ?_
    show Steps p.tables e below (T4.setTop (mkF m 30 #[.val (.ref bf), .val (.int (0 : Int32)), .val (.int p1), .val (.int p1), .val (.ref ar)] [])) _
    refine XS.aload X4.here hx rfl (hb hby d_jdk_65_method_133_code_30) rfl rfl ?_
    show Steps p.tables e below (T4.setTop (mkF m 32 #[.val (.ref bf), .val (.int (0 : Int32)), .val (.int p1), .val (.int p1), .val (.ref ar)] [(.ref ar)])) _
    exact retOut X4 hx Bd.returns rfl (Or.inr (Or.inr (Or.inr (Or.inr ⟨rfl, rfl, rfl⟩)))) (hb hby d_jdk_65_method_133_code_32) hr
  · show Q_crb Z bf kb vs p1 h0 n0 _ T4.heap _; rw [e4, Q_crb, ← gar]; refine ⟨rfl, N4, K_4, _, _, Vc4, fun j hj => ?_⟩; have := own_cp (vs := vs) hj; simpa using this
theorem d_jdk_65_method_132_code_0 : decode jdk_65_method_132_code 0 = .ok (.iload_n 1, 1) := by decide +kernel
theorem d_jdk_65_method_132_code_1 : decode jdk_65_method_132_code 1 = .ok (.ifCond .ne 9, 3) := by decide +kernel
theorem d_jdk_65_method_132_code_4 : decode jdk_65_method_132_code 4 = .ok (.iload_n 2, 1) := by decide +kernel
theorem d_jdk_65_method_132_code_5 : decode jdk_65_method_132_code 5 = .ok (.aload_n 0, 1) := by decide +kernel
theorem d_jdk_65_method_132_code_6 : decode jdk_65_method_132_code 6 = .ok (.arraylength, 1) := by decide +kernel
theorem d_jdk_65_method_132_code_7 : decode jdk_65_method_132_code 7 = .ok (.if_icmp .eq 10, 3) := by decide +kernel
theorem d_jdk_65_method_132_code_10 : decode jdk_65_method_132_code 10 = .ok (.aload_n 0, 1) := by decide +kernel
theorem d_jdk_65_method_132_code_11 : decode jdk_65_method_132_code 11 = .ok (.iload_n 1, 1) := by decide +kernel
theorem d_jdk_65_method_132_code_12 : decode jdk_65_method_132_code 12 = .ok (.iload_n 2, 1) := by decide +kernel
theorem d_jdk_65_method_132_code_13 : decode jdk_65_method_132_code 13 = .ok (.invokestatic 339, 3) := by decide +kernel
theorem pd_330 : parseMethodDescriptor "([BII)[B" = some ⟨[(.array .byte), .int, .int], some (.array .byte)⟩ := by decide +kernel
theorem d_jdk_65_method_132_code_16 : decode jdk_65_method_132_code 16 = .ok (.areturn, 1) := by decide +kernel
theorem ef_332 (m : MethodId) (x0 : Addr) (x1 : Int32) (x2 : Int32) : entryFrame m #[(.ref x0), (.int x1), (.int x2)] 3 = mkF m 0 #[.val (.ref x0), .val (.int x1), .val (.int x2)] [] := by first | (simp [entryFrame, mkF, argsToLocals, Value.category]; done) | rfl
def Q_cr (Z : State) (bf : Addr) (kb : ClassId) (vs : List Value) (p1 : Int32) (h0 : Heap) (n0 : Nat) (v : Option Value) (h : Heap) (L : List Loc) : Prop := v = some (.ref h0.size) ∧ Fr n0 L ∧ Keep h0 h [] ∧ ∃ ka bs, Arv Z h h0.size ka .byte p1 bs (.int 0) ∧ ∀ j, j < p1.toNatClampNeg → bs.getD j (.int 0) = vs.getD j (.int 0)
set_option maxRecDepth 65536 in
set_option maxHeartbeats 40000000 in
theorem cr (l : Launch) (Z : State) (a0 : Array Value) (hw : ∀ d ∈ tables_1, d.before a0 Z = true) (ws : List Jvm.Cond) (bf : Addr) (kb : ClassId) (vs : List Value) (p1 : Int32) (h0 : Heap) (n0 : Nat) (Z0 : n0 ≤ h0.size) (X00 : Old Z n0 h0)(Vb : Arv Z h0 bf kb .byte (16 : Int32) vs (.int 0)) (hvl : vs.length = 16) (h0p : 0 ≤ p1.toInt) (hp16 : p1.toInt < 16) :
    MetFree l (⟨"java/util/Arrays", "copyOfRange", "([BII)[B"⟩ : MethodName) (head1 (Jvm.Cond.code (⟨"java/util/Arrays", "copyOfRange", "([BII)[B"⟩ : MethodName) jdk_65_method_132_code 3 (Option.some (Jvm.ClassFile.FieldType.array Jvm.ClassFile.FieldType.byte)) :: ws) ({ frames := 2, cells := 1, slots := 16, locals := 37 } : Room)) (fun a U => a = #[(.ref bf), (.int (0 : Int32)), (.int p1)] ∧ Z.Warmed39 U.vm ∧ U.heap = h0) (fun _ _ _ _ _ => True) (fun _ U o U' => ∃ v L, o = .returned v ∧ Q_cr Z bf kb vs p1 h0 n0 v U'.heap L ∧ FrameEnd U o U' L ({ frames := 2, cells := 1, slots := 16, locals := 37 } : Room).cells ({ frames := 2, cells := 1, slots := 16, locals := 37 } : Room).slots) := by
  refine MetFree.of_bodySF (plainFor_of_name pn_288) hisR ?_
  intro p e s m args below meth c s₁ Bd hml0 hP hK
  obtain ⟨rfl, hZ, hh⟩ := hP
  have hx := Bd.exec
  have hby := Bd.bytes
  have hml : c.maxLocals = 3 := hml0
  have hown : s.vm.findClass "java/util/Arrays" = some m.cls := findClass_of_methodNamed Bd.named
  have hnm := (name_of_methodNamed Bd.named Bd.method).1
  have X0 : Stand p l e ({ frames := 2, cells := 1, slots := 16, locals := 37 } : Room) s m #[(.ref bf), (.int (0 : Int32)), (.int p1)] below meth c s₁ [] 0 0 := Stand.of_body Bd
  have e0 : s₁.heap = h0 := by rw [← hh, Bd.state]; rfl
  have N0 := Fr.nil n0
  have hlk : meth.locks = false := BodyLoose.notSynchronized Bd
  have pre0 : ∀ t, Steps p.tables e below (s₁.setTop (mkF m 0 #[.val (.ref bf), .val (.int (0 : Int32)), .val (.int p1)] [])) t → Steps p.tables e below (s₁.setTop (entryFrame m #[(.ref bf), (.int (0 : Int32)), (.int p1)] 3)) t := fun t k => castTop (ef_332 m bf (0 : Int32) p1) k
  have hne := own_ne16 hp16
  obtain ⟨cl_1, Arcl_1, Qccl_1, Szcl_1, Ngcl_1, Hscl_1, Ftcl_1⟩ := id Vb
  have Lncl_1 : cl_1.slots.size.toInt32 = (16 : Int32) := len_of Szcl_1 Ngcl_1
  obtain ⟨_, _, ⟨T1, L1, k1, n1⟩, -, X1, ⟨Lc1, hQ1, l1, y1, z1⟩, st1⟩ := Jvm.LawKit.callS X0 hx (y := (⟨"java/util/Arrays", "copyOfRangeByte", "([BII)[B"⟩ : MethodName)) hown (mvT hZ (hw _ (List.mem_of_getElem? (i := 153) rfl))) (mvT hZ (hw _ (List.mem_of_getElem? (i := 154) rfl))) (mvT hZ (hw _ (List.mem_of_getElem? (i := 151) rfl))) (mvT hZ (hw _ (List.mem_of_getElem? (i := 155) rfl))) (by decide) (backOf (W := 0) (crb l Z a0 hw [] bf kb vs p1 h0 n0 Z0 X00 Vb hvl h0p hp16) hZ (hw _ (List.mem_of_getElem? (i := 155) rfl)) (hw _ (List.mem_of_getElem? (i := 151) rfl)) (by decide) (by decide)) (g := (mkF m 13 #[.val (.ref bf), .val (.int (0 : Int32)), .val (.int p1)] [(.int p1), (.int (0 : Int32)), (.ref bf)])) rfl (by rw [hml]; rfl) (argsL := [(.ref bf), (.int (0 : Int32)), (.int p1)]) (rest := []) (lenOf pd_330 rfl) rfl (by show 2 * 0 + _ ≤ _; exact Nat.le_of_eq rfl) (hb hby d_jdk_65_method_132_code_13) (fun _ _ => ⟨rfl, e0, (by decide : 0 + 1 ≤ _), (by decide : 0 + 16 ≤ _)⟩)
  dsimp only [Pt.U, Pt.locs, Pt.cells, Pt.slots] at X1 l1 y1 z1 st1 hQ1
  subst l1 y1 z1
  obtain ⟨rfl, N1q, Kc1, QR⟩ := hQ1
  have N1 := Fr.app N0 N1q
  have Z_1 : n0 ≤ T1.heap.size := Nat.le_trans Z0 Kc1.1
  obtain ⟨fs, hr, hrun, hended, hW, hsame⟩ := X1.leave (v := (some (.ref h0.size))) (fun h => by rw [Bd.returns] at h; cases h) (hlocks := hlk)
  refine ⟨_, _, pre0 _ ?_, hrun, hended, _, _, rfl, ?_, ⟨_, rfl⟩, hW, hsame.mono (by decide) (by decide)⟩
  · show Steps p.tables e below (s₁.setTop (mkF m 0 #[.val (.ref bf), .val (.int (0 : Int32)), .val (.int p1)] [])) _
    refine XS.iloadN X0.here hx rfl (hb hby d_jdk_65_method_132_code_0) rfl ?_
    show Steps p.tables e below (s₁.setTop (mkF m 1 #[.val (.ref bf), .val (.int (0 : Int32)), .val (.int p1)] [(.int (0 : Int32))])) _
    refine XS.ifNo X0.here hx rfl (hb hby d_jdk_65_method_132_code_1) rfl (by decide) ?_
    show Steps p.tables e below (s₁.setTop (mkF m 4 #[.val (.ref bf), .val (.int (0 : Int32)), .val (.int p1)] [])) _
    refine XS.iloadN X0.here hx rfl (hb hby d_jdk_65_method_132_code_4) rfl ?_
    show Steps p.tables e below (s₁.setTop (mkF m 5 #[.val (.ref bf), .val (.int (0 : Int32)), .val (.int p1)] [(.int p1)])) _
    refine XS.aloadN X0.here hx rfl (hb hby d_jdk_65_method_132_code_5) rfl rfl ?_
    show Steps p.tables e below (s₁.setTop (mkF m 6 #[.val (.ref bf), .val (.int (0 : Int32)), .val (.int p1)] [(.ref bf), (.int p1)])) _
    refine X0.arraylength hx (by first | exact Arcl_1.1 | (rw [e0]; exact Arcl_1.1)) (State.isArrayOf_alike hZ.alike Arcl_1.2.1) (g := (mkF m 6 #[.val (.ref bf), .val (.int (0 : Int32)), .val (.int p1)] [(.ref bf), (.int p1)])) rfl rfl (hb hby d_jdk_65_method_132_code_6) _ ?_
    show Steps p.tables e below (s₁.setTop (mkF m 7 #[.val (.ref bf), .val (.int (0 : Int32)), .val (.int p1)] [(.int cl_1.slots.size.toInt32), (.int p1)])) _
    rw [Lncl_1]
    show Steps p.tables e below (s₁.setTop (mkF m 7 #[.val (.ref bf), .val (.int (0 : Int32)), .val (.int p1)] [(.int (16 : Int32)), (.int p1)])) _
    refine XS.icmpNo X0.here hx rfl (hb hby d_jdk_65_method_132_code_7) rfl (feq hne).1 ?_
    show Steps p.tables e below (s₁.setTop (mkF m 10 #[.val (.ref bf), .val (.int (0 : Int32)), .val (.int p1)] [])) _
    refine XS.aloadN X0.here hx rfl (hb hby d_jdk_65_method_132_code_10) rfl rfl ?_
    show Steps p.tables e below (s₁.setTop (mkF m 11 #[.val (.ref bf), .val (.int (0 : Int32)), .val (.int p1)] [(.ref bf)])) _
    refine XS.iloadN X0.here hx rfl (hb hby d_jdk_65_method_132_code_11) rfl ?_
    show Steps p.tables e below (s₁.setTop (mkF m 12 #[.val (.ref bf), .val (.int (0 : Int32)), .val (.int p1)] [(.int (0 : Int32)), (.ref bf)])) _
    refine XS.iloadN X0.here hx rfl (hb hby d_jdk_65_method_132_code_12) rfl ?_
    show Steps p.tables e below (s₁.setTop (mkF m 13 #[.val (.ref bf), .val (.int (0 : Int32)), .val (.int p1)] [(.int p1), (.int (0 : Int32)), (.ref bf)])) _
    refine st1 _ ?_
    show Steps p.tables e below (T1.setTop (mkF m 16 #[.val (.ref bf), .val (.int (0 : Int32)), .val (.int p1)] [(.ref h0.size)])) _
    exact retOut X1 hx Bd.returns rfl (Or.inr (Or.inr (Or.inr (Or.inr ⟨rfl, rfl, rfl⟩)))) (hb hby d_jdk_65_method_132_code_16) hr
  · exact ⟨rfl, N1, Kc1, QR⟩
theorem d_jdk_42_method_150_code_0 : decode jdk_42_method_150_code 0 = .ok (.aload_n 0, 1) := by decide +kernel
theorem d_jdk_42_method_150_code_1 : decode jdk_42_method_150_code 1 = .ok (.invokespecial 1, 3) := by decide +kernel
theorem d_jdk_42_method_150_code_4 : decode jdk_42_method_150_code 4 = .ok (.aload_n 1, 1) := by decide +kernel
theorem d_jdk_42_method_150_code_5 : decode jdk_42_method_150_code 5 = .ok (.invokevirtual 552, 3) := by decide +kernel
theorem pd_337 : parseMethodDescriptor "()[B" = some ⟨[], some (.array .byte)⟩ := by decide +kernel
theorem d_jdk_42_method_150_code_8 : decode jdk_42_method_150_code 8 = .ok (.astore_n 3, 1) := by decide +kernel
theorem d_jdk_42_method_150_code_9 : decode jdk_42_method_150_code 9 = .ok (.aload_n 1, 1) := by decide +kernel
theorem d_jdk_42_method_150_code_10 : decode jdk_42_method_150_code 10 = .ok (.invokevirtual 549, 3) := by decide +kernel
theorem d_jdk_42_method_150_code_13 : decode jdk_42_method_150_code 13 = .ok (.istore 4, 2) := by decide +kernel
theorem d_jdk_42_method_150_code_15 : decode jdk_42_method_150_code 15 = .ok (.aload_n 1, 1) := by decide +kernel
theorem d_jdk_42_method_150_code_16 : decode jdk_42_method_150_code 16 = .ok (.invokevirtual 1047, 3) := by decide +kernel
theorem d_jdk_42_method_150_code_19 : decode jdk_42_method_150_code 19 = .ok (.ifCond .eq 22, 3) := by decide +kernel
theorem d_jdk_42_method_150_code_22 : decode jdk_42_method_150_code 22 = .ok (.aload_n 0, 1) := by decide +kernel
theorem d_jdk_42_method_150_code_23 : decode jdk_42_method_150_code 23 = .ok (.iconst 0, 1) := by decide +kernel
theorem d_jdk_42_method_150_code_24 : decode jdk_42_method_150_code 24 = .ok (.putfield 15, 3) := by decide +kernel
theorem d_jdk_42_method_150_code_27 : decode jdk_42_method_150_code 27 = .ok (.aload_n 0, 1) := by decide +kernel
theorem d_jdk_42_method_150_code_28 : decode jdk_42_method_150_code 28 = .ok (.aload_n 3, 1) := by decide +kernel
theorem d_jdk_42_method_150_code_29 : decode jdk_42_method_150_code 29 = .ok (.iconst 0, 1) := by decide +kernel
theorem d_jdk_42_method_150_code_30 : decode jdk_42_method_150_code 30 = .ok (.iload 4, 2) := by decide +kernel
theorem d_jdk_42_method_150_code_32 : decode jdk_42_method_150_code 32 = .ok (.invokestatic 54, 3) := by decide +kernel
theorem d_jdk_42_method_150_code_35 : decode jdk_42_method_150_code 35 = .ok (.putfield 9, 3) := by decide +kernel
theorem d_jdk_42_method_150_code_38 : decode jdk_42_method_150_code 38 = .ok (.goto 59, 3) := by decide +kernel
theorem d_jdk_42_method_150_code_97 : decode jdk_42_method_150_code 97 = .ok (.return_, 1) := by decide +kernel
theorem ef_356 (m : MethodId) (x0 : Addr) (x1 : Addr) : entryFrame m #[(.ref x0), (.ref x1), .null] 5 = mkF m 0 #[.val (.ref x0), .val (.ref x1), .val .null, .unset, .unset] [] := by first | (simp [entryFrame, mkF, argsToLocals, Value.category]; done) | rfl
def Q_st_initA (Z : State) (sb bf : Addr) (kb : ClassId) (cnt : Int32) (vs : List Value) (str : Addr) (zc : Int32) (h0 : Heap) (n0 : Nat) (v : Option Value) (h : Heap) (L : List Loc) : Prop := v = none ∧ Fr n0 L ∧ Keep h0 h [str] ∧ Exa Z h str "java/lang/String" ∧ Fld Z h str "java/lang/String" "coder" "B" (.int (0 : Int32)) ∧ Fld Z h str "java/lang/String" "value" "[B" (.ref h0.size) ∧ ∃ ka bs, Arv Z h h0.size ka .byte cnt bs (.int 0) ∧ ∀ j, j < cnt.toNatClampNeg → bs.getD j (.int 0) = vs.getD j (.int 0)
set_option maxRecDepth 65536 in
set_option maxHeartbeats 40000000 in
theorem st_initA (l : Launch) (Z : State) (a0 : Array Value) (hw : ∀ d ∈ tables_1, d.before a0 Z = true) (ws : List Jvm.Cond) (sb bf : Addr) (kb : ClassId) (cnt : Int32) (vs : List Value) (str : Addr) (zc : Int32) (h0 : Heap) (n0 : Nat) (Z0 : n0 ≤ h0.size) (X00 : Old Z n0 h0)(SC : Sta Z Z.heap "java/lang/String" "COMPACT_STRINGS" "Z" (.int zc)) (hzc : ¬ zc = 0)(Esb : Exa Z h0 sb "java/lang/StringBuilder") (Fv : Fld Z h0 sb "java/lang/AbstractStringBuilder" "value" "[B" (.ref bf)) (Fc : Fld Z h0 sb "java/lang/AbstractStringBuilder" "coder" "B" (.int (0 : Int32))) (Fn : Fld Z h0 sb "java/lang/AbstractStringBuilder" "count" "I" (.int cnt)) (Vb : Arv Z h0 bf kb .byte (16 : Int32) vs (.int 0)) (nb : sb ≠ bf) (gs : n0 ≤ sb) (gb : n0 ≤ bf)(Est : Exa Z h0 str "java/lang/String") (Gv : Fld Z h0 str "java/lang/String" "value" "[B" .null) (Gc : Fld Z h0 str "java/lang/String" "coder" "B" (.int (0 : Int32))) (gst : n0 ≤ str) (n1 : sb ≠ str) (n2 : bf ≠ str) (hvl : vs.length = 16) (hc0 : 0 ≤ cnt.toInt) (hc3 : cnt.toInt < 16) :
    MetFree l (⟨"java/lang/String", "<init>", "(Ljava/lang/AbstractStringBuilder;Ljava/lang/Void;)V"⟩ : MethodName) (head1 (Jvm.Cond.code (⟨"java/lang/String", "<init>", "(Ljava/lang/AbstractStringBuilder;Ljava/lang/Void;)V"⟩ : MethodName) jdk_42_method_150_code 5 (Option.none : Option Jvm.ClassFile.FieldType) :: ws) ({ frames := 3, cells := 1, slots := 16, locals := 52 } : Room)) (fun a U => a = #[(.ref str), (.ref sb), .null] ∧ Z.Warmed39 U.vm ∧ U.heap = h0) (fun _ _ _ _ _ => True) (fun _ U o U' => ∃ v L, o = .returned v ∧ Q_st_initA Z sb bf kb cnt vs str zc h0 n0 v U'.heap L ∧ FrameEnd U o U' L ({ frames := 3, cells := 1, slots := 16, locals := 52 } : Room).cells ({ frames := 3, cells := 1, slots := 16, locals := 52 } : Room).slots) := by
  refine MetFree.of_bodySF (plainFor_of_name pn_82) hisR ?_
  intro p e s m args below meth c s₁ Bd hml0 hP hK
  obtain ⟨rfl, hZ, hh⟩ := hP
  have hx := Bd.exec
  have hby := Bd.bytes
  have hml : c.maxLocals = 5 := hml0
  have hown : s.vm.findClass "java/lang/String" = some m.cls := findClass_of_methodNamed Bd.named
  have hnm := (name_of_methodNamed Bd.named Bd.method).1
  have X0 : Stand p l e ({ frames := 3, cells := 1, slots := 16, locals := 52 } : Room) s m #[(.ref str), (.ref sb), .null] below meth c s₁ [] 0 0 := Stand.of_body Bd
  have e0 : s₁.heap = h0 := by rw [← hh, Bd.state]; rfl
  have N0 := Fr.nil n0
  have hlk : meth.locks = false := BodyLoose.notSynchronized Bd
  have pre0 : ∀ t, Steps p.tables e below (s₁.setTop (mkF m 0 #[.val (.ref str), .val (.ref sb), .val .null, .unset, .unset] [])) t → Steps p.tables e below (s₁.setTop (entryFrame m #[(.ref str), (.ref sb), .null] 5)) t := fun t k => castTop (ef_356 m str sb) k
  have K0 : Keep h0 h0 [str] := Keep.refl h0 _
  obtain ⟨T1, X1, e1, st1⟩ := initO X0 hx hZ hown (hw _ (List.mem_of_getElem? (i := 134) rfl)) (hw _ (List.mem_of_getElem? (i := 10) rfl)) (hw _ (List.mem_of_getElem? (i := 11) rfl)) e0 (g := (mkF m 1 #[.val (.ref str), .val (.ref sb), .val .null, .unset, .unset] [(.ref str)])) rfl (by rw [hml]; rfl) rfl (hb hby d_jdk_42_method_150_code_1) (by decide) (W := 0) (by show 2 * 0 + _ ≤ _; exact Nat.le_of_eq rfl) (by decide)
  obtain ⟨cq2, kq2, q2a, q2b, q2c⟩ := isOf hZ e1 Esb
  obtain ⟨_, _, ⟨T2, L2, k2, n2⟩, -, X2, ⟨Lc2, hQ2, l2, y2, z2⟩, st2⟩ := X1.virtualBack hx (y := (⟨"java/lang/AbstractStringBuilder", "getValue", "()[B"⟩ : MethodName)) (z := (⟨"java/lang/AbstractStringBuilder", "getValue", "()[B"⟩ : MethodName)) hown (mvT hZ (hw _ (List.mem_of_getElem? (i := 135) rfl))) (mvT hZ (hw _ (List.mem_of_getElem? (i := 136) rfl))) (notFace_of_selects (args := #[]) (mvT hZ (hw _ (List.mem_of_getElem? (i := 138) rfl)))) (mvT hZ (hw _ (List.mem_of_getElem? (i := 138) rfl))) (mvT hZ (hw _ (List.mem_of_getElem? (i := 137) rfl))) (by decide) (backOf (W := 0) (asb_val l Z a0 hw [] sb bf h0 n0 Z0 Fv) hZ (hw _ (List.mem_of_getElem? (i := 139) rfl)) (hw _ (List.mem_of_getElem? (i := 32) rfl)) (by decide) (by decide)) q2a q2c (g := (mkF m 5 #[.val (.ref str), .val (.ref sb), .val .null, .unset, .unset] [(.ref sb)])) rfl (by rw [hml]; rfl) (Steps.refl _) (argsL := []) (rest := []) (lenOf pd_337 rfl) rfl (by show 2 * 0 + _ ≤ _; exact Nat.le_of_eq rfl) (hb hby d_jdk_42_method_150_code_5) (fun _ _ => ⟨rfl, e1, (by decide : 0 + 0 ≤ _), (by decide : 0 + 0 ≤ _)⟩)
  dsimp only [Pt.U, Pt.locs, Pt.cells, Pt.slots] at X2 l2 y2 z2 st2 hQ2
  subst l2 y2 z2
  obtain ⟨rfl, N2q, e2⟩ := hQ2
  have N2 := Fr.app N0 N2q
  obtain ⟨cq3, kq3, q3a, q3b, q3c⟩ := isOf hZ e2 Esb
  obtain ⟨_, _, ⟨T3, L3, k3, n3⟩, -, X3, ⟨Lc3, hQ3, l3, y3, z3⟩, st3⟩ := X2.virtualBack hx (y := (⟨"java/lang/AbstractStringBuilder", "length", "()I"⟩ : MethodName)) (z := (⟨"java/lang/StringBuilder", "length", "()I"⟩ : MethodName)) hown (mvT hZ (hw _ (List.mem_of_getElem? (i := 140) rfl))) (mvT hZ (hw _ (List.mem_of_getElem? (i := 141) rfl))) (own_nf (args := #[]) (y' := (⟨"java/lang/AbstractStringBuilder", "isLatin1", "()Z"⟩ : MethodName)) rfl (mvT hZ (hw _ (List.mem_of_getElem? (i := 66) rfl)))) (mvT hZ (hw _ (List.mem_of_getElem? (i := 143) rfl))) (mvT hZ (hw _ (List.mem_of_getElem? (i := 144) rfl))) (by decide) (backOf (W := 0) (sb_len l Z a0 hw [] sb cnt h0 n0 Z0 Esb Fn) hZ (hw _ (List.mem_of_getElem? (i := 145) rfl)) (hw _ (List.mem_of_getElem? (i := 24) rfl)) (by decide) (by decide)) q3a q3c (g := (mkF m 10 #[.val (.ref str), .val (.ref sb), .val .null, .val (.ref bf), .unset] [(.ref sb)])) rfl (by rw [hml]; rfl) (Steps.refl _) (argsL := []) (rest := []) (lenOf pd_244 rfl) rfl (by show 2 * 0 + _ ≤ _; exact Nat.le_of_eq rfl) (hb hby d_jdk_42_method_150_code_10) (fun _ _ => ⟨rfl, e2, (by decide : 0 + 0 ≤ _), (by decide : 0 + 0 ≤ _)⟩)
  dsimp only [Pt.U, Pt.locs, Pt.cells, Pt.slots] at X3 l3 y3 z3 st3 hQ3
  subst l3 y3 z3
  obtain ⟨rfl, N3q, e3⟩ := hQ3
  have N3 := Fr.app N2 N3q
  obtain ⟨cq4, kq4, q4a, q4b, q4c⟩ := isOf hZ e3 Esb
  obtain ⟨_, _, ⟨T4, L4, k4, n4⟩, -, X4, ⟨Lc4, hQ4, l4, y4, z4⟩, st4⟩ := X3.virtualBack hx (y := (⟨"java/lang/AbstractStringBuilder", "isLatin1", "()Z"⟩ : MethodName)) (z := (⟨"java/lang/AbstractStringBuilder", "isLatin1", "()Z"⟩ : MethodName)) hown (mvT hZ (hw _ (List.mem_of_getElem? (i := 148) rfl))) (mvT hZ (hw _ (List.mem_of_getElem? (i := 64) rfl))) (notFace_of_selects (args := #[]) (mvT hZ (hw _ (List.mem_of_getElem? (i := 66) rfl)))) (mvT hZ (hw _ (List.mem_of_getElem? (i := 66) rfl))) (mvT hZ (hw _ (List.mem_of_getElem? (i := 65) rfl))) (by decide) (backOf (W := 0) (asb_lat l Z a0 hw [] sb zc h0 n0 Z0 X00 SC hzc Fc) hZ (hw _ (List.mem_of_getElem? (i := 67) rfl)) (hw _ (List.mem_of_getElem? (i := 32) rfl)) (by decide) (by decide)) q4a q4c (g := (mkF m 16 #[.val (.ref str), .val (.ref sb), .val .null, .val (.ref bf), .val (.int cnt)] [(.ref sb)])) rfl (by rw [hml]; rfl) (Steps.refl _) (argsL := []) (rest := []) (lenOf pd_162 rfl) rfl (by show 2 * 0 + _ ≤ _; exact Nat.le_of_eq rfl) (hb hby d_jdk_42_method_150_code_16) (fun _ _ => ⟨rfl, e3, (by decide : 0 + 0 ≤ _), (by decide : 0 + 0 ≤ _)⟩)
  dsimp only [Pt.U, Pt.locs, Pt.cells, Pt.slots] at X4 l4 y4 z4 st4 hQ4
  subst l4 y4 z4
  obtain ⟨rfl, N4q, e4⟩ := hQ4
  have N4 := Fr.app N3 N4q
  obtain ⟨T5, h5, X5, e5, W5, st5⟩ := putF X4 hx hZ hown (host := "") (Or.inl (hw _ (List.mem_of_getElem? (i := 99) rfl))) Via.refl e4 Gc Est (Or.inr ⟨(hw _ (List.mem_of_getElem? (i := 75) rfl)), rfl, hnm⟩) (hw _ (List.mem_of_getElem? (i := 73) rfl)) (ty := .byte) (by decide) rfl rfl (g := (mkF m 24 #[.val (.ref str), .val (.ref sb), .val .null, .val (.ref bf), .val (.int cnt)] [(.int (0 : Int32)), (.ref str)])) rfl rfl (hb hby d_jdk_42_method_150_code_24)
  have N5 := Fr.snoc X5 N4 gst
  have K_1 : Keep h0 h5 [str] := K0.wr W5 (Or.inl (by simp))
  have Z_5 : n0 ≤ h5.size := by rw [W5.size]; exact Z0
  obtain ⟨ar, gar⟩ : ∃ z, z = h5.size := ⟨_, rfl⟩
  have har : ar = h0.size := by rw [gar, W5.size]
  have ge_ar : n0 ≤ ar := by rw [gar]; exact Z_5
  have gk_ar : h0.size ≤ ar := by rw [gar]; exact K_1.1
  have E_2 := (Esb.wr W5)
  have ne_sb_ar : sb ≠ ar := by rw [gar]; exact Nat.ne_of_lt E_2.lt
  have V_3 := (Vb.other W5 n2)
  have ne_bf_ar : bf ≠ ar := by rw [gar]; exact Nat.ne_of_lt V_3.lt
  have ne_str_ar : str ≠ ar := by rw [gar]; exact Nat.ne_of_lt (Gc.same W5).lt
  have O_4 := (X00.wr W5 gst)
  have E_5 := (Est.wr W5)
  obtain ⟨_, _, ⟨T6, L6, k6, n6⟩, -, X6, ⟨Lc6, hQ6, l6, y6, z6⟩, st6⟩ := Jvm.LawKit.callS X5 hx (y := (⟨"java/util/Arrays", "copyOfRange", "([BII)[B"⟩ : MethodName)) hown (mvT hZ (hw _ (List.mem_of_getElem? (i := 149) rfl))) (mvT hZ (hw _ (List.mem_of_getElem? (i := 150) rfl))) (mvT hZ (hw _ (List.mem_of_getElem? (i := 151) rfl))) (mvT hZ (hw _ (List.mem_of_getElem? (i := 152) rfl))) (by decide) (backOf (W := 1) (cr l Z a0 hw [] bf kb vs cnt h5 n0 Z_5 O_4 V_3 hvl hc0 hc3) hZ (hw _ (List.mem_of_getElem? (i := 152) rfl)) (hw _ (List.mem_of_getElem? (i := 151) rfl)) (by decide) (by decide)) (g := (mkF m 32 #[.val (.ref str), .val (.ref sb), .val .null, .val (.ref bf), .val (.int cnt)] [(.int cnt), (.int (0 : Int32)), (.ref bf), (.ref str)])) rfl (by rw [hml]; rfl) (argsL := [(.ref bf), (.int (0 : Int32)), (.int cnt)]) (rest := [(.ref str)]) (lenOf pd_330 rfl) rfl (by show 2 * 0 + _ ≤ _; exact Nat.le_of_eq rfl) (hb hby d_jdk_42_method_150_code_32) (fun _ _ => ⟨rfl, e5, (by decide : 0 + 1 ≤ _), (by decide : 0 + 16 ≤ _)⟩)
  dsimp only [Pt.U, Pt.locs, Pt.cells, Pt.slots] at X6 l6 y6 z6 st6 hQ6
  subst l6 y6 z6
  obtain ⟨rfl, N6q, Kc6, ka, bs, VA, HB⟩ := hQ6
  have N6 := Fr.app N5 N6q
  have K_6 : Keep h0 T6.heap [str] := K_1.trans Kc6 all0
  have Z_6 : n0 ≤ T6.heap.size := Nat.le_trans Z_5 Kc6.1
  rw [← gar] at VA st6
  have F_7 := ((Gv.other W5 (Or.inr (slot_ne (Or.inr (hw _ (List.mem_of_getElem? (i := 74) rfl))) (Or.inr (hw _ (List.mem_of_getElem? (i := 75) rfl))) (by decide) (t := (.array .byte)) (t' := .byte) (by decide) (by decide)))).keep Kc6 nin0)
  have E_8 := (E_5.keep Kc6)
  obtain ⟨T7, h7, X7, e7, W7, st7⟩ := putF X6 hx hZ hown (host := "") (Or.inl (hw _ (List.mem_of_getElem? (i := 92) rfl))) Via.refl rfl F_7 E_8 (Or.inr ⟨(hw _ (List.mem_of_getElem? (i := 74) rfl)), rfl, hnm⟩) (hw _ (List.mem_of_getElem? (i := 73) rfl)) (ty := (.array .byte)) (by decide) rfl rfl (g := (mkF m 35 #[.val (.ref str), .val (.ref sb), .val .null, .val (.ref bf), .val (.int cnt)] [(.ref ar), (.ref str)])) rfl rfl (hb hby d_jdk_42_method_150_code_35)
  have N7 := Fr.snoc X7 N6 gst
  have K_9 : Keep h0 h7 [str] := K_6.wr W7 (Or.inl (by simp))
  have Z_7 : n0 ≤ h7.size := by rw [W7.size]; exact Z_6
  have E_10 := (E_8.wr W7)
  have F_11 := (((Gc.same W5).keep Kc6 nin0).other W7 (Or.inr (slot_ne (Or.inr (hw _ (List.mem_of_getElem? (i := 75) rfl))) (Or.inr (hw _ (List.mem_of_getElem? (i := 74) rfl))) (by decide) (t := .byte) (t' := (.array .byte)) (by decide) (by decide))))
  have V_12 := (VA.other W7 (Ne.symm ne_str_ar))
  obtain ⟨fs, hr, hrun, hended, hW, hsame⟩ := X7.leave (v := none) (fun _ => rfl) (hlocks := hlk)
  refine ⟨_, _, pre0 _ ?_, hrun, hended, _, _, rfl, ?_, ⟨_, rfl⟩, hW, hsame.mono (by decide) (by decide)⟩
  · show Steps p.tables e below (s₁.setTop (mkF m 0 #[.val (.ref str), .val (.ref sb), .val .null, .unset, .unset] [])) _
    refine XS.aloadN X0.here hx rfl (hb hby d_jdk_42_method_150_code_0) rfl rfl ?_
    show Steps p.tables e below (s₁.setTop (mkF m 1 #[.val (.ref str), .val (.ref sb), .val .null, .unset, .unset] [(.ref str)])) _
    refine st1 _ ?_
    show Steps p.tables e below (T1.setTop (mkF m 4 #[.val (.ref str), .val (.ref sb), .val .null, .unset, .unset] [])) _
    refine XS.aloadN X1.here hx rfl (hb hby d_jdk_42_method_150_code_4) rfl rfl ?_
    show Steps p.tables e below (T1.setTop (mkF m 5 #[.val (.ref str), .val (.ref sb), .val .null, .unset, .unset] [(.ref sb)])) _
    refine st2.trans ?_
    show Steps p.tables e below (T2.setTop (mkF m 8 #[.val (.ref str), .val (.ref sb), .val .null, .unset, .unset] [(.ref bf)])) _
    refine XS.astoreN X2.here hx rfl (hb hby d_jdk_42_method_150_code_8) rfl rfl (l' := #[.val (.ref str), .val (.ref sb), .val .null, .val (.ref bf), .unset]) rfl ?_
    show Steps p.tables e below (T2.setTop (mkF m 9 #[.val (.ref str), .val (.ref sb), .val .null, .val (.ref bf), .unset] [])) _
    refine XS.aloadN X2.here hx rfl (hb hby d_jdk_42_method_150_code_9) rfl rfl ?_
    show Steps p.tables e below (T2.setTop (mkF m 10 #[.val (.ref str), .val (.ref sb), .val .null, .val (.ref bf), .unset] [(.ref sb)])) _
    refine st3.trans ?_
    show Steps p.tables e below (T3.setTop (mkF m 13 #[.val (.ref str), .val (.ref sb), .val .null, .val (.ref bf), .unset] [(.int cnt)])) _
    refine XS.istore X3.here hx rfl (hb hby d_jdk_42_method_150_code_13) rfl (l' := #[.val (.ref str), .val (.ref sb), .val .null, .val (.ref bf), .val (.int cnt)]) rfl ?_
    show Steps p.tables e below (T3.setTop (mkF m 15 #[.val (.ref str), .val (.ref sb), .val .null, .val (.ref bf), .val (.int cnt)] [])) _
    refine XS.aloadN X3.here hx rfl (hb hby d_jdk_42_method_150_code_15) rfl rfl ?_
    show Steps p.tables e below (T3.setTop (mkF m 16 #[.val (.ref str), .val (.ref sb), .val .null, .val (.ref bf), .val (.int cnt)] [(.ref sb)])) _
    refine st4.trans ?_
    show Steps p.tables e below (T4.setTop (mkF m 19 #[.val (.ref str), .val (.ref sb), .val .null, .val (.ref bf), .val (.int cnt)] [(.int (1 : Int32))])) _
    refine XS.ifNo X4.here hx rfl (hb hby d_jdk_42_method_150_code_19) rfl (by decide) ?_
    show Steps p.tables e below (T4.setTop (mkF m 22 #[.val (.ref str), .val (.ref sb), .val .null, .val (.ref bf), .val (.int cnt)] [])) _
    refine XS.aloadN X4.here hx rfl (hb hby d_jdk_42_method_150_code_22) rfl rfl ?_
    show Steps p.tables e below (T4.setTop (mkF m 23 #[.val (.ref str), .val (.ref sb), .val .null, .val (.ref bf), .val (.int cnt)] [(.ref str)])) _
    refine XT.iconstV X4.here hx rfl (0 : Int32) (hb hby d_jdk_42_method_150_code_23) (by decide) ?_
    show Steps p.tables e below (T4.setTop (mkF m 24 #[.val (.ref str), .val (.ref sb), .val .null, .val (.ref bf), .val (.int cnt)] [(.int (0 : Int32)), (.ref str)])) _
    refine st5 _ ?_
    show Steps p.tables e below (T5.setTop (mkF m 27 #[.val (.ref str), .val (.ref sb), .val .null, .val (.ref bf), .val (.int cnt)] [])) _
    refine XS.aloadN X5.here hx rfl (hb hby d_jdk_42_method_150_code_27) rfl rfl ?_
    show Steps p.tables e below (T5.setTop (mkF m 28 #[.val (.ref str), .val (.ref sb), .val .null, .val (.ref bf), .val (.int cnt)] [(.ref str)])) _
    refine XS.aloadN X5.here hx rfl (hb hby d_jdk_42_method_150_code_28) rfl rfl ?_
    show Steps p.tables e below (T5.setTop (mkF m 29 #[.val (.ref str), .val (.ref sb), .val .null, .val (.ref bf), .val (.int cnt)] [(.ref bf), (.ref str)])) _
    refine XT.iconstV X5.here hx rfl (0 : Int32) (hb hby d_jdk_42_method_150_code_29) (by decide) ?_
    show Steps p.tables e below (T5.setTop (mkF m 30 #[.val (.ref str), .val (.ref sb), .val .null, .val (.ref bf), .val (.int cnt)] [(.int (0 : Int32)), (.ref bf), (.ref str)])) _
    refine XS.iload X5.here hx rfl (hb hby d_jdk_42_method_150_code_30) rfl ?_
    show Steps p.tables e below (T5.setTop (mkF m 32 #[.val (.ref str), .val (.ref sb), .val .null, .val (.ref bf), .val (.int cnt)] [(.int cnt), (.int (0 : Int32)), (.ref bf), (.ref str)])) _
    refine st6 _ ?_
    show Steps p.tables e below (T6.setTop (mkF m 35 #[.val (.ref str), .val (.ref sb), .val .null, .val (.ref bf), .val (.int cnt)] [(.ref ar), (.ref str)])) _
    refine st7 _ ?_
    show Steps p.tables e below (T7.setTop (mkF m 38 #[.val (.ref str), .val (.ref sb), .val .null, .val (.ref bf), .val (.int cnt)] [])) _
    refine XS.goto X7.here hx rfl (pc0 := 38) (pc' := 97) rfl (hb hby d_jdk_42_method_150_code_38) (by decide) (by decide) ?_
    show Steps p.tables e below (T7.setTop (mkF m 97 #[.val (.ref str), .val (.ref sb), .val .null, .val (.ref bf), .val (.int cnt)] [])) _
    exact X7.returnOut hx Bd.returns (hb hby d_jdk_42_method_150_code_97) hr
  · show Q_st_initA Z sb bf kb cnt vs str zc h0 n0 _ T7.heap _; rw [e7]; rw [Q_st_initA, ← har]; exact ⟨rfl, N7, K_9, E_10, F_11, (F_7.same W7), _, _, V_12, HB⟩
theorem d_jdk_42_method_53_code_0 : decode jdk_42_method_53_code 0 = .ok (.aload_n 0, 1) := by decide +kernel
theorem d_jdk_42_method_53_code_1 : decode jdk_42_method_53_code 1 = .ok (.aload_n 1, 1) := by decide +kernel
theorem d_jdk_42_method_53_code_2 : decode jdk_42_method_53_code 2 = .ok (.aconst_null, 1) := by decide +kernel
theorem d_jdk_42_method_53_code_3 : decode jdk_42_method_53_code 3 = .ok (.invokespecial 489, 3) := by decide +kernel
theorem pd_361 : parseMethodDescriptor "(Ljava/lang/AbstractStringBuilder;Ljava/lang/Void;)V" = some ⟨[(.object "java/lang/AbstractStringBuilder"), (.object "java/lang/Void")], none⟩ := by decide +kernel
theorem d_jdk_42_method_53_code_6 : decode jdk_42_method_53_code 6 = .ok (.return_, 1) := by decide +kernel
def Q_st_initS (Z : State) (sb bf : Addr) (kb : ClassId) (cnt : Int32) (vs : List Value) (str : Addr) (zc : Int32) (h0 : Heap) (n0 : Nat) (v : Option Value) (h : Heap) (L : List Loc) : Prop := v = none ∧ Fr n0 L ∧ Keep h0 h [str] ∧ Exa Z h str "java/lang/String" ∧ Fld Z h str "java/lang/String" "coder" "B" (.int (0 : Int32)) ∧ Fld Z h str "java/lang/String" "value" "[B" (.ref h0.size) ∧ ∃ ka bs, Arv Z h h0.size ka .byte cnt bs (.int 0) ∧ ∀ j, j < cnt.toNatClampNeg → bs.getD j (.int 0) = vs.getD j (.int 0)
set_option maxRecDepth 65536 in
set_option maxHeartbeats 40000000 in
theorem st_initS (l : Launch) (Z : State) (a0 : Array Value) (hw : ∀ d ∈ tables_1, d.before a0 Z = true) (ws : List Jvm.Cond) (sb bf : Addr) (kb : ClassId) (cnt : Int32) (vs : List Value) (str : Addr) (zc : Int32) (h0 : Heap) (n0 : Nat) (Z0 : n0 ≤ h0.size) (X00 : Old Z n0 h0)(SC : Sta Z Z.heap "java/lang/String" "COMPACT_STRINGS" "Z" (.int zc)) (hzc : ¬ zc = 0)(Esb : Exa Z h0 sb "java/lang/StringBuilder") (Fv : Fld Z h0 sb "java/lang/AbstractStringBuilder" "value" "[B" (.ref bf)) (Fc : Fld Z h0 sb "java/lang/AbstractStringBuilder" "coder" "B" (.int (0 : Int32))) (Fn : Fld Z h0 sb "java/lang/AbstractStringBuilder" "count" "I" (.int cnt)) (Vb : Arv Z h0 bf kb .byte (16 : Int32) vs (.int 0)) (nb : sb ≠ bf) (gs : n0 ≤ sb) (gb : n0 ≤ bf)(Est : Exa Z h0 str "java/lang/String") (Gv : Fld Z h0 str "java/lang/String" "value" "[B" .null) (Gc : Fld Z h0 str "java/lang/String" "coder" "B" (.int (0 : Int32))) (gst : n0 ≤ str) (n1 : sb ≠ str) (n2 : bf ≠ str) (hvl : vs.length = 16) (hc0 : 0 ≤ cnt.toInt) (hc3 : cnt.toInt < 16) :
    MetFree l (⟨"java/lang/String", "<init>", "(Ljava/lang/StringBuilder;)V"⟩ : MethodName) (head1 (Jvm.Cond.code (⟨"java/lang/String", "<init>", "(Ljava/lang/StringBuilder;)V"⟩ : MethodName) jdk_42_method_53_code 2 (Option.none : Option Jvm.ClassFile.FieldType) :: ws) ({ frames := 4, cells := 1, slots := 16, locals := 68 } : Room)) (fun a U => a = #[(.ref str), (.ref sb)] ∧ Z.Warmed39 U.vm ∧ U.heap = h0) (fun _ _ _ _ _ => True) (fun _ U o U' => ∃ v L, o = .returned v ∧ Q_st_initS Z sb bf kb cnt vs str zc h0 n0 v U'.heap L ∧ FrameEnd U o U' L ({ frames := 4, cells := 1, slots := 16, locals := 68 } : Room).cells ({ frames := 4, cells := 1, slots := 16, locals := 68 } : Room).slots) := by
  refine MetFree.of_bodySF (plainFor_of_name pn_82) hisR ?_
  intro p e s m args below meth c s₁ Bd hml0 hP hK
  obtain ⟨rfl, hZ, hh⟩ := hP
  have hx := Bd.exec
  have hby := Bd.bytes
  have hml : c.maxLocals = 2 := hml0
  have hown : s.vm.findClass "java/lang/String" = some m.cls := findClass_of_methodNamed Bd.named
  have hnm := (name_of_methodNamed Bd.named Bd.method).1
  have X0 : Stand p l e ({ frames := 4, cells := 1, slots := 16, locals := 68 } : Room) s m #[(.ref str), (.ref sb)] below meth c s₁ [] 0 0 := Stand.of_body Bd
  have e0 : s₁.heap = h0 := by rw [← hh, Bd.state]; rfl
  have N0 := Fr.nil n0
  have hlk : meth.locks = false := BodyLoose.notSynchronized Bd
  have pre0 : ∀ t, Steps p.tables e below (s₁.setTop (mkF m 0 #[.val (.ref str), .val (.ref sb)] [])) t → Steps p.tables e below (s₁.setTop (entryFrame m #[(.ref str), (.ref sb)] 2)) t := fun t k => castTop (ef_207 m str sb) k
  obtain ⟨_, _, ⟨T1, L1, k1, n1⟩, -, X1, ⟨Lc1, hQ1, l1, y1, z1⟩, st1⟩ := X0.specialBack hx (y := (⟨"java/lang/String", "<init>", "(Ljava/lang/AbstractStringBuilder;Ljava/lang/Void;)V"⟩ : MethodName)) rfl hown (mvT hZ (hw _ (List.mem_of_getElem? (i := 131) rfl))) (mvT hZ (hw _ (List.mem_of_getElem? (i := 132) rfl))) (mvT hZ (hw _ (List.mem_of_getElem? (i := 133) rfl))) (by decide) (backOf (W := 0) (st_initA l Z a0 hw [] sb bf kb cnt vs str zc h0 n0 Z0 X00 SC hzc Esb Fv Fc Fn Vb nb gs gb Est Gv Gc gst n1 n2 hvl hc0 hc3) hZ (hw _ (List.mem_of_getElem? (i := 133) rfl)) (hw _ (List.mem_of_getElem? (i := 36) rfl)) (by decide) (by decide)) (g := (mkF m 3 #[.val (.ref str), .val (.ref sb)] [.null, (.ref sb), (.ref str)])) rfl (by rw [hml]; rfl) (Steps.refl _) (a := str) (argsL := [(.ref sb), .null]) (rest := []) (lenOf pd_361 rfl) rfl (by show 2 * 0 + _ ≤ _; exact Nat.le_of_eq rfl) (hb hby d_jdk_42_method_53_code_3) (fun _ _ => ⟨rfl, e0, (by decide : 0 + 1 ≤ _), (by decide : 0 + 16 ≤ _)⟩)
  dsimp only [Pt.U, Pt.locs, Pt.cells, Pt.slots] at X1 l1 y1 z1 st1 hQ1
  subst l1 y1 z1
  obtain ⟨rfl, N1q, Kc1, QR⟩ := hQ1
  have N1 := Fr.app N0 N1q
  have Z_1 : n0 ≤ T1.heap.size := Nat.le_trans Z0 Kc1.1
  obtain ⟨fs, hr, hrun, hended, hW, hsame⟩ := X1.leave (v := none) (fun _ => rfl) (hlocks := hlk)
  refine ⟨_, _, pre0 _ ?_, hrun, hended, _, _, rfl, ?_, ⟨_, rfl⟩, hW, hsame.mono (by decide) (by decide)⟩
  · show Steps p.tables e below (s₁.setTop (mkF m 0 #[.val (.ref str), .val (.ref sb)] [])) _
    refine XS.aloadN X0.here hx rfl (hb hby d_jdk_42_method_53_code_0) rfl rfl ?_
    show Steps p.tables e below (s₁.setTop (mkF m 1 #[.val (.ref str), .val (.ref sb)] [(.ref str)])) _
    refine XS.aloadN X0.here hx rfl (hb hby d_jdk_42_method_53_code_1) rfl rfl ?_
    show Steps p.tables e below (s₁.setTop (mkF m 2 #[.val (.ref str), .val (.ref sb)] [(.ref sb), (.ref str)])) _
    refine XS.aconstNull X0.here hx rfl (hb hby d_jdk_42_method_53_code_2) ?_
    show Steps p.tables e below (s₁.setTop (mkF m 3 #[.val (.ref str), .val (.ref sb)] [.null, (.ref sb), (.ref str)])) _
    refine st1.trans ?_
    show Steps p.tables e below (T1.setTop (mkF m 6 #[.val (.ref str), .val (.ref sb)] [])) _
    exact X1.returnOut hx Bd.returns (hb hby d_jdk_42_method_53_code_6) hr
  · exact ⟨rfl, N1, Kc1, QR⟩
theorem d_jdk_67_method_42_code_0 : decode jdk_67_method_42_code 0 = .ok (.new 18, 3) := by decide +kernel
theorem d_jdk_67_method_42_code_3 : decode jdk_67_method_42_code 3 = .ok (.dup, 1) := by decide +kernel
theorem d_jdk_67_method_42_code_4 : decode jdk_67_method_42_code 4 = .ok (.aload_n 0, 1) := by decide +kernel
theorem d_jdk_67_method_42_code_5 : decode jdk_67_method_42_code 5 = .ok (.invokespecial 137, 3) := by decide +kernel
theorem pd_367 : parseMethodDescriptor "(Ljava/lang/StringBuilder;)V" = some ⟨[(.object "java/lang/StringBuilder")], none⟩ := by decide +kernel
theorem d_jdk_67_method_42_code_8 : decode jdk_67_method_42_code 8 = .ok (.areturn, 1) := by decide +kernel
def Q_sb_tos (Z : State) (sb bf : Addr) (kb : ClassId) (cnt : Int32) (vs : List Value) (zc : Int32) (h0 : Heap) (n0 : Nat) (v : Option Value) (h : Heap) (L : List Loc) : Prop := v = some (.ref h0.size) ∧ Fr n0 L ∧ Keep h0 h [] ∧ Exa Z h h0.size "java/lang/String" ∧ Fld Z h h0.size "java/lang/String" "coder" "B" (.int (0 : Int32)) ∧ ∃ sv ka bs, Fld Z h h0.size "java/lang/String" "value" "[B" (.ref sv) ∧ Arv Z h sv ka .byte cnt bs (.int 0) ∧ ∀ j, j < cnt.toNatClampNeg → bs.getD j (.int 0) = vs.getD j (.int 0)
set_option maxRecDepth 65536 in
set_option maxHeartbeats 40000000 in
theorem sb_tos (l : Launch) (Z : State) (a0 : Array Value) (hw : ∀ d ∈ tables_1, d.before a0 Z = true) (ws : List Jvm.Cond) (sb bf : Addr) (kb : ClassId) (cnt : Int32) (vs : List Value) (zc : Int32) (h0 : Heap) (n0 : Nat) (Z0 : n0 ≤ h0.size) (X00 : Old Z n0 h0)(SC : Sta Z Z.heap "java/lang/String" "COMPACT_STRINGS" "Z" (.int zc)) (hzc : ¬ zc = 0)(Esb : Exa Z h0 sb "java/lang/StringBuilder") (Fv : Fld Z h0 sb "java/lang/AbstractStringBuilder" "value" "[B" (.ref bf)) (Fc : Fld Z h0 sb "java/lang/AbstractStringBuilder" "coder" "B" (.int (0 : Int32))) (Fn : Fld Z h0 sb "java/lang/AbstractStringBuilder" "count" "I" (.int cnt)) (Vb : Arv Z h0 bf kb .byte (16 : Int32) vs (.int 0)) (nb : sb ≠ bf) (gs : n0 ≤ sb) (gb : n0 ≤ bf)(hvl : vs.length = 16) (hc0 : 0 ≤ cnt.toInt) (hc3 : cnt.toInt < 16) :
    MetFree l (⟨"java/lang/StringBuilder", "toString", "()Ljava/lang/String;"⟩ : MethodName) (head1 (Jvm.Cond.code (⟨"java/lang/StringBuilder", "toString", "()Ljava/lang/String;"⟩ : MethodName) jdk_67_method_42_code 1 (Option.some (Jvm.ClassFile.FieldType.object "java/lang/String")) :: ws) ({ frames := 5, cells := 2, slots := 20, locals := 82 } : Room)) (fun a U => a = #[(.ref sb)] ∧ Z.Warmed39 U.vm ∧ U.heap = h0) (fun _ _ _ _ _ => True) (fun _ U o U' => ∃ v L, o = .returned v ∧ Q_sb_tos Z sb bf kb cnt vs zc h0 n0 v U'.heap L ∧ FrameEnd U o U' L ({ frames := 5, cells := 2, slots := 20, locals := 82 } : Room).cells ({ frames := 5, cells := 2, slots := 20, locals := 82 } : Room).slots) := by
  refine MetFree.of_bodySF (plainFor_of_name pn_21) hisR ?_
  intro p e s m args below meth c s₁ Bd hml0 hP hK
  obtain ⟨rfl, hZ, hh⟩ := hP
  have hx := Bd.exec
  have hby := Bd.bytes
  have hml : c.maxLocals = 1 := hml0
  have hown : s.vm.findClass "java/lang/StringBuilder" = some m.cls := findClass_of_methodNamed Bd.named
  have hnm := (name_of_methodNamed Bd.named Bd.method).1
  have X0 : Stand p l e ({ frames := 5, cells := 2, slots := 20, locals := 82 } : Room) s m #[(.ref sb)] below meth c s₁ [] 0 0 := Stand.of_body Bd
  have e0 : s₁.heap = h0 := by rw [← hh, Bd.state]; rfl
  have N0 := Fr.nil n0
  have hlk : meth.locks = false := BodyLoose.notSynchronized Bd
  have pre0 : ∀ t, Steps p.tables e below (s₁.setTop (mkF m 0 #[.val (.ref sb)] [])) t → Steps p.tables e below (s₁.setTop (entryFrame m #[(.ref sb)] 1)) t := fun t k => castTop (ef_20 m sb) k
  have K0 : Keep h0 h0 [] := Keep.refl h0 _
  obtain ⟨T1, h1, X1, e1, E1, A1, D1, -, st1⟩ := newO X0 hx hZ hown (hw _ (List.mem_of_getElem? (i := 126) rfl)) (hw _ (List.mem_of_getElem? (i := 73) rfl)) (hw _ (List.mem_of_getElem? (i := 36) rfl)) e0 (g := (mkF m 0 #[.val (.ref sb)] [])) rfl (hb hby d_jdk_67_method_42_code_0) (by decide) (by decide)
  obtain ⟨str, gstr⟩ : ∃ z, z = h0.size := ⟨_, rfl⟩
  rw [← gstr] at A1 D1 st1
  have ge_str : n0 ≤ str := by rw [gstr]; exact Z0
  have gk_str : h0.size ≤ str := by rw [gstr]; exact K0.1
  have ne_sb_str : sb ≠ str := by rw [gstr]; exact Nat.ne_of_lt Esb.lt
  have ne_bf_str : bf ≠ str := by rw [gstr]; exact Nat.ne_of_lt Vb.lt
  have K_1 : Keep h0 h1 [] := K0.ext E1
  have Z_1 : n0 ≤ h1.size := Nat.le_trans Z0 E1.1
  have E_2 := (Esb.ext E1)
  have F_3 := (Fv.ext E1)
  have F_4 := (Fc.ext E1)
  have F_5 := (Fn.ext E1)
  have V_6 := (Vb.ext E1)
  have O_7 := (X00.ext E1)
  obtain ⟨_, _, ⟨T2, L2, k2, n2⟩, -, X2, ⟨Lc2, hQ2, l2, y2, z2⟩, st2⟩ := X1.specialBack hx (y := (⟨"java/lang/String", "<init>", "(Ljava/lang/StringBuilder;)V"⟩ : MethodName)) rfl hown (mvT hZ (hw _ (List.mem_of_getElem? (i := 127) rfl))) (mvT hZ (hw _ (List.mem_of_getElem? (i := 128) rfl))) (mvT hZ (hw _ (List.mem_of_getElem? (i := 130) rfl))) (by decide) (backOf (W := 1) (st_initS l Z a0 hw [] sb bf kb cnt vs str zc h1 n0 Z_1 O_7 SC hzc E_2 F_3 F_4 F_5 V_6 nb gs gb A1 (D1 (Or.inr (hw _ (List.mem_of_getElem? (i := 74) rfl))) (ty := (.array .byte)) (by decide)) (D1 (Or.inr (hw _ (List.mem_of_getElem? (i := 75) rfl))) (ty := .byte) (by decide)) ge_str ne_sb_str ne_bf_str hvl hc0 hc3) hZ (hw _ (List.mem_of_getElem? (i := 130) rfl)) (hw _ (List.mem_of_getElem? (i := 36) rfl)) (by decide) (by decide)) (g := (mkF m 5 #[.val (.ref sb)] [(.ref sb), (.ref str), (.ref str)])) rfl (by rw [hml]; rfl) (Steps.refl _) (a := str) (argsL := [(.ref sb)]) (rest := [(.ref str)]) (lenOf pd_367 rfl) rfl (by show 2 * 0 + _ ≤ _; exact Nat.le_of_eq rfl) (hb hby d_jdk_67_method_42_code_5) (fun _ _ => ⟨rfl, e1, (by decide : 1 + 1 ≤ _), (by decide : 4 + 16 ≤ _)⟩)
  dsimp only [Pt.U, Pt.locs, Pt.cells, Pt.slots] at X2 l2 y2 z2 st2 hQ2
  subst l2 y2 z2
  obtain ⟨rfl, N2q, Kc2, QE, QC, QV, ka, bs, QA, QB⟩ := hQ2
  have N2 := Fr.app N0 N2q
  have K_8 : Keep h0 T2.heap [] := K_1.trans Kc2 (allS (Or.inr gk_str) all0)
  have Z_2 : n0 ≤ T2.heap.size := Nat.le_trans Z_1 Kc2.1
  obtain ⟨fs, hr, hrun, hended, hW, hsame⟩ := X2.leave (v := (some (.ref str))) (fun h => by rw [Bd.returns] at h; cases h) (hlocks := hlk)
  refine ⟨_, _, pre0 _ ?_, hrun, hended, _, _, rfl, ?_, ⟨_, rfl⟩, hW, hsame.mono (by decide) (by decide)⟩
  · show Steps p.tables e below (s₁.setTop (mkF m 0 #[.val (.ref sb)] [])) _
    refine st1 _ ?_
    show Steps p.tables e below (T1.setTop (mkF m 3 #[.val (.ref sb)] [(.ref str)])) _
    refine XS.dup X1.here hx rfl (hb hby d_jdk_67_method_42_code_3) rfl rfl ?_
    show Steps p.tables e below (T1.setTop (mkF m 4 #[.val (.ref sb)] [(.ref str), (.ref str)])) _
    refine XS.aloadN X1.here hx rfl (hb hby d_jdk_67_method_42_code_4) rfl rfl ?_
    show Steps p.tables e below (T1.setTop (mkF m 5 #[.val (.ref sb)] [(.ref sb), (.ref str), (.ref str)])) _
    refine st2.trans ?_
    show Steps p.tables e below (T2.setTop (mkF m 8 #[.val (.ref sb)] [(.ref str)])) _
    exact retOut X2 hx Bd.returns rfl (Or.inr (Or.inr (Or.inr (Or.inr ⟨rfl, rfl, rfl⟩)))) (hb hby d_jdk_67_method_42_code_8) hr
  · show Q_sb_tos Z sb bf kb cnt vs zc h0 n0 _ T2.heap _; rw [Q_sb_tos, ← gstr]; exact ⟨rfl, N2, K_8, QE, QC, _, ka, bs, QV, QA, QB⟩
theorem d_prog_15_method_1_code_0 : decode prog_15_method_1_code 0 = .ok (.aload_n 0, 1) := by decide +kernel
theorem d_prog_15_method_1_code_1 : decode prog_15_method_1_code 1 = .ok (.invokespecial 1, 3) := by decide +kernel
theorem d_prog_15_method_1_code_4 : decode prog_15_method_1_code 4 = .ok (.iload_n 1, 1) := by decide +kernel
theorem d_prog_15_method_1_code_5 : decode prog_15_method_1_code 5 = .ok (.bipush 8, 2) := by decide +kernel
theorem d_prog_15_method_1_code_7 : decode prog_15_method_1_code 7 = .ok (.if_icmp .ge 30, 3) := by decide +kernel
theorem d_prog_15_method_1_code_37 : decode prog_15_method_1_code 37 = .ok (.iload_n 2, 1) := by decide +kernel
theorem d_prog_15_method_1_code_38 : decode prog_15_method_1_code 38 = .ok (.ldc 30, 2) := by decide +kernel
theorem d_prog_15_method_1_code_40 : decode prog_15_method_1_code 40 = .ok (.if_icmp .le 30, 3) := by decide +kernel
theorem d_prog_15_method_1_code_70 : decode prog_15_method_1_code 70 = .ok (.iload_n 1, 1) := by decide +kernel
theorem d_prog_15_method_1_code_71 : decode prog_15_method_1_code 71 = .ok (.iload_n 2, 1) := by decide +kernel
theorem d_prog_15_method_1_code_72 : decode prog_15_method_1_code 72 = .ok (.if_icmp .le 44, 3) := by decide +kernel
theorem d_prog_15_method_1_code_116 : decode prog_15_method_1_code 116 = .ok (.aload_n 0, 1) := by decide +kernel
theorem d_prog_15_method_1_code_117 : decode prog_15_method_1_code 117 = .ok (.iload_n 1, 1) := by decide +kernel
theorem d_prog_15_method_1_code_118 : decode prog_15_method_1_code 118 = .ok (.putfield 39, 3) := by decide +kernel
theorem d_prog_15_method_1_code_121 : decode prog_15_method_1_code 121 = .ok (.aload_n 0, 1) := by decide +kernel
theorem d_prog_15_method_1_code_122 : decode prog_15_method_1_code 122 = .ok (.iload_n 2, 1) := by decide +kernel
theorem d_prog_15_method_1_code_123 : decode prog_15_method_1_code 123 = .ok (.putfield 43, 3) := by decide +kernel
theorem d_prog_15_method_1_code_126 : decode prog_15_method_1_code 126 = .ok (.return_, 1) := by decide +kernel
theorem pn_387 : plainName "com/example/head_count/headcount/NodeIdRange" = true := by first | (simp [plainName, overriddenIn]; done) | decide +kernel
def Q_nd_init (Z : State) (nd : Addr) (mn mx : Int32) (h0 : Heap) (n0 : Nat) (v : Option Value) (h : Heap) (L : List Loc) : Prop := v = none ∧ Fr n0 L ∧ Keep h0 h [nd] ∧ Exa Z h nd "com/example/head_count/headcount/NodeIdRange" ∧ Fld Z h nd "com/example/head_count/headcount/NodeIdRange" "minId" "I" (.int mn) ∧ Fld Z h nd "com/example/head_count/headcount/NodeIdRange" "maxId" "I" (.int mx)
set_option maxRecDepth 65536 in
set_option maxHeartbeats 40000000 in
theorem nd_init (l : Launch) (Z : State) (a0 : Array Value) (hw : ∀ d ∈ tables_1, d.before a0 Z = true) (ws : List Jvm.Cond) (nd : Addr) (mn mx : Int32) (h0 : Heap) (n0 : Nat) (Z0 : n0 ≤ h0.size) (End : Exa Z h0 nd "com/example/head_count/headcount/NodeIdRange") (Fm : Fld Z h0 nd "com/example/head_count/headcount/NodeIdRange" "minId" "I" (.int (0 : Int32))) (Fx : Fld Z h0 nd "com/example/head_count/headcount/NodeIdRange" "maxId" "I" (.int (0 : Int32))) (gn : n0 ≤ nd) (hm8 : 8 ≤ mn.toInt) (hmx : mx.toInt < 65536) (hmm : mn.toInt ≤ mx.toInt) :
    MetFree l (⟨"com/example/head_count/headcount/NodeIdRange", "<init>", "(II)V"⟩ : MethodName) (head1 (Jvm.Cond.code (⟨"com/example/head_count/headcount/NodeIdRange", "<init>", "(II)V"⟩ : MethodName) prog_15_method_1_code 3 (Option.none : Option Jvm.ClassFile.FieldType) :: ws) ({ frames := 1, cells := 0, slots := 0, locals := 12 } : Room)) (fun a U => a = #[(.ref nd), (.int mn), (.int mx)] ∧ Z.Warmed39 U.vm ∧ U.heap = h0) (fun _ _ _ _ _ => True) (fun _ U o U' => ∃ v L, o = .returned v ∧ Q_nd_init Z nd mn mx h0 n0 v U'.heap L ∧ FrameEnd U o U' L ({ frames := 1, cells := 0, slots := 0, locals := 12 } : Room).cells ({ frames := 1, cells := 0, slots := 0, locals := 12 } : Room).slots) := by
  refine MetFree.of_bodySF (plainFor_of_name pn_387) hisR ?_
  intro p e s m args below meth c s₁ Bd hml0 hP hK
  obtain ⟨rfl, hZ, hh⟩ := hP
  have hx := Bd.exec
  have hby := Bd.bytes
  have hml : c.maxLocals = 3 := hml0
  have hown : s.vm.findClass "com/example/head_count/headcount/NodeIdRange" = some m.cls := findClass_of_methodNamed Bd.named
  have hnm := (name_of_methodNamed Bd.named Bd.method).1
  have X0 : Stand p l e ({ frames := 1, cells := 0, slots := 0, locals := 12 } : Room) s m #[(.ref nd), (.int mn), (.int mx)] below meth c s₁ [] 0 0 := Stand.of_body Bd
  have e0 : s₁.heap = h0 := by rw [← hh, Bd.state]; rfl
  have N0 := Fr.nil n0
  have hlk : meth.locks = false := BodyLoose.notSynchronized Bd
  have pre0 : ∀ t, Steps p.tables e below (s₁.setTop (mkF m 0 #[.val (.ref nd), .val (.int mn), .val (.int mx)] [])) t → Steps p.tables e below (s₁.setTop (entryFrame m #[(.ref nd), (.int mn), (.int mx)] 3)) t := fun t k => castTop (ef_332 m nd mn mx) k
  have K0 : Keep h0 h0 [nd] := Keep.refl h0 _
  obtain ⟨T1, X1, e1, st1⟩ := initO X0 hx hZ hown (hw _ (List.mem_of_getElem? (i := 9) rfl)) (hw _ (List.mem_of_getElem? (i := 10) rfl)) (hw _ (List.mem_of_getElem? (i := 11) rfl)) e0 (g := (mkF m 1 #[.val (.ref nd), .val (.int mn), .val (.int mx)] [(.ref nd)])) rfl (by rw [hml]; rfl) rfl (hb hby d_prog_15_method_1_code_1) (by decide) (W := 0) (by show 2 * 0 + _ ≤ _; exact Nat.le_of_eq rfl) (by decide)
  obtain ⟨T2, h2, X2, e2, W2, st2⟩ := putF X1 hx hZ hown (host := "") (Or.inl (hw _ (List.mem_of_getElem? (i := 13) rfl))) Via.refl e1 Fm End (Or.inr ⟨(hw _ (List.mem_of_getElem? (i := 14) rfl)), rfl, hnm⟩) (hw _ (List.mem_of_getElem? (i := 4) rfl)) (ty := .int) (by decide) rfl rfl (g := (mkF m 118 #[.val (.ref nd), .val (.int mn), .val (.int mx)] [(.int mn), (.ref nd)])) rfl rfl (hb hby d_prog_15_method_1_code_118)
  have N2 := Fr.snoc X2 N0 gn
  have K_1 : Keep h0 h2 [nd] := K0.wr W2 (Or.inl (by simp))
  have Z_2 : n0 ≤ h2.size := by rw [W2.size]; exact Z0
  have F_2 := (Fx.other W2 (Or.inr (slot_ne (Or.inr (hw _ (List.mem_of_getElem? (i := 16) rfl))) (Or.inr (hw _ (List.mem_of_getElem? (i := 14) rfl))) (by decide) (t := .int) (t' := .int) (by decide) (by decide))))
  have E_3 := (End.wr W2)
  obtain ⟨T3, h3, X3, e3, W3, st3⟩ := putF X2 hx hZ hown (host := "") (Or.inl (hw _ (List.mem_of_getElem? (i := 15) rfl))) Via.refl e2 F_2 E_3 (Or.inr ⟨(hw _ (List.mem_of_getElem? (i := 16) rfl)), rfl, hnm⟩) (hw _ (List.mem_of_getElem? (i := 4) rfl)) (ty := .int) (by decide) rfl rfl (g := (mkF m 123 #[.val (.ref nd), .val (.int mn), .val (.int mx)] [(.int mx), (.ref nd)])) rfl rfl (hb hby d_prog_15_method_1_code_123)
  have N3 := Fr.snoc X3 N2 gn
  have K_4 : Keep h0 h3 [nd] := K_1.wr W3 (Or.inl (by simp))
  have Z_3 : n0 ≤ h3.size := by rw [W3.size]; exact Z_2
  have E_5 := (E_3.wr W3)
  have F_6 := ((Fm.same W2).other W3 (Or.inr (slot_ne (Or.inr (hw _ (List.mem_of_getElem? (i := 14) rfl))) (Or.inr (hw _ (List.mem_of_getElem? (i := 16) rfl))) (by decide) (t := .int) (t' := .int) (by decide) (by decide))))
  obtain ⟨fs, hr, hrun, hended, hW, hsame⟩ := X3.leave (v := none) (fun _ => rfl) (hlocks := hlk)
  refine ⟨_, _, pre0 _ ?_, hrun, hended, _, _, rfl, ?_, ⟨_, rfl⟩, hW, hsame.mono (by decide) (by decide)⟩
  · show Steps p.tables e below (s₁.setTop (mkF m 0 #[.val (.ref nd), .val (.int mn), .val (.int mx)] [])) _
    refine XS.aloadN X0.here hx rfl (hb hby d_prog_15_method_1_code_0) rfl rfl ?_
    show Steps p.tables e below (s₁.setTop (mkF m 1 #[.val (.ref nd), .val (.int mn), .val (.int mx)] [(.ref nd)])) _
    refine st1 _ ?_
    show Steps p.tables e below (T1.setTop (mkF m 4 #[.val (.ref nd), .val (.int mn), .val (.int mx)] [])) _
    refine XS.iloadN X1.here hx rfl (hb hby d_prog_15_method_1_code_4) rfl ?_
    show Steps p.tables e below (T1.setTop (mkF m 5 #[.val (.ref nd), .val (.int mn), .val (.int mx)] [(.int mn)])) _
    refine XT.bipushV X1.here hx rfl (8 : Int32) (hb hby d_prog_15_method_1_code_5) (by decide) ?_
    show Steps p.tables e below (T1.setTop (mkF m 7 #[.val (.ref nd), .val (.int mn), .val (.int mx)] [(.int (8 : Int32)), (.int mn)])) _
    refine XS.icmpYes X1.here hx rfl (pc0 := 7) (pc' := 37) rfl (hb hby d_prog_15_method_1_code_7) rfl (flt (own_le (a := mn) (b := (8 : Int32)) (by rw [own_p8]; omega))).2.1 (by decide) (by decide) ?_
    show Steps p.tables e below (T1.setTop (mkF m 37 #[.val (.ref nd), .val (.int mn), .val (.int mx)] [])) _
    refine XS.iloadN X1.here hx rfl (hb hby d_prog_15_method_1_code_37) rfl ?_
    show Steps p.tables e below (T1.setTop (mkF m 38 #[.val (.ref nd), .val (.int mn), .val (.int mx)] [(.int mx)])) _
    refine X1.ldcI hx hown (mvT hZ (hw _ (List.mem_of_getElem? (i := 12) rfl))) rfl (hb hby d_prog_15_method_1_code_38) ?_
    show Steps p.tables e below (T1.setTop (mkF m 40 #[.val (.ref nd), .val (.int mn), .val (.int mx)] [(.int (65535 : Int32)), (.int mx)])) _
    refine XS.icmpYes X1.here hx rfl (pc0 := 40) (pc' := 70) rfl (hb hby d_prog_15_method_1_code_40) rfl (flt (own_le (a := (65535 : Int32)) (b := mx) (by rw [own_p65535]; omega))).2.2.2 (by decide) (by decide) ?_
    show Steps p.tables e below (T1.setTop (mkF m 70 #[.val (.ref nd), .val (.int mn), .val (.int mx)] [])) _
    refine XS.iloadN X1.here hx rfl (hb hby d_prog_15_method_1_code_70) rfl ?_
    show Steps p.tables e below (T1.setTop (mkF m 71 #[.val (.ref nd), .val (.int mn), .val (.int mx)] [(.int mn)])) _
    refine XS.iloadN X1.here hx rfl (hb hby d_prog_15_method_1_code_71) rfl ?_
    show Steps p.tables e below (T1.setTop (mkF m 72 #[.val (.ref nd), .val (.int mn), .val (.int mx)] [(.int mx), (.int mn)])) _
    refine XS.icmpYes X1.here hx rfl (pc0 := 72) (pc' := 116) rfl (hb hby d_prog_15_method_1_code_72) rfl (flt (own_le (a := mx) (b := mn) hmm)).2.2.2 (by decide) (by decide) ?_
    show Steps p.tables e below (T1.setTop (mkF m 116 #[.val (.ref nd), .val (.int mn), .val (.int mx)] [])) _
    refine XS.aloadN X1.here hx rfl (hb hby d_prog_15_method_1_code_116) rfl rfl ?_
    show Steps p.tables e below (T1.setTop (mkF m 117 #[.val (.ref nd), .val (.int mn), .val (.int mx)] [(.ref nd)])) _
    refine XS.iloadN X1.here hx rfl (hb hby d_prog_15_method_1_code_117) rfl ?_
    show Steps p.tables e below (T1.setTop (mkF m 118 #[.val (.ref nd), .val (.int mn), .val (.int mx)] [(.int mn), (.ref nd)])) _
    refine st2 _ ?_
    show Steps p.tables e below (T2.setTop (mkF m 121 #[.val (.ref nd), .val (.int mn), .val (.int mx)] [])) _
    refine XS.aloadN X2.here hx rfl (hb hby d_prog_15_method_1_code_121) rfl rfl ?_
    show Steps p.tables e below (T2.setTop (mkF m 122 #[.val (.ref nd), .val (.int mn), .val (.int mx)] [(.ref nd)])) _
    refine XS.iloadN X2.here hx rfl (hb hby d_prog_15_method_1_code_122) rfl ?_
    show Steps p.tables e below (T2.setTop (mkF m 123 #[.val (.ref nd), .val (.int mn), .val (.int mx)] [(.int mx), (.ref nd)])) _
    refine st3 _ ?_
    show Steps p.tables e below (T3.setTop (mkF m 126 #[.val (.ref nd), .val (.int mn), .val (.int mx)] [])) _
    exact X3.returnOut hx Bd.returns (hb hby d_prog_15_method_1_code_126) hr
  · show Q_nd_init Z nd mn mx h0 n0 _ T3.heap _; rw [e3]; exact ⟨rfl, N3, K_4, E_5, F_6, (F_2.same W3)⟩
theorem d_method_2_code_0 : decode method_2_code 0 = .ok (.iload_n 0, 1) := by decide +kernel
theorem d_method_2_code_1 : decode method_2_code 1 = .ok (.bipush 10, 2) := by decide +kernel
theorem d_method_2_code_3 : decode method_2_code 3 = .ok (.if_icmp .ge 5, 3) := by decide +kernel
theorem d_method_2_code_6 : decode method_2_code 6 = .ok (.iconst 1, 1) := by decide +kernel
theorem d_method_2_code_7 : decode method_2_code 7 = .ok (.ireturn, 1) := by decide +kernel
theorem ef_393 (m : MethodId) (x0 : Int32) : entryFrame m #[(.int x0)] 1 = mkF m 0 #[.val (.int x0)] [] := by first | (simp [entryFrame, mkF, argsToLocals, Value.category]; done) | rfl
theorem pn_394 : plainName "com/example/head_count/headcount/NodeIdRangeToStringPinLaw" = true := by first | (simp [plainName, overriddenIn]; done) | decide +kernel
def Q_dg_1 (Z : State) (p1 : Int32) (h0 : Heap) (n0 : Nat) (v : Option Value) (h : Heap) (L : List Loc) : Prop := v = some (.int (own_sz p1)) ∧ Fr n0 L ∧ h = h0
set_option maxRecDepth 65536 in
set_option maxHeartbeats 40000000 in
theorem dg_1 (l : Launch) (Z : State) (a0 : Array Value) (hw : ∀ d ∈ tables_1, d.before a0 Z = true) (ws : List Jvm.Cond) (p1 : Int32) (h0 : Heap) (n0 : Nat) (Z0 : n0 ≤ h0.size) (hlo : 0 ≤ p1.toInt) (hhi : p1.toInt < 10) :
    MetFree l (⟨"com/example/head_count/headcount/NodeIdRangeToStringPinLaw", "digits", "(I)I"⟩ : MethodName) (head1 (Jvm.Cond.code (⟨"com/example/head_count/headcount/NodeIdRangeToStringPinLaw", "digits", "(I)I"⟩ : MethodName) method_2_code 1 (Option.some Jvm.ClassFile.FieldType.int) :: ws) ({ frames := 0, cells := 0, slots := 0, locals := 0 } : Room)) (fun a U => a = #[(.int p1)] ∧ Z.Warmed39 U.vm ∧ U.heap = h0) (fun _ _ _ _ _ => True) (fun _ U o U' => ∃ v L, o = .returned v ∧ Q_dg_1 Z p1 h0 n0 v U'.heap L ∧ FrameEnd U o U' L ({ frames := 0, cells := 0, slots := 0, locals := 0 } : Room).cells ({ frames := 0, cells := 0, slots := 0, locals := 0 } : Room).slots) := by
  refine MetFree.of_bodySF (plainFor_of_name pn_394) hisR ?_
  intro p e s m args below meth c s₁ Bd hml0 hP hK
  obtain ⟨rfl, hZ, hh⟩ := hP
  have hx := Bd.exec
  have hby := Bd.bytes
  have hml : c.maxLocals = 1 := hml0
  have hown : s.vm.findClass "com/example/head_count/headcount/NodeIdRangeToStringPinLaw" = some m.cls := findClass_of_methodNamed Bd.named
  have hnm := (name_of_methodNamed Bd.named Bd.method).1
  have X0 : Stand p l e ({ frames := 0, cells := 0, slots := 0, locals := 0 } : Room) s m #[(.int p1)] below meth c s₁ [] 0 0 := Stand.of_body Bd
  have e0 : s₁.heap = h0 := by rw [← hh, Bd.state]; rfl
  have N0 := Fr.nil n0
  have hlk : meth.locks = false := BodyLoose.notSynchronized Bd
  have pre0 : ∀ t, Steps p.tables e below (s₁.setTop (mkF m 0 #[.val (.int p1)] [])) t → Steps p.tables e below (s₁.setTop (entryFrame m #[(.int p1)] 1)) t := fun t k => castTop (ef_393 m p1) k
  have hsz : own_sz p1 = (1 : Int32) := own_szE1 ⟨hlo, hhi⟩
  obtain ⟨fs, hr, hrun, hended, hW, hsame⟩ := X0.leave (v := (some (.int (1 : Int32)))) (fun h => by rw [Bd.returns] at h; cases h) (hlocks := hlk)
  refine ⟨_, _, pre0 _ ?_, hrun, hended, _, _, rfl, ?_, ⟨_, rfl⟩, hW, hsame.mono (by decide) (by decide)⟩
  · show Steps p.tables e below (s₁.setTop (mkF m 0 #[.val (.int p1)] [])) _
    refine XS.iloadN X0.here hx rfl (hb hby d_method_2_code_0) rfl ?_
    show Steps p.tables e below (s₁.setTop (mkF m 1 #[.val (.int p1)] [(.int p1)])) _
    refine XT.bipushV X0.here hx rfl (10 : Int32) (hb hby d_method_2_code_1) (by decide) ?_
    show Steps p.tables e below (s₁.setTop (mkF m 3 #[.val (.int p1)] [(.int (10 : Int32)), (.int p1)])) _
    refine XS.icmpNo X0.here hx rfl (hb hby d_method_2_code_3) rfl (tlt (own_lt (a := p1) (b := (10 : Int32)) (by rw [own_p10]; omega))).2.1 ?_
    show Steps p.tables e below (s₁.setTop (mkF m 6 #[.val (.int p1)] [])) _
    refine XT.iconstV X0.here hx rfl (1 : Int32) (hb hby d_method_2_code_6) (by decide) ?_
    show Steps p.tables e below (s₁.setTop (mkF m 7 #[.val (.int p1)] [(.int (1 : Int32))])) _
    exact retI X0 hx Bd.returns (hb hby d_method_2_code_7) hr
  · exact ⟨by rw [hsz], N0, e0⟩
theorem d_method_2_code_8 : decode method_2_code 8 = .ok (.iload_n 0, 1) := by decide +kernel
theorem d_method_2_code_9 : decode method_2_code 9 = .ok (.bipush 100, 2) := by decide +kernel
theorem d_method_2_code_11 : decode method_2_code 11 = .ok (.if_icmp .ge 5, 3) := by decide +kernel
theorem d_method_2_code_14 : decode method_2_code 14 = .ok (.iconst 2, 1) := by decide +kernel
theorem d_method_2_code_15 : decode method_2_code 15 = .ok (.ireturn, 1) := by decide +kernel
def Q_dg_2 (Z : State) (p1 : Int32) (h0 : Heap) (n0 : Nat) (v : Option Value) (h : Heap) (L : List Loc) : Prop := v = some (.int (own_sz p1)) ∧ Fr n0 L ∧ h = h0
set_option maxRecDepth 65536 in
set_option maxHeartbeats 40000000 in
theorem dg_2 (l : Launch) (Z : State) (a0 : Array Value) (hw : ∀ d ∈ tables_1, d.before a0 Z = true) (ws : List Jvm.Cond) (p1 : Int32) (h0 : Heap) (n0 : Nat) (Z0 : n0 ≤ h0.size) (hlo : 10 ≤ p1.toInt) (hhi : p1.toInt < 100) :
    MetFree l (⟨"com/example/head_count/headcount/NodeIdRangeToStringPinLaw", "digits", "(I)I"⟩ : MethodName) (head1 (Jvm.Cond.code (⟨"com/example/head_count/headcount/NodeIdRangeToStringPinLaw", "digits", "(I)I"⟩ : MethodName) method_2_code 1 (Option.some Jvm.ClassFile.FieldType.int) :: ws) ({ frames := 0, cells := 0, slots := 0, locals := 0 } : Room)) (fun a U => a = #[(.int p1)] ∧ Z.Warmed39 U.vm ∧ U.heap = h0) (fun _ _ _ _ _ => True) (fun _ U o U' => ∃ v L, o = .returned v ∧ Q_dg_2 Z p1 h0 n0 v U'.heap L ∧ FrameEnd U o U' L ({ frames := 0, cells := 0, slots := 0, locals := 0 } : Room).cells ({ frames := 0, cells := 0, slots := 0, locals := 0 } : Room).slots) := by
  refine MetFree.of_bodySF (plainFor_of_name pn_394) hisR ?_
  intro p e s m args below meth c s₁ Bd hml0 hP hK
  obtain ⟨rfl, hZ, hh⟩ := hP
  have hx := Bd.exec
  have hby := Bd.bytes
  have hml : c.maxLocals = 1 := hml0
  have hown : s.vm.findClass "com/example/head_count/headcount/NodeIdRangeToStringPinLaw" = some m.cls := findClass_of_methodNamed Bd.named
  have hnm := (name_of_methodNamed Bd.named Bd.method).1
  have X0 : Stand p l e ({ frames := 0, cells := 0, slots := 0, locals := 0 } : Room) s m #[(.int p1)] below meth c s₁ [] 0 0 := Stand.of_body Bd
  have e0 : s₁.heap = h0 := by rw [← hh, Bd.state]; rfl
  have N0 := Fr.nil n0
  have hlk : meth.locks = false := BodyLoose.notSynchronized Bd
  have pre0 : ∀ t, Steps p.tables e below (s₁.setTop (mkF m 0 #[.val (.int p1)] [])) t → Steps p.tables e below (s₁.setTop (entryFrame m #[(.int p1)] 1)) t := fun t k => castTop (ef_393 m p1) k
  have hsz : own_sz p1 = (2 : Int32) := own_szE2 ⟨hlo, hhi⟩
  obtain ⟨fs, hr, hrun, hended, hW, hsame⟩ := X0.leave (v := (some (.int (2 : Int32)))) (fun h => by rw [Bd.returns] at h; cases h) (hlocks := hlk)
  refine ⟨_, _, pre0 _ ?_, hrun, hended, _, _, rfl, ?_, ⟨_, rfl⟩, hW, hsame.mono (by decide) (by decide)⟩
  · show Steps p.tables e below (s₁.setTop (mkF m 0 #[.val (.int p1)] [])) _
    refine XS.iloadN X0.here hx rfl (hb hby d_method_2_code_0) rfl ?_
    show Steps p.tables e below (s₁.setTop (mkF m 1 #[.val (.int p1)] [(.int p1)])) _
    refine XT.bipushV X0.here hx rfl (10 : Int32) (hb hby d_method_2_code_1) (by decide) ?_
    show Steps p.tables e below (s₁.setTop (mkF m 3 #[.val (.int p1)] [(.int (10 : Int32)), (.int p1)])) _
    refine XS.icmpYes X0.here hx rfl (pc0 := 3) (pc' := 8) rfl (hb hby d_method_2_code_3) rfl (flt (own_le (a := p1) (b := (10 : Int32)) (by rw [own_p10]; omega))).2.1 (by decide) (by decide) ?_
    show Steps p.tables e below (s₁.setTop (mkF m 8 #[.val (.int p1)] [])) _
    refine XS.iloadN X0.here hx rfl (hb hby d_method_2_code_8) rfl ?_
    show Steps p.tables e below (s₁.setTop (mkF m 9 #[.val (.int p1)] [(.int p1)])) _
    refine XT.bipushV X0.here hx rfl (100 : Int32) (hb hby d_method_2_code_9) (by decide) ?_
    show Steps p.tables e below (s₁.setTop (mkF m 11 #[.val (.int p1)] [(.int (100 : Int32)), (.int p1)])) _
    refine XS.icmpNo X0.here hx rfl (hb hby d_method_2_code_11) rfl (tlt (own_lt (a := p1) (b := (100 : Int32)) (by rw [own_p100]; omega))).2.1 ?_
    show Steps p.tables e below (s₁.setTop (mkF m 14 #[.val (.int p1)] [])) _
    refine XT.iconstV X0.here hx rfl (2 : Int32) (hb hby d_method_2_code_14) (by decide) ?_
    show Steps p.tables e below (s₁.setTop (mkF m 15 #[.val (.int p1)] [(.int (2 : Int32))])) _
    exact retI X0 hx Bd.returns (hb hby d_method_2_code_15) hr
  · exact ⟨by rw [hsz], N0, e0⟩
theorem d_method_2_code_16 : decode method_2_code 16 = .ok (.iload_n 0, 1) := by decide +kernel
theorem d_method_2_code_17 : decode method_2_code 17 = .ok (.sipush 1000, 3) := by decide +kernel
theorem d_method_2_code_20 : decode method_2_code 20 = .ok (.if_icmp .ge 5, 3) := by decide +kernel
theorem d_method_2_code_23 : decode method_2_code 23 = .ok (.iconst 3, 1) := by decide +kernel
theorem d_method_2_code_24 : decode method_2_code 24 = .ok (.ireturn, 1) := by decide +kernel
def Q_dg_3 (Z : State) (p1 : Int32) (h0 : Heap) (n0 : Nat) (v : Option Value) (h : Heap) (L : List Loc) : Prop := v = some (.int (own_sz p1)) ∧ Fr n0 L ∧ h = h0
set_option maxRecDepth 65536 in
set_option maxHeartbeats 40000000 in
theorem dg_3 (l : Launch) (Z : State) (a0 : Array Value) (hw : ∀ d ∈ tables_1, d.before a0 Z = true) (ws : List Jvm.Cond) (p1 : Int32) (h0 : Heap) (n0 : Nat) (Z0 : n0 ≤ h0.size) (hlo : 100 ≤ p1.toInt) (hhi : p1.toInt < 1000) :
    MetFree l (⟨"com/example/head_count/headcount/NodeIdRangeToStringPinLaw", "digits", "(I)I"⟩ : MethodName) (head1 (Jvm.Cond.code (⟨"com/example/head_count/headcount/NodeIdRangeToStringPinLaw", "digits", "(I)I"⟩ : MethodName) method_2_code 1 (Option.some Jvm.ClassFile.FieldType.int) :: ws) ({ frames := 0, cells := 0, slots := 0, locals := 0 } : Room)) (fun a U => a = #[(.int p1)] ∧ Z.Warmed39 U.vm ∧ U.heap = h0) (fun _ _ _ _ _ => True) (fun _ U o U' => ∃ v L, o = .returned v ∧ Q_dg_3 Z p1 h0 n0 v U'.heap L ∧ FrameEnd U o U' L ({ frames := 0, cells := 0, slots := 0, locals := 0 } : Room).cells ({ frames := 0, cells := 0, slots := 0, locals := 0 } : Room).slots) := by
  refine MetFree.of_bodySF (plainFor_of_name pn_394) hisR ?_
  intro p e s m args below meth c s₁ Bd hml0 hP hK
  obtain ⟨rfl, hZ, hh⟩ := hP
  have hx := Bd.exec
  have hby := Bd.bytes
  have hml : c.maxLocals = 1 := hml0
  have hown : s.vm.findClass "com/example/head_count/headcount/NodeIdRangeToStringPinLaw" = some m.cls := findClass_of_methodNamed Bd.named
  have hnm := (name_of_methodNamed Bd.named Bd.method).1
  have X0 : Stand p l e ({ frames := 0, cells := 0, slots := 0, locals := 0 } : Room) s m #[(.int p1)] below meth c s₁ [] 0 0 := Stand.of_body Bd
  have e0 : s₁.heap = h0 := by rw [← hh, Bd.state]; rfl
  have N0 := Fr.nil n0
  have hlk : meth.locks = false := BodyLoose.notSynchronized Bd
  have pre0 : ∀ t, Steps p.tables e below (s₁.setTop (mkF m 0 #[.val (.int p1)] [])) t → Steps p.tables e below (s₁.setTop (entryFrame m #[(.int p1)] 1)) t := fun t k => castTop (ef_393 m p1) k
  have hsz : own_sz p1 = (3 : Int32) := own_szE3 ⟨hlo, hhi⟩
  obtain ⟨fs, hr, hrun, hended, hW, hsame⟩ := X0.leave (v := (some (.int (3 : Int32)))) (fun h => by rw [Bd.returns] at h; cases h) (hlocks := hlk)
  refine ⟨_, _, pre0 _ ?_, hrun, hended, _, _, rfl, ?_, ⟨_, rfl⟩, hW, hsame.mono (by decide) (by decide)⟩
  · show Steps p.tables e below (s₁.setTop (mkF m 0 #[.val (.int p1)] [])) _
    refine XS.iloadN X0.here hx rfl (hb hby d_method_2_code_0) rfl ?_
    show Steps p.tables e below (s₁.setTop (mkF m 1 #[.val (.int p1)] [(.int p1)])) _
    refine XT.bipushV X0.here hx rfl (10 : Int32) (hb hby d_method_2_code_1) (by decide) ?_
    show Steps p.tables e below (s₁.setTop (mkF m 3 #[.val (.int p1)] [(.int (10 : Int32)), (.int p1)])) _
    refine XS.icmpYes X0.here hx rfl (pc0 := 3) (pc' := 8) rfl (hb hby d_method_2_code_3) rfl (flt (own_le (a := p1) (b := (10 : Int32)) (by rw [own_p10]; omega))).2.1 (by decide) (by decide) ?_
    show Steps p.tables e below (s₁.setTop (mkF m 8 #[.val (.int p1)] [])) _
    refine XS.iloadN X0.here hx rfl (hb hby d_method_2_code_8) rfl ?_
    show Steps p.tables e below (s₁.setTop (mkF m 9 #[.val (.int p1)] [(.int p1)])) _
    refine XT.bipushV X0.here hx rfl (100 : Int32) (hb hby d_method_2_code_9) (by decide) ?_
    show Steps p.tables e below (s₁.setTop (mkF m 11 #[.val (.int p1)] [(.int (100 : Int32)), (.int p1)])) _
    refine XS.icmpYes X0.here hx rfl (pc0 := 11) (pc' := 16) rfl (hb hby d_method_2_code_11) rfl (flt (own_le (a := p1) (b := (100 : Int32)) (by rw [own_p100]; omega))).2.1 (by decide) (by decide) ?_
    show Steps p.tables e below (s₁.setTop (mkF m 16 #[.val (.int p1)] [])) _
    refine XS.iloadN X0.here hx rfl (hb hby d_method_2_code_16) rfl ?_
    show Steps p.tables e below (s₁.setTop (mkF m 17 #[.val (.int p1)] [(.int p1)])) _
    refine XT.sipushV X0.here hx rfl (1000 : Int32) (hb hby d_method_2_code_17) (by decide) ?_
    show Steps p.tables e below (s₁.setTop (mkF m 20 #[.val (.int p1)] [(.int (1000 : Int32)), (.int p1)])) _
    refine XS.icmpNo X0.here hx rfl (hb hby d_method_2_code_20) rfl (tlt (own_lt (a := p1) (b := (1000 : Int32)) (by rw [own_p1000]; omega))).2.1 ?_
    show Steps p.tables e below (s₁.setTop (mkF m 23 #[.val (.int p1)] [])) _
    refine XT.iconstV X0.here hx rfl (3 : Int32) (hb hby d_method_2_code_23) (by decide) ?_
    show Steps p.tables e below (s₁.setTop (mkF m 24 #[.val (.int p1)] [(.int (3 : Int32))])) _
    exact retI X0 hx Bd.returns (hb hby d_method_2_code_24) hr
  · exact ⟨by rw [hsz], N0, e0⟩
theorem d_method_2_code_25 : decode method_2_code 25 = .ok (.iload_n 0, 1) := by decide +kernel
theorem d_method_2_code_26 : decode method_2_code 26 = .ok (.sipush 10000, 3) := by decide +kernel
theorem d_method_2_code_29 : decode method_2_code 29 = .ok (.if_icmp .ge 5, 3) := by decide +kernel
theorem d_method_2_code_32 : decode method_2_code 32 = .ok (.iconst 4, 1) := by decide +kernel
theorem d_method_2_code_33 : decode method_2_code 33 = .ok (.ireturn, 1) := by decide +kernel
def Q_dg_4 (Z : State) (p1 : Int32) (h0 : Heap) (n0 : Nat) (v : Option Value) (h : Heap) (L : List Loc) : Prop := v = some (.int (own_sz p1)) ∧ Fr n0 L ∧ h = h0
set_option maxRecDepth 65536 in
set_option maxHeartbeats 40000000 in
theorem dg_4 (l : Launch) (Z : State) (a0 : Array Value) (hw : ∀ d ∈ tables_1, d.before a0 Z = true) (ws : List Jvm.Cond) (p1 : Int32) (h0 : Heap) (n0 : Nat) (Z0 : n0 ≤ h0.size) (hlo : 1000 ≤ p1.toInt) (hhi : p1.toInt < 10000) :
    MetFree l (⟨"com/example/head_count/headcount/NodeIdRangeToStringPinLaw", "digits", "(I)I"⟩ : MethodName) (head1 (Jvm.Cond.code (⟨"com/example/head_count/headcount/NodeIdRangeToStringPinLaw", "digits", "(I)I"⟩ : MethodName) method_2_code 1 (Option.some Jvm.ClassFile.FieldType.int) :: ws) ({ frames := 0, cells := 0, slots := 0, locals := 0 } : Room)) (fun a U => a = #[(.int p1)] ∧ Z.Warmed39 U.vm ∧ U.heap = h0) (fun _ _ _ _ _ => True) (fun _ U o U' => ∃ v L, o = .returned v ∧ Q_dg_4 Z p1 h0 n0 v U'.heap L ∧ FrameEnd U o U' L ({ frames := 0, cells := 0, slots := 0, locals := 0 } : Room).cells ({ frames := 0, cells := 0, slots := 0, locals := 0 } : Room).slots) := by
  refine MetFree.of_bodySF (plainFor_of_name pn_394) hisR ?_
  intro p e s m args below meth c s₁ Bd hml0 hP hK
  obtain ⟨rfl, hZ, hh⟩ := hP
  have hx := Bd.exec
  have hby := Bd.bytes
  have hml : c.maxLocals = 1 := hml0
  have hown : s.vm.findClass "com/example/head_count/headcount/NodeIdRangeToStringPinLaw" = some m.cls := findClass_of_methodNamed Bd.named
  have hnm := (name_of_methodNamed Bd.named Bd.method).1
  have X0 : Stand p l e ({ frames := 0, cells := 0, slots := 0, locals := 0 } : Room) s m #[(.int p1)] below meth c s₁ [] 0 0 := Stand.of_body Bd
  have e0 : s₁.heap = h0 := by rw [← hh, Bd.state]; rfl
  have N0 := Fr.nil n0
  have hlk : meth.locks = false := BodyLoose.notSynchronized Bd
  have pre0 : ∀ t, Steps p.tables e below (s₁.setTop (mkF m 0 #[.val (.int p1)] [])) t → Steps p.tables e below (s₁.setTop (entryFrame m #[(.int p1)] 1)) t := fun t k => castTop (ef_393 m p1) k
  have hsz : own_sz p1 = (4 : Int32) := own_szE4 ⟨hlo, hhi⟩
  obtain ⟨fs, hr, hrun, hended, hW, hsame⟩ := X0.leave (v := (some (.int (4 : Int32)))) (fun h => by rw [Bd.returns] at h; cases h) (hlocks := hlk)
  refine ⟨_, _, pre0 _ ?_, hrun, hended, _, _, rfl, ?_, ⟨_, rfl⟩, hW, hsame.mono (by decide) (by decide)⟩
  · show Steps p.tables e below (s₁.setTop (mkF m 0 #[.val (.int p1)] [])) _
    refine XS.iloadN X0.here hx rfl (hb hby d_method_2_code_0) rfl ?_
    show Steps p.tables e below (s₁.setTop (mkF m 1 #[.val (.int p1)] [(.int p1)])) _
    refine XT.bipushV X0.here hx rfl (10 : Int32) (hb hby d_method_2_code_1) (by decide) ?_
    show Steps p.tables e below (s₁.setTop (mkF m 3 #[.val (.int p1)] [(.int (10 : Int32)), (.int p1)])) _
    refine XS.icmpYes X0.here hx rfl (pc0 := 3) (pc' := 8) rfl (hb hby d_method_2_code_3) rfl (flt (own_le (a := p1) (b := (10 : Int32)) (by rw [own_p10]; omega))).2.1 (by decide) (by decide) ?_
    show Steps p.tables e below (s₁.setTop (mkF m 8 #[.val (.int p1)] [])) _
    refine XS.iloadN X0.here hx rfl (hb hby d_method_2_code_8) rfl ?_
    show Steps p.tables e below (s₁.setTop (mkF m 9 #[.val (.int p1)] [(.int p1)])) _
    refine XT.bipushV X0.here hx rfl (100 : Int32) (hb hby d_method_2_code_9) (by decide) ?_
    show Steps p.tables e below (s₁.setTop (mkF m 11 #[.val (.int p1)] [(.int (100 : Int32)), (.int p1)])) _
    refine XS.icmpYes X0.here hx rfl (pc0 := 11) (pc' := 16) rfl (hb hby d_method_2_code_11) rfl (flt (own_le (a := p1) (b := (100 : Int32)) (by rw [own_p100]; omega))).2.1 (by decide) (by decide) ?_
    show Steps p.tables e below (s₁.setTop (mkF m 16 #[.val (.int p1)] [])) _
    refine XS.iloadN X0.here hx rfl (hb hby d_method_2_code_16) rfl ?_
    show Steps p.tables e below (s₁.setTop (mkF m 17 #[.val (.int p1)] [(.int p1)])) _
    refine XT.sipushV X0.here hx rfl (1000 : Int32) (hb hby d_method_2_code_17) (by decide) ?_
    show Steps p.tables e below (s₁.setTop (mkF m 20 #[.val (.int p1)] [(.int (1000 : Int32)), (.int p1)])) _
    refine XS.icmpYes X0.here hx rfl (pc0 := 20) (pc' := 25) rfl (hb hby d_method_2_code_20) rfl (flt (own_le (a := p1) (b := (1000 : Int32)) (by rw [own_p1000]; omega))).2.1 (by decide) (by decide) ?_
    show Steps p.tables e below (s₁.setTop (mkF m 25 #[.val (.int p1)] [])) _
    refine XS.iloadN X0.here hx rfl (hb hby d_method_2_code_25) rfl ?_
    show Steps p.tables e below (s₁.setTop (mkF m 26 #[.val (.int p1)] [(.int p1)])) _
    refine XT.sipushV X0.here hx rfl (10000 : Int32) (hb hby d_method_2_code_26) (by decide) ?_
    show Steps p.tables e below (s₁.setTop (mkF m 29 #[.val (.int p1)] [(.int (10000 : Int32)), (.int p1)])) _
    refine XS.icmpNo X0.here hx rfl (hb hby d_method_2_code_29) rfl (tlt (own_lt (a := p1) (b := (10000 : Int32)) (by rw [own_p10000]; omega))).2.1 ?_
    show Steps p.tables e below (s₁.setTop (mkF m 32 #[.val (.int p1)] [])) _
    refine XT.iconstV X0.here hx rfl (4 : Int32) (hb hby d_method_2_code_32) (by decide) ?_
    show Steps p.tables e below (s₁.setTop (mkF m 33 #[.val (.int p1)] [(.int (4 : Int32))])) _
    exact retI X0 hx Bd.returns (hb hby d_method_2_code_33) hr
  · exact ⟨by rw [hsz], N0, e0⟩
theorem d_method_2_code_34 : decode method_2_code 34 = .ok (.iconst 5, 1) := by decide +kernel
theorem d_method_2_code_35 : decode method_2_code 35 = .ok (.ireturn, 1) := by decide +kernel
def Q_dg_5 (Z : State) (p1 : Int32) (h0 : Heap) (n0 : Nat) (v : Option Value) (h : Heap) (L : List Loc) : Prop := v = some (.int (own_sz p1)) ∧ Fr n0 L ∧ h = h0
set_option maxRecDepth 65536 in
set_option maxHeartbeats 40000000 in
theorem dg_5 (l : Launch) (Z : State) (a0 : Array Value) (hw : ∀ d ∈ tables_1, d.before a0 Z = true) (ws : List Jvm.Cond) (p1 : Int32) (h0 : Heap) (n0 : Nat) (Z0 : n0 ≤ h0.size) (hlo : 10000 ≤ p1.toInt) (hhi : p1.toInt < 65536) :
    MetFree l (⟨"com/example/head_count/headcount/NodeIdRangeToStringPinLaw", "digits", "(I)I"⟩ : MethodName) (head1 (Jvm.Cond.code (⟨"com/example/head_count/headcount/NodeIdRangeToStringPinLaw", "digits", "(I)I"⟩ : MethodName) method_2_code 1 (Option.some Jvm.ClassFile.FieldType.int) :: ws) ({ frames := 0, cells := 0, slots := 0, locals := 0 } : Room)) (fun a U => a = #[(.int p1)] ∧ Z.Warmed39 U.vm ∧ U.heap = h0) (fun _ _ _ _ _ => True) (fun _ U o U' => ∃ v L, o = .returned v ∧ Q_dg_5 Z p1 h0 n0 v U'.heap L ∧ FrameEnd U o U' L ({ frames := 0, cells := 0, slots := 0, locals := 0 } : Room).cells ({ frames := 0, cells := 0, slots := 0, locals := 0 } : Room).slots) := by
  refine MetFree.of_bodySF (plainFor_of_name pn_394) hisR ?_
  intro p e s m args below meth c s₁ Bd hml0 hP hK
  obtain ⟨rfl, hZ, hh⟩ := hP
  have hx := Bd.exec
  have hby := Bd.bytes
  have hml : c.maxLocals = 1 := hml0
  have hown : s.vm.findClass "com/example/head_count/headcount/NodeIdRangeToStringPinLaw" = some m.cls := findClass_of_methodNamed Bd.named
  have hnm := (name_of_methodNamed Bd.named Bd.method).1
  have X0 : Stand p l e ({ frames := 0, cells := 0, slots := 0, locals := 0 } : Room) s m #[(.int p1)] below meth c s₁ [] 0 0 := Stand.of_body Bd
  have e0 : s₁.heap = h0 := by rw [← hh, Bd.state]; rfl
  have N0 := Fr.nil n0
  have hlk : meth.locks = false := BodyLoose.notSynchronized Bd
  have pre0 : ∀ t, Steps p.tables e below (s₁.setTop (mkF m 0 #[.val (.int p1)] [])) t → Steps p.tables e below (s₁.setTop (entryFrame m #[(.int p1)] 1)) t := fun t k => castTop (ef_393 m p1) k
  have hsz : own_sz p1 = (5 : Int32) := own_szE5 ⟨hlo, hhi⟩
  obtain ⟨fs, hr, hrun, hended, hW, hsame⟩ := X0.leave (v := (some (.int (5 : Int32)))) (fun h => by rw [Bd.returns] at h; cases h) (hlocks := hlk)
  refine ⟨_, _, pre0 _ ?_, hrun, hended, _, _, rfl, ?_, ⟨_, rfl⟩, hW, hsame.mono (by decide) (by decide)⟩
  · show Steps p.tables e below (s₁.setTop (mkF m 0 #[.val (.int p1)] [])) _
    refine XS.iloadN X0.here hx rfl (hb hby d_method_2_code_0) rfl ?_
    show Steps p.tables e below (s₁.setTop (mkF m 1 #[.val (.int p1)] [(.int p1)])) _
    refine XT.bipushV X0.here hx rfl (10 : Int32) (hb hby d_method_2_code_1) (by decide) ?_
    show Steps p.tables e below (s₁.setTop (mkF m 3 #[.val (.int p1)] [(.int (10 : Int32)), (.int p1)])) _
    refine XS.icmpYes X0.here hx rfl (pc0 := 3) (pc' := 8) rfl (hb hby d_method_2_code_3) rfl (flt (own_le (a := p1) (b := (10 : Int32)) (by rw [own_p10]; omega))).2.1 (by decide) (by decide) ?_
    show Steps p.tables e below (s₁.setTop (mkF m 8 #[.val (.int p1)] [])) _
    refine XS.iloadN X0.here hx rfl (hb hby d_method_2_code_8) rfl ?_
    show Steps p.tables e below (s₁.setTop (mkF m 9 #[.val (.int p1)] [(.int p1)])) _
    refine XT.bipushV X0.here hx rfl (100 : Int32) (hb hby d_method_2_code_9) (by decide) ?_
    show Steps p.tables e below (s₁.setTop (mkF m 11 #[.val (.int p1)] [(.int (100 : Int32)), (.int p1)])) _
    refine XS.icmpYes X0.here hx rfl (pc0 := 11) (pc' := 16) rfl (hb hby d_method_2_code_11) rfl (flt (own_le (a := p1) (b := (100 : Int32)) (by rw [own_p100]; omega))).2.1 (by decide) (by decide) ?_
    show Steps p.tables e below (s₁.setTop (mkF m 16 #[.val (.int p1)] [])) _
    refine XS.iloadN X0.here hx rfl (hb hby d_method_2_code_16) rfl ?_
    show Steps p.tables e below (s₁.setTop (mkF m 17 #[.val (.int p1)] [(.int p1)])) _
    refine XT.sipushV X0.here hx rfl (1000 : Int32) (hb hby d_method_2_code_17) (by decide) ?_
    show Steps p.tables e below (s₁.setTop (mkF m 20 #[.val (.int p1)] [(.int (1000 : Int32)), (.int p1)])) _
    refine XS.icmpYes X0.here hx rfl (pc0 := 20) (pc' := 25) rfl (hb hby d_method_2_code_20) rfl (flt (own_le (a := p1) (b := (1000 : Int32)) (by rw [own_p1000]; omega))).2.1 (by decide) (by decide) ?_
    show Steps p.tables e below (s₁.setTop (mkF m 25 #[.val (.int p1)] [])) _
    refine XS.iloadN X0.here hx rfl (hb hby d_method_2_code_25) rfl ?_
    show Steps p.tables e below (s₁.setTop (mkF m 26 #[.val (.int p1)] [(.int p1)])) _
    refine XT.sipushV X0.here hx rfl (10000 : Int32) (hb hby d_method_2_code_26) (by decide) ?_
    show Steps p.tables e below (s₁.setTop (mkF m 29 #[.val (.int p1)] [(.int (10000 : Int32)), (.int p1)])) _
    refine XS.icmpYes X0.here hx rfl (pc0 := 29) (pc' := 34) rfl (hb hby d_method_2_code_29) rfl (flt (own_le (a := p1) (b := (10000 : Int32)) (by rw [own_p10000]; omega))).2.1 (by decide) (by decide) ?_
    show Steps p.tables e below (s₁.setTop (mkF m 34 #[.val (.int p1)] [])) _
    refine XT.iconstV X0.here hx rfl (5 : Int32) (hb hby d_method_2_code_34) (by decide) ?_
    show Steps p.tables e below (s₁.setTop (mkF m 35 #[.val (.int p1)] [(.int (5 : Int32))])) _
    exact retI X0 hx Bd.returns (hb hby d_method_2_code_35) hr
  · exact ⟨by rw [hsz], N0, e0⟩
def Q_dg (Z : State) (p1 : Int32) (h0 : Heap) (n0 : Nat) (v : Option Value) (h : Heap) (L : List Loc) : Prop := v = some (.int (own_sz p1)) ∧ Fr n0 L ∧ h = h0
theorem dg (l : Launch) (Z : State) (a0 : Array Value) (hw : ∀ d ∈ tables_1, d.before a0 Z = true) (ws : List Jvm.Cond) (p1 : Int32) (h0 : Heap) (n0 : Nat) (Z0 : n0 ≤ h0.size) (hlo : 0 ≤ p1.toInt) (hhi : p1.toInt < 65536) :
    MetFree l (⟨"com/example/head_count/headcount/NodeIdRangeToStringPinLaw", "digits", "(I)I"⟩ : MethodName) (head1 (Jvm.Cond.code (⟨"com/example/head_count/headcount/NodeIdRangeToStringPinLaw", "digits", "(I)I"⟩ : MethodName) method_2_code 1 (Option.some Jvm.ClassFile.FieldType.int) :: ws) ({ frames := 0, cells := 0, slots := 0, locals := 0 } : Room)) (fun a U => a = #[(.int p1)] ∧ Z.Warmed39 U.vm ∧ U.heap = h0) (fun _ _ _ _ _ => True) (fun _ U o U' => ∃ v L, o = .returned v ∧ Q_dg Z p1 h0 n0 v U'.heap L ∧ FrameEnd U o U' L ({ frames := 0, cells := 0, slots := 0, locals := 0 } : Room).cells ({ frames := 0, cells := 0, slots := 0, locals := 0 } : Room).slots) := by
  rcases own_rng p1 hlo hhi with q | q | q | q | q
  · exact dg_1 l Z a0 hw ws p1 h0 n0 Z0 q.1 q.2
  · exact dg_2 l Z a0 hw ws p1 h0 n0 Z0 q.1 q.2
  · exact dg_3 l Z a0 hw ws p1 h0 n0 Z0 q.1 q.2
  · exact dg_4 l Z a0 hw ws p1 h0 n0 Z0 q.1 q.2
  · exact dg_5 l Z a0 hw ws p1 h0 n0 Z0 q.1 q.2
theorem d_jdk_41_method_11_code_0 : decode jdk_41_method_11_code 0 = .ok (.iload_n 0, 1) := by decide +kernel
theorem d_jdk_41_method_11_code_1 : decode jdk_41_method_11_code 1 = .ok (.ifCond .lt 8, 3) := by decide +kernel
theorem d_jdk_41_method_11_code_4 : decode jdk_41_method_11_code 4 = .ok (.iload_n 0, 1) := by decide +kernel
theorem d_jdk_41_method_11_code_5 : decode jdk_41_method_11_code 5 = .ok (.iload_n 1, 1) := by decide +kernel
theorem d_jdk_41_method_11_code_6 : decode jdk_41_method_11_code 6 = .ok (.if_icmp .lt 10, 3) := by decide +kernel
theorem d_jdk_41_method_11_code_16 : decode jdk_41_method_11_code 16 = .ok (.iload_n 0, 1) := by decide +kernel
theorem d_jdk_41_method_11_code_17 : decode jdk_41_method_11_code 17 = .ok (.ireturn, 1) := by decide +kernel
theorem ef_419 (m : MethodId) (x0 : Int32) (x1 : Int32) : entryFrame m #[(.int x0), (.int x1), .null] 3 = mkF m 0 #[.val (.int x0), .val (.int x1), .val .null] [] := by first | (simp [entryFrame, mkF, argsToLocals, Value.category]; done) | rfl
theorem pn_420 : plainName "jdk/internal/util/Preconditions" = true := by first | (simp [plainName, overriddenIn]; done) | decide +kernel
def Q_pci_N (Z : State) (j len : Int32)  (h0 : Heap) (n0 : Nat) (v : Option Value) (h : Heap) (L : List Loc) : Prop := v = some (.int j) ∧ Fr n0 L ∧ h = h0
set_option maxRecDepth 65536 in
set_option maxHeartbeats 40000000 in
theorem pci_N (l : Launch) (Z : State) (a0 : Array Value) (hw : ∀ d ∈ tables_1, d.before a0 Z = true) (ws : List Jvm.Cond) (j len : Int32)  (h0 : Heap) (n0 : Nat) (Z0 : n0 ≤ h0.size) (hj : ¬ j < 0 ∧ j < len) :
    MetFree l (⟨"jdk/internal/util/Preconditions", "checkIndex", "(IILjava/util/function/BiFunction;)I"⟩ : MethodName) (head1 (Jvm.Cond.code (⟨"jdk/internal/util/Preconditions", "checkIndex", "(IILjava/util/function/BiFunction;)I"⟩ : MethodName) jdk_41_method_11_code 3 (Option.some Jvm.ClassFile.FieldType.int) :: ws) ({ frames := 0, cells := 0, slots := 0, locals := 0 } : Room)) (fun a U => a = #[(.int j), (.int len), .null] ∧ Z.Warmed39 U.vm ∧ U.heap = h0) (fun _ _ _ _ _ => True) (fun _ U o U' => ∃ v L, o = .returned v ∧ Q_pci_N Z j len h0 n0 v U'.heap L ∧ FrameEnd U o U' L ({ frames := 0, cells := 0, slots := 0, locals := 0 } : Room).cells ({ frames := 0, cells := 0, slots := 0, locals := 0 } : Room).slots) := by
  refine MetFree.of_bodySF (plainFor_of_name pn_420) hisR ?_
  intro p e s m args below meth c s₁ Bd hml0 hP hK
  obtain ⟨rfl, hZ, hh⟩ := hP
  have hx := Bd.exec
  have hby := Bd.bytes
  have hml : c.maxLocals = 3 := hml0
  have hown : s.vm.findClass "jdk/internal/util/Preconditions" = some m.cls := findClass_of_methodNamed Bd.named
  have hnm := (name_of_methodNamed Bd.named Bd.method).1
  have X0 : Stand p l e ({ frames := 0, cells := 0, slots := 0, locals := 0 } : Room) s m #[(.int j), (.int len), .null] below meth c s₁ [] 0 0 := Stand.of_body Bd
  have e0 : s₁.heap = h0 := by rw [← hh, Bd.state]; rfl
  have N0 := Fr.nil n0
  have hlk : meth.locks = false := BodyLoose.notSynchronized Bd
  have pre0 : ∀ t, Steps p.tables e below (s₁.setTop (mkF m 0 #[.val (.int j), .val (.int len), .val .null] [])) t → Steps p.tables e below (s₁.setTop (entryFrame m #[(.int j), (.int len), .null] 3)) t := fun t k => castTop (ef_419 m j len) k
  obtain ⟨fs, hr, hrun, hended, hW, hsame⟩ := X0.leave (v := (some (.int j))) (fun h => by rw [Bd.returns] at h; cases h) (hlocks := hlk)
  refine ⟨_, _, pre0 _ ?_, hrun, hended, _, _, rfl, ?_, ⟨_, rfl⟩, hW, hsame.mono (by decide) (by decide)⟩
  · show Steps p.tables e below (s₁.setTop (mkF m 0 #[.val (.int j), .val (.int len), .val .null] [])) _
    refine XS.iloadN X0.here hx rfl (hb hby d_jdk_41_method_11_code_0) rfl ?_
    show Steps p.tables e below (s₁.setTop (mkF m 1 #[.val (.int j), .val (.int len), .val .null] [(.int j)])) _
    refine XS.ifNo X0.here hx rfl (hb hby d_jdk_41_method_11_code_1) rfl ((if0 _ _).trans (flt hj.1).1) ?_
    show Steps p.tables e below (s₁.setTop (mkF m 4 #[.val (.int j), .val (.int len), .val .null] [])) _
    refine XS.iloadN X0.here hx rfl (hb hby d_jdk_41_method_11_code_4) rfl ?_
    show Steps p.tables e below (s₁.setTop (mkF m 5 #[.val (.int j), .val (.int len), .val .null] [(.int j)])) _
    refine XS.iloadN X0.here hx rfl (hb hby d_jdk_41_method_11_code_5) rfl ?_
    show Steps p.tables e below (s₁.setTop (mkF m 6 #[.val (.int j), .val (.int len), .val .null] [(.int len), (.int j)])) _
    refine XS.icmpYes X0.here hx rfl (pc0 := 6) (pc' := 16) rfl (hb hby d_jdk_41_method_11_code_6) rfl (tlt hj.2).1 (by decide) (by decide) ?_
    show Steps p.tables e below (s₁.setTop (mkF m 16 #[.val (.int j), .val (.int len), .val .null] [])) _
    refine XS.iloadN X0.here hx rfl (hb hby d_jdk_41_method_11_code_16) rfl ?_
    show Steps p.tables e below (s₁.setTop (mkF m 17 #[.val (.int j), .val (.int len), .val .null] [(.int j)])) _
    exact retI X0 hx Bd.returns (hb hby d_jdk_41_method_11_code_17) hr
  · exact ⟨rfl, N0, e0⟩
theorem d_jdk_42_method_155_code_0 : decode jdk_42_method_155_code 0 = .ok (.iload_n 0, 1) := by decide +kernel
theorem d_jdk_42_method_155_code_1 : decode jdk_42_method_155_code 1 = .ok (.iload_n 1, 1) := by decide +kernel
theorem d_jdk_42_method_155_code_2 : decode jdk_42_method_155_code 2 = .ok (.getstatic 1053, 3) := by decide +kernel
theorem d_jdk_42_method_155_code_5 : decode jdk_42_method_155_code 5 = .ok (.invokestatic 1059, 3) := by decide +kernel
theorem pd_425 : parseMethodDescriptor "(IILjava/util/function/BiFunction;)I" = some ⟨[.int, .int, (.object "java/util/function/BiFunction")], some .int⟩ := by decide +kernel
theorem d_jdk_42_method_155_code_8 : decode jdk_42_method_155_code 8 = .ok (.pop, 1) := by decide +kernel
theorem d_jdk_42_method_155_code_9 : decode jdk_42_method_155_code 9 = .ok (.return_, 1) := by decide +kernel
def Q_sci_N (Z : State) (j len : Int32)  (h0 : Heap) (n0 : Nat) (v : Option Value) (h : Heap) (L : List Loc) : Prop := v = none ∧ Fr n0 L ∧ h = h0
set_option maxRecDepth 65536 in
set_option maxHeartbeats 40000000 in
theorem sci_N (l : Launch) (Z : State) (a0 : Array Value) (hw : ∀ d ∈ tables_1, d.before a0 Z = true) (ws : List Jvm.Cond) (j len : Int32)  (h0 : Heap) (n0 : Nat) (Z0 : n0 ≤ h0.size) (X00 : Old Z n0 h0)(SF : Sta Z Z.heap "jdk/internal/util/Preconditions" "SIOOBE_FORMATTER" "Ljava/util/function/BiFunction;" .null) (hj : ¬ j < 0 ∧ j < len) :
    MetFree l (⟨"java/lang/String", "checkIndex", "(II)V"⟩ : MethodName) (head1 (Jvm.Cond.code (⟨"java/lang/String", "checkIndex", "(II)V"⟩ : MethodName) jdk_42_method_155_code 2 (Option.none : Option Jvm.ClassFile.FieldType) :: ws) ({ frames := 1, cells := 0, slots := 0, locals := 14 } : Room)) (fun a U => a = #[(.int j), (.int len)] ∧ Z.Warmed39 U.vm ∧ U.heap = h0) (fun _ _ _ _ _ => True) (fun _ U o U' => ∃ v L, o = .returned v ∧ Q_sci_N Z j len h0 n0 v U'.heap L ∧ FrameEnd U o U' L ({ frames := 1, cells := 0, slots := 0, locals := 14 } : Room).cells ({ frames := 1, cells := 0, slots := 0, locals := 14 } : Room).slots) := by
  refine MetFree.of_bodySF (plainFor_of_name pn_82) hisR ?_
  intro p e s m args below meth c s₁ Bd hml0 hP hK
  obtain ⟨rfl, hZ, hh⟩ := hP
  have hx := Bd.exec
  have hby := Bd.bytes
  have hml : c.maxLocals = 2 := hml0
  have hown : s.vm.findClass "java/lang/String" = some m.cls := findClass_of_methodNamed Bd.named
  have hnm := (name_of_methodNamed Bd.named Bd.method).1
  have X0 : Stand p l e ({ frames := 1, cells := 0, slots := 0, locals := 14 } : Room) s m #[(.int j), (.int len)] below meth c s₁ [] 0 0 := Stand.of_body Bd
  have e0 : s₁.heap = h0 := by rw [← hh, Bd.state]; rfl
  have N0 := Fr.nil n0
  have hlk : meth.locks = false := BodyLoose.notSynchronized Bd
  have pre0 : ∀ t, Steps p.tables e below (s₁.setTop (mkF m 0 #[.val (.int j), .val (.int len)] [])) t → Steps p.tables e below (s₁.setTop (entryFrame m #[(.int j), (.int len)] 2)) t := fun t k => castTop (ef_287 m j len) k
  obtain ⟨T1, X1, e1, st1⟩ := getS X0 hx hZ (host := "") hown (hw _ (List.mem_of_getElem? (i := 186) rfl)) Via.refl e0 (SF.ext X00.2) (g := (mkF m 2 #[.val (.int j), .val (.int len)] [(.int len), (.int j)])) rfl (hb hby d_jdk_42_method_155_code_2)
  obtain ⟨_, _, ⟨T2, L2, k2, n2⟩, -, X2, ⟨Lc2, hQ2, l2, y2, z2⟩, st2⟩ := Jvm.LawKit.callS X1 hx (y := (⟨"jdk/internal/util/Preconditions", "checkIndex", "(IILjava/util/function/BiFunction;)I"⟩ : MethodName)) hown (mvT hZ (hw _ (List.mem_of_getElem? (i := 188) rfl))) (mvT hZ (hw _ (List.mem_of_getElem? (i := 189) rfl))) (mvT hZ (hw _ (List.mem_of_getElem? (i := 187) rfl))) (mvT hZ (hw _ (List.mem_of_getElem? (i := 190) rfl))) (by decide) (backOf (W := 0) (pci_N l Z a0 hw [] j len  h0 n0 Z0 hj) hZ (hw _ (List.mem_of_getElem? (i := 190) rfl)) (hw _ (List.mem_of_getElem? (i := 187) rfl)) (by decide) (by decide)) (g := (mkF m 5 #[.val (.int j), .val (.int len)] [.null, (.int len), (.int j)])) rfl (by rw [hml]; rfl) (argsL := [(.int j), (.int len), .null]) (rest := []) (lenOf pd_425 rfl) rfl (by show 2 * 0 + _ ≤ _; exact Nat.le_of_eq rfl) (hb hby d_jdk_42_method_155_code_5) (fun _ _ => ⟨rfl, e1, (by decide : 0 + 0 ≤ _), (by decide : 0 + 0 ≤ _)⟩)
  dsimp only [Pt.U, Pt.locs, Pt.cells, Pt.slots] at X2 l2 y2 z2 st2 hQ2
  subst l2 y2 z2
  obtain ⟨rfl, N2q, e2⟩ := hQ2
  have N2 := Fr.app N0 N2q
  obtain ⟨fs, hr, hrun, hended, hW, hsame⟩ := X2.leave (v := none) (fun _ => rfl) (hlocks := hlk)
  refine ⟨_, _, pre0 _ ?_, hrun, hended, _, _, rfl, ?_, ⟨_, rfl⟩, hW, hsame.mono (by decide) (by decide)⟩
  · show Steps p.tables e below (s₁.setTop (mkF m 0 #[.val (.int j), .val (.int len)] [])) _
    refine XS.iloadN X0.here hx rfl (hb hby d_jdk_42_method_155_code_0) rfl ?_
    show Steps p.tables e below (s₁.setTop (mkF m 1 #[.val (.int j), .val (.int len)] [(.int j)])) _
    refine XS.iloadN X0.here hx rfl (hb hby d_jdk_42_method_155_code_1) rfl ?_
    show Steps p.tables e below (s₁.setTop (mkF m 2 #[.val (.int j), .val (.int len)] [(.int len), (.int j)])) _
    refine st1 _ ?_
    show Steps p.tables e below (T1.setTop (mkF m 5 #[.val (.int j), .val (.int len)] [.null, (.int len), (.int j)])) _
    refine st2 _ ?_
    show Steps p.tables e below (T2.setTop (mkF m 8 #[.val (.int j), .val (.int len)] [(.int j)])) _
    refine XT.pop X2.here hx rfl (hb hby d_jdk_42_method_155_code_8) rfl rfl ?_
    show Steps p.tables e below (T2.setTop (mkF m 9 #[.val (.int j), .val (.int len)] [])) _
    exact X2.returnOut hx Bd.returns (hb hby d_jdk_42_method_155_code_9) hr
  · exact ⟨rfl, N2, e2⟩
theorem ef_428 (m : MethodId) (x0 : Int32) (x1 : Int32) (x2 : Addr) : entryFrame m #[(.int x0), (.int x1), (.ref x2)] 3 = mkF m 0 #[.val (.int x0), .val (.int x1), .val (.ref x2)] [] := by first | (simp [entryFrame, mkF, argsToLocals, Value.category]; done) | rfl
def Q_pci_A (Z : State) (j len : Int32) (aF : Addr) (h0 : Heap) (n0 : Nat) (v : Option Value) (h : Heap) (L : List Loc) : Prop := v = some (.int j) ∧ Fr n0 L ∧ h = h0
set_option maxRecDepth 65536 in
set_option maxHeartbeats 40000000 in
theorem pci_A (l : Launch) (Z : State) (a0 : Array Value) (hw : ∀ d ∈ tables_1, d.before a0 Z = true) (ws : List Jvm.Cond) (j len : Int32) (aF : Addr) (h0 : Heap) (n0 : Nat) (Z0 : n0 ≤ h0.size) (hj : ¬ j < 0 ∧ j < len) :
    MetFree l (⟨"jdk/internal/util/Preconditions", "checkIndex", "(IILjava/util/function/BiFunction;)I"⟩ : MethodName) (head1 (Jvm.Cond.code (⟨"jdk/internal/util/Preconditions", "checkIndex", "(IILjava/util/function/BiFunction;)I"⟩ : MethodName) jdk_41_method_11_code 3 (Option.some Jvm.ClassFile.FieldType.int) :: ws) ({ frames := 0, cells := 0, slots := 0, locals := 0 } : Room)) (fun a U => a = #[(.int j), (.int len), (.ref aF)] ∧ Z.Warmed39 U.vm ∧ U.heap = h0) (fun _ _ _ _ _ => True) (fun _ U o U' => ∃ v L, o = .returned v ∧ Q_pci_A Z j len aF h0 n0 v U'.heap L ∧ FrameEnd U o U' L ({ frames := 0, cells := 0, slots := 0, locals := 0 } : Room).cells ({ frames := 0, cells := 0, slots := 0, locals := 0 } : Room).slots) := by
  refine MetFree.of_bodySF (plainFor_of_name pn_420) hisR ?_
  intro p e s m args below meth c s₁ Bd hml0 hP hK
  obtain ⟨rfl, hZ, hh⟩ := hP
  have hx := Bd.exec
  have hby := Bd.bytes
  have hml : c.maxLocals = 3 := hml0
  have hown : s.vm.findClass "jdk/internal/util/Preconditions" = some m.cls := findClass_of_methodNamed Bd.named
  have hnm := (name_of_methodNamed Bd.named Bd.method).1
  have X0 : Stand p l e ({ frames := 0, cells := 0, slots := 0, locals := 0 } : Room) s m #[(.int j), (.int len), (.ref aF)] below meth c s₁ [] 0 0 := Stand.of_body Bd
  have e0 : s₁.heap = h0 := by rw [← hh, Bd.state]; rfl
  have N0 := Fr.nil n0
  have hlk : meth.locks = false := BodyLoose.notSynchronized Bd
  have pre0 : ∀ t, Steps p.tables e below (s₁.setTop (mkF m 0 #[.val (.int j), .val (.int len), .val (.ref aF)] [])) t → Steps p.tables e below (s₁.setTop (entryFrame m #[(.int j), (.int len), (.ref aF)] 3)) t := fun t k => castTop (ef_428 m j len aF) k
  obtain ⟨fs, hr, hrun, hended, hW, hsame⟩ := X0.leave (v := (some (.int j))) (fun h => by rw [Bd.returns] at h; cases h) (hlocks := hlk)
  refine ⟨_, _, pre0 _ ?_, hrun, hended, _, _, rfl, ?_, ⟨_, rfl⟩, hW, hsame.mono (by decide) (by decide)⟩
  · show Steps p.tables e below (s₁.setTop (mkF m 0 #[.val (.int j), .val (.int len), .val (.ref aF)] [])) _
    refine XS.iloadN X0.here hx rfl (hb hby d_jdk_41_method_11_code_0) rfl ?_
    show Steps p.tables e below (s₁.setTop (mkF m 1 #[.val (.int j), .val (.int len), .val (.ref aF)] [(.int j)])) _
    refine XS.ifNo X0.here hx rfl (hb hby d_jdk_41_method_11_code_1) rfl ((if0 _ _).trans (flt hj.1).1) ?_
    show Steps p.tables e below (s₁.setTop (mkF m 4 #[.val (.int j), .val (.int len), .val (.ref aF)] [])) _
    refine XS.iloadN X0.here hx rfl (hb hby d_jdk_41_method_11_code_4) rfl ?_
    show Steps p.tables e below (s₁.setTop (mkF m 5 #[.val (.int j), .val (.int len), .val (.ref aF)] [(.int j)])) _
    refine XS.iloadN X0.here hx rfl (hb hby d_jdk_41_method_11_code_5) rfl ?_
    show Steps p.tables e below (s₁.setTop (mkF m 6 #[.val (.int j), .val (.int len), .val (.ref aF)] [(.int len), (.int j)])) _
    refine XS.icmpYes X0.here hx rfl (pc0 := 6) (pc' := 16) rfl (hb hby d_jdk_41_method_11_code_6) rfl (tlt hj.2).1 (by decide) (by decide) ?_
    show Steps p.tables e below (s₁.setTop (mkF m 16 #[.val (.int j), .val (.int len), .val (.ref aF)] [])) _
    refine XS.iloadN X0.here hx rfl (hb hby d_jdk_41_method_11_code_16) rfl ?_
    show Steps p.tables e below (s₁.setTop (mkF m 17 #[.val (.int j), .val (.int len), .val (.ref aF)] [(.int j)])) _
    exact retI X0 hx Bd.returns (hb hby d_jdk_41_method_11_code_17) hr
  · exact ⟨rfl, N0, e0⟩
def Q_sci_A (Z : State) (j len : Int32) (aF : Addr) (h0 : Heap) (n0 : Nat) (v : Option Value) (h : Heap) (L : List Loc) : Prop := v = none ∧ Fr n0 L ∧ h = h0
set_option maxRecDepth 65536 in
set_option maxHeartbeats 40000000 in
theorem sci_A (l : Launch) (Z : State) (a0 : Array Value) (hw : ∀ d ∈ tables_1, d.before a0 Z = true) (ws : List Jvm.Cond) (j len : Int32) (aF : Addr) (h0 : Heap) (n0 : Nat) (Z0 : n0 ≤ h0.size) (X00 : Old Z n0 h0)(SF : Sta Z Z.heap "jdk/internal/util/Preconditions" "SIOOBE_FORMATTER" "Ljava/util/function/BiFunction;" (.ref aF)) (hj : ¬ j < 0 ∧ j < len) :
    MetFree l (⟨"java/lang/String", "checkIndex", "(II)V"⟩ : MethodName) (head1 (Jvm.Cond.code (⟨"java/lang/String", "checkIndex", "(II)V"⟩ : MethodName) jdk_42_method_155_code 2 (Option.none : Option Jvm.ClassFile.FieldType) :: ws) ({ frames := 1, cells := 0, slots := 0, locals := 14 } : Room)) (fun a U => a = #[(.int j), (.int len)] ∧ Z.Warmed39 U.vm ∧ U.heap = h0) (fun _ _ _ _ _ => True) (fun _ U o U' => ∃ v L, o = .returned v ∧ Q_sci_A Z j len aF h0 n0 v U'.heap L ∧ FrameEnd U o U' L ({ frames := 1, cells := 0, slots := 0, locals := 14 } : Room).cells ({ frames := 1, cells := 0, slots := 0, locals := 14 } : Room).slots) := by
  refine MetFree.of_bodySF (plainFor_of_name pn_82) hisR ?_
  intro p e s m args below meth c s₁ Bd hml0 hP hK
  obtain ⟨rfl, hZ, hh⟩ := hP
  have hx := Bd.exec
  have hby := Bd.bytes
  have hml : c.maxLocals = 2 := hml0
  have hown : s.vm.findClass "java/lang/String" = some m.cls := findClass_of_methodNamed Bd.named
  have hnm := (name_of_methodNamed Bd.named Bd.method).1
  have X0 : Stand p l e ({ frames := 1, cells := 0, slots := 0, locals := 14 } : Room) s m #[(.int j), (.int len)] below meth c s₁ [] 0 0 := Stand.of_body Bd
  have e0 : s₁.heap = h0 := by rw [← hh, Bd.state]; rfl
  have N0 := Fr.nil n0
  have hlk : meth.locks = false := BodyLoose.notSynchronized Bd
  have pre0 : ∀ t, Steps p.tables e below (s₁.setTop (mkF m 0 #[.val (.int j), .val (.int len)] [])) t → Steps p.tables e below (s₁.setTop (entryFrame m #[(.int j), (.int len)] 2)) t := fun t k => castTop (ef_287 m j len) k
  obtain ⟨T1, X1, e1, st1⟩ := getS X0 hx hZ (host := "") hown (hw _ (List.mem_of_getElem? (i := 186) rfl)) Via.refl e0 (SF.ext X00.2) (g := (mkF m 2 #[.val (.int j), .val (.int len)] [(.int len), (.int j)])) rfl (hb hby d_jdk_42_method_155_code_2)
  obtain ⟨_, _, ⟨T2, L2, k2, n2⟩, -, X2, ⟨Lc2, hQ2, l2, y2, z2⟩, st2⟩ := Jvm.LawKit.callS X1 hx (y := (⟨"jdk/internal/util/Preconditions", "checkIndex", "(IILjava/util/function/BiFunction;)I"⟩ : MethodName)) hown (mvT hZ (hw _ (List.mem_of_getElem? (i := 188) rfl))) (mvT hZ (hw _ (List.mem_of_getElem? (i := 189) rfl))) (mvT hZ (hw _ (List.mem_of_getElem? (i := 187) rfl))) (mvT hZ (hw _ (List.mem_of_getElem? (i := 190) rfl))) (by decide) (backOf (W := 0) (pci_A l Z a0 hw [] j len aF h0 n0 Z0 hj) hZ (hw _ (List.mem_of_getElem? (i := 190) rfl)) (hw _ (List.mem_of_getElem? (i := 187) rfl)) (by decide) (by decide)) (g := (mkF m 5 #[.val (.int j), .val (.int len)] [(.ref aF), (.int len), (.int j)])) rfl (by rw [hml]; rfl) (argsL := [(.int j), (.int len), (.ref aF)]) (rest := []) (lenOf pd_425 rfl) rfl (by show 2 * 0 + _ ≤ _; exact Nat.le_of_eq rfl) (hb hby d_jdk_42_method_155_code_5) (fun _ _ => ⟨rfl, e1, (by decide : 0 + 0 ≤ _), (by decide : 0 + 0 ≤ _)⟩)
  dsimp only [Pt.U, Pt.locs, Pt.cells, Pt.slots] at X2 l2 y2 z2 st2 hQ2
  subst l2 y2 z2
  obtain ⟨rfl, N2q, e2⟩ := hQ2
  have N2 := Fr.app N0 N2q
  obtain ⟨fs, hr, hrun, hended, hW, hsame⟩ := X2.leave (v := none) (fun _ => rfl) (hlocks := hlk)
  refine ⟨_, _, pre0 _ ?_, hrun, hended, _, _, rfl, ?_, ⟨_, rfl⟩, hW, hsame.mono (by decide) (by decide)⟩
  · show Steps p.tables e below (s₁.setTop (mkF m 0 #[.val (.int j), .val (.int len)] [])) _
    refine XS.iloadN X0.here hx rfl (hb hby d_jdk_42_method_155_code_0) rfl ?_
    show Steps p.tables e below (s₁.setTop (mkF m 1 #[.val (.int j), .val (.int len)] [(.int j)])) _
    refine XS.iloadN X0.here hx rfl (hb hby d_jdk_42_method_155_code_1) rfl ?_
    show Steps p.tables e below (s₁.setTop (mkF m 2 #[.val (.int j), .val (.int len)] [(.int len), (.int j)])) _
    refine st1 _ ?_
    show Steps p.tables e below (T1.setTop (mkF m 5 #[.val (.int j), .val (.int len)] [(.ref aF), (.int len), (.int j)])) _
    refine st2 _ ?_
    show Steps p.tables e below (T2.setTop (mkF m 8 #[.val (.int j), .val (.int len)] [(.int j)])) _
    refine XT.pop X2.here hx rfl (hb hby d_jdk_42_method_155_code_8) rfl rfl ?_
    show Steps p.tables e below (T2.setTop (mkF m 9 #[.val (.int j), .val (.int len)] [])) _
    exact X2.returnOut hx Bd.returns (hb hby d_jdk_42_method_155_code_9) hr
  · exact ⟨rfl, N2, e2⟩
def Q_sci (Z : State) (j len : Int32) (vF : Value) (h0 : Heap) (n0 : Nat) (v : Option Value) (h : Heap) (L : List Loc) : Prop := v = none ∧ Fr n0 L ∧ h = h0
theorem sci (l : Launch) (Z : State) (a0 : Array Value) (hw : ∀ d ∈ tables_1, d.before a0 Z = true) (ws : List Jvm.Cond) (j len : Int32) (vF : Value) (h0 : Heap) (n0 : Nat) (Z0 : n0 ≤ h0.size) (X00 : Old Z n0 h0)(SF : Sta Z Z.heap "jdk/internal/util/Preconditions" "SIOOBE_FORMATTER" "Ljava/util/function/BiFunction;" vF) (hF : vF.isRef = true)(hj : ¬ j < 0 ∧ j < len) :
    MetFree l (⟨"java/lang/String", "checkIndex", "(II)V"⟩ : MethodName) (head1 (Jvm.Cond.code (⟨"java/lang/String", "checkIndex", "(II)V"⟩ : MethodName) jdk_42_method_155_code 2 (Option.none : Option Jvm.ClassFile.FieldType) :: ws) ({ frames := 1, cells := 0, slots := 0, locals := 14 } : Room)) (fun a U => a = #[(.int j), (.int len)] ∧ Z.Warmed39 U.vm ∧ U.heap = h0) (fun _ _ _ _ _ => True) (fun _ U o U' => ∃ v L, o = .returned v ∧ Q_sci Z j len vF h0 n0 v U'.heap L ∧ FrameEnd U o U' L ({ frames := 1, cells := 0, slots := 0, locals := 14 } : Room).cells ({ frames := 1, cells := 0, slots := 0, locals := 14 } : Room).slots) := by
  rcases ref_cases hF with rfl | ⟨aF, rfl⟩
  · exact sci_N l Z a0 hw ws j len h0 n0 Z0 X00 SF hj
  · exact sci_A l Z a0 hw ws j len aF h0 n0 Z0 X00 SF hj
theorem d_jdk_43_method_2_code_0 : decode jdk_43_method_2_code 0 = .ok (.iload_n 1, 1) := by decide +kernel
theorem d_jdk_43_method_2_code_1 : decode jdk_43_method_2_code 1 = .ok (.aload_n 0, 1) := by decide +kernel
theorem d_jdk_43_method_2_code_2 : decode jdk_43_method_2_code 2 = .ok (.arraylength, 1) := by decide +kernel
theorem d_jdk_43_method_2_code_3 : decode jdk_43_method_2_code 3 = .ok (.invokestatic 9, 3) := by decide +kernel
theorem d_jdk_43_method_2_code_6 : decode jdk_43_method_2_code 6 = .ok (.aload_n 0, 1) := by decide +kernel
theorem d_jdk_43_method_2_code_7 : decode jdk_43_method_2_code 7 = .ok (.iload_n 1, 1) := by decide +kernel
theorem d_jdk_43_method_2_code_8 : decode jdk_43_method_2_code 8 = .ok (.baload, 1) := by decide +kernel
theorem d_jdk_43_method_2_code_9 : decode jdk_43_method_2_code 9 = .ok (.sipush 255, 3) := by decide +kernel
theorem d_jdk_43_method_2_code_12 : decode jdk_43_method_2_code 12 = .ok (.iand, 1) := by decide +kernel
theorem d_jdk_43_method_2_code_13 : decode jdk_43_method_2_code 13 = .ok (.i2c, 1) := by decide +kernel
theorem d_jdk_43_method_2_code_14 : decode jdk_43_method_2_code 14 = .ok (.ireturn, 1) := by decide +kernel
theorem pn_440 : plainName "java/lang/StringLatin1" = true := by first | (simp [plainName, overriddenIn]; done) | decide +kernel
def Q_sl_ch (Z : State) (sv : Addr) (ks : ClassId) (len j vv : Int32) (bs : List Value) (vF : Value) (h0 : Heap) (n0 : Nat) (v : Option Value) (h : Heap) (L : List Loc) : Prop := v = some (.int (nar .char vv)) ∧ Fr n0 L ∧ h = h0
set_option maxRecDepth 65536 in
set_option maxHeartbeats 40000000 in
theorem sl_ch (l : Launch) (Z : State) (a0 : Array Value) (hw : ∀ d ∈ tables_1, d.before a0 Z = true) (ws : List Jvm.Cond) (sv : Addr) (ks : ClassId) (len j vv : Int32) (bs : List Value) (vF : Value) (h0 : Heap) (n0 : Nat) (Z0 : n0 ≤ h0.size) (X00 : Old Z n0 h0)(SF : Sta Z Z.heap "jdk/internal/util/Preconditions" "SIOOBE_FORMATTER" "Ljava/util/function/BiFunction;" vF) (hF : vF.isRef = true)(Vs : Arv Z h0 sv ks .byte len bs (.int 0)) (hj : ¬ j < 0 ∧ j < len) (hv : bs.getD j.toNatClampNeg (.int 0) = .int vv) (hv0 : 0 ≤ vv.toInt) (hv1 : vv.toInt < 128) :
    MetFree l (⟨"java/lang/StringLatin1", "charAt", "([BI)C"⟩ : MethodName) (head1 (Jvm.Cond.code (⟨"java/lang/StringLatin1", "charAt", "([BI)C"⟩ : MethodName) jdk_43_method_2_code 2 (Option.some Jvm.ClassFile.FieldType.char) :: ws) ({ frames := 2, cells := 0, slots := 0, locals := 27 } : Room)) (fun a U => a = #[(.ref sv), (.int j)] ∧ Z.Warmed39 U.vm ∧ U.heap = h0) (fun _ _ _ _ _ => True) (fun _ U o U' => ∃ v L, o = .returned v ∧ Q_sl_ch Z sv ks len j vv bs vF h0 n0 v U'.heap L ∧ FrameEnd U o U' L ({ frames := 2, cells := 0, slots := 0, locals := 27 } : Room).cells ({ frames := 2, cells := 0, slots := 0, locals := 27 } : Room).slots) := by
  refine MetFree.of_bodySF (plainFor_of_name pn_440) hisR ?_
  intro p e s m args below meth c s₁ Bd hml0 hP hK
  obtain ⟨rfl, hZ, hh⟩ := hP
  have hx := Bd.exec
  have hby := Bd.bytes
  have hml : c.maxLocals = 2 := hml0
  have hown : s.vm.findClass "java/lang/StringLatin1" = some m.cls := findClass_of_methodNamed Bd.named
  have hnm := (name_of_methodNamed Bd.named Bd.method).1
  have X0 : Stand p l e ({ frames := 2, cells := 0, slots := 0, locals := 27 } : Room) s m #[(.ref sv), (.int j)] below meth c s₁ [] 0 0 := Stand.of_body Bd
  have e0 : s₁.heap = h0 := by rw [← hh, Bd.state]; rfl
  have N0 := Fr.nil n0
  have hlk : meth.locks = false := BodyLoose.notSynchronized Bd
  have pre0 : ∀ t, Steps p.tables e below (s₁.setTop (mkF m 0 #[.val (.ref sv), .val (.int j)] [])) t → Steps p.tables e below (s₁.setTop (entryFrame m #[(.ref sv), (.int j)] 2)) t := fun t k => castTop (ef_13 m sv j) k
  obtain ⟨cl_1, Arcl_1, Qccl_1, Szcl_1, Ngcl_1, Hscl_1, Ftcl_1⟩ := id Vs
  have Lncl_1 : cl_1.slots.size.toInt32 = len := len_of Szcl_1 Ngcl_1
  obtain ⟨_, _, ⟨T1, L1, k1, n1⟩, -, X1, ⟨Lc1, hQ1, l1, y1, z1⟩, st1⟩ := Jvm.LawKit.callS X0 hx (y := (⟨"java/lang/String", "checkIndex", "(II)V"⟩ : MethodName)) hown (mvT hZ (hw _ (List.mem_of_getElem? (i := 183) rfl))) (mvT hZ (hw _ (List.mem_of_getElem? (i := 184) rfl))) (mvT hZ (hw _ (List.mem_of_getElem? (i := 36) rfl))) (mvT hZ (hw _ (List.mem_of_getElem? (i := 185) rfl))) (by decide) (backOf (W := 0) (sci l Z a0 hw [] j len vF h0 n0 Z0 X00 SF hF hj) hZ (hw _ (List.mem_of_getElem? (i := 185) rfl)) (hw _ (List.mem_of_getElem? (i := 36) rfl)) (by decide) (by decide)) (g := (mkF m 3 #[.val (.ref sv), .val (.int j)] [(.int len), (.int j)])) rfl (by rw [hml]; rfl) (argsL := [(.int j), (.int len)]) (rest := []) (lenOf pd_297 rfl) rfl (by show 2 * 0 + _ ≤ _; exact Nat.le_of_eq rfl) (hb hby d_jdk_43_method_2_code_3) (fun _ _ => ⟨rfl, e0, (by decide : 0 + 0 ≤ _), (by decide : 0 + 0 ≤ _)⟩)
  dsimp only [Pt.U, Pt.locs, Pt.cells, Pt.slots] at X1 l1 y1 z1 st1 hQ1
  subst l1 y1 z1
  obtain ⟨rfl, N1q, e1⟩ := hQ1
  have N1 := Fr.app N0 N1q
  obtain ⟨clx, Arx, -, Szx, Ngx, Hsx, -⟩ := id Vs
  obtain ⟨fs, hr, hrun, hended, hW, hsame⟩ := X1.leave (v := (some (.int (nar .char vv)))) (fun h => by rw [Bd.returns] at h; cases h) (hlocks := hlk)
  refine ⟨_, _, pre0 _ ?_, hrun, hended, _, _, rfl, ?_, ⟨_, rfl⟩, hW, hsame.mono (by decide) (by decide)⟩
  · show Steps p.tables e below (s₁.setTop (mkF m 0 #[.val (.ref sv), .val (.int j)] [])) _
    refine XS.iloadN X0.here hx rfl (hb hby d_jdk_43_method_2_code_0) rfl ?_
    show Steps p.tables e below (s₁.setTop (mkF m 1 #[.val (.ref sv), .val (.int j)] [(.int j)])) _
    refine XS.aloadN X0.here hx rfl (hb hby d_jdk_43_method_2_code_1) rfl rfl ?_
    show Steps p.tables e below (s₁.setTop (mkF m 2 #[.val (.ref sv), .val (.int j)] [(.ref sv), (.int j)])) _
    refine X0.arraylength hx (by first | exact Arcl_1.1 | (rw [e0]; exact Arcl_1.1)) (State.isArrayOf_alike hZ.alike Arcl_1.2.1) (g := (mkF m 2 #[.val (.ref sv), .val (.int j)] [(.ref sv), (.int j)])) rfl rfl (hb hby d_jdk_43_method_2_code_2) _ ?_
    show Steps p.tables e below (s₁.setTop (mkF m 3 #[.val (.ref sv), .val (.int j)] [(.int cl_1.slots.size.toInt32), (.int j)])) _
    rw [Lncl_1]
    show Steps p.tables e below (s₁.setTop (mkF m 3 #[.val (.ref sv), .val (.int j)] [(.int len), (.int j)])) _
    refine st1 _ ?_
    show Steps p.tables e below (T1.setTop (mkF m 6 #[.val (.ref sv), .val (.int j)] [])) _
    refine XS.aloadN X1.here hx rfl (hb hby d_jdk_43_method_2_code_6) rfl rfl ?_
    show Steps p.tables e below (T1.setTop (mkF m 7 #[.val (.ref sv), .val (.int j)] [(.ref sv)])) _
    refine XS.iloadN X1.here hx rfl (hb hby d_jdk_43_method_2_code_7) rfl ?_
    show Steps p.tables e below (T1.setTop (mkF m 8 #[.val (.ref sv), .val (.int j)] [(.int j), (.ref sv)])) _
    refine X1.baloadBytes hx (j := j) (v := .int vv) (by rw [e1]; exact Arx.1) (State.isArrayOf_alike hZ.alike Arx.2.1) Arx.2.2 (inb_of Szx hj) (Hsx.at (inb_of Szx hj) hv) (g := (mkF m 8 #[.val (.ref sv), .val (.int j)] [(.int j), (.ref sv)])) rfl rfl (hb hby d_jdk_43_method_2_code_8) _ ?_
    show Steps p.tables e below (T1.setTop (mkF m 9 #[.val (.ref sv), .val (.int j)] [(.int vv)])) _
    refine XT.sipushV X1.here hx rfl (255 : Int32) (hb hby d_jdk_43_method_2_code_9) (by decide) ?_
    show Steps p.tables e below (T1.setTop (mkF m 12 #[.val (.ref sv), .val (.int j)] [(.int (255 : Int32)), (.int vv)])) _
    refine XS.iand X1.here hx rfl (hb hby d_jdk_43_method_2_code_12) rfl ?_
    show Steps p.tables e below (T1.setTop (mkF m 13 #[.val (.ref sv), .val (.int j)] [(.int (vv &&& (255 : Int32)))])) _
    rw [own_and255 hv0 hv1]
    show Steps p.tables e below (T1.setTop (mkF m 13 #[.val (.ref sv), .val (.int j)] [(.int vv)])) _
    refine XT.i2c X1.here hx rfl (hb hby d_jdk_43_method_2_code_13) rfl ?_
    show Steps p.tables e below (T1.setTop (mkF m 14 #[.val (.ref sv), .val (.int j)] [(.int (vv).toUInt32.toUInt16.toUInt32.toInt32)])) _
    rw [own_i2c hv0 hv1]
    show Steps p.tables e below (T1.setTop (mkF m 14 #[.val (.ref sv), .val (.int j)] [(.int vv)])) _
    exact retN X1 hx (t := .char) Bd.returns (by simp) (hb hby d_jdk_43_method_2_code_14) hr
  · exact ⟨rfl, N1, e1⟩
theorem d_jdk_42_method_56_code_0 : decode jdk_42_method_56_code 0 = .ok (.aload_n 0, 1) := by decide +kernel
theorem d_jdk_42_method_56_code_1 : decode jdk_42_method_56_code 1 = .ok (.invokevirtual 492, 3) := by decide +kernel
theorem d_jdk_42_method_56_code_4 : decode jdk_42_method_56_code 4 = .ok (.ifCond .eq 12, 3) := by decide +kernel
theorem d_jdk_42_method_56_code_7 : decode jdk_42_method_56_code 7 = .ok (.aload_n 0, 1) := by decide +kernel
theorem d_jdk_42_method_56_code_8 : decode jdk_42_method_56_code 8 = .ok (.getfield 9, 3) := by decide +kernel
theorem d_jdk_42_method_56_code_11 : decode jdk_42_method_56_code 11 = .ok (.iload_n 1, 1) := by decide +kernel
theorem d_jdk_42_method_56_code_12 : decode jdk_42_method_56_code 12 = .ok (.invokestatic 495, 3) := by decide +kernel
theorem pd_448 : parseMethodDescriptor "([BI)C" = some ⟨[(.array .byte), .int], some .char⟩ := by decide +kernel
theorem d_jdk_42_method_56_code_15 : decode jdk_42_method_56_code 15 = .ok (.ireturn, 1) := by decide +kernel
def Q_st_ch (Z : State) (str : Addr) (sv : Addr) (ks : ClassId) (len j vv : Int32) (bs : List Value) (vF : Value) (zc : Int32) (h0 : Heap) (n0 : Nat) (v : Option Value) (h : Heap) (L : List Loc) : Prop := v = some (.int vv) ∧ Fr n0 L ∧ h = h0
set_option maxRecDepth 65536 in
set_option maxHeartbeats 40000000 in
theorem st_ch (l : Launch) (Z : State) (a0 : Array Value) (hw : ∀ d ∈ tables_1, d.before a0 Z = true) (ws : List Jvm.Cond) (str : Addr) (sv : Addr) (ks : ClassId) (len j vv : Int32) (bs : List Value) (vF : Value) (zc : Int32) (h0 : Heap) (n0 : Nat) (Z0 : n0 ≤ h0.size) (X00 : Old Z n0 h0)(SF : Sta Z Z.heap "jdk/internal/util/Preconditions" "SIOOBE_FORMATTER" "Ljava/util/function/BiFunction;" vF) (hF : vF.isRef = true)(Vs : Arv Z h0 sv ks .byte len bs (.int 0)) (hj : ¬ j < 0 ∧ j < len) (hv : bs.getD j.toNatClampNeg (.int 0) = .int vv) (hv0 : 0 ≤ vv.toInt) (hv1 : vv.toInt < 128)(SC : Sta Z Z.heap "java/lang/String" "COMPACT_STRINGS" "Z" (.int zc)) (hzc : ¬ zc = 0)(Est : Exa Z h0 str "java/lang/String") (Gv : Fld Z h0 str "java/lang/String" "value" "[B" (.ref sv)) (Gc : Fld Z h0 str "java/lang/String" "coder" "B" (.int (0 : Int32))) :
    MetFree l (⟨"java/lang/String", "charAt", "(I)C"⟩ : MethodName) (head1 (Jvm.Cond.code (⟨"java/lang/String", "charAt", "(I)C"⟩ : MethodName) jdk_42_method_56_code 2 (Option.some Jvm.ClassFile.FieldType.char) :: ws) ({ frames := 3, cells := 0, slots := 0, locals := 40 } : Room)) (fun a U => a = #[(.ref str), (.int j)] ∧ Z.Warmed39 U.vm ∧ U.heap = h0) (fun _ _ _ _ _ => True) (fun _ U o U' => ∃ v L, o = .returned v ∧ Q_st_ch Z str sv ks len j vv bs vF zc h0 n0 v U'.heap L ∧ FrameEnd U o U' L ({ frames := 3, cells := 0, slots := 0, locals := 40 } : Room).cells ({ frames := 3, cells := 0, slots := 0, locals := 40 } : Room).slots) := by
  refine MetFree.of_bodySF (plainFor_of_name pn_82) hisR ?_
  intro p e s m args below meth c s₁ Bd hml0 hP hK
  obtain ⟨rfl, hZ, hh⟩ := hP
  have hx := Bd.exec
  have hby := Bd.bytes
  have hml : c.maxLocals = 2 := hml0
  have hown : s.vm.findClass "java/lang/String" = some m.cls := findClass_of_methodNamed Bd.named
  have hnm := (name_of_methodNamed Bd.named Bd.method).1
  have X0 : Stand p l e ({ frames := 3, cells := 0, slots := 0, locals := 40 } : Room) s m #[(.ref str), (.int j)] below meth c s₁ [] 0 0 := Stand.of_body Bd
  have e0 : s₁.heap = h0 := by rw [← hh, Bd.state]; rfl
  have N0 := Fr.nil n0
  have hlk : meth.locks = false := BodyLoose.notSynchronized Bd
  have pre0 : ∀ t, Steps p.tables e below (s₁.setTop (mkF m 0 #[.val (.ref str), .val (.int j)] [])) t → Steps p.tables e below (s₁.setTop (entryFrame m #[(.ref str), (.int j)] 2)) t := fun t k => castTop (ef_13 m str j) k
  obtain ⟨cq1, kq1, q1a, q1b, q1c⟩ := isOf hZ e0 Est
  obtain ⟨_, _, ⟨T1, L1, k1, n1⟩, -, X1, ⟨Lc1, hQ1, l1, y1, z1⟩, st1⟩ := X0.virtualBack hx (y := (⟨"java/lang/String", "isLatin1", "()Z"⟩ : MethodName)) (z := (⟨"java/lang/String", "isLatin1", "()Z"⟩ : MethodName)) hown (mvT hZ (hw _ (List.mem_of_getElem? (i := 174) rfl))) (mvT hZ (hw _ (List.mem_of_getElem? (i := 175) rfl))) (notFace_of_selects (args := #[]) (mvT hZ (hw _ (List.mem_of_getElem? (i := 177) rfl)))) (mvT hZ (hw _ (List.mem_of_getElem? (i := 177) rfl))) (mvT hZ (hw _ (List.mem_of_getElem? (i := 176) rfl))) (by decide) (backOf (W := 0) (st_lat l Z a0 hw [] str zc h0 n0 Z0 X00 SC hzc Gc) hZ (hw _ (List.mem_of_getElem? (i := 178) rfl)) (hw _ (List.mem_of_getElem? (i := 36) rfl)) (by decide) (by decide)) q1a q1c (g := (mkF m 1 #[.val (.ref str), .val (.int j)] [(.ref str)])) rfl (by rw [hml]; rfl) (Steps.refl _) (argsL := []) (rest := []) (lenOf pd_162 rfl) rfl (by show 2 * 0 + _ ≤ _; exact Nat.le_of_eq rfl) (hb hby d_jdk_42_method_56_code_1) (fun _ _ => ⟨rfl, e0, (by decide : 0 + 0 ≤ _), (by decide : 0 + 0 ≤ _)⟩)
  dsimp only [Pt.U, Pt.locs, Pt.cells, Pt.slots] at X1 l1 y1 z1 st1 hQ1
  subst l1 y1 z1
  obtain ⟨rfl, N1q, e1⟩ := hQ1
  have N1 := Fr.app N0 N1q
  obtain ⟨T2, X2, e2, st2⟩ := getF X1 hx hZ hown (host := "") (Or.inl (hw _ (List.mem_of_getElem? (i := 92) rfl))) Via.refl e1 Gv (g := (mkF m 8 #[.val (.ref str), .val (.int j)] [(.ref str)])) rfl rfl (hb hby d_jdk_42_method_56_code_8)
  obtain ⟨_, _, ⟨T3, L3, k3, n3⟩, -, X3, ⟨Lc3, hQ3, l3, y3, z3⟩, st3⟩ := Jvm.LawKit.callS X2 hx (y := (⟨"java/lang/StringLatin1", "charAt", "([BI)C"⟩ : MethodName)) hown (mvT hZ (hw _ (List.mem_of_getElem? (i := 179) rfl))) (mvT hZ (hw _ (List.mem_of_getElem? (i := 180) rfl))) (mvT hZ (hw _ (List.mem_of_getElem? (i := 181) rfl))) (mvT hZ (hw _ (List.mem_of_getElem? (i := 182) rfl))) (by decide) (backOf (W := 0) (sl_ch l Z a0 hw [] sv ks len j vv bs vF h0 n0 Z0 X00 SF hF Vs hj hv hv0 hv1) hZ (hw _ (List.mem_of_getElem? (i := 182) rfl)) (hw _ (List.mem_of_getElem? (i := 181) rfl)) (by decide) (by decide)) (g := (mkF m 12 #[.val (.ref str), .val (.int j)] [(.int j), (.ref sv)])) rfl (by rw [hml]; rfl) (argsL := [(.ref sv), (.int j)]) (rest := []) (lenOf pd_448 rfl) rfl (by show 2 * 0 + _ ≤ _; exact Nat.le_of_eq rfl) (hb hby d_jdk_42_method_56_code_12) (fun _ _ => ⟨rfl, e2, (by decide : 0 + 0 ≤ _), (by decide : 0 + 0 ≤ _)⟩)
  dsimp only [Pt.U, Pt.locs, Pt.cells, Pt.slots] at X3 l3 y3 z3 st3 hQ3
  subst l3 y3 z3
  obtain ⟨rfl, N3q, e3⟩ := hQ3
  have N3 := Fr.app N1 N3q
  obtain ⟨fs, hr, hrun, hended, hW, hsame⟩ := X3.leave (v := (some (.int (nar .char vv)))) (fun h => by rw [Bd.returns] at h; cases h) (hlocks := hlk)
  refine ⟨_, _, pre0 _ ?_, hrun, hended, _, _, rfl, ?_, ⟨_, rfl⟩, hW, hsame.mono (by decide) (by decide)⟩
  · show Steps p.tables e below (s₁.setTop (mkF m 0 #[.val (.ref str), .val (.int j)] [])) _
    refine XS.aloadN X0.here hx rfl (hb hby d_jdk_42_method_56_code_0) rfl rfl ?_
    show Steps p.tables e below (s₁.setTop (mkF m 1 #[.val (.ref str), .val (.int j)] [(.ref str)])) _
    refine st1.trans ?_
    show Steps p.tables e below (T1.setTop (mkF m 4 #[.val (.ref str), .val (.int j)] [(.int (1 : Int32))])) _
    refine XS.ifNo X1.here hx rfl (hb hby d_jdk_42_method_56_code_4) rfl (by decide) ?_
    show Steps p.tables e below (T1.setTop (mkF m 7 #[.val (.ref str), .val (.int j)] [])) _
    refine XS.aloadN X1.here hx rfl (hb hby d_jdk_42_method_56_code_7) rfl rfl ?_
    show Steps p.tables e below (T1.setTop (mkF m 8 #[.val (.ref str), .val (.int j)] [(.ref str)])) _
    refine st2 _ ?_
    show Steps p.tables e below (T2.setTop (mkF m 11 #[.val (.ref str), .val (.int j)] [(.ref sv)])) _
    refine XS.iloadN X2.here hx rfl (hb hby d_jdk_42_method_56_code_11) rfl ?_
    show Steps p.tables e below (T2.setTop (mkF m 12 #[.val (.ref str), .val (.int j)] [(.int j), (.ref sv)])) _
    refine st3 _ ?_
    show Steps p.tables e below (T3.setTop (mkF m 15 #[.val (.ref str), .val (.int j)] [(.int (nar .char vv))])) _
    rw [show nar .char vv = vv from own_i2c hv0 hv1]
    show Steps p.tables e below (T3.setTop (mkF m 15 #[.val (.ref str), .val (.int j)] [(.int vv)])) _
    exact retN X3 hx (t := .char) Bd.returns (by simp) (hb hby d_jdk_42_method_56_code_15) hr
  · exact ⟨by rw [show nar .char vv = vv from own_i2c hv0 hv1], N3, e3⟩
theorem d_method_3_code_0 : decode method_3_code 0 = .ok (.iload_n 2, 1) := by decide +kernel
theorem d_method_3_code_1 : decode method_3_code 1 = .ok (.invokestatic 7, 3) := by decide +kernel
theorem d_method_3_code_4 : decode method_3_code 4 = .ok (.istore_n 3, 1) := by decide +kernel
theorem d_method_3_code_5 : decode method_3_code 5 = .ok (.iload_n 1, 1) := by decide +kernel
theorem d_method_3_code_6 : decode method_3_code 6 = .ok (.iload_n 3, 1) := by decide +kernel
theorem d_method_3_code_7 : decode method_3_code 7 = .ok (.iadd, 1) := by decide +kernel
theorem d_method_3_code_8 : decode method_3_code 8 = .ok (.iconst 1, 1) := by decide +kernel
theorem d_method_3_code_9 : decode method_3_code 9 = .ok (.isub, 1) := by decide +kernel
theorem d_method_3_code_10 : decode method_3_code 10 = .ok (.istore 4, 2) := by decide +kernel
theorem d_method_3_code_12 : decode method_3_code 12 = .ok (.aload_n 0, 1) := by decide +kernel
theorem d_method_3_code_13 : decode method_3_code 13 = .ok (.iload 4, 2) := by decide +kernel
theorem d_method_3_code_15 : decode method_3_code 15 = .ok (.invokevirtual 13, 3) := by decide +kernel
theorem pd_462 : parseMethodDescriptor "(I)C" = some ⟨[.int], some .char⟩ := by decide +kernel
theorem d_method_3_code_18 : decode method_3_code 18 = .ok (.bipush 48, 2) := by decide +kernel
theorem d_method_3_code_20 : decode method_3_code 20 = .ok (.iload_n 2, 1) := by decide +kernel
theorem d_method_3_code_21 : decode method_3_code 21 = .ok (.bipush 10, 2) := by decide +kernel
theorem d_method_3_code_23 : decode method_3_code 23 = .ok (.irem, 1) := by decide +kernel
theorem d_method_3_code_24 : decode method_3_code 24 = .ok (.iadd, 1) := by decide +kernel
theorem d_method_3_code_25 : decode method_3_code 25 = .ok (.i2c, 1) := by decide +kernel
theorem d_method_3_code_26 : decode method_3_code 26 = .ok (.if_icmp .ne 7, 3) := by decide +kernel
theorem d_method_3_code_29 : decode method_3_code 29 = .ok (.iconst 1, 1) := by decide +kernel
theorem d_method_3_code_30 : decode method_3_code 30 = .ok (.goto 4, 3) := by decide +kernel
theorem d_method_3_code_34 : decode method_3_code 34 = .ok (.istore 5, 2) := by decide +kernel
theorem d_method_3_code_36 : decode method_3_code 36 = .ok (.iload_n 3, 1) := by decide +kernel
theorem d_method_3_code_37 : decode method_3_code 37 = .ok (.iconst 2, 1) := by decide +kernel
theorem d_method_3_code_38 : decode method_3_code 38 = .ok (.if_icmp .lt 37, 3) := by decide +kernel
theorem d_method_3_code_75 : decode method_3_code 75 = .ok (.iload_n 3, 1) := by decide +kernel
theorem d_method_3_code_76 : decode method_3_code 76 = .ok (.iconst 3, 1) := by decide +kernel
theorem d_method_3_code_77 : decode method_3_code 77 = .ok (.if_icmp .lt 37, 3) := by decide +kernel
theorem d_method_3_code_114 : decode method_3_code 114 = .ok (.iload_n 3, 1) := by decide +kernel
theorem d_method_3_code_115 : decode method_3_code 115 = .ok (.iconst 4, 1) := by decide +kernel
theorem d_method_3_code_116 : decode method_3_code 116 = .ok (.if_icmp .lt 38, 3) := by decide +kernel
theorem d_method_3_code_154 : decode method_3_code 154 = .ok (.iload_n 3, 1) := by decide +kernel
theorem d_method_3_code_155 : decode method_3_code 155 = .ok (.iconst 5, 1) := by decide +kernel
theorem d_method_3_code_156 : decode method_3_code 156 = .ok (.if_icmp .lt 38, 3) := by decide +kernel
theorem d_method_3_code_194 : decode method_3_code 194 = .ok (.iload 5, 2) := by decide +kernel
theorem d_method_3_code_196 : decode method_3_code 196 = .ok (.ireturn, 1) := by decide +kernel
theorem ef_487 (m : MethodId) (x0 : Addr) (x1 : Int32) (x2 : Int32) : entryFrame m #[(.ref x0), (.int x1), (.int x2)] 6 = mkF m 0 #[.val (.ref x0), .val (.int x1), .val (.int x2), .unset, .unset, .unset] [] := by first | (simp [entryFrame, mkF, argsToLocals, Value.category]; done) | rfl
def Q_na_1 (Z : State) (str sv : Addr) (ks : ClassId) (len off p1 : Int32) (bs : List Value) (vF : Value) (zc : Int32) (h0 : Heap) (n0 : Nat) (v : Option Value) (h : Heap) (L : List Loc) : Prop := v = some (.int (1 : Int32)) ∧ Fr n0 L ∧ h = h0
set_option maxRecDepth 65536 in
set_option maxHeartbeats 40000000 in
theorem na_1 (l : Launch) (Z : State) (a0 : Array Value) (hw : ∀ d ∈ tables_1, d.before a0 Z = true) (ws : List Jvm.Cond) (str sv : Addr) (ks : ClassId) (len off p1 : Int32) (bs : List Value) (vF : Value) (zc : Int32) (h0 : Heap) (n0 : Nat) (Z0 : n0 ≤ h0.size) (X00 : Old Z n0 h0)(SF : Sta Z Z.heap "jdk/internal/util/Preconditions" "SIOOBE_FORMATTER" "Ljava/util/function/BiFunction;" vF) (hF : vF.isRef = true)(SC : Sta Z Z.heap "java/lang/String" "COMPACT_STRINGS" "Z" (.int zc)) (hzc : ¬ zc = 0)(Est : Exa Z h0 str "java/lang/String") (Gv : Fld Z h0 str "java/lang/String" "value" "[B" (.ref sv)) (Gc : Fld Z h0 str "java/lang/String" "coder" "B" (.int (0 : Int32)))(Vs : Arv Z h0 sv ks .byte len bs (.int 0)) (hlen : len.toInt < 100) (ho0 : 0 ≤ off.toInt) (ho1 : off.toInt + (own_sz p1).toInt ≤ len.toInt) (hbs : own_has bs (off + own_sz p1).toNatClampNeg p1)(hlo : 0 ≤ p1.toInt) (hhi : p1.toInt < 10) :
    MetFree l (⟨"com/example/head_count/headcount/NodeIdRangeToStringPinLaw", "numAt", "(Ljava/lang/String;II)Z"⟩ : MethodName) (head1 (Jvm.Cond.code (⟨"com/example/head_count/headcount/NodeIdRangeToStringPinLaw", "numAt", "(Ljava/lang/String;II)Z"⟩ : MethodName) method_3_code 6 (Option.some Jvm.ClassFile.FieldType.boolean) :: ws) ({ frames := 4, cells := 0, slots := 0, locals := 53 } : Room)) (fun a U => a = #[(.ref str), (.int off), (.int p1)] ∧ Z.Warmed39 U.vm ∧ U.heap = h0) (fun _ _ _ _ _ => True) (fun _ U o U' => ∃ v L, o = .returned v ∧ Q_na_1 Z str sv ks len off p1 bs vF zc h0 n0 v U'.heap L ∧ FrameEnd U o U' L ({ frames := 4, cells := 0, slots := 0, locals := 53 } : Room).cells ({ frames := 4, cells := 0, slots := 0, locals := 53 } : Room).slots) := by
  refine MetFree.of_bodySF (plainFor_of_name pn_394) hisR ?_
  intro p e s m args below meth c s₁ Bd hml0 hP hK
  obtain ⟨rfl, hZ, hh⟩ := hP
  have hx := Bd.exec
  have hby := Bd.bytes
  have hml : c.maxLocals = 6 := hml0
  have hown : s.vm.findClass "com/example/head_count/headcount/NodeIdRangeToStringPinLaw" = some m.cls := findClass_of_methodNamed Bd.named
  have hnm := (name_of_methodNamed Bd.named Bd.method).1
  have X0 : Stand p l e ({ frames := 4, cells := 0, slots := 0, locals := 53 } : Room) s m #[(.ref str), (.int off), (.int p1)] below meth c s₁ [] 0 0 := Stand.of_body Bd
  have e0 : s₁.heap = h0 := by rw [← hh, Bd.state]; rfl
  have N0 := Fr.nil n0
  have hlk : meth.locks = false := BodyLoose.notSynchronized Bd
  have pre0 : ∀ t, Steps p.tables e below (s₁.setTop (mkF m 0 #[.val (.ref str), .val (.int off), .val (.int p1), .unset, .unset, .unset] [])) t → Steps p.tables e below (s₁.setTop (entryFrame m #[(.ref str), (.int off), (.int p1)] 6)) t := fun t k => castTop (ef_487 m str off p1) k
  have hsz : own_sz p1 = (1 : Int32) := own_szE1 ⟨hlo, hhi⟩
  obtain ⟨ee, hee⟩ : ∃ z, z = off + own_sz p1 := ⟨_, rfl⟩
  rw [← hee] at hbs
  rw [hsz] at hee ho1
  have ho1 : off.toInt + 1 ≤ len.toInt := ho1
  have eei : ee.toInt = off.toInt + 1 := by rw [hee]; exact own_addk rfl ho0 (by omega) (by omega)
  obtain ⟨e0_, he0⟩ : ∃ z, z = ee - (1 : Int32) := ⟨_, rfl⟩
  have y0 : e0_.toInt = ee.toInt - 1 := by rw [he0]; exact own_sbd ee 1 1 rfl (by omega) (by omega)
  obtain ⟨D0, hD0⟩ : ∃ z, z = (48 : Int32) + p1 % (10 : Int32) := ⟨_, rfl⟩
  have d0 : 0 ≤ D0.toInt ∧ D0.toInt < 128 := by rw [hD0, own_dg0 p1 (by omega)]; omega
  have m0 : bs.getD e0_.toNatClampNeg (.int 0) = .int D0 := by rw [own_tn (t := 1) y0 (by omega), hD0]; exact hbs.1
  have g0 : ¬ e0_ < 0 ∧ e0_ < len := own_bl y0 (by omega) (by omega)
  obtain ⟨_, _, ⟨T1, L1, k1, n1⟩, -, X1, ⟨Lc1, hQ1, l1, y1, z1⟩, st1⟩ := Jvm.LawKit.callS X0 hx (y := (⟨"com/example/head_count/headcount/NodeIdRangeToStringPinLaw", "digits", "(I)I"⟩ : MethodName)) hown (mvT hZ (hw _ (List.mem_of_getElem? (i := 164) rfl))) (mvT hZ (hw _ (List.mem_of_getElem? (i := 165) rfl))) (mvT hZ (hw _ (List.mem_of_getElem? (i := 166) rfl))) (mvT hZ (hw _ (List.mem_of_getElem? (i := 167) rfl))) (by decide) (backOf (W := 0) (dg l Z a0 hw [] p1 h0 n0 Z0 (by omega) (by omega)) hZ (hw _ (List.mem_of_getElem? (i := 167) rfl)) (hw _ (List.mem_of_getElem? (i := 166) rfl)) (by decide) (by decide)) (g := (mkF m 1 #[.val (.ref str), .val (.int off), .val (.int p1), .unset, .unset, .unset] [(.int p1)])) rfl (by rw [hml]; rfl) (argsL := [(.int p1)]) (rest := []) (lenOf pd_154 rfl) rfl (by show 2 * 0 + _ ≤ _; exact Nat.le_of_eq rfl) (hb hby d_method_3_code_1) (fun _ _ => ⟨rfl, e0, (by decide : 0 + 0 ≤ _), (by decide : 0 + 0 ≤ _)⟩)
  dsimp only [Pt.U, Pt.locs, Pt.cells, Pt.slots] at X1 l1 y1 z1 st1 hQ1
  subst l1 y1 z1
  obtain ⟨rfl, N1q, e1⟩ := hQ1
  have N1 := Fr.app N0 N1q
  obtain ⟨cq2, kq2, q2a, q2b, q2c⟩ := isOf hZ e1 Est
  obtain ⟨_, _, ⟨T2, L2, k2, n2⟩, -, X2, ⟨Lc2, hQ2, l2, y2, z2⟩, st2⟩ := X1.virtualBack hx (y := (⟨"java/lang/String", "charAt", "(I)C"⟩ : MethodName)) (z := (⟨"java/lang/String", "charAt", "(I)C"⟩ : MethodName)) hown (mvT hZ (hw _ (List.mem_of_getElem? (i := 169) rfl))) (mvT hZ (hw _ (List.mem_of_getElem? (i := 170) rfl))) (notFace_of_selects (args := #[]) (mvT hZ (hw _ (List.mem_of_getElem? (i := 172) rfl)))) (mvT hZ (hw _ (List.mem_of_getElem? (i := 172) rfl))) (mvT hZ (hw _ (List.mem_of_getElem? (i := 171) rfl))) (by decide) (backOf (W := 0) (st_ch l Z a0 hw [] str sv ks len e0_ D0 bs vF zc h0 n0 Z0 X00 SF hF Vs g0 m0 d0.1 d0.2 SC hzc Est Gv Gc) hZ (hw _ (List.mem_of_getElem? (i := 173) rfl)) (hw _ (List.mem_of_getElem? (i := 36) rfl)) (by decide) (by decide)) q2a q2c (g := (mkF m 15 #[.val (.ref str), .val (.int off), .val (.int p1), .val (.int (1 : Int32)), .val (.int e0_), .unset] [(.int e0_), (.ref str)])) rfl (by rw [hml]; rfl) (Steps.refl _) (argsL := [(.int e0_)]) (rest := []) (lenOf pd_462 rfl) rfl (by show 2 * 0 + _ ≤ _; exact Nat.le_of_eq rfl) (hb hby d_method_3_code_15) (fun _ _ => ⟨rfl, e1, (by decide : 0 + 0 ≤ _), (by decide : 0 + 0 ≤ _)⟩)
  dsimp only [Pt.U, Pt.locs, Pt.cells, Pt.slots] at X2 l2 y2 z2 st2 hQ2
  subst l2 y2 z2
  obtain ⟨rfl, N2q, e2⟩ := hQ2
  have N2 := Fr.app N1 N2q
  obtain ⟨fs, hr, hrun, hended, hW, hsame⟩ := X2.leave (v := (some (.int (1 : Int32)))) (fun h => by rw [Bd.returns] at h; cases h) (hlocks := hlk)
  refine ⟨_, _, pre0 _ ?_, hrun, hended, _, _, rfl, ?_, ⟨_, rfl⟩, hW, hsame.mono (by decide) (by decide)⟩
  · show Steps p.tables e below (s₁.setTop (mkF m 0 #[.val (.ref str), .val (.int off), .val (.int p1), .unset, .unset, .unset] [])) _
    refine XS.iloadN X0.here hx rfl (hb hby d_method_3_code_0) rfl ?_
    show Steps p.tables e below (s₁.setTop (mkF m 1 #[.val (.ref str), .val (.int off), .val (.int p1), .unset, .unset, .unset] [(.int p1)])) _
    refine st1 _ ?_
    show Steps p.tables e below (T1.setTop (mkF m 4 #[.val (.ref str), .val (.int off), .val (.int p1), .unset, .unset, .unset] [(.int (own_sz p1))])) _
    rw [hsz]
    show Steps p.tables e below (T1.setTop (mkF m 4 #[.val (.ref str), .val (.int off), .val (.int p1), .unset, .unset, .unset] [(.int (1 : Int32))])) _
    refine XS.istoreN X1.here hx rfl (hb hby d_method_3_code_4) rfl (l' := #[.val (.ref str), .val (.int off), .val (.int p1), .val (.int (1 : Int32)), .unset, .unset]) rfl ?_
    show Steps p.tables e below (T1.setTop (mkF m 5 #[.val (.ref str), .val (.int off), .val (.int p1), .val (.int (1 : Int32)), .unset, .unset] [])) _
    refine XS.iloadN X1.here hx rfl (hb hby d_method_3_code_5) rfl ?_
    show Steps p.tables e below (T1.setTop (mkF m 6 #[.val (.ref str), .val (.int off), .val (.int p1), .val (.int (1 : Int32)), .unset, .unset] [(.int off)])) _
    refine XS.iloadN X1.here hx rfl (hb hby d_method_3_code_6) rfl ?_
    show Steps p.tables e below (T1.setTop (mkF m 7 #[.val (.ref str), .val (.int off), .val (.int p1), .val (.int (1 : Int32)), .unset, .unset] [(.int (1 : Int32)), (.int off)])) _
    refine XS.iadd X1.here hx rfl (hb hby d_method_3_code_7) rfl ?_
    show Steps p.tables e below (T1.setTop (mkF m 8 #[.val (.ref str), .val (.int off), .val (.int p1), .val (.int (1 : Int32)), .unset, .unset] [(.int (off + (1 : Int32)))])) _
    rw [← hee]
    show Steps p.tables e below (T1.setTop (mkF m 8 #[.val (.ref str), .val (.int off), .val (.int p1), .val (.int (1 : Int32)), .unset, .unset] [(.int ee)])) _
    refine XT.iconstV X1.here hx rfl (1 : Int32) (hb hby d_method_3_code_8) (by decide) ?_
    show Steps p.tables e below (T1.setTop (mkF m 9 #[.val (.ref str), .val (.int off), .val (.int p1), .val (.int (1 : Int32)), .unset, .unset] [(.int (1 : Int32)), (.int ee)])) _
    refine XS.isub X1.here hx rfl (hb hby d_method_3_code_9) rfl ?_
    show Steps p.tables e below (T1.setTop (mkF m 10 #[.val (.ref str), .val (.int off), .val (.int p1), .val (.int (1 : Int32)), .unset, .unset] [(.int (ee - (1 : Int32)))])) _
    rw [← he0]
    show Steps p.tables e below (T1.setTop (mkF m 10 #[.val (.ref str), .val (.int off), .val (.int p1), .val (.int (1 : Int32)), .unset, .unset] [(.int e0_)])) _
    refine XS.istore X1.here hx rfl (hb hby d_method_3_code_10) rfl (l' := #[.val (.ref str), .val (.int off), .val (.int p1), .val (.int (1 : Int32)), .val (.int e0_), .unset]) rfl ?_
    show Steps p.tables e below (T1.setTop (mkF m 12 #[.val (.ref str), .val (.int off), .val (.int p1), .val (.int (1 : Int32)), .val (.int e0_), .unset] [])) _
    refine XS.aloadN X1.here hx rfl (hb hby d_method_3_code_12) rfl rfl ?_
    show Steps p.tables e below (T1.setTop (mkF m 13 #[.val (.ref str), .val (.int off), .val (.int p1), .val (.int (1 : Int32)), .val (.int e0_), .unset] [(.ref str)])) _
    refine XS.iload X1.here hx rfl (hb hby d_method_3_code_13) rfl ?_
    show Steps p.tables e below (T1.setTop (mkF m 15 #[.val (.ref str), .val (.int off), .val (.int p1), .val (.int (1 : Int32)), .val (.int e0_), .unset] [(.int e0_), (.ref str)])) _
    refine st2.trans ?_
    show Steps p.tables e below (T2.setTop (mkF m 18 #[.val (.ref str), .val (.int off), .val (.int p1), .val (.int (1 : Int32)), .val (.int e0_), .unset] [(.int D0)])) _
    refine XT.bipushV X2.here hx rfl (48 : Int32) (hb hby d_method_3_code_18) (by decide) ?_
    show Steps p.tables e below (T2.setTop (mkF m 20 #[.val (.ref str), .val (.int off), .val (.int p1), .val (.int (1 : Int32)), .val (.int e0_), .unset] [(.int (48 : Int32)), (.int D0)])) _
    refine XS.iloadN X2.here hx rfl (hb hby d_method_3_code_20) rfl ?_
    show Steps p.tables e below (T2.setTop (mkF m 21 #[.val (.ref str), .val (.int off), .val (.int p1), .val (.int (1 : Int32)), .val (.int e0_), .unset] [(.int p1), (.int (48 : Int32)), (.int D0)])) _
    refine XT.bipushV X2.here hx rfl (10 : Int32) (hb hby d_method_3_code_21) (by decide) ?_
    show Steps p.tables e below (T2.setTop (mkF m 23 #[.val (.ref str), .val (.int off), .val (.int p1), .val (.int (1 : Int32)), .val (.int e0_), .unset] [(.int (10 : Int32)), (.int p1), (.int (48 : Int32)), (.int D0)])) _
    refine iremM X2 hx rfl (hb hby d_method_3_code_23) rfl (by decide) ?_
    show Steps p.tables e below (T2.setTop (mkF m 24 #[.val (.ref str), .val (.int off), .val (.int p1), .val (.int (1 : Int32)), .val (.int e0_), .unset] [(.int (p1 % (10 : Int32))), (.int (48 : Int32)), (.int D0)])) _
    refine XS.iadd X2.here hx rfl (hb hby d_method_3_code_24) rfl ?_
    show Steps p.tables e below (T2.setTop (mkF m 25 #[.val (.ref str), .val (.int off), .val (.int p1), .val (.int (1 : Int32)), .val (.int e0_), .unset] [(.int ((48 : Int32) + (p1 % (10 : Int32)))), (.int D0)])) _
    rw [← hD0]
    show Steps p.tables e below (T2.setTop (mkF m 25 #[.val (.ref str), .val (.int off), .val (.int p1), .val (.int (1 : Int32)), .val (.int e0_), .unset] [(.int D0), (.int D0)])) _
    refine XT.i2c X2.here hx rfl (hb hby d_method_3_code_25) rfl ?_
    show Steps p.tables e below (T2.setTop (mkF m 26 #[.val (.ref str), .val (.int off), .val (.int p1), .val (.int (1 : Int32)), .val (.int e0_), .unset] [(.int (D0).toUInt32.toUInt16.toUInt32.toInt32), (.int D0)])) _
    rw [own_i2c d0.1 d0.2]
    show Steps p.tables e below (T2.setTop (mkF m 26 #[.val (.ref str), .val (.int off), .val (.int p1), .val (.int (1 : Int32)), .val (.int e0_), .unset] [(.int D0), (.int D0)])) _
    refine XS.icmpNo X2.here hx rfl (hb hby d_method_3_code_26) rfl (teq rfl).2 ?_
    show Steps p.tables e below (T2.setTop (mkF m 29 #[.val (.ref str), .val (.int off), .val (.int p1), .val (.int (1 : Int32)), .val (.int e0_), .unset] [])) _
    refine XT.iconstV X2.here hx rfl (1 : Int32) (hb hby d_method_3_code_29) (by decide) ?_
    show Steps p.tables e below (T2.setTop (mkF m 30 #[.val (.ref str), .val (.int off), .val (.int p1), .val (.int (1 : Int32)), .val (.int e0_), .unset] [(.int (1 : Int32))])) _
    refine XS.goto X2.here hx rfl (pc0 := 30) (pc' := 34) rfl (hb hby d_method_3_code_30) (by decide) (by decide) ?_
    show Steps p.tables e below (T2.setTop (mkF m 34 #[.val (.ref str), .val (.int off), .val (.int p1), .val (.int (1 : Int32)), .val (.int e0_), .unset] [(.int (1 : Int32))])) _
    refine XS.istore X2.here hx rfl (hb hby d_method_3_code_34) rfl (l' := #[.val (.ref str), .val (.int off), .val (.int p1), .val (.int (1 : Int32)), .val (.int e0_), .val (.int (1 : Int32))]) rfl ?_
    show Steps p.tables e below (T2.setTop (mkF m 36 #[.val (.ref str), .val (.int off), .val (.int p1), .val (.int (1 : Int32)), .val (.int e0_), .val (.int (1 : Int32))] [])) _
    refine XS.iloadN X2.here hx rfl (hb hby d_method_3_code_36) rfl ?_
    show Steps p.tables e below (T2.setTop (mkF m 37 #[.val (.ref str), .val (.int off), .val (.int p1), .val (.int (1 : Int32)), .val (.int e0_), .val (.int (1 : Int32))] [(.int (1 : Int32))])) _
    refine XT.iconstV X2.here hx rfl (2 : Int32) (hb hby d_method_3_code_37) (by decide) ?_
    show Steps p.tables e below (T2.setTop (mkF m 38 #[.val (.ref str), .val (.int off), .val (.int p1), .val (.int (1 : Int32)), .val (.int e0_), .val (.int (1 : Int32))] [(.int (2 : Int32)), (.int (1 : Int32))])) _
    refine XS.icmpYes X2.here hx rfl (pc0 := 38) (pc' := 75) rfl (hb hby d_method_3_code_38) rfl (by decide) (by decide) (by decide) ?_
    show Steps p.tables e below (T2.setTop (mkF m 75 #[.val (.ref str), .val (.int off), .val (.int p1), .val (.int (1 : Int32)), .val (.int e0_), .val (.int (1 : Int32))] [])) _
    refine XS.iloadN X2.here hx rfl (hb hby d_method_3_code_75) rfl ?_
    show Steps p.tables e below (T2.setTop (mkF m 76 #[.val (.ref str), .val (.int off), .val (.int p1), .val (.int (1 : Int32)), .val (.int e0_), .val (.int (1 : Int32))] [(.int (1 : Int32))])) _
    refine XT.iconstV X2.here hx rfl (3 : Int32) (hb hby d_method_3_code_76) (by decide) ?_
    show Steps p.tables e below (T2.setTop (mkF m 77 #[.val (.ref str), .val (.int off), .val (.int p1), .val (.int (1 : Int32)), .val (.int e0_), .val (.int (1 : Int32))] [(.int (3 : Int32)), (.int (1 : Int32))])) _
    refine XS.icmpYes X2.here hx rfl (pc0 := 77) (pc' := 114) rfl (hb hby d_method_3_code_77) rfl (by decide) (by decide) (by decide) ?_
    show Steps p.tables e below (T2.setTop (mkF m 114 #[.val (.ref str), .val (.int off), .val (.int p1), .val (.int (1 : Int32)), .val (.int e0_), .val (.int (1 : Int32))] [])) _
    refine XS.iloadN X2.here hx rfl (hb hby d_method_3_code_114) rfl ?_
    show Steps p.tables e below (T2.setTop (mkF m 115 #[.val (.ref str), .val (.int off), .val (.int p1), .val (.int (1 : Int32)), .val (.int e0_), .val (.int (1 : Int32))] [(.int (1 : Int32))])) _
    refine XT.iconstV X2.here hx rfl (4 : Int32) (hb hby d_method_3_code_115) (by decide) ?_
    show Steps p.tables e below (T2.setTop (mkF m 116 #[.val (.ref str), .val (.int off), .val (.int p1), .val (.int (1 : Int32)), .val (.int e0_), .val (.int (1 : Int32))] [(.int (4 : Int32)), (.int (1 : Int32))])) _
    refine XS.icmpYes X2.here hx rfl (pc0 := 116) (pc' := 154) rfl (hb hby d_method_3_code_116) rfl (by decide) (by decide) (by decide) ?_
    show Steps p.tables e below (T2.setTop (mkF m 154 #[.val (.ref str), .val (.int off), .val (.int p1), .val (.int (1 : Int32)), .val (.int e0_), .val (.int (1 : Int32))] [])) _
    refine XS.iloadN X2.here hx rfl (hb hby d_method_3_code_154) rfl ?_
    show Steps p.tables e below (T2.setTop (mkF m 155 #[.val (.ref str), .val (.int off), .val (.int p1), .val (.int (1 : Int32)), .val (.int e0_), .val (.int (1 : Int32))] [(.int (1 : Int32))])) _
    refine XT.iconstV X2.here hx rfl (5 : Int32) (hb hby d_method_3_code_155) (by decide) ?_
    show Steps p.tables e below (T2.setTop (mkF m 156 #[.val (.ref str), .val (.int off), .val (.int p1), .val (.int (1 : Int32)), .val (.int e0_), .val (.int (1 : Int32))] [(.int (5 : Int32)), (.int (1 : Int32))])) _
    refine XS.icmpYes X2.here hx rfl (pc0 := 156) (pc' := 194) rfl (hb hby d_method_3_code_156) rfl (by decide) (by decide) (by decide) ?_
    show Steps p.tables e below (T2.setTop (mkF m 194 #[.val (.ref str), .val (.int off), .val (.int p1), .val (.int (1 : Int32)), .val (.int e0_), .val (.int (1 : Int32))] [])) _
    refine XS.iload X2.here hx rfl (hb hby d_method_3_code_194) rfl ?_
    show Steps p.tables e below (T2.setTop (mkF m 196 #[.val (.ref str), .val (.int off), .val (.int p1), .val (.int (1 : Int32)), .val (.int e0_), .val (.int (1 : Int32))] [(.int (1 : Int32))])) _
    exact retN X2 hx (t := .boolean) Bd.returns (by simp) (hb hby d_method_3_code_196) hr
  · exact ⟨rfl, N2, e2⟩
theorem d_method_3_code_41 : decode method_3_code 41 = .ok (.iload 5, 2) := by decide +kernel
theorem d_method_3_code_43 : decode method_3_code 43 = .ok (.ifCond .eq 29, 3) := by decide +kernel
theorem d_method_3_code_46 : decode method_3_code 46 = .ok (.aload_n 0, 1) := by decide +kernel
theorem d_method_3_code_47 : decode method_3_code 47 = .ok (.iload 4, 2) := by decide +kernel
theorem d_method_3_code_49 : decode method_3_code 49 = .ok (.iconst 1, 1) := by decide +kernel
theorem d_method_3_code_50 : decode method_3_code 50 = .ok (.isub, 1) := by decide +kernel
theorem d_method_3_code_51 : decode method_3_code 51 = .ok (.invokevirtual 13, 3) := by decide +kernel
theorem d_method_3_code_54 : decode method_3_code 54 = .ok (.bipush 48, 2) := by decide +kernel
theorem d_method_3_code_56 : decode method_3_code 56 = .ok (.iload_n 2, 1) := by decide +kernel
theorem d_method_3_code_57 : decode method_3_code 57 = .ok (.bipush 10, 2) := by decide +kernel
theorem d_method_3_code_59 : decode method_3_code 59 = .ok (.idiv, 1) := by decide +kernel
theorem d_method_3_code_60 : decode method_3_code 60 = .ok (.bipush 10, 2) := by decide +kernel
theorem d_method_3_code_62 : decode method_3_code 62 = .ok (.irem, 1) := by decide +kernel
theorem d_method_3_code_63 : decode method_3_code 63 = .ok (.iadd, 1) := by decide +kernel
theorem d_method_3_code_64 : decode method_3_code 64 = .ok (.i2c, 1) := by decide +kernel
theorem d_method_3_code_65 : decode method_3_code 65 = .ok (.if_icmp .ne 7, 3) := by decide +kernel
theorem d_method_3_code_68 : decode method_3_code 68 = .ok (.iconst 1, 1) := by decide +kernel
theorem d_method_3_code_69 : decode method_3_code 69 = .ok (.goto 4, 3) := by decide +kernel
theorem d_method_3_code_73 : decode method_3_code 73 = .ok (.istore 5, 2) := by decide +kernel
def Q_na_2 (Z : State) (str sv : Addr) (ks : ClassId) (len off p1 : Int32) (bs : List Value) (vF : Value) (zc : Int32) (h0 : Heap) (n0 : Nat) (v : Option Value) (h : Heap) (L : List Loc) : Prop := v = some (.int (1 : Int32)) ∧ Fr n0 L ∧ h = h0
set_option maxRecDepth 65536 in
set_option maxHeartbeats 40000000 in
theorem na_2 (l : Launch) (Z : State) (a0 : Array Value) (hw : ∀ d ∈ tables_1, d.before a0 Z = true) (ws : List Jvm.Cond) (str sv : Addr) (ks : ClassId) (len off p1 : Int32) (bs : List Value) (vF : Value) (zc : Int32) (h0 : Heap) (n0 : Nat) (Z0 : n0 ≤ h0.size) (X00 : Old Z n0 h0)(SF : Sta Z Z.heap "jdk/internal/util/Preconditions" "SIOOBE_FORMATTER" "Ljava/util/function/BiFunction;" vF) (hF : vF.isRef = true)(SC : Sta Z Z.heap "java/lang/String" "COMPACT_STRINGS" "Z" (.int zc)) (hzc : ¬ zc = 0)(Est : Exa Z h0 str "java/lang/String") (Gv : Fld Z h0 str "java/lang/String" "value" "[B" (.ref sv)) (Gc : Fld Z h0 str "java/lang/String" "coder" "B" (.int (0 : Int32)))(Vs : Arv Z h0 sv ks .byte len bs (.int 0)) (hlen : len.toInt < 100) (ho0 : 0 ≤ off.toInt) (ho1 : off.toInt + (own_sz p1).toInt ≤ len.toInt) (hbs : own_has bs (off + own_sz p1).toNatClampNeg p1)(hlo : 10 ≤ p1.toInt) (hhi : p1.toInt < 100) :
    MetFree l (⟨"com/example/head_count/headcount/NodeIdRangeToStringPinLaw", "numAt", "(Ljava/lang/String;II)Z"⟩ : MethodName) (head1 (Jvm.Cond.code (⟨"com/example/head_count/headcount/NodeIdRangeToStringPinLaw", "numAt", "(Ljava/lang/String;II)Z"⟩ : MethodName) method_3_code 6 (Option.some Jvm.ClassFile.FieldType.boolean) :: ws) ({ frames := 4, cells := 0, slots := 0, locals := 53 } : Room)) (fun a U => a = #[(.ref str), (.int off), (.int p1)] ∧ Z.Warmed39 U.vm ∧ U.heap = h0) (fun _ _ _ _ _ => True) (fun _ U o U' => ∃ v L, o = .returned v ∧ Q_na_2 Z str sv ks len off p1 bs vF zc h0 n0 v U'.heap L ∧ FrameEnd U o U' L ({ frames := 4, cells := 0, slots := 0, locals := 53 } : Room).cells ({ frames := 4, cells := 0, slots := 0, locals := 53 } : Room).slots) := by
  refine MetFree.of_bodySF (plainFor_of_name pn_394) hisR ?_
  intro p e s m args below meth c s₁ Bd hml0 hP hK
  obtain ⟨rfl, hZ, hh⟩ := hP
  have hx := Bd.exec
  have hby := Bd.bytes
  have hml : c.maxLocals = 6 := hml0
  have hown : s.vm.findClass "com/example/head_count/headcount/NodeIdRangeToStringPinLaw" = some m.cls := findClass_of_methodNamed Bd.named
  have hnm := (name_of_methodNamed Bd.named Bd.method).1
  have X0 : Stand p l e ({ frames := 4, cells := 0, slots := 0, locals := 53 } : Room) s m #[(.ref str), (.int off), (.int p1)] below meth c s₁ [] 0 0 := Stand.of_body Bd
  have e0 : s₁.heap = h0 := by rw [← hh, Bd.state]; rfl
  have N0 := Fr.nil n0
  have hlk : meth.locks = false := BodyLoose.notSynchronized Bd
  have pre0 : ∀ t, Steps p.tables e below (s₁.setTop (mkF m 0 #[.val (.ref str), .val (.int off), .val (.int p1), .unset, .unset, .unset] [])) t → Steps p.tables e below (s₁.setTop (entryFrame m #[(.ref str), (.int off), (.int p1)] 6)) t := fun t k => castTop (ef_487 m str off p1) k
  have hsz : own_sz p1 = (2 : Int32) := own_szE2 ⟨hlo, hhi⟩
  obtain ⟨ee, hee⟩ : ∃ z, z = off + own_sz p1 := ⟨_, rfl⟩
  rw [← hee] at hbs
  rw [hsz] at hee ho1
  have ho1 : off.toInt + 2 ≤ len.toInt := ho1
  have eei : ee.toInt = off.toInt + 2 := by rw [hee]; exact own_addk rfl ho0 (by omega) (by omega)
  obtain ⟨e0_, he0⟩ : ∃ z, z = ee - (1 : Int32) := ⟨_, rfl⟩
  have y0 : e0_.toInt = ee.toInt - 1 := by rw [he0]; exact own_sbd ee 1 1 rfl (by omega) (by omega)
  obtain ⟨D0, hD0⟩ : ∃ z, z = (48 : Int32) + p1 % (10 : Int32) := ⟨_, rfl⟩
  have d0 : 0 ≤ D0.toInt ∧ D0.toInt < 128 := by rw [hD0, own_dg0 p1 (by omega)]; omega
  have m0 : bs.getD e0_.toNatClampNeg (.int 0) = .int D0 := by rw [own_tn (t := 1) y0 (by omega), hD0]; exact hbs.1
  have g0 : ¬ e0_ < 0 ∧ e0_ < len := own_bl y0 (by omega) (by omega)
  obtain ⟨e1_, he1⟩ : ∃ z, z = e0_ - (1 : Int32) := ⟨_, rfl⟩
  have y1 : e1_.toInt = ee.toInt - 2 := by rw [he1, own_sbd e0_ 1 1 rfl (by omega) (by rw [y0]; omega), y0]; omega
  obtain ⟨D1, hD1⟩ : ∃ z, z = (48 : Int32) + p1 / (10 : Int32) % (10 : Int32) := ⟨_, rfl⟩
  have d1 : 0 ≤ D1.toInt ∧ D1.toInt < 128 := by rw [hD1, own_dg p1 10 10 rfl (by decide) (by omega) (by omega)]; omega
  have m1 : bs.getD e1_.toNatClampNeg (.int 0) = .int D1 := by rw [own_tn (t := 2) y1 (by omega), hD1]; exact hbs.2.1 (by omega)
  have g1 : ¬ e1_ < 0 ∧ e1_ < len := own_bl y1 (by omega) (by omega)
  obtain ⟨_, _, ⟨T1, L1, k1, n1⟩, -, X1, ⟨Lc1, hQ1, l1, y1, z1⟩, st1⟩ := Jvm.LawKit.callS X0 hx (y := (⟨"com/example/head_count/headcount/NodeIdRangeToStringPinLaw", "digits", "(I)I"⟩ : MethodName)) hown (mvT hZ (hw _ (List.mem_of_getElem? (i := 164) rfl))) (mvT hZ (hw _ (List.mem_of_getElem? (i := 165) rfl))) (mvT hZ (hw _ (List.mem_of_getElem? (i := 166) rfl))) (mvT hZ (hw _ (List.mem_of_getElem? (i := 167) rfl))) (by decide) (backOf (W := 0) (dg l Z a0 hw [] p1 h0 n0 Z0 (by omega) (by omega)) hZ (hw _ (List.mem_of_getElem? (i := 167) rfl)) (hw _ (List.mem_of_getElem? (i := 166) rfl)) (by decide) (by decide)) (g := (mkF m 1 #[.val (.ref str), .val (.int off), .val (.int p1), .unset, .unset, .unset] [(.int p1)])) rfl (by rw [hml]; rfl) (argsL := [(.int p1)]) (rest := []) (lenOf pd_154 rfl) rfl (by show 2 * 0 + _ ≤ _; exact Nat.le_of_eq rfl) (hb hby d_method_3_code_1) (fun _ _ => ⟨rfl, e0, (by decide : 0 + 0 ≤ _), (by decide : 0 + 0 ≤ _)⟩)
  dsimp only [Pt.U, Pt.locs, Pt.cells, Pt.slots] at X1 l1 y1 z1 st1 hQ1
  subst l1 y1 z1
  obtain ⟨rfl, N1q, e1⟩ := hQ1
  have N1 := Fr.app N0 N1q
  obtain ⟨cq2, kq2, q2a, q2b, q2c⟩ := isOf hZ e1 Est
  obtain ⟨_, _, ⟨T2, L2, k2, n2⟩, -, X2, ⟨Lc2, hQ2, l2, y2, z2⟩, st2⟩ := X1.virtualBack hx (y := (⟨"java/lang/String", "charAt", "(I)C"⟩ : MethodName)) (z := (⟨"java/lang/String", "charAt", "(I)C"⟩ : MethodName)) hown (mvT hZ (hw _ (List.mem_of_getElem? (i := 169) rfl))) (mvT hZ (hw _ (List.mem_of_getElem? (i := 170) rfl))) (notFace_of_selects (args := #[]) (mvT hZ (hw _ (List.mem_of_getElem? (i := 172) rfl)))) (mvT hZ (hw _ (List.mem_of_getElem? (i := 172) rfl))) (mvT hZ (hw _ (List.mem_of_getElem? (i := 171) rfl))) (by decide) (backOf (W := 0) (st_ch l Z a0 hw [] str sv ks len e0_ D0 bs vF zc h0 n0 Z0 X00 SF hF Vs g0 m0 d0.1 d0.2 SC hzc Est Gv Gc) hZ (hw _ (List.mem_of_getElem? (i := 173) rfl)) (hw _ (List.mem_of_getElem? (i := 36) rfl)) (by decide) (by decide)) q2a q2c (g := (mkF m 15 #[.val (.ref str), .val (.int off), .val (.int p1), .val (.int (2 : Int32)), .val (.int e0_), .unset] [(.int e0_), (.ref str)])) rfl (by rw [hml]; rfl) (Steps.refl _) (argsL := [(.int e0_)]) (rest := []) (lenOf pd_462 rfl) rfl (by show 2 * 0 + _ ≤ _; exact Nat.le_of_eq rfl) (hb hby d_method_3_code_15) (fun _ _ => ⟨rfl, e1, (by decide : 0 + 0 ≤ _), (by decide : 0 + 0 ≤ _)⟩)
  dsimp only [Pt.U, Pt.locs, Pt.cells, Pt.slots] at X2 l2 y2 z2 st2 hQ2
  subst l2 y2 z2
  obtain ⟨rfl, N2q, e2⟩ := hQ2
  have N2 := Fr.app N1 N2q
  obtain ⟨cq3, kq3, q3a, q3b, q3c⟩ := isOf hZ e2 Est
  obtain ⟨_, _, ⟨T3, L3, k3, n3⟩, -, X3, ⟨Lc3, hQ3, l3, y3, z3⟩, st3⟩ := X2.virtualBack hx (y := (⟨"java/lang/String", "charAt", "(I)C"⟩ : MethodName)) (z := (⟨"java/lang/String", "charAt", "(I)C"⟩ : MethodName)) hown (mvT hZ (hw _ (List.mem_of_getElem? (i := 169) rfl))) (mvT hZ (hw _ (List.mem_of_getElem? (i := 170) rfl))) (notFace_of_selects (args := #[]) (mvT hZ (hw _ (List.mem_of_getElem? (i := 172) rfl)))) (mvT hZ (hw _ (List.mem_of_getElem? (i := 172) rfl))) (mvT hZ (hw _ (List.mem_of_getElem? (i := 171) rfl))) (by decide) (backOf (W := 0) (st_ch l Z a0 hw [] str sv ks len e1_ D1 bs vF zc h0 n0 Z0 X00 SF hF Vs g1 m1 d1.1 d1.2 SC hzc Est Gv Gc) hZ (hw _ (List.mem_of_getElem? (i := 173) rfl)) (hw _ (List.mem_of_getElem? (i := 36) rfl)) (by decide) (by decide)) q3a q3c (g := (mkF m 51 #[.val (.ref str), .val (.int off), .val (.int p1), .val (.int (2 : Int32)), .val (.int e0_), .val (.int (1 : Int32))] [(.int e1_), (.ref str)])) rfl (by rw [hml]; rfl) (Steps.refl _) (argsL := [(.int e1_)]) (rest := []) (lenOf pd_462 rfl) rfl (by show 2 * 0 + _ ≤ _; exact Nat.le_of_eq rfl) (hb hby d_method_3_code_51) (fun _ _ => ⟨rfl, e2, (by decide : 0 + 0 ≤ _), (by decide : 0 + 0 ≤ _)⟩)
  dsimp only [Pt.U, Pt.locs, Pt.cells, Pt.slots] at X3 l3 y3 z3 st3 hQ3
  subst l3 y3 z3
  obtain ⟨rfl, N3q, e3⟩ := hQ3
  have N3 := Fr.app N2 N3q
  obtain ⟨fs, hr, hrun, hended, hW, hsame⟩ := X3.leave (v := (some (.int (1 : Int32)))) (fun h => by rw [Bd.returns] at h; cases h) (hlocks := hlk)
  refine ⟨_, _, pre0 _ ?_, hrun, hended, _, _, rfl, ?_, ⟨_, rfl⟩, hW, hsame.mono (by decide) (by decide)⟩
  · show Steps p.tables e below (s₁.setTop (mkF m 0 #[.val (.ref str), .val (.int off), .val (.int p1), .unset, .unset, .unset] [])) _
    refine XS.iloadN X0.here hx rfl (hb hby d_method_3_code_0) rfl ?_
    show Steps p.tables e below (s₁.setTop (mkF m 1 #[.val (.ref str), .val (.int off), .val (.int p1), .unset, .unset, .unset] [(.int p1)])) _
    refine st1 _ ?_
    show Steps p.tables e below (T1.setTop (mkF m 4 #[.val (.ref str), .val (.int off), .val (.int p1), .unset, .unset, .unset] [(.int (own_sz p1))])) _
    rw [hsz]
    show Steps p.tables e below (T1.setTop (mkF m 4 #[.val (.ref str), .val (.int off), .val (.int p1), .unset, .unset, .unset] [(.int (2 : Int32))])) _
    refine XS.istoreN X1.here hx rfl (hb hby d_method_3_code_4) rfl (l' := #[.val (.ref str), .val (.int off), .val (.int p1), .val (.int (2 : Int32)), .unset, .unset]) rfl ?_
    show Steps p.tables e below (T1.setTop (mkF m 5 #[.val (.ref str), .val (.int off), .val (.int p1), .val (.int (2 : Int32)), .unset, .unset] [])) _
    refine XS.iloadN X1.here hx rfl (hb hby d_method_3_code_5) rfl ?_
    show Steps p.tables e below (T1.setTop (mkF m 6 #[.val (.ref str), .val (.int off), .val (.int p1), .val (.int (2 : Int32)), .unset, .unset] [(.int off)])) _
    refine XS.iloadN X1.here hx rfl (hb hby d_method_3_code_6) rfl ?_
    show Steps p.tables e below (T1.setTop (mkF m 7 #[.val (.ref str), .val (.int off), .val (.int p1), .val (.int (2 : Int32)), .unset, .unset] [(.int (2 : Int32)), (.int off)])) _
    refine XS.iadd X1.here hx rfl (hb hby d_method_3_code_7) rfl ?_
    show Steps p.tables e below (T1.setTop (mkF m 8 #[.val (.ref str), .val (.int off), .val (.int p1), .val (.int (2 : Int32)), .unset, .unset] [(.int (off + (2 : Int32)))])) _
    rw [← hee]
    show Steps p.tables e below (T1.setTop (mkF m 8 #[.val (.ref str), .val (.int off), .val (.int p1), .val (.int (2 : Int32)), .unset, .unset] [(.int ee)])) _
    refine XT.iconstV X1.here hx rfl (1 : Int32) (hb hby d_method_3_code_8) (by decide) ?_
    show Steps p.tables e below (T1.setTop (mkF m 9 #[.val (.ref str), .val (.int off), .val (.int p1), .val (.int (2 : Int32)), .unset, .unset] [(.int (1 : Int32)), (.int ee)])) _
    refine XS.isub X1.here hx rfl (hb hby d_method_3_code_9) rfl ?_
    show Steps p.tables e below (T1.setTop (mkF m 10 #[.val (.ref str), .val (.int off), .val (.int p1), .val (.int (2 : Int32)), .unset, .unset] [(.int (ee - (1 : Int32)))])) _
    rw [← he0]
    show Steps p.tables e below (T1.setTop (mkF m 10 #[.val (.ref str), .val (.int off), .val (.int p1), .val (.int (2 : Int32)), .unset, .unset] [(.int e0_)])) _
    refine XS.istore X1.here hx rfl (hb hby d_method_3_code_10) rfl (l' := #[.val (.ref str), .val (.int off), .val (.int p1), .val (.int (2 : Int32)), .val (.int e0_), .unset]) rfl ?_
    show Steps p.tables e below (T1.setTop (mkF m 12 #[.val (.ref str), .val (.int off), .val (.int p1), .val (.int (2 : Int32)), .val (.int e0_), .unset] [])) _
    refine XS.aloadN X1.here hx rfl (hb hby d_method_3_code_12) rfl rfl ?_
    show Steps p.tables e below (T1.setTop (mkF m 13 #[.val (.ref str), .val (.int off), .val (.int p1), .val (.int (2 : Int32)), .val (.int e0_), .unset] [(.ref str)])) _
    refine XS.iload X1.here hx rfl (hb hby d_method_3_code_13) rfl ?_
    show Steps p.tables e below (T1.setTop (mkF m 15 #[.val (.ref str), .val (.int off), .val (.int p1), .val (.int (2 : Int32)), .val (.int e0_), .unset] [(.int e0_), (.ref str)])) _
    refine st2.trans ?_
    show Steps p.tables e below (T2.setTop (mkF m 18 #[.val (.ref str), .val (.int off), .val (.int p1), .val (.int (2 : Int32)), .val (.int e0_), .unset] [(.int D0)])) _
    refine XT.bipushV X2.here hx rfl (48 : Int32) (hb hby d_method_3_code_18) (by decide) ?_
    show Steps p.tables e below (T2.setTop (mkF m 20 #[.val (.ref str), .val (.int off), .val (.int p1), .val (.int (2 : Int32)), .val (.int e0_), .unset] [(.int (48 : Int32)), (.int D0)])) _
    refine XS.iloadN X2.here hx rfl (hb hby d_method_3_code_20) rfl ?_
    show Steps p.tables e below (T2.setTop (mkF m 21 #[.val (.ref str), .val (.int off), .val (.int p1), .val (.int (2 : Int32)), .val (.int e0_), .unset] [(.int p1), (.int (48 : Int32)), (.int D0)])) _
    refine XT.bipushV X2.here hx rfl (10 : Int32) (hb hby d_method_3_code_21) (by decide) ?_
    show Steps p.tables e below (T2.setTop (mkF m 23 #[.val (.ref str), .val (.int off), .val (.int p1), .val (.int (2 : Int32)), .val (.int e0_), .unset] [(.int (10 : Int32)), (.int p1), (.int (48 : Int32)), (.int D0)])) _
    refine iremM X2 hx rfl (hb hby d_method_3_code_23) rfl (by decide) ?_
    show Steps p.tables e below (T2.setTop (mkF m 24 #[.val (.ref str), .val (.int off), .val (.int p1), .val (.int (2 : Int32)), .val (.int e0_), .unset] [(.int (p1 % (10 : Int32))), (.int (48 : Int32)), (.int D0)])) _
    refine XS.iadd X2.here hx rfl (hb hby d_method_3_code_24) rfl ?_
    show Steps p.tables e below (T2.setTop (mkF m 25 #[.val (.ref str), .val (.int off), .val (.int p1), .val (.int (2 : Int32)), .val (.int e0_), .unset] [(.int ((48 : Int32) + (p1 % (10 : Int32)))), (.int D0)])) _
    rw [← hD0]
    show Steps p.tables e below (T2.setTop (mkF m 25 #[.val (.ref str), .val (.int off), .val (.int p1), .val (.int (2 : Int32)), .val (.int e0_), .unset] [(.int D0), (.int D0)])) _
    refine XT.i2c X2.here hx rfl (hb hby d_method_3_code_25) rfl ?_
    show Steps p.tables e below (T2.setTop (mkF m 26 #[.val (.ref str), .val (.int off), .val (.int p1), .val (.int (2 : Int32)), .val (.int e0_), .unset] [(.int (D0).toUInt32.toUInt16.toUInt32.toInt32), (.int D0)])) _
    rw [own_i2c d0.1 d0.2]
    show Steps p.tables e below (T2.setTop (mkF m 26 #[.val (.ref str), .val (.int off), .val (.int p1), .val (.int (2 : Int32)), .val (.int e0_), .unset] [(.int D0), (.int D0)])) _
    refine XS.icmpNo X2.here hx rfl (hb hby d_method_3_code_26) rfl (teq rfl).2 ?_
    show Steps p.tables e below (T2.setTop (mkF m 29 #[.val (.ref str), .val (.int off), .val (.int p1), .val (.int (2 : Int32)), .val (.int e0_), .unset] [])) _
    refine XT.iconstV X2.here hx rfl (1 : Int32) (hb hby d_method_3_code_29) (by decide) ?_
    show Steps p.tables e below (T2.setTop (mkF m 30 #[.val (.ref str), .val (.int off), .val (.int p1), .val (.int (2 : Int32)), .val (.int e0_), .unset] [(.int (1 : Int32))])) _
    refine XS.goto X2.here hx rfl (pc0 := 30) (pc' := 34) rfl (hb hby d_method_3_code_30) (by decide) (by decide) ?_
    show Steps p.tables e below (T2.setTop (mkF m 34 #[.val (.ref str), .val (.int off), .val (.int p1), .val (.int (2 : Int32)), .val (.int e0_), .unset] [(.int (1 : Int32))])) _
    refine XS.istore X2.here hx rfl (hb hby d_method_3_code_34) rfl (l' := #[.val (.ref str), .val (.int off), .val (.int p1), .val (.int (2 : Int32)), .val (.int e0_), .val (.int (1 : Int32))]) rfl ?_
    show Steps p.tables e below (T2.setTop (mkF m 36 #[.val (.ref str), .val (.int off), .val (.int p1), .val (.int (2 : Int32)), .val (.int e0_), .val (.int (1 : Int32))] [])) _
    refine XS.iloadN X2.here hx rfl (hb hby d_method_3_code_36) rfl ?_
    show Steps p.tables e below (T2.setTop (mkF m 37 #[.val (.ref str), .val (.int off), .val (.int p1), .val (.int (2 : Int32)), .val (.int e0_), .val (.int (1 : Int32))] [(.int (2 : Int32))])) _
    refine XT.iconstV X2.here hx rfl (2 : Int32) (hb hby d_method_3_code_37) (by decide) ?_
    show Steps p.tables e below (T2.setTop (mkF m 38 #[.val (.ref str), .val (.int off), .val (.int p1), .val (.int (2 : Int32)), .val (.int e0_), .val (.int (1 : Int32))] [(.int (2 : Int32)), (.int (2 : Int32))])) _
    refine XS.icmpNo X2.here hx rfl (hb hby d_method_3_code_38) rfl (by decide) ?_
    show Steps p.tables e below (T2.setTop (mkF m 41 #[.val (.ref str), .val (.int off), .val (.int p1), .val (.int (2 : Int32)), .val (.int e0_), .val (.int (1 : Int32))] [])) _
    refine XS.iload X2.here hx rfl (hb hby d_method_3_code_41) rfl ?_
    show Steps p.tables e below (T2.setTop (mkF m 43 #[.val (.ref str), .val (.int off), .val (.int p1), .val (.int (2 : Int32)), .val (.int e0_), .val (.int (1 : Int32))] [(.int (1 : Int32))])) _
    refine XS.ifNo X2.here hx rfl (hb hby d_method_3_code_43) rfl (by decide) ?_
    show Steps p.tables e below (T2.setTop (mkF m 46 #[.val (.ref str), .val (.int off), .val (.int p1), .val (.int (2 : Int32)), .val (.int e0_), .val (.int (1 : Int32))] [])) _
    refine XS.aloadN X2.here hx rfl (hb hby d_method_3_code_46) rfl rfl ?_
    show Steps p.tables e below (T2.setTop (mkF m 47 #[.val (.ref str), .val (.int off), .val (.int p1), .val (.int (2 : Int32)), .val (.int e0_), .val (.int (1 : Int32))] [(.ref str)])) _
    refine XS.iload X2.here hx rfl (hb hby d_method_3_code_47) rfl ?_
    show Steps p.tables e below (T2.setTop (mkF m 49 #[.val (.ref str), .val (.int off), .val (.int p1), .val (.int (2 : Int32)), .val (.int e0_), .val (.int (1 : Int32))] [(.int e0_), (.ref str)])) _
    refine XT.iconstV X2.here hx rfl (1 : Int32) (hb hby d_method_3_code_49) (by decide) ?_
    show Steps p.tables e below (T2.setTop (mkF m 50 #[.val (.ref str), .val (.int off), .val (.int p1), .val (.int (2 : Int32)), .val (.int e0_), .val (.int (1 : Int32))] [(.int (1 : Int32)), (.int e0_), (.ref str)])) _
    refine XS.isub X2.here hx rfl (hb hby d_method_3_code_50) rfl ?_
    show Steps p.tables e below (T2.setTop (mkF m 51 #[.val (.ref str), .val (.int off), .val (.int p1), .val (.int (2 : Int32)), .val (.int e0_), .val (.int (1 : Int32))] [(.int (e0_ - (1 : Int32))), (.ref str)])) _
    rw [← he1]
    show Steps p.tables e below (T2.setTop (mkF m 51 #[.val (.ref str), .val (.int off), .val (.int p1), .val (.int (2 : Int32)), .val (.int e0_), .val (.int (1 : Int32))] [(.int e1_), (.ref str)])) _
    refine st3.trans ?_
    show Steps p.tables e below (T3.setTop (mkF m 54 #[.val (.ref str), .val (.int off), .val (.int p1), .val (.int (2 : Int32)), .val (.int e0_), .val (.int (1 : Int32))] [(.int D1)])) _
    refine XT.bipushV X3.here hx rfl (48 : Int32) (hb hby d_method_3_code_54) (by decide) ?_
    show Steps p.tables e below (T3.setTop (mkF m 56 #[.val (.ref str), .val (.int off), .val (.int p1), .val (.int (2 : Int32)), .val (.int e0_), .val (.int (1 : Int32))] [(.int (48 : Int32)), (.int D1)])) _
    refine XS.iloadN X3.here hx rfl (hb hby d_method_3_code_56) rfl ?_
    show Steps p.tables e below (T3.setTop (mkF m 57 #[.val (.ref str), .val (.int off), .val (.int p1), .val (.int (2 : Int32)), .val (.int e0_), .val (.int (1 : Int32))] [(.int p1), (.int (48 : Int32)), (.int D1)])) _
    refine XT.bipushV X3.here hx rfl (10 : Int32) (hb hby d_method_3_code_57) (by decide) ?_
    show Steps p.tables e below (T3.setTop (mkF m 59 #[.val (.ref str), .val (.int off), .val (.int p1), .val (.int (2 : Int32)), .val (.int e0_), .val (.int (1 : Int32))] [(.int (10 : Int32)), (.int p1), (.int (48 : Int32)), (.int D1)])) _
    refine XS.idiv X3.here hx rfl (hb hby d_method_3_code_59) rfl (by decide) ?_
    show Steps p.tables e below (T3.setTop (mkF m 60 #[.val (.ref str), .val (.int off), .val (.int p1), .val (.int (2 : Int32)), .val (.int e0_), .val (.int (1 : Int32))] [(.int (p1 / (10 : Int32))), (.int (48 : Int32)), (.int D1)])) _
    refine XT.bipushV X3.here hx rfl (10 : Int32) (hb hby d_method_3_code_60) (by decide) ?_
    show Steps p.tables e below (T3.setTop (mkF m 62 #[.val (.ref str), .val (.int off), .val (.int p1), .val (.int (2 : Int32)), .val (.int e0_), .val (.int (1 : Int32))] [(.int (10 : Int32)), (.int (p1 / (10 : Int32))), (.int (48 : Int32)), (.int D1)])) _
    refine iremM X3 hx rfl (hb hby d_method_3_code_62) rfl (by decide) ?_
    show Steps p.tables e below (T3.setTop (mkF m 63 #[.val (.ref str), .val (.int off), .val (.int p1), .val (.int (2 : Int32)), .val (.int e0_), .val (.int (1 : Int32))] [(.int ((p1 / (10 : Int32)) % (10 : Int32))), (.int (48 : Int32)), (.int D1)])) _
    refine XS.iadd X3.here hx rfl (hb hby d_method_3_code_63) rfl ?_
    show Steps p.tables e below (T3.setTop (mkF m 64 #[.val (.ref str), .val (.int off), .val (.int p1), .val (.int (2 : Int32)), .val (.int e0_), .val (.int (1 : Int32))] [(.int ((48 : Int32) + ((p1 / (10 : Int32)) % (10 : Int32)))), (.int D1)])) _
    rw [← hD1]
    show Steps p.tables e below (T3.setTop (mkF m 64 #[.val (.ref str), .val (.int off), .val (.int p1), .val (.int (2 : Int32)), .val (.int e0_), .val (.int (1 : Int32))] [(.int D1), (.int D1)])) _
    refine XT.i2c X3.here hx rfl (hb hby d_method_3_code_64) rfl ?_
    show Steps p.tables e below (T3.setTop (mkF m 65 #[.val (.ref str), .val (.int off), .val (.int p1), .val (.int (2 : Int32)), .val (.int e0_), .val (.int (1 : Int32))] [(.int (D1).toUInt32.toUInt16.toUInt32.toInt32), (.int D1)])) _
    rw [own_i2c d1.1 d1.2]
    show Steps p.tables e below (T3.setTop (mkF m 65 #[.val (.ref str), .val (.int off), .val (.int p1), .val (.int (2 : Int32)), .val (.int e0_), .val (.int (1 : Int32))] [(.int D1), (.int D1)])) _
    refine XS.icmpNo X3.here hx rfl (hb hby d_method_3_code_65) rfl (teq rfl).2 ?_
    show Steps p.tables e below (T3.setTop (mkF m 68 #[.val (.ref str), .val (.int off), .val (.int p1), .val (.int (2 : Int32)), .val (.int e0_), .val (.int (1 : Int32))] [])) _
    refine XT.iconstV X3.here hx rfl (1 : Int32) (hb hby d_method_3_code_68) (by decide) ?_
    show Steps p.tables e below (T3.setTop (mkF m 69 #[.val (.ref str), .val (.int off), .val (.int p1), .val (.int (2 : Int32)), .val (.int e0_), .val (.int (1 : Int32))] [(.int (1 : Int32))])) _
    refine XS.goto X3.here hx rfl (pc0 := 69) (pc' := 73) rfl (hb hby d_method_3_code_69) (by decide) (by decide) ?_
    show Steps p.tables e below (T3.setTop (mkF m 73 #[.val (.ref str), .val (.int off), .val (.int p1), .val (.int (2 : Int32)), .val (.int e0_), .val (.int (1 : Int32))] [(.int (1 : Int32))])) _
    refine XS.istore X3.here hx rfl (hb hby d_method_3_code_73) rfl (l' := #[.val (.ref str), .val (.int off), .val (.int p1), .val (.int (2 : Int32)), .val (.int e0_), .val (.int (1 : Int32))]) rfl ?_
    show Steps p.tables e below (T3.setTop (mkF m 75 #[.val (.ref str), .val (.int off), .val (.int p1), .val (.int (2 : Int32)), .val (.int e0_), .val (.int (1 : Int32))] [])) _
    refine XS.iloadN X3.here hx rfl (hb hby d_method_3_code_75) rfl ?_
    show Steps p.tables e below (T3.setTop (mkF m 76 #[.val (.ref str), .val (.int off), .val (.int p1), .val (.int (2 : Int32)), .val (.int e0_), .val (.int (1 : Int32))] [(.int (2 : Int32))])) _
    refine XT.iconstV X3.here hx rfl (3 : Int32) (hb hby d_method_3_code_76) (by decide) ?_
    show Steps p.tables e below (T3.setTop (mkF m 77 #[.val (.ref str), .val (.int off), .val (.int p1), .val (.int (2 : Int32)), .val (.int e0_), .val (.int (1 : Int32))] [(.int (3 : Int32)), (.int (2 : Int32))])) _
    refine XS.icmpYes X3.here hx rfl (pc0 := 77) (pc' := 114) rfl (hb hby d_method_3_code_77) rfl (by decide) (by decide) (by decide) ?_
    show Steps p.tables e below (T3.setTop (mkF m 114 #[.val (.ref str), .val (.int off), .val (.int p1), .val (.int (2 : Int32)), .val (.int e0_), .val (.int (1 : Int32))] [])) _
    refine XS.iloadN X3.here hx rfl (hb hby d_method_3_code_114) rfl ?_
    show Steps p.tables e below (T3.setTop (mkF m 115 #[.val (.ref str), .val (.int off), .val (.int p1), .val (.int (2 : Int32)), .val (.int e0_), .val (.int (1 : Int32))] [(.int (2 : Int32))])) _
    refine XT.iconstV X3.here hx rfl (4 : Int32) (hb hby d_method_3_code_115) (by decide) ?_
    show Steps p.tables e below (T3.setTop (mkF m 116 #[.val (.ref str), .val (.int off), .val (.int p1), .val (.int (2 : Int32)), .val (.int e0_), .val (.int (1 : Int32))] [(.int (4 : Int32)), (.int (2 : Int32))])) _
    refine XS.icmpYes X3.here hx rfl (pc0 := 116) (pc' := 154) rfl (hb hby d_method_3_code_116) rfl (by decide) (by decide) (by decide) ?_
    show Steps p.tables e below (T3.setTop (mkF m 154 #[.val (.ref str), .val (.int off), .val (.int p1), .val (.int (2 : Int32)), .val (.int e0_), .val (.int (1 : Int32))] [])) _
    refine XS.iloadN X3.here hx rfl (hb hby d_method_3_code_154) rfl ?_
    show Steps p.tables e below (T3.setTop (mkF m 155 #[.val (.ref str), .val (.int off), .val (.int p1), .val (.int (2 : Int32)), .val (.int e0_), .val (.int (1 : Int32))] [(.int (2 : Int32))])) _
    refine XT.iconstV X3.here hx rfl (5 : Int32) (hb hby d_method_3_code_155) (by decide) ?_
    show Steps p.tables e below (T3.setTop (mkF m 156 #[.val (.ref str), .val (.int off), .val (.int p1), .val (.int (2 : Int32)), .val (.int e0_), .val (.int (1 : Int32))] [(.int (5 : Int32)), (.int (2 : Int32))])) _
    refine XS.icmpYes X3.here hx rfl (pc0 := 156) (pc' := 194) rfl (hb hby d_method_3_code_156) rfl (by decide) (by decide) (by decide) ?_
    show Steps p.tables e below (T3.setTop (mkF m 194 #[.val (.ref str), .val (.int off), .val (.int p1), .val (.int (2 : Int32)), .val (.int e0_), .val (.int (1 : Int32))] [])) _
    refine XS.iload X3.here hx rfl (hb hby d_method_3_code_194) rfl ?_
    show Steps p.tables e below (T3.setTop (mkF m 196 #[.val (.ref str), .val (.int off), .val (.int p1), .val (.int (2 : Int32)), .val (.int e0_), .val (.int (1 : Int32))] [(.int (1 : Int32))])) _
    exact retN X3 hx (t := .boolean) Bd.returns (by simp) (hb hby d_method_3_code_196) hr
  · exact ⟨rfl, N3, e3⟩
theorem d_method_3_code_80 : decode method_3_code 80 = .ok (.iload 5, 2) := by decide +kernel
theorem d_method_3_code_82 : decode method_3_code 82 = .ok (.ifCond .eq 29, 3) := by decide +kernel
theorem d_method_3_code_85 : decode method_3_code 85 = .ok (.aload_n 0, 1) := by decide +kernel
theorem d_method_3_code_86 : decode method_3_code 86 = .ok (.iload 4, 2) := by decide +kernel
theorem d_method_3_code_88 : decode method_3_code 88 = .ok (.iconst 2, 1) := by decide +kernel
theorem d_method_3_code_89 : decode method_3_code 89 = .ok (.isub, 1) := by decide +kernel
theorem d_method_3_code_90 : decode method_3_code 90 = .ok (.invokevirtual 13, 3) := by decide +kernel
theorem d_method_3_code_93 : decode method_3_code 93 = .ok (.bipush 48, 2) := by decide +kernel
theorem d_method_3_code_95 : decode method_3_code 95 = .ok (.iload_n 2, 1) := by decide +kernel
theorem d_method_3_code_96 : decode method_3_code 96 = .ok (.bipush 100, 2) := by decide +kernel
theorem d_method_3_code_98 : decode method_3_code 98 = .ok (.idiv, 1) := by decide +kernel
theorem d_method_3_code_99 : decode method_3_code 99 = .ok (.bipush 10, 2) := by decide +kernel
theorem d_method_3_code_101 : decode method_3_code 101 = .ok (.irem, 1) := by decide +kernel
theorem d_method_3_code_102 : decode method_3_code 102 = .ok (.iadd, 1) := by decide +kernel
theorem d_method_3_code_103 : decode method_3_code 103 = .ok (.i2c, 1) := by decide +kernel
theorem d_method_3_code_104 : decode method_3_code 104 = .ok (.if_icmp .ne 7, 3) := by decide +kernel
theorem d_method_3_code_107 : decode method_3_code 107 = .ok (.iconst 1, 1) := by decide +kernel
theorem d_method_3_code_108 : decode method_3_code 108 = .ok (.goto 4, 3) := by decide +kernel
theorem d_method_3_code_112 : decode method_3_code 112 = .ok (.istore 5, 2) := by decide +kernel
def Q_na_3 (Z : State) (str sv : Addr) (ks : ClassId) (len off p1 : Int32) (bs : List Value) (vF : Value) (zc : Int32) (h0 : Heap) (n0 : Nat) (v : Option Value) (h : Heap) (L : List Loc) : Prop := v = some (.int (1 : Int32)) ∧ Fr n0 L ∧ h = h0
set_option maxRecDepth 65536 in
set_option maxHeartbeats 40000000 in
theorem na_3 (l : Launch) (Z : State) (a0 : Array Value) (hw : ∀ d ∈ tables_1, d.before a0 Z = true) (ws : List Jvm.Cond) (str sv : Addr) (ks : ClassId) (len off p1 : Int32) (bs : List Value) (vF : Value) (zc : Int32) (h0 : Heap) (n0 : Nat) (Z0 : n0 ≤ h0.size) (X00 : Old Z n0 h0)(SF : Sta Z Z.heap "jdk/internal/util/Preconditions" "SIOOBE_FORMATTER" "Ljava/util/function/BiFunction;" vF) (hF : vF.isRef = true)(SC : Sta Z Z.heap "java/lang/String" "COMPACT_STRINGS" "Z" (.int zc)) (hzc : ¬ zc = 0)(Est : Exa Z h0 str "java/lang/String") (Gv : Fld Z h0 str "java/lang/String" "value" "[B" (.ref sv)) (Gc : Fld Z h0 str "java/lang/String" "coder" "B" (.int (0 : Int32)))(Vs : Arv Z h0 sv ks .byte len bs (.int 0)) (hlen : len.toInt < 100) (ho0 : 0 ≤ off.toInt) (ho1 : off.toInt + (own_sz p1).toInt ≤ len.toInt) (hbs : own_has bs (off + own_sz p1).toNatClampNeg p1)(hlo : 100 ≤ p1.toInt) (hhi : p1.toInt < 1000) :
    MetFree l (⟨"com/example/head_count/headcount/NodeIdRangeToStringPinLaw", "numAt", "(Ljava/lang/String;II)Z"⟩ : MethodName) (head1 (Jvm.Cond.code (⟨"com/example/head_count/headcount/NodeIdRangeToStringPinLaw", "numAt", "(Ljava/lang/String;II)Z"⟩ : MethodName) method_3_code 6 (Option.some Jvm.ClassFile.FieldType.boolean) :: ws) ({ frames := 4, cells := 0, slots := 0, locals := 53 } : Room)) (fun a U => a = #[(.ref str), (.int off), (.int p1)] ∧ Z.Warmed39 U.vm ∧ U.heap = h0) (fun _ _ _ _ _ => True) (fun _ U o U' => ∃ v L, o = .returned v ∧ Q_na_3 Z str sv ks len off p1 bs vF zc h0 n0 v U'.heap L ∧ FrameEnd U o U' L ({ frames := 4, cells := 0, slots := 0, locals := 53 } : Room).cells ({ frames := 4, cells := 0, slots := 0, locals := 53 } : Room).slots) := by
  refine MetFree.of_bodySF (plainFor_of_name pn_394) hisR ?_
  intro p e s m args below meth c s₁ Bd hml0 hP hK
  obtain ⟨rfl, hZ, hh⟩ := hP
  have hx := Bd.exec
  have hby := Bd.bytes
  have hml : c.maxLocals = 6 := hml0
  have hown : s.vm.findClass "com/example/head_count/headcount/NodeIdRangeToStringPinLaw" = some m.cls := findClass_of_methodNamed Bd.named
  have hnm := (name_of_methodNamed Bd.named Bd.method).1
  have X0 : Stand p l e ({ frames := 4, cells := 0, slots := 0, locals := 53 } : Room) s m #[(.ref str), (.int off), (.int p1)] below meth c s₁ [] 0 0 := Stand.of_body Bd
  have e0 : s₁.heap = h0 := by rw [← hh, Bd.state]; rfl
  have N0 := Fr.nil n0
  have hlk : meth.locks = false := BodyLoose.notSynchronized Bd
  have pre0 : ∀ t, Steps p.tables e below (s₁.setTop (mkF m 0 #[.val (.ref str), .val (.int off), .val (.int p1), .unset, .unset, .unset] [])) t → Steps p.tables e below (s₁.setTop (entryFrame m #[(.ref str), (.int off), (.int p1)] 6)) t := fun t k => castTop (ef_487 m str off p1) k
  have hsz : own_sz p1 = (3 : Int32) := own_szE3 ⟨hlo, hhi⟩
  obtain ⟨ee, hee⟩ : ∃ z, z = off + own_sz p1 := ⟨_, rfl⟩
  rw [← hee] at hbs
  rw [hsz] at hee ho1
  have ho1 : off.toInt + 3 ≤ len.toInt := ho1
  have eei : ee.toInt = off.toInt + 3 := by rw [hee]; exact own_addk rfl ho0 (by omega) (by omega)
  obtain ⟨e0_, he0⟩ : ∃ z, z = ee - (1 : Int32) := ⟨_, rfl⟩
  have y0 : e0_.toInt = ee.toInt - 1 := by rw [he0]; exact own_sbd ee 1 1 rfl (by omega) (by omega)
  obtain ⟨D0, hD0⟩ : ∃ z, z = (48 : Int32) + p1 % (10 : Int32) := ⟨_, rfl⟩
  have d0 : 0 ≤ D0.toInt ∧ D0.toInt < 128 := by rw [hD0, own_dg0 p1 (by omega)]; omega
  have m0 : bs.getD e0_.toNatClampNeg (.int 0) = .int D0 := by rw [own_tn (t := 1) y0 (by omega), hD0]; exact hbs.1
  have g0 : ¬ e0_ < 0 ∧ e0_ < len := own_bl y0 (by omega) (by omega)
  obtain ⟨e1_, he1⟩ : ∃ z, z = e0_ - (1 : Int32) := ⟨_, rfl⟩
  have y1 : e1_.toInt = ee.toInt - 2 := by rw [he1, own_sbd e0_ 1 1 rfl (by omega) (by rw [y0]; omega), y0]; omega
  obtain ⟨D1, hD1⟩ : ∃ z, z = (48 : Int32) + p1 / (10 : Int32) % (10 : Int32) := ⟨_, rfl⟩
  have d1 : 0 ≤ D1.toInt ∧ D1.toInt < 128 := by rw [hD1, own_dg p1 10 10 rfl (by decide) (by omega) (by omega)]; omega
  have m1 : bs.getD e1_.toNatClampNeg (.int 0) = .int D1 := by rw [own_tn (t := 2) y1 (by omega), hD1]; exact hbs.2.1 (by omega)
  have g1 : ¬ e1_ < 0 ∧ e1_ < len := own_bl y1 (by omega) (by omega)
  obtain ⟨e2_, he2⟩ : ∃ z, z = e0_ - (2 : Int32) := ⟨_, rfl⟩
  have y2 : e2_.toInt = ee.toInt - 3 := by rw [he2, own_sbd e0_ 2 2 rfl (by omega) (by rw [y0]; omega), y0]; omega
  obtain ⟨D2, hD2⟩ : ∃ z, z = (48 : Int32) + p1 / (100 : Int32) % (10 : Int32) := ⟨_, rfl⟩
  have d2 : 0 ≤ D2.toInt ∧ D2.toInt < 128 := by rw [hD2, own_dg p1 100 100 rfl (by decide) (by omega) (by omega)]; omega
  have m2 : bs.getD e2_.toNatClampNeg (.int 0) = .int D2 := by rw [own_tn (t := 3) y2 (by omega), hD2]; exact hbs.2.2.1 (by omega)
  have g2 : ¬ e2_ < 0 ∧ e2_ < len := own_bl y2 (by omega) (by omega)
  obtain ⟨_, _, ⟨T1, L1, k1, n1⟩, -, X1, ⟨Lc1, hQ1, l1, y1, z1⟩, st1⟩ := Jvm.LawKit.callS X0 hx (y := (⟨"com/example/head_count/headcount/NodeIdRangeToStringPinLaw", "digits", "(I)I"⟩ : MethodName)) hown (mvT hZ (hw _ (List.mem_of_getElem? (i := 164) rfl))) (mvT hZ (hw _ (List.mem_of_getElem? (i := 165) rfl))) (mvT hZ (hw _ (List.mem_of_getElem? (i := 166) rfl))) (mvT hZ (hw _ (List.mem_of_getElem? (i := 167) rfl))) (by decide) (backOf (W := 0) (dg l Z a0 hw [] p1 h0 n0 Z0 (by omega) (by omega)) hZ (hw _ (List.mem_of_getElem? (i := 167) rfl)) (hw _ (List.mem_of_getElem? (i := 166) rfl)) (by decide) (by decide)) (g := (mkF m 1 #[.val (.ref str), .val (.int off), .val (.int p1), .unset, .unset, .unset] [(.int p1)])) rfl (by rw [hml]; rfl) (argsL := [(.int p1)]) (rest := []) (lenOf pd_154 rfl) rfl (by show 2 * 0 + _ ≤ _; exact Nat.le_of_eq rfl) (hb hby d_method_3_code_1) (fun _ _ => ⟨rfl, e0, (by decide : 0 + 0 ≤ _), (by decide : 0 + 0 ≤ _)⟩)
  dsimp only [Pt.U, Pt.locs, Pt.cells, Pt.slots] at X1 l1 y1 z1 st1 hQ1
  subst l1 y1 z1
  obtain ⟨rfl, N1q, e1⟩ := hQ1
  have N1 := Fr.app N0 N1q
  obtain ⟨cq2, kq2, q2a, q2b, q2c⟩ := isOf hZ e1 Est
  obtain ⟨_, _, ⟨T2, L2, k2, n2⟩, -, X2, ⟨Lc2, hQ2, l2, y2, z2⟩, st2⟩ := X1.virtualBack hx (y := (⟨"java/lang/String", "charAt", "(I)C"⟩ : MethodName)) (z := (⟨"java/lang/String", "charAt", "(I)C"⟩ : MethodName)) hown (mvT hZ (hw _ (List.mem_of_getElem? (i := 169) rfl))) (mvT hZ (hw _ (List.mem_of_getElem? (i := 170) rfl))) (notFace_of_selects (args := #[]) (mvT hZ (hw _ (List.mem_of_getElem? (i := 172) rfl)))) (mvT hZ (hw _ (List.mem_of_getElem? (i := 172) rfl))) (mvT hZ (hw _ (List.mem_of_getElem? (i := 171) rfl))) (by decide) (backOf (W := 0) (st_ch l Z a0 hw [] str sv ks len e0_ D0 bs vF zc h0 n0 Z0 X00 SF hF Vs g0 m0 d0.1 d0.2 SC hzc Est Gv Gc) hZ (hw _ (List.mem_of_getElem? (i := 173) rfl)) (hw _ (List.mem_of_getElem? (i := 36) rfl)) (by decide) (by decide)) q2a q2c (g := (mkF m 15 #[.val (.ref str), .val (.int off), .val (.int p1), .val (.int (3 : Int32)), .val (.int e0_), .unset] [(.int e0_), (.ref str)])) rfl (by rw [hml]; rfl) (Steps.refl _) (argsL := [(.int e0_)]) (rest := []) (lenOf pd_462 rfl) rfl (by show 2 * 0 + _ ≤ _; exact Nat.le_of_eq rfl) (hb hby d_method_3_code_15) (fun _ _ => ⟨rfl, e1, (by decide : 0 + 0 ≤ _), (by decide : 0 + 0 ≤ _)⟩)
  dsimp only [Pt.U, Pt.locs, Pt.cells, Pt.slots] at X2 l2 y2 z2 st2 hQ2
  subst l2 y2 z2
  obtain ⟨rfl, N2q, e2⟩ := hQ2
  have N2 := Fr.app N1 N2q
  obtain ⟨cq3, kq3, q3a, q3b, q3c⟩ := isOf hZ e2 Est
  obtain ⟨_, _, ⟨T3, L3, k3, n3⟩, -, X3, ⟨Lc3, hQ3, l3, y3, z3⟩, st3⟩ := X2.virtualBack hx (y := (⟨"java/lang/String", "charAt", "(I)C"⟩ : MethodName)) (z := (⟨"java/lang/String", "charAt", "(I)C"⟩ : MethodName)) hown (mvT hZ (hw _ (List.mem_of_getElem? (i := 169) rfl))) (mvT hZ (hw _ (List.mem_of_getElem? (i := 170) rfl))) (notFace_of_selects (args := #[]) (mvT hZ (hw _ (List.mem_of_getElem? (i := 172) rfl)))) (mvT hZ (hw _ (List.mem_of_getElem? (i := 172) rfl))) (mvT hZ (hw _ (List.mem_of_getElem? (i := 171) rfl))) (by decide) (backOf (W := 0) (st_ch l Z a0 hw [] str sv ks len e1_ D1 bs vF zc h0 n0 Z0 X00 SF hF Vs g1 m1 d1.1 d1.2 SC hzc Est Gv Gc) hZ (hw _ (List.mem_of_getElem? (i := 173) rfl)) (hw _ (List.mem_of_getElem? (i := 36) rfl)) (by decide) (by decide)) q3a q3c (g := (mkF m 51 #[.val (.ref str), .val (.int off), .val (.int p1), .val (.int (3 : Int32)), .val (.int e0_), .val (.int (1 : Int32))] [(.int e1_), (.ref str)])) rfl (by rw [hml]; rfl) (Steps.refl _) (argsL := [(.int e1_)]) (rest := []) (lenOf pd_462 rfl) rfl (by show 2 * 0 + _ ≤ _; exact Nat.le_of_eq rfl) (hb hby d_method_3_code_51) (fun _ _ => ⟨rfl, e2, (by decide : 0 + 0 ≤ _), (by decide : 0 + 0 ≤ _)⟩)
  dsimp only [Pt.U, Pt.locs, Pt.cells, Pt.slots] at X3 l3 y3 z3 st3 hQ3
  subst l3 y3 z3
  obtain ⟨rfl, N3q, e3⟩ := hQ3
  have N3 := Fr.app N2 N3q
  obtain ⟨cq4, kq4, q4a, q4b, q4c⟩ := isOf hZ e3 Est
  obtain ⟨_, _, ⟨T4, L4, k4, n4⟩, -, X4, ⟨Lc4, hQ4, l4, y4, z4⟩, st4⟩ := X3.virtualBack hx (y := (⟨"java/lang/String", "charAt", "(I)C"⟩ : MethodName)) (z := (⟨"java/lang/String", "charAt", "(I)C"⟩ : MethodName)) hown (mvT hZ (hw _ (List.mem_of_getElem? (i := 169) rfl))) (mvT hZ (hw _ (List.mem_of_getElem? (i := 170) rfl))) (notFace_of_selects (args := #[]) (mvT hZ (hw _ (List.mem_of_getElem? (i := 172) rfl)))) (mvT hZ (hw _ (List.mem_of_getElem? (i := 172) rfl))) (mvT hZ (hw _ (List.mem_of_getElem? (i := 171) rfl))) (by decide) (backOf (W := 0) (st_ch l Z a0 hw [] str sv ks len e2_ D2 bs vF zc h0 n0 Z0 X00 SF hF Vs g2 m2 d2.1 d2.2 SC hzc Est Gv Gc) hZ (hw _ (List.mem_of_getElem? (i := 173) rfl)) (hw _ (List.mem_of_getElem? (i := 36) rfl)) (by decide) (by decide)) q4a q4c (g := (mkF m 90 #[.val (.ref str), .val (.int off), .val (.int p1), .val (.int (3 : Int32)), .val (.int e0_), .val (.int (1 : Int32))] [(.int e2_), (.ref str)])) rfl (by rw [hml]; rfl) (Steps.refl _) (argsL := [(.int e2_)]) (rest := []) (lenOf pd_462 rfl) rfl (by show 2 * 0 + _ ≤ _; exact Nat.le_of_eq rfl) (hb hby d_method_3_code_90) (fun _ _ => ⟨rfl, e3, (by decide : 0 + 0 ≤ _), (by decide : 0 + 0 ≤ _)⟩)
  dsimp only [Pt.U, Pt.locs, Pt.cells, Pt.slots] at X4 l4 y4 z4 st4 hQ4
  subst l4 y4 z4
  obtain ⟨rfl, N4q, e4⟩ := hQ4
  have N4 := Fr.app N3 N4q
  obtain ⟨fs, hr, hrun, hended, hW, hsame⟩ := X4.leave (v := (some (.int (1 : Int32)))) (fun h => by rw [Bd.returns] at h; cases h) (hlocks := hlk)
  refine ⟨_, _, pre0 _ ?_, hrun, hended, _, _, rfl, ?_, ⟨_, rfl⟩, hW, hsame.mono (by decide) (by decide)⟩
  · show Steps p.tables e below (s₁.setTop (mkF m 0 #[.val (.ref str), .val (.int off), .val (.int p1), .unset, .unset, .unset] [])) _
    refine XS.iloadN X0.here hx rfl (hb hby d_method_3_code_0) rfl ?_
    show Steps p.tables e below (s₁.setTop (mkF m 1 #[.val (.ref str), .val (.int off), .val (.int p1), .unset, .unset, .unset] [(.int p1)])) _
    refine st1 _ ?_
    show Steps p.tables e below (T1.setTop (mkF m 4 #[.val (.ref str), .val (.int off), .val (.int p1), .unset, .unset, .unset] [(.int (own_sz p1))])) _
    rw [hsz]
    show Steps p.tables e below (T1.setTop (mkF m 4 #[.val (.ref str), .val (.int off), .val (.int p1), .unset, .unset, .unset] [(.int (3 : Int32))])) _
    refine XS.istoreN X1.here hx rfl (hb hby d_method_3_code_4) rfl (l' := #[.val (.ref str), .val (.int off), .val (.int p1), .val (.int (3 : Int32)), .unset, .unset]) rfl ?_
    show Steps p.tables e below (T1.setTop (mkF m 5 #[.val (.ref str), .val (.int off), .val (.int p1), .val (.int (3 : Int32)), .unset, .unset] [])) _
    refine XS.iloadN X1.here hx rfl (hb hby d_method_3_code_5) rfl ?_
    show Steps p.tables e below (T1.setTop (mkF m 6 #[.val (.ref str), .val (.int off), .val (.int p1), .val (.int (3 : Int32)), .unset, .unset] [(.int off)])) _
    refine XS.iloadN X1.here hx rfl (hb hby d_method_3_code_6) rfl ?_
    show Steps p.tables e below (T1.setTop (mkF m 7 #[.val (.ref str), .val (.int off), .val (.int p1), .val (.int (3 : Int32)), .unset, .unset] [(.int (3 : Int32)), (.int off)])) _
    refine XS.iadd X1.here hx rfl (hb hby d_method_3_code_7) rfl ?_
    show Steps p.tables e below (T1.setTop (mkF m 8 #[.val (.ref str), .val (.int off), .val (.int p1), .val (.int (3 : Int32)), .unset, .unset] [(.int (off + (3 : Int32)))])) _
    rw [← hee]
    show Steps p.tables e below (T1.setTop (mkF m 8 #[.val (.ref str), .val (.int off), .val (.int p1), .val (.int (3 : Int32)), .unset, .unset] [(.int ee)])) _
    refine XT.iconstV X1.here hx rfl (1 : Int32) (hb hby d_method_3_code_8) (by decide) ?_
    show Steps p.tables e below (T1.setTop (mkF m 9 #[.val (.ref str), .val (.int off), .val (.int p1), .val (.int (3 : Int32)), .unset, .unset] [(.int (1 : Int32)), (.int ee)])) _
    refine XS.isub X1.here hx rfl (hb hby d_method_3_code_9) rfl ?_
    show Steps p.tables e below (T1.setTop (mkF m 10 #[.val (.ref str), .val (.int off), .val (.int p1), .val (.int (3 : Int32)), .unset, .unset] [(.int (ee - (1 : Int32)))])) _
    rw [← he0]
    show Steps p.tables e below (T1.setTop (mkF m 10 #[.val (.ref str), .val (.int off), .val (.int p1), .val (.int (3 : Int32)), .unset, .unset] [(.int e0_)])) _
    refine XS.istore X1.here hx rfl (hb hby d_method_3_code_10) rfl (l' := #[.val (.ref str), .val (.int off), .val (.int p1), .val (.int (3 : Int32)), .val (.int e0_), .unset]) rfl ?_
    show Steps p.tables e below (T1.setTop (mkF m 12 #[.val (.ref str), .val (.int off), .val (.int p1), .val (.int (3 : Int32)), .val (.int e0_), .unset] [])) _
    refine XS.aloadN X1.here hx rfl (hb hby d_method_3_code_12) rfl rfl ?_
    show Steps p.tables e below (T1.setTop (mkF m 13 #[.val (.ref str), .val (.int off), .val (.int p1), .val (.int (3 : Int32)), .val (.int e0_), .unset] [(.ref str)])) _
    refine XS.iload X1.here hx rfl (hb hby d_method_3_code_13) rfl ?_
    show Steps p.tables e below (T1.setTop (mkF m 15 #[.val (.ref str), .val (.int off), .val (.int p1), .val (.int (3 : Int32)), .val (.int e0_), .unset] [(.int e0_), (.ref str)])) _
    refine st2.trans ?_
    show Steps p.tables e below (T2.setTop (mkF m 18 #[.val (.ref str), .val (.int off), .val (.int p1), .val (.int (3 : Int32)), .val (.int e0_), .unset] [(.int D0)])) _
    refine XT.bipushV X2.here hx rfl (48 : Int32) (hb hby d_method_3_code_18) (by decide) ?_
    show Steps p.tables e below (T2.setTop (mkF m 20 #[.val (.ref str), .val (.int off), .val (.int p1), .val (.int (3 : Int32)), .val (.int e0_), .unset] [(.int (48 : Int32)), (.int D0)])) _
    refine XS.iloadN X2.here hx rfl (hb hby d_method_3_code_20) rfl ?_
    show Steps p.tables e below (T2.setTop (mkF m 21 #[.val (.ref str), .val (.int off), .val (.int p1), .val (.int (3 : Int32)), .val (.int e0_), .unset] [(.int p1), (.int (48 : Int32)), (.int D0)])) _
    refine XT.bipushV X2.here hx rfl (10 : Int32) (hb hby d_method_3_code_21) (by decide) ?_
    show Steps p.tables e below (T2.setTop (mkF m 23 #[.val (.ref str), .val (.int off), .val (.int p1), .val (.int (3 : Int32)), .val (.int e0_), .unset] [(.int (10 : Int32)), (.int p1), (.int (48 : Int32)), (.int D0)])) _
    refine iremM X2 hx rfl (hb hby d_method_3_code_23) rfl (by decide) ?_
    show Steps p.tables e below (T2.setTop (mkF m 24 #[.val (.ref str), .val (.int off), .val (.int p1), .val (.int (3 : Int32)), .val (.int e0_), .unset] [(.int (p1 % (10 : Int32))), (.int (48 : Int32)), (.int D0)])) _
    refine XS.iadd X2.here hx rfl (hb hby d_method_3_code_24) rfl ?_
    show Steps p.tables e below (T2.setTop (mkF m 25 #[.val (.ref str), .val (.int off), .val (.int p1), .val (.int (3 : Int32)), .val (.int e0_), .unset] [(.int ((48 : Int32) + (p1 % (10 : Int32)))), (.int D0)])) _
    rw [← hD0]
    show Steps p.tables e below (T2.setTop (mkF m 25 #[.val (.ref str), .val (.int off), .val (.int p1), .val (.int (3 : Int32)), .val (.int e0_), .unset] [(.int D0), (.int D0)])) _
    refine XT.i2c X2.here hx rfl (hb hby d_method_3_code_25) rfl ?_
    show Steps p.tables e below (T2.setTop (mkF m 26 #[.val (.ref str), .val (.int off), .val (.int p1), .val (.int (3 : Int32)), .val (.int e0_), .unset] [(.int (D0).toUInt32.toUInt16.toUInt32.toInt32), (.int D0)])) _
    rw [own_i2c d0.1 d0.2]
    show Steps p.tables e below (T2.setTop (mkF m 26 #[.val (.ref str), .val (.int off), .val (.int p1), .val (.int (3 : Int32)), .val (.int e0_), .unset] [(.int D0), (.int D0)])) _
    refine XS.icmpNo X2.here hx rfl (hb hby d_method_3_code_26) rfl (teq rfl).2 ?_
    show Steps p.tables e below (T2.setTop (mkF m 29 #[.val (.ref str), .val (.int off), .val (.int p1), .val (.int (3 : Int32)), .val (.int e0_), .unset] [])) _
    refine XT.iconstV X2.here hx rfl (1 : Int32) (hb hby d_method_3_code_29) (by decide) ?_
    show Steps p.tables e below (T2.setTop (mkF m 30 #[.val (.ref str), .val (.int off), .val (.int p1), .val (.int (3 : Int32)), .val (.int e0_), .unset] [(.int (1 : Int32))])) _
    refine XS.goto X2.here hx rfl (pc0 := 30) (pc' := 34) rfl (hb hby d_method_3_code_30) (by decide) (by decide) ?_
    show Steps p.tables e below (T2.setTop (mkF m 34 #[.val (.ref str), .val (.int off), .val (.int p1), .val (.int (3 : Int32)), .val (.int e0_), .unset] [(.int (1 : Int32))])) _
    refine XS.istore X2.here hx rfl (hb hby d_method_3_code_34) rfl (l' := #[.val (.ref str), .val (.int off), .val (.int p1), .val (.int (3 : Int32)), .val (.int e0_), .val (.int (1 : Int32))]) rfl ?_
    show Steps p.tables e below (T2.setTop (mkF m 36 #[.val (.ref str), .val (.int off), .val (.int p1), .val (.int (3 : Int32)), .val (.int e0_), .val (.int (1 : Int32))] [])) _
    refine XS.iloadN X2.here hx rfl (hb hby d_method_3_code_36) rfl ?_
    show Steps p.tables e below (T2.setTop (mkF m 37 #[.val (.ref str), .val (.int off), .val (.int p1), .val (.int (3 : Int32)), .val (.int e0_), .val (.int (1 : Int32))] [(.int (3 : Int32))])) _
    refine XT.iconstV X2.here hx rfl (2 : Int32) (hb hby d_method_3_code_37) (by decide) ?_
    show Steps p.tables e below (T2.setTop (mkF m 38 #[.val (.ref str), .val (.int off), .val (.int p1), .val (.int (3 : Int32)), .val (.int e0_), .val (.int (1 : Int32))] [(.int (2 : Int32)), (.int (3 : Int32))])) _
    refine XS.icmpNo X2.here hx rfl (hb hby d_method_3_code_38) rfl (by decide) ?_
    show Steps p.tables e below (T2.setTop (mkF m 41 #[.val (.ref str), .val (.int off), .val (.int p1), .val (.int (3 : Int32)), .val (.int e0_), .val (.int (1 : Int32))] [])) _
    refine XS.iload X2.here hx rfl (hb hby d_method_3_code_41) rfl ?_
    show Steps p.tables e below (T2.setTop (mkF m 43 #[.val (.ref str), .val (.int off), .val (.int p1), .val (.int (3 : Int32)), .val (.int e0_), .val (.int (1 : Int32))] [(.int (1 : Int32))])) _
    refine XS.ifNo X2.here hx rfl (hb hby d_method_3_code_43) rfl (by decide) ?_
    show Steps p.tables e below (T2.setTop (mkF m 46 #[.val (.ref str), .val (.int off), .val (.int p1), .val (.int (3 : Int32)), .val (.int e0_), .val (.int (1 : Int32))] [])) _
    refine XS.aloadN X2.here hx rfl (hb hby d_method_3_code_46) rfl rfl ?_
    show Steps p.tables e below (T2.setTop (mkF m 47 #[.val (.ref str), .val (.int off), .val (.int p1), .val (.int (3 : Int32)), .val (.int e0_), .val (.int (1 : Int32))] [(.ref str)])) _
    refine XS.iload X2.here hx rfl (hb hby d_method_3_code_47) rfl ?_
    show Steps p.tables e below (T2.setTop (mkF m 49 #[.val (.ref str), .val (.int off), .val (.int p1), .val (.int (3 : Int32)), .val (.int e0_), .val (.int (1 : Int32))] [(.int e0_), (.ref str)])) _
    refine XT.iconstV X2.here hx rfl (1 : Int32) (hb hby d_method_3_code_49) (by decide) ?_
    show Steps p.tables e below (T2.setTop (mkF m 50 #[.val (.ref str), .val (.int off), .val (.int p1), .val (.int (3 : Int32)), .val (.int e0_), .val (.int (1 : Int32))] [(.int (1 : Int32)), (.int e0_), (.ref str)])) _
    refine XS.isub X2.here hx rfl (hb hby d_method_3_code_50) rfl ?_
    show Steps p.tables e below (T2.setTop (mkF m 51 #[.val (.ref str), .val (.int off), .val (.int p1), .val (.int (3 : Int32)), .val (.int e0_), .val (.int (1 : Int32))] [(.int (e0_ - (1 : Int32))), (.ref str)])) _
    rw [← he1]
    show Steps p.tables e below (T2.setTop (mkF m 51 #[.val (.ref str), .val (.int off), .val (.int p1), .val (.int (3 : Int32)), .val (.int e0_), .val (.int (1 : Int32))] [(.int e1_), (.ref str)])) _
    refine st3.trans ?_
    show Steps p.tables e below (T3.setTop (mkF m 54 #[.val (.ref str), .val (.int off), .val (.int p1), .val (.int (3 : Int32)), .val (.int e0_), .val (.int (1 : Int32))] [(.int D1)])) _
    refine XT.bipushV X3.here hx rfl (48 : Int32) (hb hby d_method_3_code_54) (by decide) ?_
    show Steps p.tables e below (T3.setTop (mkF m 56 #[.val (.ref str), .val (.int off), .val (.int p1), .val (.int (3 : Int32)), .val (.int e0_), .val (.int (1 : Int32))] [(.int (48 : Int32)), (.int D1)])) _
    refine XS.iloadN X3.here hx rfl (hb hby d_method_3_code_56) rfl ?_
    show Steps p.tables e below (T3.setTop (mkF m 57 #[.val (.ref str), .val (.int off), .val (.int p1), .val (.int (3 : Int32)), .val (.int e0_), .val (.int (1 : Int32))] [(.int p1), (.int (48 : Int32)), (.int D1)])) _
    refine XT.bipushV X3.here hx rfl (10 : Int32) (hb hby d_method_3_code_57) (by decide) ?_
    show Steps p.tables e below (T3.setTop (mkF m 59 #[.val (.ref str), .val (.int off), .val (.int p1), .val (.int (3 : Int32)), .val (.int e0_), .val (.int (1 : Int32))] [(.int (10 : Int32)), (.int p1), (.int (48 : Int32)), (.int D1)])) _
    refine XS.idiv X3.here hx rfl (hb hby d_method_3_code_59) rfl (by decide) ?_
    show Steps p.tables e below (T3.setTop (mkF m 60 #[.val (.ref str), .val (.int off), .val (.int p1), .val (.int (3 : Int32)), .val (.int e0_), .val (.int (1 : Int32))] [(.int (p1 / (10 : Int32))), (.int (48 : Int32)), (.int D1)])) _
    refine XT.bipushV X3.here hx rfl (10 : Int32) (hb hby d_method_3_code_60) (by decide) ?_
    show Steps p.tables e below (T3.setTop (mkF m 62 #[.val (.ref str), .val (.int off), .val (.int p1), .val (.int (3 : Int32)), .val (.int e0_), .val (.int (1 : Int32))] [(.int (10 : Int32)), (.int (p1 / (10 : Int32))), (.int (48 : Int32)), (.int D1)])) _
    refine iremM X3 hx rfl (hb hby d_method_3_code_62) rfl (by decide) ?_
    show Steps p.tables e below (T3.setTop (mkF m 63 #[.val (.ref str), .val (.int off), .val (.int p1), .val (.int (3 : Int32)), .val (.int e0_), .val (.int (1 : Int32))] [(.int ((p1 / (10 : Int32)) % (10 : Int32))), (.int (48 : Int32)), (.int D1)])) _
    refine XS.iadd X3.here hx rfl (hb hby d_method_3_code_63) rfl ?_
    show Steps p.tables e below (T3.setTop (mkF m 64 #[.val (.ref str), .val (.int off), .val (.int p1), .val (.int (3 : Int32)), .val (.int e0_), .val (.int (1 : Int32))] [(.int ((48 : Int32) + ((p1 / (10 : Int32)) % (10 : Int32)))), (.int D1)])) _
    rw [← hD1]
    show Steps p.tables e below (T3.setTop (mkF m 64 #[.val (.ref str), .val (.int off), .val (.int p1), .val (.int (3 : Int32)), .val (.int e0_), .val (.int (1 : Int32))] [(.int D1), (.int D1)])) _
    refine XT.i2c X3.here hx rfl (hb hby d_method_3_code_64) rfl ?_
    show Steps p.tables e below (T3.setTop (mkF m 65 #[.val (.ref str), .val (.int off), .val (.int p1), .val (.int (3 : Int32)), .val (.int e0_), .val (.int (1 : Int32))] [(.int (D1).toUInt32.toUInt16.toUInt32.toInt32), (.int D1)])) _
    rw [own_i2c d1.1 d1.2]
    show Steps p.tables e below (T3.setTop (mkF m 65 #[.val (.ref str), .val (.int off), .val (.int p1), .val (.int (3 : Int32)), .val (.int e0_), .val (.int (1 : Int32))] [(.int D1), (.int D1)])) _
    refine XS.icmpNo X3.here hx rfl (hb hby d_method_3_code_65) rfl (teq rfl).2 ?_
    show Steps p.tables e below (T3.setTop (mkF m 68 #[.val (.ref str), .val (.int off), .val (.int p1), .val (.int (3 : Int32)), .val (.int e0_), .val (.int (1 : Int32))] [])) _
    refine XT.iconstV X3.here hx rfl (1 : Int32) (hb hby d_method_3_code_68) (by decide) ?_
    show Steps p.tables e below (T3.setTop (mkF m 69 #[.val (.ref str), .val (.int off), .val (.int p1), .val (.int (3 : Int32)), .val (.int e0_), .val (.int (1 : Int32))] [(.int (1 : Int32))])) _
    refine XS.goto X3.here hx rfl (pc0 := 69) (pc' := 73) rfl (hb hby d_method_3_code_69) (by decide) (by decide) ?_
    show Steps p.tables e below (T3.setTop (mkF m 73 #[.val (.ref str), .val (.int off), .val (.int p1), .val (.int (3 : Int32)), .val (.int e0_), .val (.int (1 : Int32))] [(.int (1 : Int32))])) _
    refine XS.istore X3.here hx rfl (hb hby d_method_3_code_73) rfl (l' := #[.val (.ref str), .val (.int off), .val (.int p1), .val (.int (3 : Int32)), .val (.int e0_), .val (.int (1 : Int32))]) rfl ?_
    show Steps p.tables e below (T3.setTop (mkF m 75 #[.val (.ref str), .val (.int off), .val (.int p1), .val (.int (3 : Int32)), .val (.int e0_), .val (.int (1 : Int32))] [])) _
    refine XS.iloadN X3.here hx rfl (hb hby d_method_3_code_75) rfl ?_
    show Steps p.tables e below (T3.setTop (mkF m 76 #[.val (.ref str), .val (.int off), .val (.int p1), .val (.int (3 : Int32)), .val (.int e0_), .val (.int (1 : Int32))] [(.int (3 : Int32))])) _
    refine XT.iconstV X3.here hx rfl (3 : Int32) (hb hby d_method_3_code_76) (by decide) ?_
    show Steps p.tables e below (T3.setTop (mkF m 77 #[.val (.ref str), .val (.int off), .val (.int p1), .val (.int (3 : Int32)), .val (.int e0_), .val (.int (1 : Int32))] [(.int (3 : Int32)), (.int (3 : Int32))])) _
    refine XS.icmpNo X3.here hx rfl (hb hby d_method_3_code_77) rfl (by decide) ?_
    show Steps p.tables e below (T3.setTop (mkF m 80 #[.val (.ref str), .val (.int off), .val (.int p1), .val (.int (3 : Int32)), .val (.int e0_), .val (.int (1 : Int32))] [])) _
    refine XS.iload X3.here hx rfl (hb hby d_method_3_code_80) rfl ?_
    show Steps p.tables e below (T3.setTop (mkF m 82 #[.val (.ref str), .val (.int off), .val (.int p1), .val (.int (3 : Int32)), .val (.int e0_), .val (.int (1 : Int32))] [(.int (1 : Int32))])) _
    refine XS.ifNo X3.here hx rfl (hb hby d_method_3_code_82) rfl (by decide) ?_
    show Steps p.tables e below (T3.setTop (mkF m 85 #[.val (.ref str), .val (.int off), .val (.int p1), .val (.int (3 : Int32)), .val (.int e0_), .val (.int (1 : Int32))] [])) _
    refine XS.aloadN X3.here hx rfl (hb hby d_method_3_code_85) rfl rfl ?_
    show Steps p.tables e below (T3.setTop (mkF m 86 #[.val (.ref str), .val (.int off), .val (.int p1), .val (.int (3 : Int32)), .val (.int e0_), .val (.int (1 : Int32))] [(.ref str)])) _
    refine XS.iload X3.here hx rfl (hb hby d_method_3_code_86) rfl ?_
    show Steps p.tables e below (T3.setTop (mkF m 88 #[.val (.ref str), .val (.int off), .val (.int p1), .val (.int (3 : Int32)), .val (.int e0_), .val (.int (1 : Int32))] [(.int e0_), (.ref str)])) _
    refine XT.iconstV X3.here hx rfl (2 : Int32) (hb hby d_method_3_code_88) (by decide) ?_
    show Steps p.tables e below (T3.setTop (mkF m 89 #[.val (.ref str), .val (.int off), .val (.int p1), .val (.int (3 : Int32)), .val (.int e0_), .val (.int (1 : Int32))] [(.int (2 : Int32)), (.int e0_), (.ref str)])) _
    refine XS.isub X3.here hx rfl (hb hby d_method_3_code_89) rfl ?_
    show Steps p.tables e below (T3.setTop (mkF m 90 #[.val (.ref str), .val (.int off), .val (.int p1), .val (.int (3 : Int32)), .val (.int e0_), .val (.int (1 : Int32))] [(.int (e0_ - (2 : Int32))), (.ref str)])) _
    rw [← he2]
    show Steps p.tables e below (T3.setTop (mkF m 90 #[.val (.ref str), .val (.int off), .val (.int p1), .val (.int (3 : Int32)), .val (.int e0_), .val (.int (1 : Int32))] [(.int e2_), (.ref str)])) _
    refine st4.trans ?_
    show Steps p.tables e below (T4.setTop (mkF m 93 #[.val (.ref str), .val (.int off), .val (.int p1), .val (.int (3 : Int32)), .val (.int e0_), .val (.int (1 : Int32))] [(.int D2)])) _
    refine XT.bipushV X4.here hx rfl (48 : Int32) (hb hby d_method_3_code_93) (by decide) ?_
    show Steps p.tables e below (T4.setTop (mkF m 95 #[.val (.ref str), .val (.int off), .val (.int p1), .val (.int (3 : Int32)), .val (.int e0_), .val (.int (1 : Int32))] [(.int (48 : Int32)), (.int D2)])) _
    refine XS.iloadN X4.here hx rfl (hb hby d_method_3_code_95) rfl ?_
    show Steps p.tables e below (T4.setTop (mkF m 96 #[.val (.ref str), .val (.int off), .val (.int p1), .val (.int (3 : Int32)), .val (.int e0_), .val (.int (1 : Int32))] [(.int p1), (.int (48 : Int32)), (.int D2)])) _
    refine XT.bipushV X4.here hx rfl (100 : Int32) (hb hby d_method_3_code_96) (by decide) ?_
    show Steps p.tables e below (T4.setTop (mkF m 98 #[.val (.ref str), .val (.int off), .val (.int p1), .val (.int (3 : Int32)), .val (.int e0_), .val (.int (1 : Int32))] [(.int (100 : Int32)), (.int p1), (.int (48 : Int32)), (.int D2)])) _
    refine XS.idiv X4.here hx rfl (hb hby d_method_3_code_98) rfl (by decide) ?_
    show Steps p.tables e below (T4.setTop (mkF m 99 #[.val (.ref str), .val (.int off), .val (.int p1), .val (.int (3 : Int32)), .val (.int e0_), .val (.int (1 : Int32))] [(.int (p1 / (100 : Int32))), (.int (48 : Int32)), (.int D2)])) _
    refine XT.bipushV X4.here hx rfl (10 : Int32) (hb hby d_method_3_code_99) (by decide) ?_
    show Steps p.tables e below (T4.setTop (mkF m 101 #[.val (.ref str), .val (.int off), .val (.int p1), .val (.int (3 : Int32)), .val (.int e0_), .val (.int (1 : Int32))] [(.int (10 : Int32)), (.int (p1 / (100 : Int32))), (.int (48 : Int32)), (.int D2)])) _
    refine iremM X4 hx rfl (hb hby d_method_3_code_101) rfl (by decide) ?_
    show Steps p.tables e below (T4.setTop (mkF m 102 #[.val (.ref str), .val (.int off), .val (.int p1), .val (.int (3 : Int32)), .val (.int e0_), .val (.int (1 : Int32))] [(.int ((p1 / (100 : Int32)) % (10 : Int32))), (.int (48 : Int32)), (.int D2)])) _
    refine XS.iadd X4.here hx rfl (hb hby d_method_3_code_102) rfl ?_
    show Steps p.tables e below (T4.setTop (mkF m 103 #[.val (.ref str), .val (.int off), .val (.int p1), .val (.int (3 : Int32)), .val (.int e0_), .val (.int (1 : Int32))] [(.int ((48 : Int32) + ((p1 / (100 : Int32)) % (10 : Int32)))), (.int D2)])) _
    rw [← hD2]
    show Steps p.tables e below (T4.setTop (mkF m 103 #[.val (.ref str), .val (.int off), .val (.int p1), .val (.int (3 : Int32)), .val (.int e0_), .val (.int (1 : Int32))] [(.int D2), (.int D2)])) _
    refine XT.i2c X4.here hx rfl (hb hby d_method_3_code_103) rfl ?_
    show Steps p.tables e below (T4.setTop (mkF m 104 #[.val (.ref str), .val (.int off), .val (.int p1), .val (.int (3 : Int32)), .val (.int e0_), .val (.int (1 : Int32))] [(.int (D2).toUInt32.toUInt16.toUInt32.toInt32), (.int D2)])) _
    rw [own_i2c d2.1 d2.2]
    show Steps p.tables e below (T4.setTop (mkF m 104 #[.val (.ref str), .val (.int off), .val (.int p1), .val (.int (3 : Int32)), .val (.int e0_), .val (.int (1 : Int32))] [(.int D2), (.int D2)])) _
    refine XS.icmpNo X4.here hx rfl (hb hby d_method_3_code_104) rfl (teq rfl).2 ?_
    show Steps p.tables e below (T4.setTop (mkF m 107 #[.val (.ref str), .val (.int off), .val (.int p1), .val (.int (3 : Int32)), .val (.int e0_), .val (.int (1 : Int32))] [])) _
    refine XT.iconstV X4.here hx rfl (1 : Int32) (hb hby d_method_3_code_107) (by decide) ?_
    show Steps p.tables e below (T4.setTop (mkF m 108 #[.val (.ref str), .val (.int off), .val (.int p1), .val (.int (3 : Int32)), .val (.int e0_), .val (.int (1 : Int32))] [(.int (1 : Int32))])) _
    refine XS.goto X4.here hx rfl (pc0 := 108) (pc' := 112) rfl (hb hby d_method_3_code_108) (by decide) (by decide) ?_
    show Steps p.tables e below (T4.setTop (mkF m 112 #[.val (.ref str), .val (.int off), .val (.int p1), .val (.int (3 : Int32)), .val (.int e0_), .val (.int (1 : Int32))] [(.int (1 : Int32))])) _
    refine XS.istore X4.here hx rfl (hb hby d_method_3_code_112) rfl (l' := #[.val (.ref str), .val (.int off), .val (.int p1), .val (.int (3 : Int32)), .val (.int e0_), .val (.int (1 : Int32))]) rfl ?_
    show Steps p.tables e below (T4.setTop (mkF m 114 #[.val (.ref str), .val (.int off), .val (.int p1), .val (.int (3 : Int32)), .val (.int e0_), .val (.int (1 : Int32))] [])) _
    refine XS.iloadN X4.here hx rfl (hb hby d_method_3_code_114) rfl ?_
    show Steps p.tables e below (T4.setTop (mkF m 115 #[.val (.ref str), .val (.int off), .val (.int p1), .val (.int (3 : Int32)), .val (.int e0_), .val (.int (1 : Int32))] [(.int (3 : Int32))])) _
    refine XT.iconstV X4.here hx rfl (4 : Int32) (hb hby d_method_3_code_115) (by decide) ?_
    show Steps p.tables e below (T4.setTop (mkF m 116 #[.val (.ref str), .val (.int off), .val (.int p1), .val (.int (3 : Int32)), .val (.int e0_), .val (.int (1 : Int32))] [(.int (4 : Int32)), (.int (3 : Int32))])) _
    refine XS.icmpYes X4.here hx rfl (pc0 := 116) (pc' := 154) rfl (hb hby d_method_3_code_116) rfl (by decide) (by decide) (by decide) ?_
    show Steps p.tables e below (T4.setTop (mkF m 154 #[.val (.ref str), .val (.int off), .val (.int p1), .val (.int (3 : Int32)), .val (.int e0_), .val (.int (1 : Int32))] [])) _
    refine XS.iloadN X4.here hx rfl (hb hby d_method_3_code_154) rfl ?_
    show Steps p.tables e below (T4.setTop (mkF m 155 #[.val (.ref str), .val (.int off), .val (.int p1), .val (.int (3 : Int32)), .val (.int e0_), .val (.int (1 : Int32))] [(.int (3 : Int32))])) _
    refine XT.iconstV X4.here hx rfl (5 : Int32) (hb hby d_method_3_code_155) (by decide) ?_
    show Steps p.tables e below (T4.setTop (mkF m 156 #[.val (.ref str), .val (.int off), .val (.int p1), .val (.int (3 : Int32)), .val (.int e0_), .val (.int (1 : Int32))] [(.int (5 : Int32)), (.int (3 : Int32))])) _
    refine XS.icmpYes X4.here hx rfl (pc0 := 156) (pc' := 194) rfl (hb hby d_method_3_code_156) rfl (by decide) (by decide) (by decide) ?_
    show Steps p.tables e below (T4.setTop (mkF m 194 #[.val (.ref str), .val (.int off), .val (.int p1), .val (.int (3 : Int32)), .val (.int e0_), .val (.int (1 : Int32))] [])) _
    refine XS.iload X4.here hx rfl (hb hby d_method_3_code_194) rfl ?_
    show Steps p.tables e below (T4.setTop (mkF m 196 #[.val (.ref str), .val (.int off), .val (.int p1), .val (.int (3 : Int32)), .val (.int e0_), .val (.int (1 : Int32))] [(.int (1 : Int32))])) _
    exact retN X4 hx (t := .boolean) Bd.returns (by simp) (hb hby d_method_3_code_196) hr
  · exact ⟨rfl, N4, e4⟩
theorem d_method_3_code_119 : decode method_3_code 119 = .ok (.iload 5, 2) := by decide +kernel
theorem d_method_3_code_121 : decode method_3_code 121 = .ok (.ifCond .eq 30, 3) := by decide +kernel
theorem d_method_3_code_124 : decode method_3_code 124 = .ok (.aload_n 0, 1) := by decide +kernel
theorem d_method_3_code_125 : decode method_3_code 125 = .ok (.iload 4, 2) := by decide +kernel
theorem d_method_3_code_127 : decode method_3_code 127 = .ok (.iconst 3, 1) := by decide +kernel
theorem d_method_3_code_128 : decode method_3_code 128 = .ok (.isub, 1) := by decide +kernel
theorem d_method_3_code_129 : decode method_3_code 129 = .ok (.invokevirtual 13, 3) := by decide +kernel
theorem d_method_3_code_132 : decode method_3_code 132 = .ok (.bipush 48, 2) := by decide +kernel
theorem d_method_3_code_134 : decode method_3_code 134 = .ok (.iload_n 2, 1) := by decide +kernel
theorem d_method_3_code_135 : decode method_3_code 135 = .ok (.sipush 1000, 3) := by decide +kernel
theorem d_method_3_code_138 : decode method_3_code 138 = .ok (.idiv, 1) := by decide +kernel
theorem d_method_3_code_139 : decode method_3_code 139 = .ok (.bipush 10, 2) := by decide +kernel
theorem d_method_3_code_141 : decode method_3_code 141 = .ok (.irem, 1) := by decide +kernel
theorem d_method_3_code_142 : decode method_3_code 142 = .ok (.iadd, 1) := by decide +kernel
theorem d_method_3_code_143 : decode method_3_code 143 = .ok (.i2c, 1) := by decide +kernel
theorem d_method_3_code_144 : decode method_3_code 144 = .ok (.if_icmp .ne 7, 3) := by decide +kernel
theorem d_method_3_code_147 : decode method_3_code 147 = .ok (.iconst 1, 1) := by decide +kernel
theorem d_method_3_code_148 : decode method_3_code 148 = .ok (.goto 4, 3) := by decide +kernel
theorem d_method_3_code_152 : decode method_3_code 152 = .ok (.istore 5, 2) := by decide +kernel
def Q_na_4 (Z : State) (str sv : Addr) (ks : ClassId) (len off p1 : Int32) (bs : List Value) (vF : Value) (zc : Int32) (h0 : Heap) (n0 : Nat) (v : Option Value) (h : Heap) (L : List Loc) : Prop := v = some (.int (1 : Int32)) ∧ Fr n0 L ∧ h = h0
set_option maxRecDepth 65536 in
set_option maxHeartbeats 40000000 in
theorem na_4 (l : Launch) (Z : State) (a0 : Array Value) (hw : ∀ d ∈ tables_1, d.before a0 Z = true) (ws : List Jvm.Cond) (str sv : Addr) (ks : ClassId) (len off p1 : Int32) (bs : List Value) (vF : Value) (zc : Int32) (h0 : Heap) (n0 : Nat) (Z0 : n0 ≤ h0.size) (X00 : Old Z n0 h0)(SF : Sta Z Z.heap "jdk/internal/util/Preconditions" "SIOOBE_FORMATTER" "Ljava/util/function/BiFunction;" vF) (hF : vF.isRef = true)(SC : Sta Z Z.heap "java/lang/String" "COMPACT_STRINGS" "Z" (.int zc)) (hzc : ¬ zc = 0)(Est : Exa Z h0 str "java/lang/String") (Gv : Fld Z h0 str "java/lang/String" "value" "[B" (.ref sv)) (Gc : Fld Z h0 str "java/lang/String" "coder" "B" (.int (0 : Int32)))(Vs : Arv Z h0 sv ks .byte len bs (.int 0)) (hlen : len.toInt < 100) (ho0 : 0 ≤ off.toInt) (ho1 : off.toInt + (own_sz p1).toInt ≤ len.toInt) (hbs : own_has bs (off + own_sz p1).toNatClampNeg p1)(hlo : 1000 ≤ p1.toInt) (hhi : p1.toInt < 10000) :
    MetFree l (⟨"com/example/head_count/headcount/NodeIdRangeToStringPinLaw", "numAt", "(Ljava/lang/String;II)Z"⟩ : MethodName) (head1 (Jvm.Cond.code (⟨"com/example/head_count/headcount/NodeIdRangeToStringPinLaw", "numAt", "(Ljava/lang/String;II)Z"⟩ : MethodName) method_3_code 6 (Option.some Jvm.ClassFile.FieldType.boolean) :: ws) ({ frames := 4, cells := 0, slots := 0, locals := 53 } : Room)) (fun a U => a = #[(.ref str), (.int off), (.int p1)] ∧ Z.Warmed39 U.vm ∧ U.heap = h0) (fun _ _ _ _ _ => True) (fun _ U o U' => ∃ v L, o = .returned v ∧ Q_na_4 Z str sv ks len off p1 bs vF zc h0 n0 v U'.heap L ∧ FrameEnd U o U' L ({ frames := 4, cells := 0, slots := 0, locals := 53 } : Room).cells ({ frames := 4, cells := 0, slots := 0, locals := 53 } : Room).slots) := by
  refine MetFree.of_bodySF (plainFor_of_name pn_394) hisR ?_
  intro p e s m args below meth c s₁ Bd hml0 hP hK
  obtain ⟨rfl, hZ, hh⟩ := hP
  have hx := Bd.exec
  have hby := Bd.bytes
  have hml : c.maxLocals = 6 := hml0
  have hown : s.vm.findClass "com/example/head_count/headcount/NodeIdRangeToStringPinLaw" = some m.cls := findClass_of_methodNamed Bd.named
  have hnm := (name_of_methodNamed Bd.named Bd.method).1
  have X0 : Stand p l e ({ frames := 4, cells := 0, slots := 0, locals := 53 } : Room) s m #[(.ref str), (.int off), (.int p1)] below meth c s₁ [] 0 0 := Stand.of_body Bd
  have e0 : s₁.heap = h0 := by rw [← hh, Bd.state]; rfl
  have N0 := Fr.nil n0
  have hlk : meth.locks = false := BodyLoose.notSynchronized Bd
  have pre0 : ∀ t, Steps p.tables e below (s₁.setTop (mkF m 0 #[.val (.ref str), .val (.int off), .val (.int p1), .unset, .unset, .unset] [])) t → Steps p.tables e below (s₁.setTop (entryFrame m #[(.ref str), (.int off), (.int p1)] 6)) t := fun t k => castTop (ef_487 m str off p1) k
  have hsz : own_sz p1 = (4 : Int32) := own_szE4 ⟨hlo, hhi⟩
  obtain ⟨ee, hee⟩ : ∃ z, z = off + own_sz p1 := ⟨_, rfl⟩
  rw [← hee] at hbs
  rw [hsz] at hee ho1
  have ho1 : off.toInt + 4 ≤ len.toInt := ho1
  have eei : ee.toInt = off.toInt + 4 := by rw [hee]; exact own_addk rfl ho0 (by omega) (by omega)
  obtain ⟨e0_, he0⟩ : ∃ z, z = ee - (1 : Int32) := ⟨_, rfl⟩
  have y0 : e0_.toInt = ee.toInt - 1 := by rw [he0]; exact own_sbd ee 1 1 rfl (by omega) (by omega)
  obtain ⟨D0, hD0⟩ : ∃ z, z = (48 : Int32) + p1 % (10 : Int32) := ⟨_, rfl⟩
  have d0 : 0 ≤ D0.toInt ∧ D0.toInt < 128 := by rw [hD0, own_dg0 p1 (by omega)]; omega
  have m0 : bs.getD e0_.toNatClampNeg (.int 0) = .int D0 := by rw [own_tn (t := 1) y0 (by omega), hD0]; exact hbs.1
  have g0 : ¬ e0_ < 0 ∧ e0_ < len := own_bl y0 (by omega) (by omega)
  obtain ⟨e1_, he1⟩ : ∃ z, z = e0_ - (1 : Int32) := ⟨_, rfl⟩
  have y1 : e1_.toInt = ee.toInt - 2 := by rw [he1, own_sbd e0_ 1 1 rfl (by omega) (by rw [y0]; omega), y0]; omega
  obtain ⟨D1, hD1⟩ : ∃ z, z = (48 : Int32) + p1 / (10 : Int32) % (10 : Int32) := ⟨_, rfl⟩
  have d1 : 0 ≤ D1.toInt ∧ D1.toInt < 128 := by rw [hD1, own_dg p1 10 10 rfl (by decide) (by omega) (by omega)]; omega
  have m1 : bs.getD e1_.toNatClampNeg (.int 0) = .int D1 := by rw [own_tn (t := 2) y1 (by omega), hD1]; exact hbs.2.1 (by omega)
  have g1 : ¬ e1_ < 0 ∧ e1_ < len := own_bl y1 (by omega) (by omega)
  obtain ⟨e2_, he2⟩ : ∃ z, z = e0_ - (2 : Int32) := ⟨_, rfl⟩
  have y2 : e2_.toInt = ee.toInt - 3 := by rw [he2, own_sbd e0_ 2 2 rfl (by omega) (by rw [y0]; omega), y0]; omega
  obtain ⟨D2, hD2⟩ : ∃ z, z = (48 : Int32) + p1 / (100 : Int32) % (10 : Int32) := ⟨_, rfl⟩
  have d2 : 0 ≤ D2.toInt ∧ D2.toInt < 128 := by rw [hD2, own_dg p1 100 100 rfl (by decide) (by omega) (by omega)]; omega
  have m2 : bs.getD e2_.toNatClampNeg (.int 0) = .int D2 := by rw [own_tn (t := 3) y2 (by omega), hD2]; exact hbs.2.2.1 (by omega)
  have g2 : ¬ e2_ < 0 ∧ e2_ < len := own_bl y2 (by omega) (by omega)
  obtain ⟨e3_, he3⟩ : ∃ z, z = e0_ - (3 : Int32) := ⟨_, rfl⟩
  have y3 : e3_.toInt = ee.toInt - 4 := by rw [he3, own_sbd e0_ 3 3 rfl (by omega) (by rw [y0]; omega), y0]; omega
  obtain ⟨D3, hD3⟩ : ∃ z, z = (48 : Int32) + p1 / (1000 : Int32) % (10 : Int32) := ⟨_, rfl⟩
  have d3 : 0 ≤ D3.toInt ∧ D3.toInt < 128 := by rw [hD3, own_dg p1 1000 1000 rfl (by decide) (by omega) (by omega)]; omega
  have m3 : bs.getD e3_.toNatClampNeg (.int 0) = .int D3 := by rw [own_tn (t := 4) y3 (by omega), hD3]; exact hbs.2.2.2.1 (by omega)
  have g3 : ¬ e3_ < 0 ∧ e3_ < len := own_bl y3 (by omega) (by omega)
  obtain ⟨_, _, ⟨T1, L1, k1, n1⟩, -, X1, ⟨Lc1, hQ1, l1, y1, z1⟩, st1⟩ := Jvm.LawKit.callS X0 hx (y := (⟨"com/example/head_count/headcount/NodeIdRangeToStringPinLaw", "digits", "(I)I"⟩ : MethodName)) hown (mvT hZ (hw _ (List.mem_of_getElem? (i := 164) rfl))) (mvT hZ (hw _ (List.mem_of_getElem? (i := 165) rfl))) (mvT hZ (hw _ (List.mem_of_getElem? (i := 166) rfl))) (mvT hZ (hw _ (List.mem_of_getElem? (i := 167) rfl))) (by decide) (backOf (W := 0) (dg l Z a0 hw [] p1 h0 n0 Z0 (by omega) (by omega)) hZ (hw _ (List.mem_of_getElem? (i := 167) rfl)) (hw _ (List.mem_of_getElem? (i := 166) rfl)) (by decide) (by decide)) (g := (mkF m 1 #[.val (.ref str), .val (.int off), .val (.int p1), .unset, .unset, .unset] [(.int p1)])) rfl (by rw [hml]; rfl) (argsL := [(.int p1)]) (rest := []) (lenOf pd_154 rfl) rfl (by show 2 * 0 + _ ≤ _; exact Nat.le_of_eq rfl) (hb hby d_method_3_code_1) (fun _ _ => ⟨rfl, e0, (by decide : 0 + 0 ≤ _), (by decide : 0 + 0 ≤ _)⟩)
  dsimp only [Pt.U, Pt.locs, Pt.cells, Pt.slots] at X1 l1 y1 z1 st1 hQ1
  subst l1 y1 z1
  obtain ⟨rfl, N1q, e1⟩ := hQ1
  have N1 := Fr.app N0 N1q
  obtain ⟨cq2, kq2, q2a, q2b, q2c⟩ := isOf hZ e1 Est
  obtain ⟨_, _, ⟨T2, L2, k2, n2⟩, -, X2, ⟨Lc2, hQ2, l2, y2, z2⟩, st2⟩ := X1.virtualBack hx (y := (⟨"java/lang/String", "charAt", "(I)C"⟩ : MethodName)) (z := (⟨"java/lang/String", "charAt", "(I)C"⟩ : MethodName)) hown (mvT hZ (hw _ (List.mem_of_getElem? (i := 169) rfl))) (mvT hZ (hw _ (List.mem_of_getElem? (i := 170) rfl))) (notFace_of_selects (args := #[]) (mvT hZ (hw _ (List.mem_of_getElem? (i := 172) rfl)))) (mvT hZ (hw _ (List.mem_of_getElem? (i := 172) rfl))) (mvT hZ (hw _ (List.mem_of_getElem? (i := 171) rfl))) (by decide) (backOf (W := 0) (st_ch l Z a0 hw [] str sv ks len e0_ D0 bs vF zc h0 n0 Z0 X00 SF hF Vs g0 m0 d0.1 d0.2 SC hzc Est Gv Gc) hZ (hw _ (List.mem_of_getElem? (i := 173) rfl)) (hw _ (List.mem_of_getElem? (i := 36) rfl)) (by decide) (by decide)) q2a q2c (g := (mkF m 15 #[.val (.ref str), .val (.int off), .val (.int p1), .val (.int (4 : Int32)), .val (.int e0_), .unset] [(.int e0_), (.ref str)])) rfl (by rw [hml]; rfl) (Steps.refl _) (argsL := [(.int e0_)]) (rest := []) (lenOf pd_462 rfl) rfl (by show 2 * 0 + _ ≤ _; exact Nat.le_of_eq rfl) (hb hby d_method_3_code_15) (fun _ _ => ⟨rfl, e1, (by decide : 0 + 0 ≤ _), (by decide : 0 + 0 ≤ _)⟩)
  dsimp only [Pt.U, Pt.locs, Pt.cells, Pt.slots] at X2 l2 y2 z2 st2 hQ2
  subst l2 y2 z2
  obtain ⟨rfl, N2q, e2⟩ := hQ2
  have N2 := Fr.app N1 N2q
  obtain ⟨cq3, kq3, q3a, q3b, q3c⟩ := isOf hZ e2 Est
  obtain ⟨_, _, ⟨T3, L3, k3, n3⟩, -, X3, ⟨Lc3, hQ3, l3, y3, z3⟩, st3⟩ := X2.virtualBack hx (y := (⟨"java/lang/String", "charAt", "(I)C"⟩ : MethodName)) (z := (⟨"java/lang/String", "charAt", "(I)C"⟩ : MethodName)) hown (mvT hZ (hw _ (List.mem_of_getElem? (i := 169) rfl))) (mvT hZ (hw _ (List.mem_of_getElem? (i := 170) rfl))) (notFace_of_selects (args := #[]) (mvT hZ (hw _ (List.mem_of_getElem? (i := 172) rfl)))) (mvT hZ (hw _ (List.mem_of_getElem? (i := 172) rfl))) (mvT hZ (hw _ (List.mem_of_getElem? (i := 171) rfl))) (by decide) (backOf (W := 0) (st_ch l Z a0 hw [] str sv ks len e1_ D1 bs vF zc h0 n0 Z0 X00 SF hF Vs g1 m1 d1.1 d1.2 SC hzc Est Gv Gc) hZ (hw _ (List.mem_of_getElem? (i := 173) rfl)) (hw _ (List.mem_of_getElem? (i := 36) rfl)) (by decide) (by decide)) q3a q3c (g := (mkF m 51 #[.val (.ref str), .val (.int off), .val (.int p1), .val (.int (4 : Int32)), .val (.int e0_), .val (.int (1 : Int32))] [(.int e1_), (.ref str)])) rfl (by rw [hml]; rfl) (Steps.refl _) (argsL := [(.int e1_)]) (rest := []) (lenOf pd_462 rfl) rfl (by show 2 * 0 + _ ≤ _; exact Nat.le_of_eq rfl) (hb hby d_method_3_code_51) (fun _ _ => ⟨rfl, e2, (by decide : 0 + 0 ≤ _), (by decide : 0 + 0 ≤ _)⟩)
  dsimp only [Pt.U, Pt.locs, Pt.cells, Pt.slots] at X3 l3 y3 z3 st3 hQ3
  subst l3 y3 z3
  obtain ⟨rfl, N3q, e3⟩ := hQ3
  have N3 := Fr.app N2 N3q
  obtain ⟨cq4, kq4, q4a, q4b, q4c⟩ := isOf hZ e3 Est
  obtain ⟨_, _, ⟨T4, L4, k4, n4⟩, -, X4, ⟨Lc4, hQ4, l4, y4, z4⟩, st4⟩ := X3.virtualBack hx (y := (⟨"java/lang/String", "charAt", "(I)C"⟩ : MethodName)) (z := (⟨"java/lang/String", "charAt", "(I)C"⟩ : MethodName)) hown (mvT hZ (hw _ (List.mem_of_getElem? (i := 169) rfl))) (mvT hZ (hw _ (List.mem_of_getElem? (i := 170) rfl))) (notFace_of_selects (args := #[]) (mvT hZ (hw _ (List.mem_of_getElem? (i := 172) rfl)))) (mvT hZ (hw _ (List.mem_of_getElem? (i := 172) rfl))) (mvT hZ (hw _ (List.mem_of_getElem? (i := 171) rfl))) (by decide) (backOf (W := 0) (st_ch l Z a0 hw [] str sv ks len e2_ D2 bs vF zc h0 n0 Z0 X00 SF hF Vs g2 m2 d2.1 d2.2 SC hzc Est Gv Gc) hZ (hw _ (List.mem_of_getElem? (i := 173) rfl)) (hw _ (List.mem_of_getElem? (i := 36) rfl)) (by decide) (by decide)) q4a q4c (g := (mkF m 90 #[.val (.ref str), .val (.int off), .val (.int p1), .val (.int (4 : Int32)), .val (.int e0_), .val (.int (1 : Int32))] [(.int e2_), (.ref str)])) rfl (by rw [hml]; rfl) (Steps.refl _) (argsL := [(.int e2_)]) (rest := []) (lenOf pd_462 rfl) rfl (by show 2 * 0 + _ ≤ _; exact Nat.le_of_eq rfl) (hb hby d_method_3_code_90) (fun _ _ => ⟨rfl, e3, (by decide : 0 + 0 ≤ _), (by decide : 0 + 0 ≤ _)⟩)
  dsimp only [Pt.U, Pt.locs, Pt.cells, Pt.slots] at X4 l4 y4 z4 st4 hQ4
  subst l4 y4 z4
  obtain ⟨rfl, N4q, e4⟩ := hQ4
  have N4 := Fr.app N3 N4q
  obtain ⟨cq5, kq5, q5a, q5b, q5c⟩ := isOf hZ e4 Est
  obtain ⟨_, _, ⟨T5, L5, k5, n5⟩, -, X5, ⟨Lc5, hQ5, l5, y5, z5⟩, st5⟩ := X4.virtualBack hx (y := (⟨"java/lang/String", "charAt", "(I)C"⟩ : MethodName)) (z := (⟨"java/lang/String", "charAt", "(I)C"⟩ : MethodName)) hown (mvT hZ (hw _ (List.mem_of_getElem? (i := 169) rfl))) (mvT hZ (hw _ (List.mem_of_getElem? (i := 170) rfl))) (notFace_of_selects (args := #[]) (mvT hZ (hw _ (List.mem_of_getElem? (i := 172) rfl)))) (mvT hZ (hw _ (List.mem_of_getElem? (i := 172) rfl))) (mvT hZ (hw _ (List.mem_of_getElem? (i := 171) rfl))) (by decide) (backOf (W := 0) (st_ch l Z a0 hw [] str sv ks len e3_ D3 bs vF zc h0 n0 Z0 X00 SF hF Vs g3 m3 d3.1 d3.2 SC hzc Est Gv Gc) hZ (hw _ (List.mem_of_getElem? (i := 173) rfl)) (hw _ (List.mem_of_getElem? (i := 36) rfl)) (by decide) (by decide)) q5a q5c (g := (mkF m 129 #[.val (.ref str), .val (.int off), .val (.int p1), .val (.int (4 : Int32)), .val (.int e0_), .val (.int (1 : Int32))] [(.int e3_), (.ref str)])) rfl (by rw [hml]; rfl) (Steps.refl _) (argsL := [(.int e3_)]) (rest := []) (lenOf pd_462 rfl) rfl (by show 2 * 0 + _ ≤ _; exact Nat.le_of_eq rfl) (hb hby d_method_3_code_129) (fun _ _ => ⟨rfl, e4, (by decide : 0 + 0 ≤ _), (by decide : 0 + 0 ≤ _)⟩)
  dsimp only [Pt.U, Pt.locs, Pt.cells, Pt.slots] at X5 l5 y5 z5 st5 hQ5
  subst l5 y5 z5
  obtain ⟨rfl, N5q, e5⟩ := hQ5
  have N5 := Fr.app N4 N5q
  obtain ⟨fs, hr, hrun, hended, hW, hsame⟩ := X5.leave (v := (some (.int (1 : Int32)))) (fun h => by rw [Bd.returns] at h; cases h) (hlocks := hlk)
  refine ⟨_, _, pre0 _ ?_, hrun, hended, _, _, rfl, ?_, ⟨_, rfl⟩, hW, hsame.mono (by decide) (by decide)⟩
  · show Steps p.tables e below (s₁.setTop (mkF m 0 #[.val (.ref str), .val (.int off), .val (.int p1), .unset, .unset, .unset] [])) _
    refine XS.iloadN X0.here hx rfl (hb hby d_method_3_code_0) rfl ?_
    show Steps p.tables e below (s₁.setTop (mkF m 1 #[.val (.ref str), .val (.int off), .val (.int p1), .unset, .unset, .unset] [(.int p1)])) _
    refine st1 _ ?_
    show Steps p.tables e below (T1.setTop (mkF m 4 #[.val (.ref str), .val (.int off), .val (.int p1), .unset, .unset, .unset] [(.int (own_sz p1))])) _
    rw [hsz]
    show Steps p.tables e below (T1.setTop (mkF m 4 #[.val (.ref str), .val (.int off), .val (.int p1), .unset, .unset, .unset] [(.int (4 : Int32))])) _
    refine XS.istoreN X1.here hx rfl (hb hby d_method_3_code_4) rfl (l' := #[.val (.ref str), .val (.int off), .val (.int p1), .val (.int (4 : Int32)), .unset, .unset]) rfl ?_
    show Steps p.tables e below (T1.setTop (mkF m 5 #[.val (.ref str), .val (.int off), .val (.int p1), .val (.int (4 : Int32)), .unset, .unset] [])) _
    refine XS.iloadN X1.here hx rfl (hb hby d_method_3_code_5) rfl ?_
    show Steps p.tables e below (T1.setTop (mkF m 6 #[.val (.ref str), .val (.int off), .val (.int p1), .val (.int (4 : Int32)), .unset, .unset] [(.int off)])) _
    refine XS.iloadN X1.here hx rfl (hb hby d_method_3_code_6) rfl ?_
    show Steps p.tables e below (T1.setTop (mkF m 7 #[.val (.ref str), .val (.int off), .val (.int p1), .val (.int (4 : Int32)), .unset, .unset] [(.int (4 : Int32)), (.int off)])) _
    refine XS.iadd X1.here hx rfl (hb hby d_method_3_code_7) rfl ?_
    show Steps p.tables e below (T1.setTop (mkF m 8 #[.val (.ref str), .val (.int off), .val (.int p1), .val (.int (4 : Int32)), .unset, .unset] [(.int (off + (4 : Int32)))])) _
    rw [← hee]
    show Steps p.tables e below (T1.setTop (mkF m 8 #[.val (.ref str), .val (.int off), .val (.int p1), .val (.int (4 : Int32)), .unset, .unset] [(.int ee)])) _
    refine XT.iconstV X1.here hx rfl (1 : Int32) (hb hby d_method_3_code_8) (by decide) ?_
    show Steps p.tables e below (T1.setTop (mkF m 9 #[.val (.ref str), .val (.int off), .val (.int p1), .val (.int (4 : Int32)), .unset, .unset] [(.int (1 : Int32)), (.int ee)])) _
    refine XS.isub X1.here hx rfl (hb hby d_method_3_code_9) rfl ?_
    show Steps p.tables e below (T1.setTop (mkF m 10 #[.val (.ref str), .val (.int off), .val (.int p1), .val (.int (4 : Int32)), .unset, .unset] [(.int (ee - (1 : Int32)))])) _
    rw [← he0]
    show Steps p.tables e below (T1.setTop (mkF m 10 #[.val (.ref str), .val (.int off), .val (.int p1), .val (.int (4 : Int32)), .unset, .unset] [(.int e0_)])) _
    refine XS.istore X1.here hx rfl (hb hby d_method_3_code_10) rfl (l' := #[.val (.ref str), .val (.int off), .val (.int p1), .val (.int (4 : Int32)), .val (.int e0_), .unset]) rfl ?_
    show Steps p.tables e below (T1.setTop (mkF m 12 #[.val (.ref str), .val (.int off), .val (.int p1), .val (.int (4 : Int32)), .val (.int e0_), .unset] [])) _
    refine XS.aloadN X1.here hx rfl (hb hby d_method_3_code_12) rfl rfl ?_
    show Steps p.tables e below (T1.setTop (mkF m 13 #[.val (.ref str), .val (.int off), .val (.int p1), .val (.int (4 : Int32)), .val (.int e0_), .unset] [(.ref str)])) _
    refine XS.iload X1.here hx rfl (hb hby d_method_3_code_13) rfl ?_
    show Steps p.tables e below (T1.setTop (mkF m 15 #[.val (.ref str), .val (.int off), .val (.int p1), .val (.int (4 : Int32)), .val (.int e0_), .unset] [(.int e0_), (.ref str)])) _
    refine st2.trans ?_
    show Steps p.tables e below (T2.setTop (mkF m 18 #[.val (.ref str), .val (.int off), .val (.int p1), .val (.int (4 : Int32)), .val (.int e0_), .unset] [(.int D0)])) _
    refine XT.bipushV X2.here hx rfl (48 : Int32) (hb hby d_method_3_code_18) (by decide) ?_
    show Steps p.tables e below (T2.setTop (mkF m 20 #[.val (.ref str), .val (.int off), .val (.int p1), .val (.int (4 : Int32)), .val (.int e0_), .unset] [(.int (48 : Int32)), (.int D0)])) _
    refine XS.iloadN X2.here hx rfl (hb hby d_method_3_code_20) rfl ?_
    show Steps p.tables e below (T2.setTop (mkF m 21 #[.val (.ref str), .val (.int off), .val (.int p1), .val (.int (4 : Int32)), .val (.int e0_), .unset] [(.int p1), (.int (48 : Int32)), (.int D0)])) _
    refine XT.bipushV X2.here hx rfl (10 : Int32) (hb hby d_method_3_code_21) (by decide) ?_
    show Steps p.tables e below (T2.setTop (mkF m 23 #[.val (.ref str), .val (.int off), .val (.int p1), .val (.int (4 : Int32)), .val (.int e0_), .unset] [(.int (10 : Int32)), (.int p1), (.int (48 : Int32)), (.int D0)])) _
    refine iremM X2 hx rfl (hb hby d_method_3_code_23) rfl (by decide) ?_
    show Steps p.tables e below (T2.setTop (mkF m 24 #[.val (.ref str), .val (.int off), .val (.int p1), .val (.int (4 : Int32)), .val (.int e0_), .unset] [(.int (p1 % (10 : Int32))), (.int (48 : Int32)), (.int D0)])) _
    refine XS.iadd X2.here hx rfl (hb hby d_method_3_code_24) rfl ?_
    show Steps p.tables e below (T2.setTop (mkF m 25 #[.val (.ref str), .val (.int off), .val (.int p1), .val (.int (4 : Int32)), .val (.int e0_), .unset] [(.int ((48 : Int32) + (p1 % (10 : Int32)))), (.int D0)])) _
    rw [← hD0]
    show Steps p.tables e below (T2.setTop (mkF m 25 #[.val (.ref str), .val (.int off), .val (.int p1), .val (.int (4 : Int32)), .val (.int e0_), .unset] [(.int D0), (.int D0)])) _
    refine XT.i2c X2.here hx rfl (hb hby d_method_3_code_25) rfl ?_
    show Steps p.tables e below (T2.setTop (mkF m 26 #[.val (.ref str), .val (.int off), .val (.int p1), .val (.int (4 : Int32)), .val (.int e0_), .unset] [(.int (D0).toUInt32.toUInt16.toUInt32.toInt32), (.int D0)])) _
    rw [own_i2c d0.1 d0.2]
    show Steps p.tables e below (T2.setTop (mkF m 26 #[.val (.ref str), .val (.int off), .val (.int p1), .val (.int (4 : Int32)), .val (.int e0_), .unset] [(.int D0), (.int D0)])) _
    refine XS.icmpNo X2.here hx rfl (hb hby d_method_3_code_26) rfl (teq rfl).2 ?_
    show Steps p.tables e below (T2.setTop (mkF m 29 #[.val (.ref str), .val (.int off), .val (.int p1), .val (.int (4 : Int32)), .val (.int e0_), .unset] [])) _
    refine XT.iconstV X2.here hx rfl (1 : Int32) (hb hby d_method_3_code_29) (by decide) ?_
    show Steps p.tables e below (T2.setTop (mkF m 30 #[.val (.ref str), .val (.int off), .val (.int p1), .val (.int (4 : Int32)), .val (.int e0_), .unset] [(.int (1 : Int32))])) _
    refine XS.goto X2.here hx rfl (pc0 := 30) (pc' := 34) rfl (hb hby d_method_3_code_30) (by decide) (by decide) ?_
    show Steps p.tables e below (T2.setTop (mkF m 34 #[.val (.ref str), .val (.int off), .val (.int p1), .val (.int (4 : Int32)), .val (.int e0_), .unset] [(.int (1 : Int32))])) _
    refine XS.istore X2.here hx rfl (hb hby d_method_3_code_34) rfl (l' := #[.val (.ref str), .val (.int off), .val (.int p1), .val (.int (4 : Int32)), .val (.int e0_), .val (.int (1 : Int32))]) rfl ?_
    show Steps p.tables e below (T2.setTop (mkF m 36 #[.val (.ref str), .val (.int off), .val (.int p1), .val (.int (4 : Int32)), .val (.int e0_), .val (.int (1 : Int32))] [])) _
    refine XS.iloadN X2.here hx rfl (hb hby d_method_3_code_36) rfl ?_
    show Steps p.tables e below (T2.setTop (mkF m 37 #[.val (.ref str), .val (.int off), .val (.int p1), .val (.int (4 : Int32)), .val (.int e0_), .val (.int (1 : Int32))] [(.int (4 : Int32))])) _
    refine XT.iconstV X2.here hx rfl (2 : Int32) (hb hby d_method_3_code_37) (by decide) ?_
    show Steps p.tables e below (T2.setTop (mkF m 38 #[.val (.ref str), .val (.int off), .val (.int p1), .val (.int (4 : Int32)), .val (.int e0_), .val (.int (1 : Int32))] [(.int (2 : Int32)), (.int (4 : Int32))])) _
    refine XS.icmpNo X2.here hx rfl (hb hby d_method_3_code_38) rfl (by decide) ?_
    show Steps p.tables e below (T2.setTop (mkF m 41 #[.val (.ref str), .val (.int off), .val (.int p1), .val (.int (4 : Int32)), .val (.int e0_), .val (.int (1 : Int32))] [])) _
    refine XS.iload X2.here hx rfl (hb hby d_method_3_code_41) rfl ?_
    show Steps p.tables e below (T2.setTop (mkF m 43 #[.val (.ref str), .val (.int off), .val (.int p1), .val (.int (4 : Int32)), .val (.int e0_), .val (.int (1 : Int32))] [(.int (1 : Int32))])) _
    refine XS.ifNo X2.here hx rfl (hb hby d_method_3_code_43) rfl (by decide) ?_
    show Steps p.tables e below (T2.setTop (mkF m 46 #[.val (.ref str), .val (.int off), .val (.int p1), .val (.int (4 : Int32)), .val (.int e0_), .val (.int (1 : Int32))] [])) _
    refine XS.aloadN X2.here hx rfl (hb hby d_method_3_code_46) rfl rfl ?_
    show Steps p.tables e below (T2.setTop (mkF m 47 #[.val (.ref str), .val (.int off), .val (.int p1), .val (.int (4 : Int32)), .val (.int e0_), .val (.int (1 : Int32))] [(.ref str)])) _
    refine XS.iload X2.here hx rfl (hb hby d_method_3_code_47) rfl ?_
    show Steps p.tables e below (T2.setTop (mkF m 49 #[.val (.ref str), .val (.int off), .val (.int p1), .val (.int (4 : Int32)), .val (.int e0_), .val (.int (1 : Int32))] [(.int e0_), (.ref str)])) _
    refine XT.iconstV X2.here hx rfl (1 : Int32) (hb hby d_method_3_code_49) (by decide) ?_
    show Steps p.tables e below (T2.setTop (mkF m 50 #[.val (.ref str), .val (.int off), .val (.int p1), .val (.int (4 : Int32)), .val (.int e0_), .val (.int (1 : Int32))] [(.int (1 : Int32)), (.int e0_), (.ref str)])) _
    refine XS.isub X2.here hx rfl (hb hby d_method_3_code_50) rfl ?_
    show Steps p.tables e below (T2.setTop (mkF m 51 #[.val (.ref str), .val (.int off), .val (.int p1), .val (.int (4 : Int32)), .val (.int e0_), .val (.int (1 : Int32))] [(.int (e0_ - (1 : Int32))), (.ref str)])) _
    rw [← he1]
    show Steps p.tables e below (T2.setTop (mkF m 51 #[.val (.ref str), .val (.int off), .val (.int p1), .val (.int (4 : Int32)), .val (.int e0_), .val (.int (1 : Int32))] [(.int e1_), (.ref str)])) _
    refine st3.trans ?_
    show Steps p.tables e below (T3.setTop (mkF m 54 #[.val (.ref str), .val (.int off), .val (.int p1), .val (.int (4 : Int32)), .val (.int e0_), .val (.int (1 : Int32))] [(.int D1)])) _
    refine XT.bipushV X3.here hx rfl (48 : Int32) (hb hby d_method_3_code_54) (by decide) ?_
    show Steps p.tables e below (T3.setTop (mkF m 56 #[.val (.ref str), .val (.int off), .val (.int p1), .val (.int (4 : Int32)), .val (.int e0_), .val (.int (1 : Int32))] [(.int (48 : Int32)), (.int D1)])) _
    refine XS.iloadN X3.here hx rfl (hb hby d_method_3_code_56) rfl ?_
    show Steps p.tables e below (T3.setTop (mkF m 57 #[.val (.ref str), .val (.int off), .val (.int p1), .val (.int (4 : Int32)), .val (.int e0_), .val (.int (1 : Int32))] [(.int p1), (.int (48 : Int32)), (.int D1)])) _
    refine XT.bipushV X3.here hx rfl (10 : Int32) (hb hby d_method_3_code_57) (by decide) ?_
    show Steps p.tables e below (T3.setTop (mkF m 59 #[.val (.ref str), .val (.int off), .val (.int p1), .val (.int (4 : Int32)), .val (.int e0_), .val (.int (1 : Int32))] [(.int (10 : Int32)), (.int p1), (.int (48 : Int32)), (.int D1)])) _
    refine XS.idiv X3.here hx rfl (hb hby d_method_3_code_59) rfl (by decide) ?_
    show Steps p.tables e below (T3.setTop (mkF m 60 #[.val (.ref str), .val (.int off), .val (.int p1), .val (.int (4 : Int32)), .val (.int e0_), .val (.int (1 : Int32))] [(.int (p1 / (10 : Int32))), (.int (48 : Int32)), (.int D1)])) _
    refine XT.bipushV X3.here hx rfl (10 : Int32) (hb hby d_method_3_code_60) (by decide) ?_
    show Steps p.tables e below (T3.setTop (mkF m 62 #[.val (.ref str), .val (.int off), .val (.int p1), .val (.int (4 : Int32)), .val (.int e0_), .val (.int (1 : Int32))] [(.int (10 : Int32)), (.int (p1 / (10 : Int32))), (.int (48 : Int32)), (.int D1)])) _
    refine iremM X3 hx rfl (hb hby d_method_3_code_62) rfl (by decide) ?_
    show Steps p.tables e below (T3.setTop (mkF m 63 #[.val (.ref str), .val (.int off), .val (.int p1), .val (.int (4 : Int32)), .val (.int e0_), .val (.int (1 : Int32))] [(.int ((p1 / (10 : Int32)) % (10 : Int32))), (.int (48 : Int32)), (.int D1)])) _
    refine XS.iadd X3.here hx rfl (hb hby d_method_3_code_63) rfl ?_
    show Steps p.tables e below (T3.setTop (mkF m 64 #[.val (.ref str), .val (.int off), .val (.int p1), .val (.int (4 : Int32)), .val (.int e0_), .val (.int (1 : Int32))] [(.int ((48 : Int32) + ((p1 / (10 : Int32)) % (10 : Int32)))), (.int D1)])) _
    rw [← hD1]
    show Steps p.tables e below (T3.setTop (mkF m 64 #[.val (.ref str), .val (.int off), .val (.int p1), .val (.int (4 : Int32)), .val (.int e0_), .val (.int (1 : Int32))] [(.int D1), (.int D1)])) _
    refine XT.i2c X3.here hx rfl (hb hby d_method_3_code_64) rfl ?_
    show Steps p.tables e below (T3.setTop (mkF m 65 #[.val (.ref str), .val (.int off), .val (.int p1), .val (.int (4 : Int32)), .val (.int e0_), .val (.int (1 : Int32))] [(.int (D1).toUInt32.toUInt16.toUInt32.toInt32), (.int D1)])) _
    rw [own_i2c d1.1 d1.2]
    show Steps p.tables e below (T3.setTop (mkF m 65 #[.val (.ref str), .val (.int off), .val (.int p1), .val (.int (4 : Int32)), .val (.int e0_), .val (.int (1 : Int32))] [(.int D1), (.int D1)])) _
    refine XS.icmpNo X3.here hx rfl (hb hby d_method_3_code_65) rfl (teq rfl).2 ?_
    show Steps p.tables e below (T3.setTop (mkF m 68 #[.val (.ref str), .val (.int off), .val (.int p1), .val (.int (4 : Int32)), .val (.int e0_), .val (.int (1 : Int32))] [])) _
    refine XT.iconstV X3.here hx rfl (1 : Int32) (hb hby d_method_3_code_68) (by decide) ?_
    show Steps p.tables e below (T3.setTop (mkF m 69 #[.val (.ref str), .val (.int off), .val (.int p1), .val (.int (4 : Int32)), .val (.int e0_), .val (.int (1 : Int32))] [(.int (1 : Int32))])) _
    refine XS.goto X3.here hx rfl (pc0 := 69) (pc' := 73) rfl (hb hby d_method_3_code_69) (by decide) (by decide) ?_
    show Steps p.tables e below (T3.setTop (mkF m 73 #[.val (.ref str), .val (.int off), .val (.int p1), .val (.int (4 : Int32)), .val (.int e0_), .val (.int (1 : Int32))] [(.int (1 : Int32))])) _
    refine XS.istore X3.here hx rfl (hb hby d_method_3_code_73) rfl (l' := #[.val (.ref str), .val (.int off), .val (.int p1), .val (.int (4 : Int32)), .val (.int e0_), .val (.int (1 : Int32))]) rfl ?_
    show Steps p.tables e below (T3.setTop (mkF m 75 #[.val (.ref str), .val (.int off), .val (.int p1), .val (.int (4 : Int32)), .val (.int e0_), .val (.int (1 : Int32))] [])) _
    refine XS.iloadN X3.here hx rfl (hb hby d_method_3_code_75) rfl ?_
    show Steps p.tables e below (T3.setTop (mkF m 76 #[.val (.ref str), .val (.int off), .val (.int p1), .val (.int (4 : Int32)), .val (.int e0_), .val (.int (1 : Int32))] [(.int (4 : Int32))])) _
    refine XT.iconstV X3.here hx rfl (3 : Int32) (hb hby d_method_3_code_76) (by decide) ?_
    show Steps p.tables e below (T3.setTop (mkF m 77 #[.val (.ref str), .val (.int off), .val (.int p1), .val (.int (4 : Int32)), .val (.int e0_), .val (.int (1 : Int32))] [(.int (3 : Int32)), (.int (4 : Int32))])) _
    refine XS.icmpNo X3.here hx rfl (hb hby d_method_3_code_77) rfl (by decide) ?_
    show Steps p.tables e below (T3.setTop (mkF m 80 #[.val (.ref str), .val (.int off), .val (.int p1), .val (.int (4 : Int32)), .val (.int e0_), .val (.int (1 : Int32))] [])) _
    refine XS.iload X3.here hx rfl (hb hby d_method_3_code_80) rfl ?_
    show Steps p.tables e below (T3.setTop (mkF m 82 #[.val (.ref str), .val (.int off), .val (.int p1), .val (.int (4 : Int32)), .val (.int e0_), .val (.int (1 : Int32))] [(.int (1 : Int32))])) _
    refine XS.ifNo X3.here hx rfl (hb hby d_method_3_code_82) rfl (by decide) ?_
    show Steps p.tables e below (T3.setTop (mkF m 85 #[.val (.ref str), .val (.int off), .val (.int p1), .val (.int (4 : Int32)), .val (.int e0_), .val (.int (1 : Int32))] [])) _
    refine XS.aloadN X3.here hx rfl (hb hby d_method_3_code_85) rfl rfl ?_
    show Steps p.tables e below (T3.setTop (mkF m 86 #[.val (.ref str), .val (.int off), .val (.int p1), .val (.int (4 : Int32)), .val (.int e0_), .val (.int (1 : Int32))] [(.ref str)])) _
    refine XS.iload X3.here hx rfl (hb hby d_method_3_code_86) rfl ?_
    show Steps p.tables e below (T3.setTop (mkF m 88 #[.val (.ref str), .val (.int off), .val (.int p1), .val (.int (4 : Int32)), .val (.int e0_), .val (.int (1 : Int32))] [(.int e0_), (.ref str)])) _
    refine XT.iconstV X3.here hx rfl (2 : Int32) (hb hby d_method_3_code_88) (by decide) ?_
    show Steps p.tables e below (T3.setTop (mkF m 89 #[.val (.ref str), .val (.int off), .val (.int p1), .val (.int (4 : Int32)), .val (.int e0_), .val (.int (1 : Int32))] [(.int (2 : Int32)), (.int e0_), (.ref str)])) _
    refine XS.isub X3.here hx rfl (hb hby d_method_3_code_89) rfl ?_
    show Steps p.tables e below (T3.setTop (mkF m 90 #[.val (.ref str), .val (.int off), .val (.int p1), .val (.int (4 : Int32)), .val (.int e0_), .val (.int (1 : Int32))] [(.int (e0_ - (2 : Int32))), (.ref str)])) _
    rw [← he2]
    show Steps p.tables e below (T3.setTop (mkF m 90 #[.val (.ref str), .val (.int off), .val (.int p1), .val (.int (4 : Int32)), .val (.int e0_), .val (.int (1 : Int32))] [(.int e2_), (.ref str)])) _
    refine st4.trans ?_
    show Steps p.tables e below (T4.setTop (mkF m 93 #[.val (.ref str), .val (.int off), .val (.int p1), .val (.int (4 : Int32)), .val (.int e0_), .val (.int (1 : Int32))] [(.int D2)])) _
    refine XT.bipushV X4.here hx rfl (48 : Int32) (hb hby d_method_3_code_93) (by decide) ?_
    show Steps p.tables e below (T4.setTop (mkF m 95 #[.val (.ref str), .val (.int off), .val (.int p1), .val (.int (4 : Int32)), .val (.int e0_), .val (.int (1 : Int32))] [(.int (48 : Int32)), (.int D2)])) _
    refine XS.iloadN X4.here hx rfl (hb hby d_method_3_code_95) rfl ?_
    show Steps p.tables e below (T4.setTop (mkF m 96 #[.val (.ref str), .val (.int off), .val (.int p1), .val (.int (4 : Int32)), .val (.int e0_), .val (.int (1 : Int32))] [(.int p1), (.int (48 : Int32)), (.int D2)])) _
    refine XT.bipushV X4.here hx rfl (100 : Int32) (hb hby d_method_3_code_96) (by decide) ?_
    show Steps p.tables e below (T4.setTop (mkF m 98 #[.val (.ref str), .val (.int off), .val (.int p1), .val (.int (4 : Int32)), .val (.int e0_), .val (.int (1 : Int32))] [(.int (100 : Int32)), (.int p1), (.int (48 : Int32)), (.int D2)])) _
    refine XS.idiv X4.here hx rfl (hb hby d_method_3_code_98) rfl (by decide) ?_
    show Steps p.tables e below (T4.setTop (mkF m 99 #[.val (.ref str), .val (.int off), .val (.int p1), .val (.int (4 : Int32)), .val (.int e0_), .val (.int (1 : Int32))] [(.int (p1 / (100 : Int32))), (.int (48 : Int32)), (.int D2)])) _
    refine XT.bipushV X4.here hx rfl (10 : Int32) (hb hby d_method_3_code_99) (by decide) ?_
    show Steps p.tables e below (T4.setTop (mkF m 101 #[.val (.ref str), .val (.int off), .val (.int p1), .val (.int (4 : Int32)), .val (.int e0_), .val (.int (1 : Int32))] [(.int (10 : Int32)), (.int (p1 / (100 : Int32))), (.int (48 : Int32)), (.int D2)])) _
    refine iremM X4 hx rfl (hb hby d_method_3_code_101) rfl (by decide) ?_
    show Steps p.tables e below (T4.setTop (mkF m 102 #[.val (.ref str), .val (.int off), .val (.int p1), .val (.int (4 : Int32)), .val (.int e0_), .val (.int (1 : Int32))] [(.int ((p1 / (100 : Int32)) % (10 : Int32))), (.int (48 : Int32)), (.int D2)])) _
    refine XS.iadd X4.here hx rfl (hb hby d_method_3_code_102) rfl ?_
    show Steps p.tables e below (T4.setTop (mkF m 103 #[.val (.ref str), .val (.int off), .val (.int p1), .val (.int (4 : Int32)), .val (.int e0_), .val (.int (1 : Int32))] [(.int ((48 : Int32) + ((p1 / (100 : Int32)) % (10 : Int32)))), (.int D2)])) _
    rw [← hD2]
    show Steps p.tables e below (T4.setTop (mkF m 103 #[.val (.ref str), .val (.int off), .val (.int p1), .val (.int (4 : Int32)), .val (.int e0_), .val (.int (1 : Int32))] [(.int D2), (.int D2)])) _
    refine XT.i2c X4.here hx rfl (hb hby d_method_3_code_103) rfl ?_
    show Steps p.tables e below (T4.setTop (mkF m 104 #[.val (.ref str), .val (.int off), .val (.int p1), .val (.int (4 : Int32)), .val (.int e0_), .val (.int (1 : Int32))] [(.int (D2).toUInt32.toUInt16.toUInt32.toInt32), (.int D2)])) _
    rw [own_i2c d2.1 d2.2]
    show Steps p.tables e below (T4.setTop (mkF m 104 #[.val (.ref str), .val (.int off), .val (.int p1), .val (.int (4 : Int32)), .val (.int e0_), .val (.int (1 : Int32))] [(.int D2), (.int D2)])) _
    refine XS.icmpNo X4.here hx rfl (hb hby d_method_3_code_104) rfl (teq rfl).2 ?_
    show Steps p.tables e below (T4.setTop (mkF m 107 #[.val (.ref str), .val (.int off), .val (.int p1), .val (.int (4 : Int32)), .val (.int e0_), .val (.int (1 : Int32))] [])) _
    refine XT.iconstV X4.here hx rfl (1 : Int32) (hb hby d_method_3_code_107) (by decide) ?_
    show Steps p.tables e below (T4.setTop (mkF m 108 #[.val (.ref str), .val (.int off), .val (.int p1), .val (.int (4 : Int32)), .val (.int e0_), .val (.int (1 : Int32))] [(.int (1 : Int32))])) _
    refine XS.goto X4.here hx rfl (pc0 := 108) (pc' := 112) rfl (hb hby d_method_3_code_108) (by decide) (by decide) ?_
    show Steps p.tables e below (T4.setTop (mkF m 112 #[.val (.ref str), .val (.int off), .val (.int p1), .val (.int (4 : Int32)), .val (.int e0_), .val (.int (1 : Int32))] [(.int (1 : Int32))])) _
    refine XS.istore X4.here hx rfl (hb hby d_method_3_code_112) rfl (l' := #[.val (.ref str), .val (.int off), .val (.int p1), .val (.int (4 : Int32)), .val (.int e0_), .val (.int (1 : Int32))]) rfl ?_
    show Steps p.tables e below (T4.setTop (mkF m 114 #[.val (.ref str), .val (.int off), .val (.int p1), .val (.int (4 : Int32)), .val (.int e0_), .val (.int (1 : Int32))] [])) _
    refine XS.iloadN X4.here hx rfl (hb hby d_method_3_code_114) rfl ?_
    show Steps p.tables e below (T4.setTop (mkF m 115 #[.val (.ref str), .val (.int off), .val (.int p1), .val (.int (4 : Int32)), .val (.int e0_), .val (.int (1 : Int32))] [(.int (4 : Int32))])) _
    refine XT.iconstV X4.here hx rfl (4 : Int32) (hb hby d_method_3_code_115) (by decide) ?_
    show Steps p.tables e below (T4.setTop (mkF m 116 #[.val (.ref str), .val (.int off), .val (.int p1), .val (.int (4 : Int32)), .val (.int e0_), .val (.int (1 : Int32))] [(.int (4 : Int32)), (.int (4 : Int32))])) _
    refine XS.icmpNo X4.here hx rfl (hb hby d_method_3_code_116) rfl (by decide) ?_
    show Steps p.tables e below (T4.setTop (mkF m 119 #[.val (.ref str), .val (.int off), .val (.int p1), .val (.int (4 : Int32)), .val (.int e0_), .val (.int (1 : Int32))] [])) _
    refine XS.iload X4.here hx rfl (hb hby d_method_3_code_119) rfl ?_
    show Steps p.tables e below (T4.setTop (mkF m 121 #[.val (.ref str), .val (.int off), .val (.int p1), .val (.int (4 : Int32)), .val (.int e0_), .val (.int (1 : Int32))] [(.int (1 : Int32))])) _
    refine XS.ifNo X4.here hx rfl (hb hby d_method_3_code_121) rfl (by decide) ?_
    show Steps p.tables e below (T4.setTop (mkF m 124 #[.val (.ref str), .val (.int off), .val (.int p1), .val (.int (4 : Int32)), .val (.int e0_), .val (.int (1 : Int32))] [])) _
    refine XS.aloadN X4.here hx rfl (hb hby d_method_3_code_124) rfl rfl ?_
    show Steps p.tables e below (T4.setTop (mkF m 125 #[.val (.ref str), .val (.int off), .val (.int p1), .val (.int (4 : Int32)), .val (.int e0_), .val (.int (1 : Int32))] [(.ref str)])) _
    refine XS.iload X4.here hx rfl (hb hby d_method_3_code_125) rfl ?_
    show Steps p.tables e below (T4.setTop (mkF m 127 #[.val (.ref str), .val (.int off), .val (.int p1), .val (.int (4 : Int32)), .val (.int e0_), .val (.int (1 : Int32))] [(.int e0_), (.ref str)])) _
    refine XT.iconstV X4.here hx rfl (3 : Int32) (hb hby d_method_3_code_127) (by decide) ?_
    show Steps p.tables e below (T4.setTop (mkF m 128 #[.val (.ref str), .val (.int off), .val (.int p1), .val (.int (4 : Int32)), .val (.int e0_), .val (.int (1 : Int32))] [(.int (3 : Int32)), (.int e0_), (.ref str)])) _
    refine XS.isub X4.here hx rfl (hb hby d_method_3_code_128) rfl ?_
    show Steps p.tables e below (T4.setTop (mkF m 129 #[.val (.ref str), .val (.int off), .val (.int p1), .val (.int (4 : Int32)), .val (.int e0_), .val (.int (1 : Int32))] [(.int (e0_ - (3 : Int32))), (.ref str)])) _
    rw [← he3]
    show Steps p.tables e below (T4.setTop (mkF m 129 #[.val (.ref str), .val (.int off), .val (.int p1), .val (.int (4 : Int32)), .val (.int e0_), .val (.int (1 : Int32))] [(.int e3_), (.ref str)])) _
    refine st5.trans ?_
    show Steps p.tables e below (T5.setTop (mkF m 132 #[.val (.ref str), .val (.int off), .val (.int p1), .val (.int (4 : Int32)), .val (.int e0_), .val (.int (1 : Int32))] [(.int D3)])) _
    refine XT.bipushV X5.here hx rfl (48 : Int32) (hb hby d_method_3_code_132) (by decide) ?_
    show Steps p.tables e below (T5.setTop (mkF m 134 #[.val (.ref str), .val (.int off), .val (.int p1), .val (.int (4 : Int32)), .val (.int e0_), .val (.int (1 : Int32))] [(.int (48 : Int32)), (.int D3)])) _
    refine XS.iloadN X5.here hx rfl (hb hby d_method_3_code_134) rfl ?_
    show Steps p.tables e below (T5.setTop (mkF m 135 #[.val (.ref str), .val (.int off), .val (.int p1), .val (.int (4 : Int32)), .val (.int e0_), .val (.int (1 : Int32))] [(.int p1), (.int (48 : Int32)), (.int D3)])) _
    refine XT.sipushV X5.here hx rfl (1000 : Int32) (hb hby d_method_3_code_135) (by decide) ?_
    show Steps p.tables e below (T5.setTop (mkF m 138 #[.val (.ref str), .val (.int off), .val (.int p1), .val (.int (4 : Int32)), .val (.int e0_), .val (.int (1 : Int32))] [(.int (1000 : Int32)), (.int p1), (.int (48 : Int32)), (.int D3)])) _
    refine XS.idiv X5.here hx rfl (hb hby d_method_3_code_138) rfl (by decide) ?_
    show Steps p.tables e below (T5.setTop (mkF m 139 #[.val (.ref str), .val (.int off), .val (.int p1), .val (.int (4 : Int32)), .val (.int e0_), .val (.int (1 : Int32))] [(.int (p1 / (1000 : Int32))), (.int (48 : Int32)), (.int D3)])) _
    refine XT.bipushV X5.here hx rfl (10 : Int32) (hb hby d_method_3_code_139) (by decide) ?_
    show Steps p.tables e below (T5.setTop (mkF m 141 #[.val (.ref str), .val (.int off), .val (.int p1), .val (.int (4 : Int32)), .val (.int e0_), .val (.int (1 : Int32))] [(.int (10 : Int32)), (.int (p1 / (1000 : Int32))), (.int (48 : Int32)), (.int D3)])) _
    refine iremM X5 hx rfl (hb hby d_method_3_code_141) rfl (by decide) ?_
    show Steps p.tables e below (T5.setTop (mkF m 142 #[.val (.ref str), .val (.int off), .val (.int p1), .val (.int (4 : Int32)), .val (.int e0_), .val (.int (1 : Int32))] [(.int ((p1 / (1000 : Int32)) % (10 : Int32))), (.int (48 : Int32)), (.int D3)])) _
    refine XS.iadd X5.here hx rfl (hb hby d_method_3_code_142) rfl ?_
    show Steps p.tables e below (T5.setTop (mkF m 143 #[.val (.ref str), .val (.int off), .val (.int p1), .val (.int (4 : Int32)), .val (.int e0_), .val (.int (1 : Int32))] [(.int ((48 : Int32) + ((p1 / (1000 : Int32)) % (10 : Int32)))), (.int D3)])) _
    rw [← hD3]
    show Steps p.tables e below (T5.setTop (mkF m 143 #[.val (.ref str), .val (.int off), .val (.int p1), .val (.int (4 : Int32)), .val (.int e0_), .val (.int (1 : Int32))] [(.int D3), (.int D3)])) _
    refine XT.i2c X5.here hx rfl (hb hby d_method_3_code_143) rfl ?_
    show Steps p.tables e below (T5.setTop (mkF m 144 #[.val (.ref str), .val (.int off), .val (.int p1), .val (.int (4 : Int32)), .val (.int e0_), .val (.int (1 : Int32))] [(.int (D3).toUInt32.toUInt16.toUInt32.toInt32), (.int D3)])) _
    rw [own_i2c d3.1 d3.2]
    show Steps p.tables e below (T5.setTop (mkF m 144 #[.val (.ref str), .val (.int off), .val (.int p1), .val (.int (4 : Int32)), .val (.int e0_), .val (.int (1 : Int32))] [(.int D3), (.int D3)])) _
    refine XS.icmpNo X5.here hx rfl (hb hby d_method_3_code_144) rfl (teq rfl).2 ?_
    show Steps p.tables e below (T5.setTop (mkF m 147 #[.val (.ref str), .val (.int off), .val (.int p1), .val (.int (4 : Int32)), .val (.int e0_), .val (.int (1 : Int32))] [])) _
    refine XT.iconstV X5.here hx rfl (1 : Int32) (hb hby d_method_3_code_147) (by decide) ?_
    show Steps p.tables e below (T5.setTop (mkF m 148 #[.val (.ref str), .val (.int off), .val (.int p1), .val (.int (4 : Int32)), .val (.int e0_), .val (.int (1 : Int32))] [(.int (1 : Int32))])) _
    refine XS.goto X5.here hx rfl (pc0 := 148) (pc' := 152) rfl (hb hby d_method_3_code_148) (by decide) (by decide) ?_
    show Steps p.tables e below (T5.setTop (mkF m 152 #[.val (.ref str), .val (.int off), .val (.int p1), .val (.int (4 : Int32)), .val (.int e0_), .val (.int (1 : Int32))] [(.int (1 : Int32))])) _
    refine XS.istore X5.here hx rfl (hb hby d_method_3_code_152) rfl (l' := #[.val (.ref str), .val (.int off), .val (.int p1), .val (.int (4 : Int32)), .val (.int e0_), .val (.int (1 : Int32))]) rfl ?_
    show Steps p.tables e below (T5.setTop (mkF m 154 #[.val (.ref str), .val (.int off), .val (.int p1), .val (.int (4 : Int32)), .val (.int e0_), .val (.int (1 : Int32))] [])) _
    refine XS.iloadN X5.here hx rfl (hb hby d_method_3_code_154) rfl ?_
    show Steps p.tables e below (T5.setTop (mkF m 155 #[.val (.ref str), .val (.int off), .val (.int p1), .val (.int (4 : Int32)), .val (.int e0_), .val (.int (1 : Int32))] [(.int (4 : Int32))])) _
    refine XT.iconstV X5.here hx rfl (5 : Int32) (hb hby d_method_3_code_155) (by decide) ?_
    show Steps p.tables e below (T5.setTop (mkF m 156 #[.val (.ref str), .val (.int off), .val (.int p1), .val (.int (4 : Int32)), .val (.int e0_), .val (.int (1 : Int32))] [(.int (5 : Int32)), (.int (4 : Int32))])) _
    refine XS.icmpYes X5.here hx rfl (pc0 := 156) (pc' := 194) rfl (hb hby d_method_3_code_156) rfl (by decide) (by decide) (by decide) ?_
    show Steps p.tables e below (T5.setTop (mkF m 194 #[.val (.ref str), .val (.int off), .val (.int p1), .val (.int (4 : Int32)), .val (.int e0_), .val (.int (1 : Int32))] [])) _
    refine XS.iload X5.here hx rfl (hb hby d_method_3_code_194) rfl ?_
    show Steps p.tables e below (T5.setTop (mkF m 196 #[.val (.ref str), .val (.int off), .val (.int p1), .val (.int (4 : Int32)), .val (.int e0_), .val (.int (1 : Int32))] [(.int (1 : Int32))])) _
    exact retN X5 hx (t := .boolean) Bd.returns (by simp) (hb hby d_method_3_code_196) hr
  · exact ⟨rfl, N5, e5⟩
theorem d_method_3_code_159 : decode method_3_code 159 = .ok (.iload 5, 2) := by decide +kernel
theorem d_method_3_code_161 : decode method_3_code 161 = .ok (.ifCond .eq 30, 3) := by decide +kernel
theorem d_method_3_code_164 : decode method_3_code 164 = .ok (.aload_n 0, 1) := by decide +kernel
theorem d_method_3_code_165 : decode method_3_code 165 = .ok (.iload 4, 2) := by decide +kernel
theorem d_method_3_code_167 : decode method_3_code 167 = .ok (.iconst 4, 1) := by decide +kernel
theorem d_method_3_code_168 : decode method_3_code 168 = .ok (.isub, 1) := by decide +kernel
theorem d_method_3_code_169 : decode method_3_code 169 = .ok (.invokevirtual 13, 3) := by decide +kernel
theorem d_method_3_code_172 : decode method_3_code 172 = .ok (.bipush 48, 2) := by decide +kernel
theorem d_method_3_code_174 : decode method_3_code 174 = .ok (.iload_n 2, 1) := by decide +kernel
theorem d_method_3_code_175 : decode method_3_code 175 = .ok (.sipush 10000, 3) := by decide +kernel
theorem d_method_3_code_178 : decode method_3_code 178 = .ok (.idiv, 1) := by decide +kernel
theorem d_method_3_code_179 : decode method_3_code 179 = .ok (.bipush 10, 2) := by decide +kernel
theorem d_method_3_code_181 : decode method_3_code 181 = .ok (.irem, 1) := by decide +kernel
theorem d_method_3_code_182 : decode method_3_code 182 = .ok (.iadd, 1) := by decide +kernel
theorem d_method_3_code_183 : decode method_3_code 183 = .ok (.i2c, 1) := by decide +kernel
theorem d_method_3_code_184 : decode method_3_code 184 = .ok (.if_icmp .ne 7, 3) := by decide +kernel
theorem d_method_3_code_187 : decode method_3_code 187 = .ok (.iconst 1, 1) := by decide +kernel
theorem d_method_3_code_188 : decode method_3_code 188 = .ok (.goto 4, 3) := by decide +kernel
theorem d_method_3_code_192 : decode method_3_code 192 = .ok (.istore 5, 2) := by decide +kernel
def Q_na_5 (Z : State) (str sv : Addr) (ks : ClassId) (len off p1 : Int32) (bs : List Value) (vF : Value) (zc : Int32) (h0 : Heap) (n0 : Nat) (v : Option Value) (h : Heap) (L : List Loc) : Prop := v = some (.int (1 : Int32)) ∧ Fr n0 L ∧ h = h0
set_option maxRecDepth 65536 in
set_option maxHeartbeats 40000000 in
theorem na_5 (l : Launch) (Z : State) (a0 : Array Value) (hw : ∀ d ∈ tables_1, d.before a0 Z = true) (ws : List Jvm.Cond) (str sv : Addr) (ks : ClassId) (len off p1 : Int32) (bs : List Value) (vF : Value) (zc : Int32) (h0 : Heap) (n0 : Nat) (Z0 : n0 ≤ h0.size) (X00 : Old Z n0 h0)(SF : Sta Z Z.heap "jdk/internal/util/Preconditions" "SIOOBE_FORMATTER" "Ljava/util/function/BiFunction;" vF) (hF : vF.isRef = true)(SC : Sta Z Z.heap "java/lang/String" "COMPACT_STRINGS" "Z" (.int zc)) (hzc : ¬ zc = 0)(Est : Exa Z h0 str "java/lang/String") (Gv : Fld Z h0 str "java/lang/String" "value" "[B" (.ref sv)) (Gc : Fld Z h0 str "java/lang/String" "coder" "B" (.int (0 : Int32)))(Vs : Arv Z h0 sv ks .byte len bs (.int 0)) (hlen : len.toInt < 100) (ho0 : 0 ≤ off.toInt) (ho1 : off.toInt + (own_sz p1).toInt ≤ len.toInt) (hbs : own_has bs (off + own_sz p1).toNatClampNeg p1)(hlo : 10000 ≤ p1.toInt) (hhi : p1.toInt < 65536) :
    MetFree l (⟨"com/example/head_count/headcount/NodeIdRangeToStringPinLaw", "numAt", "(Ljava/lang/String;II)Z"⟩ : MethodName) (head1 (Jvm.Cond.code (⟨"com/example/head_count/headcount/NodeIdRangeToStringPinLaw", "numAt", "(Ljava/lang/String;II)Z"⟩ : MethodName) method_3_code 6 (Option.some Jvm.ClassFile.FieldType.boolean) :: ws) ({ frames := 4, cells := 0, slots := 0, locals := 53 } : Room)) (fun a U => a = #[(.ref str), (.int off), (.int p1)] ∧ Z.Warmed39 U.vm ∧ U.heap = h0) (fun _ _ _ _ _ => True) (fun _ U o U' => ∃ v L, o = .returned v ∧ Q_na_5 Z str sv ks len off p1 bs vF zc h0 n0 v U'.heap L ∧ FrameEnd U o U' L ({ frames := 4, cells := 0, slots := 0, locals := 53 } : Room).cells ({ frames := 4, cells := 0, slots := 0, locals := 53 } : Room).slots) := by
  refine MetFree.of_bodySF (plainFor_of_name pn_394) hisR ?_
  intro p e s m args below meth c s₁ Bd hml0 hP hK
  obtain ⟨rfl, hZ, hh⟩ := hP
  have hx := Bd.exec
  have hby := Bd.bytes
  have hml : c.maxLocals = 6 := hml0
  have hown : s.vm.findClass "com/example/head_count/headcount/NodeIdRangeToStringPinLaw" = some m.cls := findClass_of_methodNamed Bd.named
  have hnm := (name_of_methodNamed Bd.named Bd.method).1
  have X0 : Stand p l e ({ frames := 4, cells := 0, slots := 0, locals := 53 } : Room) s m #[(.ref str), (.int off), (.int p1)] below meth c s₁ [] 0 0 := Stand.of_body Bd
  have e0 : s₁.heap = h0 := by rw [← hh, Bd.state]; rfl
  have N0 := Fr.nil n0
  have hlk : meth.locks = false := BodyLoose.notSynchronized Bd
  have pre0 : ∀ t, Steps p.tables e below (s₁.setTop (mkF m 0 #[.val (.ref str), .val (.int off), .val (.int p1), .unset, .unset, .unset] [])) t → Steps p.tables e below (s₁.setTop (entryFrame m #[(.ref str), (.int off), (.int p1)] 6)) t := fun t k => castTop (ef_487 m str off p1) k
  have hsz : own_sz p1 = (5 : Int32) := own_szE5 ⟨hlo, hhi⟩
  obtain ⟨ee, hee⟩ : ∃ z, z = off + own_sz p1 := ⟨_, rfl⟩
  rw [← hee] at hbs
  rw [hsz] at hee ho1
  have ho1 : off.toInt + 5 ≤ len.toInt := ho1
  have eei : ee.toInt = off.toInt + 5 := by rw [hee]; exact own_addk rfl ho0 (by omega) (by omega)
  obtain ⟨e0_, he0⟩ : ∃ z, z = ee - (1 : Int32) := ⟨_, rfl⟩
  have y0 : e0_.toInt = ee.toInt - 1 := by rw [he0]; exact own_sbd ee 1 1 rfl (by omega) (by omega)
  obtain ⟨D0, hD0⟩ : ∃ z, z = (48 : Int32) + p1 % (10 : Int32) := ⟨_, rfl⟩
  have d0 : 0 ≤ D0.toInt ∧ D0.toInt < 128 := by rw [hD0, own_dg0 p1 (by omega)]; omega
  have m0 : bs.getD e0_.toNatClampNeg (.int 0) = .int D0 := by rw [own_tn (t := 1) y0 (by omega), hD0]; exact hbs.1
  have g0 : ¬ e0_ < 0 ∧ e0_ < len := own_bl y0 (by omega) (by omega)
  obtain ⟨e1_, he1⟩ : ∃ z, z = e0_ - (1 : Int32) := ⟨_, rfl⟩
  have y1 : e1_.toInt = ee.toInt - 2 := by rw [he1, own_sbd e0_ 1 1 rfl (by omega) (by rw [y0]; omega), y0]; omega
  obtain ⟨D1, hD1⟩ : ∃ z, z = (48 : Int32) + p1 / (10 : Int32) % (10 : Int32) := ⟨_, rfl⟩
  have d1 : 0 ≤ D1.toInt ∧ D1.toInt < 128 := by rw [hD1, own_dg p1 10 10 rfl (by decide) (by omega) (by omega)]; omega
  have m1 : bs.getD e1_.toNatClampNeg (.int 0) = .int D1 := by rw [own_tn (t := 2) y1 (by omega), hD1]; exact hbs.2.1 (by omega)
  have g1 : ¬ e1_ < 0 ∧ e1_ < len := own_bl y1 (by omega) (by omega)
  obtain ⟨e2_, he2⟩ : ∃ z, z = e0_ - (2 : Int32) := ⟨_, rfl⟩
  have y2 : e2_.toInt = ee.toInt - 3 := by rw [he2, own_sbd e0_ 2 2 rfl (by omega) (by rw [y0]; omega), y0]; omega
  obtain ⟨D2, hD2⟩ : ∃ z, z = (48 : Int32) + p1 / (100 : Int32) % (10 : Int32) := ⟨_, rfl⟩
  have d2 : 0 ≤ D2.toInt ∧ D2.toInt < 128 := by rw [hD2, own_dg p1 100 100 rfl (by decide) (by omega) (by omega)]; omega
  have m2 : bs.getD e2_.toNatClampNeg (.int 0) = .int D2 := by rw [own_tn (t := 3) y2 (by omega), hD2]; exact hbs.2.2.1 (by omega)
  have g2 : ¬ e2_ < 0 ∧ e2_ < len := own_bl y2 (by omega) (by omega)
  obtain ⟨e3_, he3⟩ : ∃ z, z = e0_ - (3 : Int32) := ⟨_, rfl⟩
  have y3 : e3_.toInt = ee.toInt - 4 := by rw [he3, own_sbd e0_ 3 3 rfl (by omega) (by rw [y0]; omega), y0]; omega
  obtain ⟨D3, hD3⟩ : ∃ z, z = (48 : Int32) + p1 / (1000 : Int32) % (10 : Int32) := ⟨_, rfl⟩
  have d3 : 0 ≤ D3.toInt ∧ D3.toInt < 128 := by rw [hD3, own_dg p1 1000 1000 rfl (by decide) (by omega) (by omega)]; omega
  have m3 : bs.getD e3_.toNatClampNeg (.int 0) = .int D3 := by rw [own_tn (t := 4) y3 (by omega), hD3]; exact hbs.2.2.2.1 (by omega)
  have g3 : ¬ e3_ < 0 ∧ e3_ < len := own_bl y3 (by omega) (by omega)
  obtain ⟨e4_, he4⟩ : ∃ z, z = e0_ - (4 : Int32) := ⟨_, rfl⟩
  have y4 : e4_.toInt = ee.toInt - 5 := by rw [he4, own_sbd e0_ 4 4 rfl (by omega) (by rw [y0]; omega), y0]; omega
  obtain ⟨D4, hD4⟩ : ∃ z, z = (48 : Int32) + p1 / (10000 : Int32) % (10 : Int32) := ⟨_, rfl⟩
  have d4 : 0 ≤ D4.toInt ∧ D4.toInt < 128 := by rw [hD4, own_dg p1 10000 10000 rfl (by decide) (by omega) (by omega)]; omega
  have m4 : bs.getD e4_.toNatClampNeg (.int 0) = .int D4 := by rw [own_tn (t := 5) y4 (by omega), hD4]; exact hbs.2.2.2.2 (by omega)
  have g4 : ¬ e4_ < 0 ∧ e4_ < len := own_bl y4 (by omega) (by omega)
  obtain ⟨_, _, ⟨T1, L1, k1, n1⟩, -, X1, ⟨Lc1, hQ1, l1, y1, z1⟩, st1⟩ := Jvm.LawKit.callS X0 hx (y := (⟨"com/example/head_count/headcount/NodeIdRangeToStringPinLaw", "digits", "(I)I"⟩ : MethodName)) hown (mvT hZ (hw _ (List.mem_of_getElem? (i := 164) rfl))) (mvT hZ (hw _ (List.mem_of_getElem? (i := 165) rfl))) (mvT hZ (hw _ (List.mem_of_getElem? (i := 166) rfl))) (mvT hZ (hw _ (List.mem_of_getElem? (i := 167) rfl))) (by decide) (backOf (W := 0) (dg l Z a0 hw [] p1 h0 n0 Z0 (by omega) (by omega)) hZ (hw _ (List.mem_of_getElem? (i := 167) rfl)) (hw _ (List.mem_of_getElem? (i := 166) rfl)) (by decide) (by decide)) (g := (mkF m 1 #[.val (.ref str), .val (.int off), .val (.int p1), .unset, .unset, .unset] [(.int p1)])) rfl (by rw [hml]; rfl) (argsL := [(.int p1)]) (rest := []) (lenOf pd_154 rfl) rfl (by show 2 * 0 + _ ≤ _; exact Nat.le_of_eq rfl) (hb hby d_method_3_code_1) (fun _ _ => ⟨rfl, e0, (by decide : 0 + 0 ≤ _), (by decide : 0 + 0 ≤ _)⟩)
  dsimp only [Pt.U, Pt.locs, Pt.cells, Pt.slots] at X1 l1 y1 z1 st1 hQ1
  subst l1 y1 z1
  obtain ⟨rfl, N1q, e1⟩ := hQ1
  have N1 := Fr.app N0 N1q
  obtain ⟨cq2, kq2, q2a, q2b, q2c⟩ := isOf hZ e1 Est
  obtain ⟨_, _, ⟨T2, L2, k2, n2⟩, -, X2, ⟨Lc2, hQ2, l2, y2, z2⟩, st2⟩ := X1.virtualBack hx (y := (⟨"java/lang/String", "charAt", "(I)C"⟩ : MethodName)) (z := (⟨"java/lang/String", "charAt", "(I)C"⟩ : MethodName)) hown (mvT hZ (hw _ (List.mem_of_getElem? (i := 169) rfl))) (mvT hZ (hw _ (List.mem_of_getElem? (i := 170) rfl))) (notFace_of_selects (args := #[]) (mvT hZ (hw _ (List.mem_of_getElem? (i := 172) rfl)))) (mvT hZ (hw _ (List.mem_of_getElem? (i := 172) rfl))) (mvT hZ (hw _ (List.mem_of_getElem? (i := 171) rfl))) (by decide) (backOf (W := 0) (st_ch l Z a0 hw [] str sv ks len e0_ D0 bs vF zc h0 n0 Z0 X00 SF hF Vs g0 m0 d0.1 d0.2 SC hzc Est Gv Gc) hZ (hw _ (List.mem_of_getElem? (i := 173) rfl)) (hw _ (List.mem_of_getElem? (i := 36) rfl)) (by decide) (by decide)) q2a q2c (g := (mkF m 15 #[.val (.ref str), .val (.int off), .val (.int p1), .val (.int (5 : Int32)), .val (.int e0_), .unset] [(.int e0_), (.ref str)])) rfl (by rw [hml]; rfl) (Steps.refl _) (argsL := [(.int e0_)]) (rest := []) (lenOf pd_462 rfl) rfl (by show 2 * 0 + _ ≤ _; exact Nat.le_of_eq rfl) (hb hby d_method_3_code_15) (fun _ _ => ⟨rfl, e1, (by decide : 0 + 0 ≤ _), (by decide : 0 + 0 ≤ _)⟩)
  dsimp only [Pt.U, Pt.locs, Pt.cells, Pt.slots] at X2 l2 y2 z2 st2 hQ2
  subst l2 y2 z2
  obtain ⟨rfl, N2q, e2⟩ := hQ2
  have N2 := Fr.app N1 N2q
  obtain ⟨cq3, kq3, q3a, q3b, q3c⟩ := isOf hZ e2 Est
  obtain ⟨_, _, ⟨T3, L3, k3, n3⟩, -, X3, ⟨Lc3, hQ3, l3, y3, z3⟩, st3⟩ := X2.virtualBack hx (y := (⟨"java/lang/String", "charAt", "(I)C"⟩ : MethodName)) (z := (⟨"java/lang/String", "charAt", "(I)C"⟩ : MethodName)) hown (mvT hZ (hw _ (List.mem_of_getElem? (i := 169) rfl))) (mvT hZ (hw _ (List.mem_of_getElem? (i := 170) rfl))) (notFace_of_selects (args := #[]) (mvT hZ (hw _ (List.mem_of_getElem? (i := 172) rfl)))) (mvT hZ (hw _ (List.mem_of_getElem? (i := 172) rfl))) (mvT hZ (hw _ (List.mem_of_getElem? (i := 171) rfl))) (by decide) (backOf (W := 0) (st_ch l Z a0 hw [] str sv ks len e1_ D1 bs vF zc h0 n0 Z0 X00 SF hF Vs g1 m1 d1.1 d1.2 SC hzc Est Gv Gc) hZ (hw _ (List.mem_of_getElem? (i := 173) rfl)) (hw _ (List.mem_of_getElem? (i := 36) rfl)) (by decide) (by decide)) q3a q3c (g := (mkF m 51 #[.val (.ref str), .val (.int off), .val (.int p1), .val (.int (5 : Int32)), .val (.int e0_), .val (.int (1 : Int32))] [(.int e1_), (.ref str)])) rfl (by rw [hml]; rfl) (Steps.refl _) (argsL := [(.int e1_)]) (rest := []) (lenOf pd_462 rfl) rfl (by show 2 * 0 + _ ≤ _; exact Nat.le_of_eq rfl) (hb hby d_method_3_code_51) (fun _ _ => ⟨rfl, e2, (by decide : 0 + 0 ≤ _), (by decide : 0 + 0 ≤ _)⟩)
  dsimp only [Pt.U, Pt.locs, Pt.cells, Pt.slots] at X3 l3 y3 z3 st3 hQ3
  subst l3 y3 z3
  obtain ⟨rfl, N3q, e3⟩ := hQ3
  have N3 := Fr.app N2 N3q
  obtain ⟨cq4, kq4, q4a, q4b, q4c⟩ := isOf hZ e3 Est
  obtain ⟨_, _, ⟨T4, L4, k4, n4⟩, -, X4, ⟨Lc4, hQ4, l4, y4, z4⟩, st4⟩ := X3.virtualBack hx (y := (⟨"java/lang/String", "charAt", "(I)C"⟩ : MethodName)) (z := (⟨"java/lang/String", "charAt", "(I)C"⟩ : MethodName)) hown (mvT hZ (hw _ (List.mem_of_getElem? (i := 169) rfl))) (mvT hZ (hw _ (List.mem_of_getElem? (i := 170) rfl))) (notFace_of_selects (args := #[]) (mvT hZ (hw _ (List.mem_of_getElem? (i := 172) rfl)))) (mvT hZ (hw _ (List.mem_of_getElem? (i := 172) rfl))) (mvT hZ (hw _ (List.mem_of_getElem? (i := 171) rfl))) (by decide) (backOf (W := 0) (st_ch l Z a0 hw [] str sv ks len e2_ D2 bs vF zc h0 n0 Z0 X00 SF hF Vs g2 m2 d2.1 d2.2 SC hzc Est Gv Gc) hZ (hw _ (List.mem_of_getElem? (i := 173) rfl)) (hw _ (List.mem_of_getElem? (i := 36) rfl)) (by decide) (by decide)) q4a q4c (g := (mkF m 90 #[.val (.ref str), .val (.int off), .val (.int p1), .val (.int (5 : Int32)), .val (.int e0_), .val (.int (1 : Int32))] [(.int e2_), (.ref str)])) rfl (by rw [hml]; rfl) (Steps.refl _) (argsL := [(.int e2_)]) (rest := []) (lenOf pd_462 rfl) rfl (by show 2 * 0 + _ ≤ _; exact Nat.le_of_eq rfl) (hb hby d_method_3_code_90) (fun _ _ => ⟨rfl, e3, (by decide : 0 + 0 ≤ _), (by decide : 0 + 0 ≤ _)⟩)
  dsimp only [Pt.U, Pt.locs, Pt.cells, Pt.slots] at X4 l4 y4 z4 st4 hQ4
  subst l4 y4 z4
  obtain ⟨rfl, N4q, e4⟩ := hQ4
  have N4 := Fr.app N3 N4q
  obtain ⟨cq5, kq5, q5a, q5b, q5c⟩ := isOf hZ e4 Est
  obtain ⟨_, _, ⟨T5, L5, k5, n5⟩, -, X5, ⟨Lc5, hQ5, l5, y5, z5⟩, st5⟩ := X4.virtualBack hx (y := (⟨"java/lang/String", "charAt", "(I)C"⟩ : MethodName)) (z := (⟨"java/lang/String", "charAt", "(I)C"⟩ : MethodName)) hown (mvT hZ (hw _ (List.mem_of_getElem? (i := 169) rfl))) (mvT hZ (hw _ (List.mem_of_getElem? (i := 170) rfl))) (notFace_of_selects (args := #[]) (mvT hZ (hw _ (List.mem_of_getElem? (i := 172) rfl)))) (mvT hZ (hw _ (List.mem_of_getElem? (i := 172) rfl))) (mvT hZ (hw _ (List.mem_of_getElem? (i := 171) rfl))) (by decide) (backOf (W := 0) (st_ch l Z a0 hw [] str sv ks len e3_ D3 bs vF zc h0 n0 Z0 X00 SF hF Vs g3 m3 d3.1 d3.2 SC hzc Est Gv Gc) hZ (hw _ (List.mem_of_getElem? (i := 173) rfl)) (hw _ (List.mem_of_getElem? (i := 36) rfl)) (by decide) (by decide)) q5a q5c (g := (mkF m 129 #[.val (.ref str), .val (.int off), .val (.int p1), .val (.int (5 : Int32)), .val (.int e0_), .val (.int (1 : Int32))] [(.int e3_), (.ref str)])) rfl (by rw [hml]; rfl) (Steps.refl _) (argsL := [(.int e3_)]) (rest := []) (lenOf pd_462 rfl) rfl (by show 2 * 0 + _ ≤ _; exact Nat.le_of_eq rfl) (hb hby d_method_3_code_129) (fun _ _ => ⟨rfl, e4, (by decide : 0 + 0 ≤ _), (by decide : 0 + 0 ≤ _)⟩)
  dsimp only [Pt.U, Pt.locs, Pt.cells, Pt.slots] at X5 l5 y5 z5 st5 hQ5
  subst l5 y5 z5
  obtain ⟨rfl, N5q, e5⟩ := hQ5
  have N5 := Fr.app N4 N5q
  obtain ⟨cq6, kq6, q6a, q6b, q6c⟩ := isOf hZ e5 Est
  obtain ⟨_, _, ⟨T6, L6, k6, n6⟩, -, X6, ⟨Lc6, hQ6, l6, y6, z6⟩, st6⟩ := X5.virtualBack hx (y := (⟨"java/lang/String", "charAt", "(I)C"⟩ : MethodName)) (z := (⟨"java/lang/String", "charAt", "(I)C"⟩ : MethodName)) hown (mvT hZ (hw _ (List.mem_of_getElem? (i := 169) rfl))) (mvT hZ (hw _ (List.mem_of_getElem? (i := 170) rfl))) (notFace_of_selects (args := #[]) (mvT hZ (hw _ (List.mem_of_getElem? (i := 172) rfl)))) (mvT hZ (hw _ (List.mem_of_getElem? (i := 172) rfl))) (mvT hZ (hw _ (List.mem_of_getElem? (i := 171) rfl))) (by decide) (backOf (W := 0) (st_ch l Z a0 hw [] str sv ks len e4_ D4 bs vF zc h0 n0 Z0 X00 SF hF Vs g4 m4 d4.1 d4.2 SC hzc Est Gv Gc) hZ (hw _ (List.mem_of_getElem? (i := 173) rfl)) (hw _ (List.mem_of_getElem? (i := 36) rfl)) (by decide) (by decide)) q6a q6c (g := (mkF m 169 #[.val (.ref str), .val (.int off), .val (.int p1), .val (.int (5 : Int32)), .val (.int e0_), .val (.int (1 : Int32))] [(.int e4_), (.ref str)])) rfl (by rw [hml]; rfl) (Steps.refl _) (argsL := [(.int e4_)]) (rest := []) (lenOf pd_462 rfl) rfl (by show 2 * 0 + _ ≤ _; exact Nat.le_of_eq rfl) (hb hby d_method_3_code_169) (fun _ _ => ⟨rfl, e5, (by decide : 0 + 0 ≤ _), (by decide : 0 + 0 ≤ _)⟩)
  dsimp only [Pt.U, Pt.locs, Pt.cells, Pt.slots] at X6 l6 y6 z6 st6 hQ6
  subst l6 y6 z6
  obtain ⟨rfl, N6q, e6⟩ := hQ6
  have N6 := Fr.app N5 N6q
  obtain ⟨fs, hr, hrun, hended, hW, hsame⟩ := X6.leave (v := (some (.int (1 : Int32)))) (fun h => by rw [Bd.returns] at h; cases h) (hlocks := hlk)
  refine ⟨_, _, pre0 _ ?_, hrun, hended, _, _, rfl, ?_, ⟨_, rfl⟩, hW, hsame.mono (by decide) (by decide)⟩
  · show Steps p.tables e below (s₁.setTop (mkF m 0 #[.val (.ref str), .val (.int off), .val (.int p1), .unset, .unset, .unset] [])) _
    refine XS.iloadN X0.here hx rfl (hb hby d_method_3_code_0) rfl ?_
    show Steps p.tables e below (s₁.setTop (mkF m 1 #[.val (.ref str), .val (.int off), .val (.int p1), .unset, .unset, .unset] [(.int p1)])) _
    refine st1 _ ?_
    show Steps p.tables e below (T1.setTop (mkF m 4 #[.val (.ref str), .val (.int off), .val (.int p1), .unset, .unset, .unset] [(.int (own_sz p1))])) _
    rw [hsz]
    show Steps p.tables e below (T1.setTop (mkF m 4 #[.val (.ref str), .val (.int off), .val (.int p1), .unset, .unset, .unset] [(.int (5 : Int32))])) _
    refine XS.istoreN X1.here hx rfl (hb hby d_method_3_code_4) rfl (l' := #[.val (.ref str), .val (.int off), .val (.int p1), .val (.int (5 : Int32)), .unset, .unset]) rfl ?_
    show Steps p.tables e below (T1.setTop (mkF m 5 #[.val (.ref str), .val (.int off), .val (.int p1), .val (.int (5 : Int32)), .unset, .unset] [])) _
    refine XS.iloadN X1.here hx rfl (hb hby d_method_3_code_5) rfl ?_
    show Steps p.tables e below (T1.setTop (mkF m 6 #[.val (.ref str), .val (.int off), .val (.int p1), .val (.int (5 : Int32)), .unset, .unset] [(.int off)])) _
    refine XS.iloadN X1.here hx rfl (hb hby d_method_3_code_6) rfl ?_
    show Steps p.tables e below (T1.setTop (mkF m 7 #[.val (.ref str), .val (.int off), .val (.int p1), .val (.int (5 : Int32)), .unset, .unset] [(.int (5 : Int32)), (.int off)])) _
    refine XS.iadd X1.here hx rfl (hb hby d_method_3_code_7) rfl ?_
    show Steps p.tables e below (T1.setTop (mkF m 8 #[.val (.ref str), .val (.int off), .val (.int p1), .val (.int (5 : Int32)), .unset, .unset] [(.int (off + (5 : Int32)))])) _
    rw [← hee]
    show Steps p.tables e below (T1.setTop (mkF m 8 #[.val (.ref str), .val (.int off), .val (.int p1), .val (.int (5 : Int32)), .unset, .unset] [(.int ee)])) _
    refine XT.iconstV X1.here hx rfl (1 : Int32) (hb hby d_method_3_code_8) (by decide) ?_
    show Steps p.tables e below (T1.setTop (mkF m 9 #[.val (.ref str), .val (.int off), .val (.int p1), .val (.int (5 : Int32)), .unset, .unset] [(.int (1 : Int32)), (.int ee)])) _
    refine XS.isub X1.here hx rfl (hb hby d_method_3_code_9) rfl ?_
    show Steps p.tables e below (T1.setTop (mkF m 10 #[.val (.ref str), .val (.int off), .val (.int p1), .val (.int (5 : Int32)), .unset, .unset] [(.int (ee - (1 : Int32)))])) _
    rw [← he0]
    show Steps p.tables e below (T1.setTop (mkF m 10 #[.val (.ref str), .val (.int off), .val (.int p1), .val (.int (5 : Int32)), .unset, .unset] [(.int e0_)])) _
    refine XS.istore X1.here hx rfl (hb hby d_method_3_code_10) rfl (l' := #[.val (.ref str), .val (.int off), .val (.int p1), .val (.int (5 : Int32)), .val (.int e0_), .unset]) rfl ?_
    show Steps p.tables e below (T1.setTop (mkF m 12 #[.val (.ref str), .val (.int off), .val (.int p1), .val (.int (5 : Int32)), .val (.int e0_), .unset] [])) _
    refine XS.aloadN X1.here hx rfl (hb hby d_method_3_code_12) rfl rfl ?_
    show Steps p.tables e below (T1.setTop (mkF m 13 #[.val (.ref str), .val (.int off), .val (.int p1), .val (.int (5 : Int32)), .val (.int e0_), .unset] [(.ref str)])) _
    refine XS.iload X1.here hx rfl (hb hby d_method_3_code_13) rfl ?_
    show Steps p.tables e below (T1.setTop (mkF m 15 #[.val (.ref str), .val (.int off), .val (.int p1), .val (.int (5 : Int32)), .val (.int e0_), .unset] [(.int e0_), (.ref str)])) _
    refine st2.trans ?_
    show Steps p.tables e below (T2.setTop (mkF m 18 #[.val (.ref str), .val (.int off), .val (.int p1), .val (.int (5 : Int32)), .val (.int e0_), .unset] [(.int D0)])) _
    refine XT.bipushV X2.here hx rfl (48 : Int32) (hb hby d_method_3_code_18) (by decide) ?_
    show Steps p.tables e below (T2.setTop (mkF m 20 #[.val (.ref str), .val (.int off), .val (.int p1), .val (.int (5 : Int32)), .val (.int e0_), .unset] [(.int (48 : Int32)), (.int D0)])) _
    refine XS.iloadN X2.here hx rfl (hb hby d_method_3_code_20) rfl ?_
    show Steps p.tables e below (T2.setTop (mkF m 21 #[.val (.ref str), .val (.int off), .val (.int p1), .val (.int (5 : Int32)), .val (.int e0_), .unset] [(.int p1), (.int (48 : Int32)), (.int D0)])) _
    refine XT.bipushV X2.here hx rfl (10 : Int32) (hb hby d_method_3_code_21) (by decide) ?_
    show Steps p.tables e below (T2.setTop (mkF m 23 #[.val (.ref str), .val (.int off), .val (.int p1), .val (.int (5 : Int32)), .val (.int e0_), .unset] [(.int (10 : Int32)), (.int p1), (.int (48 : Int32)), (.int D0)])) _
    refine iremM X2 hx rfl (hb hby d_method_3_code_23) rfl (by decide) ?_
    show Steps p.tables e below (T2.setTop (mkF m 24 #[.val (.ref str), .val (.int off), .val (.int p1), .val (.int (5 : Int32)), .val (.int e0_), .unset] [(.int (p1 % (10 : Int32))), (.int (48 : Int32)), (.int D0)])) _
    refine XS.iadd X2.here hx rfl (hb hby d_method_3_code_24) rfl ?_
    show Steps p.tables e below (T2.setTop (mkF m 25 #[.val (.ref str), .val (.int off), .val (.int p1), .val (.int (5 : Int32)), .val (.int e0_), .unset] [(.int ((48 : Int32) + (p1 % (10 : Int32)))), (.int D0)])) _
    rw [← hD0]
    show Steps p.tables e below (T2.setTop (mkF m 25 #[.val (.ref str), .val (.int off), .val (.int p1), .val (.int (5 : Int32)), .val (.int e0_), .unset] [(.int D0), (.int D0)])) _
    refine XT.i2c X2.here hx rfl (hb hby d_method_3_code_25) rfl ?_
    show Steps p.tables e below (T2.setTop (mkF m 26 #[.val (.ref str), .val (.int off), .val (.int p1), .val (.int (5 : Int32)), .val (.int e0_), .unset] [(.int (D0).toUInt32.toUInt16.toUInt32.toInt32), (.int D0)])) _
    rw [own_i2c d0.1 d0.2]
    show Steps p.tables e below (T2.setTop (mkF m 26 #[.val (.ref str), .val (.int off), .val (.int p1), .val (.int (5 : Int32)), .val (.int e0_), .unset] [(.int D0), (.int D0)])) _
    refine XS.icmpNo X2.here hx rfl (hb hby d_method_3_code_26) rfl (teq rfl).2 ?_
    show Steps p.tables e below (T2.setTop (mkF m 29 #[.val (.ref str), .val (.int off), .val (.int p1), .val (.int (5 : Int32)), .val (.int e0_), .unset] [])) _
    refine XT.iconstV X2.here hx rfl (1 : Int32) (hb hby d_method_3_code_29) (by decide) ?_
    show Steps p.tables e below (T2.setTop (mkF m 30 #[.val (.ref str), .val (.int off), .val (.int p1), .val (.int (5 : Int32)), .val (.int e0_), .unset] [(.int (1 : Int32))])) _
    refine XS.goto X2.here hx rfl (pc0 := 30) (pc' := 34) rfl (hb hby d_method_3_code_30) (by decide) (by decide) ?_
    show Steps p.tables e below (T2.setTop (mkF m 34 #[.val (.ref str), .val (.int off), .val (.int p1), .val (.int (5 : Int32)), .val (.int e0_), .unset] [(.int (1 : Int32))])) _
    refine XS.istore X2.here hx rfl (hb hby d_method_3_code_34) rfl (l' := #[.val (.ref str), .val (.int off), .val (.int p1), .val (.int (5 : Int32)), .val (.int e0_), .val (.int (1 : Int32))]) rfl ?_
    show Steps p.tables e below (T2.setTop (mkF m 36 #[.val (.ref str), .val (.int off), .val (.int p1), .val (.int (5 : Int32)), .val (.int e0_), .val (.int (1 : Int32))] [])) _
    refine XS.iloadN X2.here hx rfl (hb hby d_method_3_code_36) rfl ?_
    show Steps p.tables e below (T2.setTop (mkF m 37 #[.val (.ref str), .val (.int off), .val (.int p1), .val (.int (5 : Int32)), .val (.int e0_), .val (.int (1 : Int32))] [(.int (5 : Int32))])) _
    refine XT.iconstV X2.here hx rfl (2 : Int32) (hb hby d_method_3_code_37) (by decide) ?_
    show Steps p.tables e below (T2.setTop (mkF m 38 #[.val (.ref str), .val (.int off), .val (.int p1), .val (.int (5 : Int32)), .val (.int e0_), .val (.int (1 : Int32))] [(.int (2 : Int32)), (.int (5 : Int32))])) _
    refine XS.icmpNo X2.here hx rfl (hb hby d_method_3_code_38) rfl (by decide) ?_
    show Steps p.tables e below (T2.setTop (mkF m 41 #[.val (.ref str), .val (.int off), .val (.int p1), .val (.int (5 : Int32)), .val (.int e0_), .val (.int (1 : Int32))] [])) _
    refine XS.iload X2.here hx rfl (hb hby d_method_3_code_41) rfl ?_
    show Steps p.tables e below (T2.setTop (mkF m 43 #[.val (.ref str), .val (.int off), .val (.int p1), .val (.int (5 : Int32)), .val (.int e0_), .val (.int (1 : Int32))] [(.int (1 : Int32))])) _
    refine XS.ifNo X2.here hx rfl (hb hby d_method_3_code_43) rfl (by decide) ?_
    show Steps p.tables e below (T2.setTop (mkF m 46 #[.val (.ref str), .val (.int off), .val (.int p1), .val (.int (5 : Int32)), .val (.int e0_), .val (.int (1 : Int32))] [])) _
    refine XS.aloadN X2.here hx rfl (hb hby d_method_3_code_46) rfl rfl ?_
    show Steps p.tables e below (T2.setTop (mkF m 47 #[.val (.ref str), .val (.int off), .val (.int p1), .val (.int (5 : Int32)), .val (.int e0_), .val (.int (1 : Int32))] [(.ref str)])) _
    refine XS.iload X2.here hx rfl (hb hby d_method_3_code_47) rfl ?_
    show Steps p.tables e below (T2.setTop (mkF m 49 #[.val (.ref str), .val (.int off), .val (.int p1), .val (.int (5 : Int32)), .val (.int e0_), .val (.int (1 : Int32))] [(.int e0_), (.ref str)])) _
    refine XT.iconstV X2.here hx rfl (1 : Int32) (hb hby d_method_3_code_49) (by decide) ?_
    show Steps p.tables e below (T2.setTop (mkF m 50 #[.val (.ref str), .val (.int off), .val (.int p1), .val (.int (5 : Int32)), .val (.int e0_), .val (.int (1 : Int32))] [(.int (1 : Int32)), (.int e0_), (.ref str)])) _
    refine XS.isub X2.here hx rfl (hb hby d_method_3_code_50) rfl ?_
    show Steps p.tables e below (T2.setTop (mkF m 51 #[.val (.ref str), .val (.int off), .val (.int p1), .val (.int (5 : Int32)), .val (.int e0_), .val (.int (1 : Int32))] [(.int (e0_ - (1 : Int32))), (.ref str)])) _
    rw [← he1]
    show Steps p.tables e below (T2.setTop (mkF m 51 #[.val (.ref str), .val (.int off), .val (.int p1), .val (.int (5 : Int32)), .val (.int e0_), .val (.int (1 : Int32))] [(.int e1_), (.ref str)])) _
    refine st3.trans ?_
    show Steps p.tables e below (T3.setTop (mkF m 54 #[.val (.ref str), .val (.int off), .val (.int p1), .val (.int (5 : Int32)), .val (.int e0_), .val (.int (1 : Int32))] [(.int D1)])) _
    refine XT.bipushV X3.here hx rfl (48 : Int32) (hb hby d_method_3_code_54) (by decide) ?_
    show Steps p.tables e below (T3.setTop (mkF m 56 #[.val (.ref str), .val (.int off), .val (.int p1), .val (.int (5 : Int32)), .val (.int e0_), .val (.int (1 : Int32))] [(.int (48 : Int32)), (.int D1)])) _
    refine XS.iloadN X3.here hx rfl (hb hby d_method_3_code_56) rfl ?_
    show Steps p.tables e below (T3.setTop (mkF m 57 #[.val (.ref str), .val (.int off), .val (.int p1), .val (.int (5 : Int32)), .val (.int e0_), .val (.int (1 : Int32))] [(.int p1), (.int (48 : Int32)), (.int D1)])) _
    refine XT.bipushV X3.here hx rfl (10 : Int32) (hb hby d_method_3_code_57) (by decide) ?_
    show Steps p.tables e below (T3.setTop (mkF m 59 #[.val (.ref str), .val (.int off), .val (.int p1), .val (.int (5 : Int32)), .val (.int e0_), .val (.int (1 : Int32))] [(.int (10 : Int32)), (.int p1), (.int (48 : Int32)), (.int D1)])) _
    refine XS.idiv X3.here hx rfl (hb hby d_method_3_code_59) rfl (by decide) ?_
    show Steps p.tables e below (T3.setTop (mkF m 60 #[.val (.ref str), .val (.int off), .val (.int p1), .val (.int (5 : Int32)), .val (.int e0_), .val (.int (1 : Int32))] [(.int (p1 / (10 : Int32))), (.int (48 : Int32)), (.int D1)])) _
    refine XT.bipushV X3.here hx rfl (10 : Int32) (hb hby d_method_3_code_60) (by decide) ?_
    show Steps p.tables e below (T3.setTop (mkF m 62 #[.val (.ref str), .val (.int off), .val (.int p1), .val (.int (5 : Int32)), .val (.int e0_), .val (.int (1 : Int32))] [(.int (10 : Int32)), (.int (p1 / (10 : Int32))), (.int (48 : Int32)), (.int D1)])) _
    refine iremM X3 hx rfl (hb hby d_method_3_code_62) rfl (by decide) ?_
    show Steps p.tables e below (T3.setTop (mkF m 63 #[.val (.ref str), .val (.int off), .val (.int p1), .val (.int (5 : Int32)), .val (.int e0_), .val (.int (1 : Int32))] [(.int ((p1 / (10 : Int32)) % (10 : Int32))), (.int (48 : Int32)), (.int D1)])) _
    refine XS.iadd X3.here hx rfl (hb hby d_method_3_code_63) rfl ?_
    show Steps p.tables e below (T3.setTop (mkF m 64 #[.val (.ref str), .val (.int off), .val (.int p1), .val (.int (5 : Int32)), .val (.int e0_), .val (.int (1 : Int32))] [(.int ((48 : Int32) + ((p1 / (10 : Int32)) % (10 : Int32)))), (.int D1)])) _
    rw [← hD1]
    show Steps p.tables e below (T3.setTop (mkF m 64 #[.val (.ref str), .val (.int off), .val (.int p1), .val (.int (5 : Int32)), .val (.int e0_), .val (.int (1 : Int32))] [(.int D1), (.int D1)])) _
    refine XT.i2c X3.here hx rfl (hb hby d_method_3_code_64) rfl ?_
    show Steps p.tables e below (T3.setTop (mkF m 65 #[.val (.ref str), .val (.int off), .val (.int p1), .val (.int (5 : Int32)), .val (.int e0_), .val (.int (1 : Int32))] [(.int (D1).toUInt32.toUInt16.toUInt32.toInt32), (.int D1)])) _
    rw [own_i2c d1.1 d1.2]
    show Steps p.tables e below (T3.setTop (mkF m 65 #[.val (.ref str), .val (.int off), .val (.int p1), .val (.int (5 : Int32)), .val (.int e0_), .val (.int (1 : Int32))] [(.int D1), (.int D1)])) _
    refine XS.icmpNo X3.here hx rfl (hb hby d_method_3_code_65) rfl (teq rfl).2 ?_
    show Steps p.tables e below (T3.setTop (mkF m 68 #[.val (.ref str), .val (.int off), .val (.int p1), .val (.int (5 : Int32)), .val (.int e0_), .val (.int (1 : Int32))] [])) _
    refine XT.iconstV X3.here hx rfl (1 : Int32) (hb hby d_method_3_code_68) (by decide) ?_
    show Steps p.tables e below (T3.setTop (mkF m 69 #[.val (.ref str), .val (.int off), .val (.int p1), .val (.int (5 : Int32)), .val (.int e0_), .val (.int (1 : Int32))] [(.int (1 : Int32))])) _
    refine XS.goto X3.here hx rfl (pc0 := 69) (pc' := 73) rfl (hb hby d_method_3_code_69) (by decide) (by decide) ?_
    show Steps p.tables e below (T3.setTop (mkF m 73 #[.val (.ref str), .val (.int off), .val (.int p1), .val (.int (5 : Int32)), .val (.int e0_), .val (.int (1 : Int32))] [(.int (1 : Int32))])) _
    refine XS.istore X3.here hx rfl (hb hby d_method_3_code_73) rfl (l' := #[.val (.ref str), .val (.int off), .val (.int p1), .val (.int (5 : Int32)), .val (.int e0_), .val (.int (1 : Int32))]) rfl ?_
    show Steps p.tables e below (T3.setTop (mkF m 75 #[.val (.ref str), .val (.int off), .val (.int p1), .val (.int (5 : Int32)), .val (.int e0_), .val (.int (1 : Int32))] [])) _
    refine XS.iloadN X3.here hx rfl (hb hby d_method_3_code_75) rfl ?_
    show Steps p.tables e below (T3.setTop (mkF m 76 #[.val (.ref str), .val (.int off), .val (.int p1), .val (.int (5 : Int32)), .val (.int e0_), .val (.int (1 : Int32))] [(.int (5 : Int32))])) _
    refine XT.iconstV X3.here hx rfl (3 : Int32) (hb hby d_method_3_code_76) (by decide) ?_
    show Steps p.tables e below (T3.setTop (mkF m 77 #[.val (.ref str), .val (.int off), .val (.int p1), .val (.int (5 : Int32)), .val (.int e0_), .val (.int (1 : Int32))] [(.int (3 : Int32)), (.int (5 : Int32))])) _
    refine XS.icmpNo X3.here hx rfl (hb hby d_method_3_code_77) rfl (by decide) ?_
    show Steps p.tables e below (T3.setTop (mkF m 80 #[.val (.ref str), .val (.int off), .val (.int p1), .val (.int (5 : Int32)), .val (.int e0_), .val (.int (1 : Int32))] [])) _
    refine XS.iload X3.here hx rfl (hb hby d_method_3_code_80) rfl ?_
    show Steps p.tables e below (T3.setTop (mkF m 82 #[.val (.ref str), .val (.int off), .val (.int p1), .val (.int (5 : Int32)), .val (.int e0_), .val (.int (1 : Int32))] [(.int (1 : Int32))])) _
    refine XS.ifNo X3.here hx rfl (hb hby d_method_3_code_82) rfl (by decide) ?_
    show Steps p.tables e below (T3.setTop (mkF m 85 #[.val (.ref str), .val (.int off), .val (.int p1), .val (.int (5 : Int32)), .val (.int e0_), .val (.int (1 : Int32))] [])) _
    refine XS.aloadN X3.here hx rfl (hb hby d_method_3_code_85) rfl rfl ?_
    show Steps p.tables e below (T3.setTop (mkF m 86 #[.val (.ref str), .val (.int off), .val (.int p1), .val (.int (5 : Int32)), .val (.int e0_), .val (.int (1 : Int32))] [(.ref str)])) _
    refine XS.iload X3.here hx rfl (hb hby d_method_3_code_86) rfl ?_
    show Steps p.tables e below (T3.setTop (mkF m 88 #[.val (.ref str), .val (.int off), .val (.int p1), .val (.int (5 : Int32)), .val (.int e0_), .val (.int (1 : Int32))] [(.int e0_), (.ref str)])) _
    refine XT.iconstV X3.here hx rfl (2 : Int32) (hb hby d_method_3_code_88) (by decide) ?_
    show Steps p.tables e below (T3.setTop (mkF m 89 #[.val (.ref str), .val (.int off), .val (.int p1), .val (.int (5 : Int32)), .val (.int e0_), .val (.int (1 : Int32))] [(.int (2 : Int32)), (.int e0_), (.ref str)])) _
    refine XS.isub X3.here hx rfl (hb hby d_method_3_code_89) rfl ?_
    show Steps p.tables e below (T3.setTop (mkF m 90 #[.val (.ref str), .val (.int off), .val (.int p1), .val (.int (5 : Int32)), .val (.int e0_), .val (.int (1 : Int32))] [(.int (e0_ - (2 : Int32))), (.ref str)])) _
    rw [← he2]
    show Steps p.tables e below (T3.setTop (mkF m 90 #[.val (.ref str), .val (.int off), .val (.int p1), .val (.int (5 : Int32)), .val (.int e0_), .val (.int (1 : Int32))] [(.int e2_), (.ref str)])) _
    refine st4.trans ?_
    show Steps p.tables e below (T4.setTop (mkF m 93 #[.val (.ref str), .val (.int off), .val (.int p1), .val (.int (5 : Int32)), .val (.int e0_), .val (.int (1 : Int32))] [(.int D2)])) _
    refine XT.bipushV X4.here hx rfl (48 : Int32) (hb hby d_method_3_code_93) (by decide) ?_
    show Steps p.tables e below (T4.setTop (mkF m 95 #[.val (.ref str), .val (.int off), .val (.int p1), .val (.int (5 : Int32)), .val (.int e0_), .val (.int (1 : Int32))] [(.int (48 : Int32)), (.int D2)])) _
    refine XS.iloadN X4.here hx rfl (hb hby d_method_3_code_95) rfl ?_
    show Steps p.tables e below (T4.setTop (mkF m 96 #[.val (.ref str), .val (.int off), .val (.int p1), .val (.int (5 : Int32)), .val (.int e0_), .val (.int (1 : Int32))] [(.int p1), (.int (48 : Int32)), (.int D2)])) _
    refine XT.bipushV X4.here hx rfl (100 : Int32) (hb hby d_method_3_code_96) (by decide) ?_
    show Steps p.tables e below (T4.setTop (mkF m 98 #[.val (.ref str), .val (.int off), .val (.int p1), .val (.int (5 : Int32)), .val (.int e0_), .val (.int (1 : Int32))] [(.int (100 : Int32)), (.int p1), (.int (48 : Int32)), (.int D2)])) _
    refine XS.idiv X4.here hx rfl (hb hby d_method_3_code_98) rfl (by decide) ?_
    show Steps p.tables e below (T4.setTop (mkF m 99 #[.val (.ref str), .val (.int off), .val (.int p1), .val (.int (5 : Int32)), .val (.int e0_), .val (.int (1 : Int32))] [(.int (p1 / (100 : Int32))), (.int (48 : Int32)), (.int D2)])) _
    refine XT.bipushV X4.here hx rfl (10 : Int32) (hb hby d_method_3_code_99) (by decide) ?_
    show Steps p.tables e below (T4.setTop (mkF m 101 #[.val (.ref str), .val (.int off), .val (.int p1), .val (.int (5 : Int32)), .val (.int e0_), .val (.int (1 : Int32))] [(.int (10 : Int32)), (.int (p1 / (100 : Int32))), (.int (48 : Int32)), (.int D2)])) _
    refine iremM X4 hx rfl (hb hby d_method_3_code_101) rfl (by decide) ?_
    show Steps p.tables e below (T4.setTop (mkF m 102 #[.val (.ref str), .val (.int off), .val (.int p1), .val (.int (5 : Int32)), .val (.int e0_), .val (.int (1 : Int32))] [(.int ((p1 / (100 : Int32)) % (10 : Int32))), (.int (48 : Int32)), (.int D2)])) _
    refine XS.iadd X4.here hx rfl (hb hby d_method_3_code_102) rfl ?_
    show Steps p.tables e below (T4.setTop (mkF m 103 #[.val (.ref str), .val (.int off), .val (.int p1), .val (.int (5 : Int32)), .val (.int e0_), .val (.int (1 : Int32))] [(.int ((48 : Int32) + ((p1 / (100 : Int32)) % (10 : Int32)))), (.int D2)])) _
    rw [← hD2]
    show Steps p.tables e below (T4.setTop (mkF m 103 #[.val (.ref str), .val (.int off), .val (.int p1), .val (.int (5 : Int32)), .val (.int e0_), .val (.int (1 : Int32))] [(.int D2), (.int D2)])) _
    refine XT.i2c X4.here hx rfl (hb hby d_method_3_code_103) rfl ?_
    show Steps p.tables e below (T4.setTop (mkF m 104 #[.val (.ref str), .val (.int off), .val (.int p1), .val (.int (5 : Int32)), .val (.int e0_), .val (.int (1 : Int32))] [(.int (D2).toUInt32.toUInt16.toUInt32.toInt32), (.int D2)])) _
    rw [own_i2c d2.1 d2.2]
    show Steps p.tables e below (T4.setTop (mkF m 104 #[.val (.ref str), .val (.int off), .val (.int p1), .val (.int (5 : Int32)), .val (.int e0_), .val (.int (1 : Int32))] [(.int D2), (.int D2)])) _
    refine XS.icmpNo X4.here hx rfl (hb hby d_method_3_code_104) rfl (teq rfl).2 ?_
    show Steps p.tables e below (T4.setTop (mkF m 107 #[.val (.ref str), .val (.int off), .val (.int p1), .val (.int (5 : Int32)), .val (.int e0_), .val (.int (1 : Int32))] [])) _
    refine XT.iconstV X4.here hx rfl (1 : Int32) (hb hby d_method_3_code_107) (by decide) ?_
    show Steps p.tables e below (T4.setTop (mkF m 108 #[.val (.ref str), .val (.int off), .val (.int p1), .val (.int (5 : Int32)), .val (.int e0_), .val (.int (1 : Int32))] [(.int (1 : Int32))])) _
    refine XS.goto X4.here hx rfl (pc0 := 108) (pc' := 112) rfl (hb hby d_method_3_code_108) (by decide) (by decide) ?_
    show Steps p.tables e below (T4.setTop (mkF m 112 #[.val (.ref str), .val (.int off), .val (.int p1), .val (.int (5 : Int32)), .val (.int e0_), .val (.int (1 : Int32))] [(.int (1 : Int32))])) _
    refine XS.istore X4.here hx rfl (hb hby d_method_3_code_112) rfl (l' := #[.val (.ref str), .val (.int off), .val (.int p1), .val (.int (5 : Int32)), .val (.int e0_), .val (.int (1 : Int32))]) rfl ?_
    show Steps p.tables e below (T4.setTop (mkF m 114 #[.val (.ref str), .val (.int off), .val (.int p1), .val (.int (5 : Int32)), .val (.int e0_), .val (.int (1 : Int32))] [])) _
    refine XS.iloadN X4.here hx rfl (hb hby d_method_3_code_114) rfl ?_
    show Steps p.tables e below (T4.setTop (mkF m 115 #[.val (.ref str), .val (.int off), .val (.int p1), .val (.int (5 : Int32)), .val (.int e0_), .val (.int (1 : Int32))] [(.int (5 : Int32))])) _
    refine XT.iconstV X4.here hx rfl (4 : Int32) (hb hby d_method_3_code_115) (by decide) ?_
    show Steps p.tables e below (T4.setTop (mkF m 116 #[.val (.ref str), .val (.int off), .val (.int p1), .val (.int (5 : Int32)), .val (.int e0_), .val (.int (1 : Int32))] [(.int (4 : Int32)), (.int (5 : Int32))])) _
    refine XS.icmpNo X4.here hx rfl (hb hby d_method_3_code_116) rfl (by decide) ?_
    show Steps p.tables e below (T4.setTop (mkF m 119 #[.val (.ref str), .val (.int off), .val (.int p1), .val (.int (5 : Int32)), .val (.int e0_), .val (.int (1 : Int32))] [])) _
    refine XS.iload X4.here hx rfl (hb hby d_method_3_code_119) rfl ?_
    show Steps p.tables e below (T4.setTop (mkF m 121 #[.val (.ref str), .val (.int off), .val (.int p1), .val (.int (5 : Int32)), .val (.int e0_), .val (.int (1 : Int32))] [(.int (1 : Int32))])) _
    refine XS.ifNo X4.here hx rfl (hb hby d_method_3_code_121) rfl (by decide) ?_
    show Steps p.tables e below (T4.setTop (mkF m 124 #[.val (.ref str), .val (.int off), .val (.int p1), .val (.int (5 : Int32)), .val (.int e0_), .val (.int (1 : Int32))] [])) _
    refine XS.aloadN X4.here hx rfl (hb hby d_method_3_code_124) rfl rfl ?_
    show Steps p.tables e below (T4.setTop (mkF m 125 #[.val (.ref str), .val (.int off), .val (.int p1), .val (.int (5 : Int32)), .val (.int e0_), .val (.int (1 : Int32))] [(.ref str)])) _
    refine XS.iload X4.here hx rfl (hb hby d_method_3_code_125) rfl ?_
    show Steps p.tables e below (T4.setTop (mkF m 127 #[.val (.ref str), .val (.int off), .val (.int p1), .val (.int (5 : Int32)), .val (.int e0_), .val (.int (1 : Int32))] [(.int e0_), (.ref str)])) _
    refine XT.iconstV X4.here hx rfl (3 : Int32) (hb hby d_method_3_code_127) (by decide) ?_
    show Steps p.tables e below (T4.setTop (mkF m 128 #[.val (.ref str), .val (.int off), .val (.int p1), .val (.int (5 : Int32)), .val (.int e0_), .val (.int (1 : Int32))] [(.int (3 : Int32)), (.int e0_), (.ref str)])) _
    refine XS.isub X4.here hx rfl (hb hby d_method_3_code_128) rfl ?_
    show Steps p.tables e below (T4.setTop (mkF m 129 #[.val (.ref str), .val (.int off), .val (.int p1), .val (.int (5 : Int32)), .val (.int e0_), .val (.int (1 : Int32))] [(.int (e0_ - (3 : Int32))), (.ref str)])) _
    rw [← he3]
    show Steps p.tables e below (T4.setTop (mkF m 129 #[.val (.ref str), .val (.int off), .val (.int p1), .val (.int (5 : Int32)), .val (.int e0_), .val (.int (1 : Int32))] [(.int e3_), (.ref str)])) _
    refine st5.trans ?_
    show Steps p.tables e below (T5.setTop (mkF m 132 #[.val (.ref str), .val (.int off), .val (.int p1), .val (.int (5 : Int32)), .val (.int e0_), .val (.int (1 : Int32))] [(.int D3)])) _
    refine XT.bipushV X5.here hx rfl (48 : Int32) (hb hby d_method_3_code_132) (by decide) ?_
    show Steps p.tables e below (T5.setTop (mkF m 134 #[.val (.ref str), .val (.int off), .val (.int p1), .val (.int (5 : Int32)), .val (.int e0_), .val (.int (1 : Int32))] [(.int (48 : Int32)), (.int D3)])) _
    refine XS.iloadN X5.here hx rfl (hb hby d_method_3_code_134) rfl ?_
    show Steps p.tables e below (T5.setTop (mkF m 135 #[.val (.ref str), .val (.int off), .val (.int p1), .val (.int (5 : Int32)), .val (.int e0_), .val (.int (1 : Int32))] [(.int p1), (.int (48 : Int32)), (.int D3)])) _
    refine XT.sipushV X5.here hx rfl (1000 : Int32) (hb hby d_method_3_code_135) (by decide) ?_
    show Steps p.tables e below (T5.setTop (mkF m 138 #[.val (.ref str), .val (.int off), .val (.int p1), .val (.int (5 : Int32)), .val (.int e0_), .val (.int (1 : Int32))] [(.int (1000 : Int32)), (.int p1), (.int (48 : Int32)), (.int D3)])) _
    refine XS.idiv X5.here hx rfl (hb hby d_method_3_code_138) rfl (by decide) ?_
    show Steps p.tables e below (T5.setTop (mkF m 139 #[.val (.ref str), .val (.int off), .val (.int p1), .val (.int (5 : Int32)), .val (.int e0_), .val (.int (1 : Int32))] [(.int (p1 / (1000 : Int32))), (.int (48 : Int32)), (.int D3)])) _
    refine XT.bipushV X5.here hx rfl (10 : Int32) (hb hby d_method_3_code_139) (by decide) ?_
    show Steps p.tables e below (T5.setTop (mkF m 141 #[.val (.ref str), .val (.int off), .val (.int p1), .val (.int (5 : Int32)), .val (.int e0_), .val (.int (1 : Int32))] [(.int (10 : Int32)), (.int (p1 / (1000 : Int32))), (.int (48 : Int32)), (.int D3)])) _
    refine iremM X5 hx rfl (hb hby d_method_3_code_141) rfl (by decide) ?_
    show Steps p.tables e below (T5.setTop (mkF m 142 #[.val (.ref str), .val (.int off), .val (.int p1), .val (.int (5 : Int32)), .val (.int e0_), .val (.int (1 : Int32))] [(.int ((p1 / (1000 : Int32)) % (10 : Int32))), (.int (48 : Int32)), (.int D3)])) _
    refine XS.iadd X5.here hx rfl (hb hby d_method_3_code_142) rfl ?_
    show Steps p.tables e below (T5.setTop (mkF m 143 #[.val (.ref str), .val (.int off), .val (.int p1), .val (.int (5 : Int32)), .val (.int e0_), .val (.int (1 : Int32))] [(.int ((48 : Int32) + ((p1 / (1000 : Int32)) % (10 : Int32)))), (.int D3)])) _
    rw [← hD3]
    show Steps p.tables e below (T5.setTop (mkF m 143 #[.val (.ref str), .val (.int off), .val (.int p1), .val (.int (5 : Int32)), .val (.int e0_), .val (.int (1 : Int32))] [(.int D3), (.int D3)])) _
    refine XT.i2c X5.here hx rfl (hb hby d_method_3_code_143) rfl ?_
    show Steps p.tables e below (T5.setTop (mkF m 144 #[.val (.ref str), .val (.int off), .val (.int p1), .val (.int (5 : Int32)), .val (.int e0_), .val (.int (1 : Int32))] [(.int (D3).toUInt32.toUInt16.toUInt32.toInt32), (.int D3)])) _
    rw [own_i2c d3.1 d3.2]
    show Steps p.tables e below (T5.setTop (mkF m 144 #[.val (.ref str), .val (.int off), .val (.int p1), .val (.int (5 : Int32)), .val (.int e0_), .val (.int (1 : Int32))] [(.int D3), (.int D3)])) _
    refine XS.icmpNo X5.here hx rfl (hb hby d_method_3_code_144) rfl (teq rfl).2 ?_
    show Steps p.tables e below (T5.setTop (mkF m 147 #[.val (.ref str), .val (.int off), .val (.int p1), .val (.int (5 : Int32)), .val (.int e0_), .val (.int (1 : Int32))] [])) _
    refine XT.iconstV X5.here hx rfl (1 : Int32) (hb hby d_method_3_code_147) (by decide) ?_
    show Steps p.tables e below (T5.setTop (mkF m 148 #[.val (.ref str), .val (.int off), .val (.int p1), .val (.int (5 : Int32)), .val (.int e0_), .val (.int (1 : Int32))] [(.int (1 : Int32))])) _
    refine XS.goto X5.here hx rfl (pc0 := 148) (pc' := 152) rfl (hb hby d_method_3_code_148) (by decide) (by decide) ?_
    show Steps p.tables e below (T5.setTop (mkF m 152 #[.val (.ref str), .val (.int off), .val (.int p1), .val (.int (5 : Int32)), .val (.int e0_), .val (.int (1 : Int32))] [(.int (1 : Int32))])) _
    refine XS.istore X5.here hx rfl (hb hby d_method_3_code_152) rfl (l' := #[.val (.ref str), .val (.int off), .val (.int p1), .val (.int (5 : Int32)), .val (.int e0_), .val (.int (1 : Int32))]) rfl ?_
    show Steps p.tables e below (T5.setTop (mkF m 154 #[.val (.ref str), .val (.int off), .val (.int p1), .val (.int (5 : Int32)), .val (.int e0_), .val (.int (1 : Int32))] [])) _
    refine XS.iloadN X5.here hx rfl (hb hby d_method_3_code_154) rfl ?_
    show Steps p.tables e below (T5.setTop (mkF m 155 #[.val (.ref str), .val (.int off), .val (.int p1), .val (.int (5 : Int32)), .val (.int e0_), .val (.int (1 : Int32))] [(.int (5 : Int32))])) _
    refine XT.iconstV X5.here hx rfl (5 : Int32) (hb hby d_method_3_code_155) (by decide) ?_
    show Steps p.tables e below (T5.setTop (mkF m 156 #[.val (.ref str), .val (.int off), .val (.int p1), .val (.int (5 : Int32)), .val (.int e0_), .val (.int (1 : Int32))] [(.int (5 : Int32)), (.int (5 : Int32))])) _
    refine XS.icmpNo X5.here hx rfl (hb hby d_method_3_code_156) rfl (by decide) ?_
    show Steps p.tables e below (T5.setTop (mkF m 159 #[.val (.ref str), .val (.int off), .val (.int p1), .val (.int (5 : Int32)), .val (.int e0_), .val (.int (1 : Int32))] [])) _
    refine XS.iload X5.here hx rfl (hb hby d_method_3_code_159) rfl ?_
    show Steps p.tables e below (T5.setTop (mkF m 161 #[.val (.ref str), .val (.int off), .val (.int p1), .val (.int (5 : Int32)), .val (.int e0_), .val (.int (1 : Int32))] [(.int (1 : Int32))])) _
    refine XS.ifNo X5.here hx rfl (hb hby d_method_3_code_161) rfl (by decide) ?_
    show Steps p.tables e below (T5.setTop (mkF m 164 #[.val (.ref str), .val (.int off), .val (.int p1), .val (.int (5 : Int32)), .val (.int e0_), .val (.int (1 : Int32))] [])) _
    refine XS.aloadN X5.here hx rfl (hb hby d_method_3_code_164) rfl rfl ?_
    show Steps p.tables e below (T5.setTop (mkF m 165 #[.val (.ref str), .val (.int off), .val (.int p1), .val (.int (5 : Int32)), .val (.int e0_), .val (.int (1 : Int32))] [(.ref str)])) _
    refine XS.iload X5.here hx rfl (hb hby d_method_3_code_165) rfl ?_
    show Steps p.tables e below (T5.setTop (mkF m 167 #[.val (.ref str), .val (.int off), .val (.int p1), .val (.int (5 : Int32)), .val (.int e0_), .val (.int (1 : Int32))] [(.int e0_), (.ref str)])) _
    refine XT.iconstV X5.here hx rfl (4 : Int32) (hb hby d_method_3_code_167) (by decide) ?_
    show Steps p.tables e below (T5.setTop (mkF m 168 #[.val (.ref str), .val (.int off), .val (.int p1), .val (.int (5 : Int32)), .val (.int e0_), .val (.int (1 : Int32))] [(.int (4 : Int32)), (.int e0_), (.ref str)])) _
    refine XS.isub X5.here hx rfl (hb hby d_method_3_code_168) rfl ?_
    show Steps p.tables e below (T5.setTop (mkF m 169 #[.val (.ref str), .val (.int off), .val (.int p1), .val (.int (5 : Int32)), .val (.int e0_), .val (.int (1 : Int32))] [(.int (e0_ - (4 : Int32))), (.ref str)])) _
    rw [← he4]
    show Steps p.tables e below (T5.setTop (mkF m 169 #[.val (.ref str), .val (.int off), .val (.int p1), .val (.int (5 : Int32)), .val (.int e0_), .val (.int (1 : Int32))] [(.int e4_), (.ref str)])) _
    refine st6.trans ?_
    show Steps p.tables e below (T6.setTop (mkF m 172 #[.val (.ref str), .val (.int off), .val (.int p1), .val (.int (5 : Int32)), .val (.int e0_), .val (.int (1 : Int32))] [(.int D4)])) _
    refine XT.bipushV X6.here hx rfl (48 : Int32) (hb hby d_method_3_code_172) (by decide) ?_
    show Steps p.tables e below (T6.setTop (mkF m 174 #[.val (.ref str), .val (.int off), .val (.int p1), .val (.int (5 : Int32)), .val (.int e0_), .val (.int (1 : Int32))] [(.int (48 : Int32)), (.int D4)])) _
    refine XS.iloadN X6.here hx rfl (hb hby d_method_3_code_174) rfl ?_
    show Steps p.tables e below (T6.setTop (mkF m 175 #[.val (.ref str), .val (.int off), .val (.int p1), .val (.int (5 : Int32)), .val (.int e0_), .val (.int (1 : Int32))] [(.int p1), (.int (48 : Int32)), (.int D4)])) _
    refine XT.sipushV X6.here hx rfl (10000 : Int32) (hb hby d_method_3_code_175) (by decide) ?_
    show Steps p.tables e below (T6.setTop (mkF m 178 #[.val (.ref str), .val (.int off), .val (.int p1), .val (.int (5 : Int32)), .val (.int e0_), .val (.int (1 : Int32))] [(.int (10000 : Int32)), (.int p1), (.int (48 : Int32)), (.int D4)])) _
    refine XS.idiv X6.here hx rfl (hb hby d_method_3_code_178) rfl (by decide) ?_
    show Steps p.tables e below (T6.setTop (mkF m 179 #[.val (.ref str), .val (.int off), .val (.int p1), .val (.int (5 : Int32)), .val (.int e0_), .val (.int (1 : Int32))] [(.int (p1 / (10000 : Int32))), (.int (48 : Int32)), (.int D4)])) _
    refine XT.bipushV X6.here hx rfl (10 : Int32) (hb hby d_method_3_code_179) (by decide) ?_
    show Steps p.tables e below (T6.setTop (mkF m 181 #[.val (.ref str), .val (.int off), .val (.int p1), .val (.int (5 : Int32)), .val (.int e0_), .val (.int (1 : Int32))] [(.int (10 : Int32)), (.int (p1 / (10000 : Int32))), (.int (48 : Int32)), (.int D4)])) _
    refine iremM X6 hx rfl (hb hby d_method_3_code_181) rfl (by decide) ?_
    show Steps p.tables e below (T6.setTop (mkF m 182 #[.val (.ref str), .val (.int off), .val (.int p1), .val (.int (5 : Int32)), .val (.int e0_), .val (.int (1 : Int32))] [(.int ((p1 / (10000 : Int32)) % (10 : Int32))), (.int (48 : Int32)), (.int D4)])) _
    refine XS.iadd X6.here hx rfl (hb hby d_method_3_code_182) rfl ?_
    show Steps p.tables e below (T6.setTop (mkF m 183 #[.val (.ref str), .val (.int off), .val (.int p1), .val (.int (5 : Int32)), .val (.int e0_), .val (.int (1 : Int32))] [(.int ((48 : Int32) + ((p1 / (10000 : Int32)) % (10 : Int32)))), (.int D4)])) _
    rw [← hD4]
    show Steps p.tables e below (T6.setTop (mkF m 183 #[.val (.ref str), .val (.int off), .val (.int p1), .val (.int (5 : Int32)), .val (.int e0_), .val (.int (1 : Int32))] [(.int D4), (.int D4)])) _
    refine XT.i2c X6.here hx rfl (hb hby d_method_3_code_183) rfl ?_
    show Steps p.tables e below (T6.setTop (mkF m 184 #[.val (.ref str), .val (.int off), .val (.int p1), .val (.int (5 : Int32)), .val (.int e0_), .val (.int (1 : Int32))] [(.int (D4).toUInt32.toUInt16.toUInt32.toInt32), (.int D4)])) _
    rw [own_i2c d4.1 d4.2]
    show Steps p.tables e below (T6.setTop (mkF m 184 #[.val (.ref str), .val (.int off), .val (.int p1), .val (.int (5 : Int32)), .val (.int e0_), .val (.int (1 : Int32))] [(.int D4), (.int D4)])) _
    refine XS.icmpNo X6.here hx rfl (hb hby d_method_3_code_184) rfl (teq rfl).2 ?_
    show Steps p.tables e below (T6.setTop (mkF m 187 #[.val (.ref str), .val (.int off), .val (.int p1), .val (.int (5 : Int32)), .val (.int e0_), .val (.int (1 : Int32))] [])) _
    refine XT.iconstV X6.here hx rfl (1 : Int32) (hb hby d_method_3_code_187) (by decide) ?_
    show Steps p.tables e below (T6.setTop (mkF m 188 #[.val (.ref str), .val (.int off), .val (.int p1), .val (.int (5 : Int32)), .val (.int e0_), .val (.int (1 : Int32))] [(.int (1 : Int32))])) _
    refine XS.goto X6.here hx rfl (pc0 := 188) (pc' := 192) rfl (hb hby d_method_3_code_188) (by decide) (by decide) ?_
    show Steps p.tables e below (T6.setTop (mkF m 192 #[.val (.ref str), .val (.int off), .val (.int p1), .val (.int (5 : Int32)), .val (.int e0_), .val (.int (1 : Int32))] [(.int (1 : Int32))])) _
    refine XS.istore X6.here hx rfl (hb hby d_method_3_code_192) rfl (l' := #[.val (.ref str), .val (.int off), .val (.int p1), .val (.int (5 : Int32)), .val (.int e0_), .val (.int (1 : Int32))]) rfl ?_
    show Steps p.tables e below (T6.setTop (mkF m 194 #[.val (.ref str), .val (.int off), .val (.int p1), .val (.int (5 : Int32)), .val (.int e0_), .val (.int (1 : Int32))] [])) _
    refine XS.iload X6.here hx rfl (hb hby d_method_3_code_194) rfl ?_
    show Steps p.tables e below (T6.setTop (mkF m 196 #[.val (.ref str), .val (.int off), .val (.int p1), .val (.int (5 : Int32)), .val (.int e0_), .val (.int (1 : Int32))] [(.int (1 : Int32))])) _
    exact retN X6 hx (t := .boolean) Bd.returns (by simp) (hb hby d_method_3_code_196) hr
  · exact ⟨rfl, N6, e6⟩
def Q_na (Z : State) (str sv : Addr) (ks : ClassId) (len off p1 : Int32) (bs : List Value) (vF : Value) (zc : Int32) (h0 : Heap) (n0 : Nat) (v : Option Value) (h : Heap) (L : List Loc) : Prop := v = some (.int (1 : Int32)) ∧ Fr n0 L ∧ h = h0
theorem na (l : Launch) (Z : State) (a0 : Array Value) (hw : ∀ d ∈ tables_1, d.before a0 Z = true) (ws : List Jvm.Cond) (str sv : Addr) (ks : ClassId) (len off p1 : Int32) (bs : List Value) (vF : Value) (zc : Int32) (h0 : Heap) (n0 : Nat) (Z0 : n0 ≤ h0.size) (X00 : Old Z n0 h0)(SF : Sta Z Z.heap "jdk/internal/util/Preconditions" "SIOOBE_FORMATTER" "Ljava/util/function/BiFunction;" vF) (hF : vF.isRef = true)(SC : Sta Z Z.heap "java/lang/String" "COMPACT_STRINGS" "Z" (.int zc)) (hzc : ¬ zc = 0)(Est : Exa Z h0 str "java/lang/String") (Gv : Fld Z h0 str "java/lang/String" "value" "[B" (.ref sv)) (Gc : Fld Z h0 str "java/lang/String" "coder" "B" (.int (0 : Int32)))(Vs : Arv Z h0 sv ks .byte len bs (.int 0)) (hlen : len.toInt < 100) (ho0 : 0 ≤ off.toInt) (ho1 : off.toInt + (own_sz p1).toInt ≤ len.toInt) (hbs : own_has bs (off + own_sz p1).toNatClampNeg p1)(hlo : 0 ≤ p1.toInt) (hhi : p1.toInt < 65536) :
    MetFree l (⟨"com/example/head_count/headcount/NodeIdRangeToStringPinLaw", "numAt", "(Ljava/lang/String;II)Z"⟩ : MethodName) (head1 (Jvm.Cond.code (⟨"com/example/head_count/headcount/NodeIdRangeToStringPinLaw", "numAt", "(Ljava/lang/String;II)Z"⟩ : MethodName) method_3_code 6 (Option.some Jvm.ClassFile.FieldType.boolean) :: ws) ({ frames := 4, cells := 0, slots := 0, locals := 53 } : Room)) (fun a U => a = #[(.ref str), (.int off), (.int p1)] ∧ Z.Warmed39 U.vm ∧ U.heap = h0) (fun _ _ _ _ _ => True) (fun _ U o U' => ∃ v L, o = .returned v ∧ Q_na Z str sv ks len off p1 bs vF zc h0 n0 v U'.heap L ∧ FrameEnd U o U' L ({ frames := 4, cells := 0, slots := 0, locals := 53 } : Room).cells ({ frames := 4, cells := 0, slots := 0, locals := 53 } : Room).slots) := by
  rcases own_rng p1 hlo hhi with q | q | q | q | q
  · exact na_1 l Z a0 hw ws str sv ks len off p1 bs vF zc h0 n0 Z0 X00 SF hF SC hzc Est Gv Gc Vs hlen ho0 ho1 hbs q.1 q.2
  · exact na_2 l Z a0 hw ws str sv ks len off p1 bs vF zc h0 n0 Z0 X00 SF hF SC hzc Est Gv Gc Vs hlen ho0 ho1 hbs q.1 q.2
  · exact na_3 l Z a0 hw ws str sv ks len off p1 bs vF zc h0 n0 Z0 X00 SF hF SC hzc Est Gv Gc Vs hlen ho0 ho1 hbs q.1 q.2
  · exact na_4 l Z a0 hw ws str sv ks len off p1 bs vF zc h0 n0 Z0 X00 SF hF SC hzc Est Gv Gc Vs hlen ho0 ho1 hbs q.1 q.2
  · exact na_5 l Z a0 hw ws str sv ks len off p1 bs vF zc h0 n0 Z0 X00 SF hF SC hzc Est Gv Gc Vs hlen ho0 ho1 hbs q.1 q.2
theorem d_prog_15_method_6_code_0 : decode prog_15_method_6_code 0 = .ok (.new 11, 3) := by decide +kernel
theorem d_prog_15_method_6_code_3 : decode prog_15_method_6_code 3 = .ok (.dup, 1) := by decide +kernel
theorem d_prog_15_method_6_code_4 : decode prog_15_method_6_code 4 = .ok (.invokespecial 13, 3) := by decide +kernel
theorem pd_567 : parseMethodDescriptor "()V" = some ⟨[], none⟩ := by decide +kernel
theorem d_prog_15_method_6_code_7 : decode prog_15_method_6_code 7 = .ok (.aload_n 0, 1) := by decide +kernel
theorem d_prog_15_method_6_code_8 : decode prog_15_method_6_code 8 = .ok (.getfield 39, 3) := by decide +kernel
theorem d_prog_15_method_6_code_11 : decode prog_15_method_6_code 11 = .ok (.invokevirtual 20, 3) := by decide +kernel
theorem pd_571 : parseMethodDescriptor "(I)Ljava/lang/StringBuilder;" = some ⟨[.int], some (.object "java/lang/StringBuilder")⟩ := by decide +kernel
theorem d_prog_15_method_6_code_14 : decode prog_15_method_6_code 14 = .ok (.ldc 35, 2) := by decide +kernel
theorem d_prog_15_method_6_code_16 : decode prog_15_method_6_code 16 = .ok (.invokevirtual 16, 3) := by decide +kernel
theorem pd_574 : parseMethodDescriptor "(Ljava/lang/String;)Ljava/lang/StringBuilder;" = some ⟨[(.object "java/lang/String")], some (.object "java/lang/StringBuilder")⟩ := by decide +kernel
theorem d_prog_15_method_6_code_19 : decode prog_15_method_6_code 19 = .ok (.aload_n 0, 1) := by decide +kernel
theorem d_prog_15_method_6_code_20 : decode prog_15_method_6_code 20 = .ok (.getfield 43, 3) := by decide +kernel
theorem d_prog_15_method_6_code_23 : decode prog_15_method_6_code 23 = .ok (.invokevirtual 20, 3) := by decide +kernel
theorem d_prog_15_method_6_code_26 : decode prog_15_method_6_code 26 = .ok (.invokevirtual 23, 3) := by decide +kernel
theorem pd_579 : parseMethodDescriptor "()Ljava/lang/String;" = some ⟨[], some (.object "java/lang/String")⟩ := by decide +kernel
theorem d_prog_15_method_6_code_29 : decode prog_15_method_6_code 29 = .ok (.areturn, 1) := by decide +kernel
def Q_nd_tos (Z : State) (nd : Addr) (mn mx : Int32) (zc : Int32) (dO dT : Addr) (cO cT : Cell) (h0 : Heap) (n0 : Nat) (v : Option Value) (h : Heap) (L : List Loc) : Prop := ∃ str sv ks bs len, v = some (.ref str) ∧ Fr n0 L ∧ Keep h0 h [] ∧ Exa Z h str "java/lang/String" ∧ Fld Z h str "java/lang/String" "coder" "B" (.int (0 : Int32)) ∧ Fld Z h str "java/lang/String" "value" "[B" (.ref sv) ∧ Arv Z h sv ks .byte len bs (.int 0) ∧ len.toInt = (own_sz mn).toInt + 2 + (own_sz mx).toInt ∧ own_has bs (own_sz mn).toNatClampNeg mn ∧ bs.getD (own_sz mn).toNatClampNeg (.int 0) = .int 46 ∧ bs.getD ((own_sz mn).toNatClampNeg + 1) (.int 0) = .int 46 ∧ own_has bs ((own_sz mn).toNatClampNeg + 2 + (own_sz mx).toNatClampNeg) mx
set_option maxRecDepth 65536 in
set_option maxHeartbeats 40000000 in
theorem nd_tos (l : Launch) (Z : State) (a0 : Array Value) (hw : ∀ d ∈ tables_1, d.before a0 Z = true) (ws : List Jvm.Cond) (nd : Addr) (mn mx : Int32) (zc : Int32) (dO dT : Addr) (cO cT : Cell) (h0 : Heap) (n0 : Nat) (Z0 : n0 ≤ h0.size) (X00 : Old Z n0 h0)(SC : Sta Z Z.heap "java/lang/String" "COMPACT_STRINGS" "Z" (.int zc)) (hzc : ¬ zc = 0)(TO : own_O Z dO cO) (TT : own_T Z dT cT)(End : Exa Z h0 nd "com/example/head_count/headcount/NodeIdRange") (Fm : Fld Z h0 nd "com/example/head_count/headcount/NodeIdRange" "minId" "I" (.int mn)) (Fx : Fld Z h0 nd "com/example/head_count/headcount/NodeIdRange" "maxId" "I" (.int mx)) (hm0 : 0 ≤ mn.toInt) (hmx : mx.toInt < 65536) (hmm : mn.toInt ≤ mx.toInt) :
    MetFree l (⟨"com/example/head_count/headcount/NodeIdRange", "toString", "()Ljava/lang/String;"⟩ : MethodName) (head1 (Jvm.Cond.code (⟨"com/example/head_count/headcount/NodeIdRange", "toString", "()Ljava/lang/String;"⟩ : MethodName) prog_15_method_6_code 1 (Option.some (Jvm.ClassFile.FieldType.object "java/lang/String")) :: ws) ({ frames := 6, cells := 6, slots := 52, locals := 95 } : Room)) (fun a U => a = #[(.ref nd)] ∧ Z.Warmed39 U.vm ∧ U.heap = h0 ∧ CHv Z consts_1 U.vm h0) (fun _ _ _ _ _ => True) (fun _ U o U' => ∃ v L, o = .returned v ∧ Q_nd_tos Z nd mn mx zc dO dT cO cT h0 n0 v U'.heap L ∧ CHr Z consts_1 U.vm U.heap U'.vm U'.heap ∧ ReturnedEndW U o U' L ({ frames := 6, cells := 6, slots := 52, locals := 95 } : Room).cells ({ frames := 6, cells := 6, slots := 52, locals := 95 } : Room).slots) := by
  refine MetFree.of_bodySF (plainFor_of_name pn_387) hisR ?_
  intro p e s m args below meth c s₁ Bd hml0 hP hK
  obtain ⟨rfl, hZ, hh, hCH⟩ := hP
  have hx := Bd.exec
  have hby := Bd.bytes
  have hml : c.maxLocals = 1 := hml0
  have hown : s.vm.findClass "com/example/head_count/headcount/NodeIdRange" = some m.cls := findClass_of_methodNamed Bd.named
  have hnm := (name_of_methodNamed Bd.named Bd.method).1
  have X0 : Stand p l e ({ frames := 6, cells := 6, slots := 52, locals := 95 } : Room) s m #[(.ref nd)] below meth c s₁ [] 0 0 := Stand.of_body Bd
  have e0 : s₁.heap = h0 := by rw [← hh, Bd.state]; rfl
  have N0 := Fr.nil n0
  have hlk : meth.locks = false := BodyLoose.notSynchronized Bd
  have pre0 : ∀ t, Steps p.tables e below (s₁.setTop (mkF m 0 #[.val (.ref nd)] [])) t → Steps p.tables e below (s₁.setTop (entryFrame m #[(.ref nd)] 1)) t := fun t k => castTop (ef_20 m nd) k
  have hEL : EW Z a0 consts_1 := EW.cons (own := "com/example/head_count/headcount/NodeIdRange") (index := 35) (hw _ (List.mem_of_getElem? (i := 72) rfl)) (by decide) EW.nil
  have wS : ∀ a ∈ Bundle.stringAtoms, a.before a0 Z = true := (fun d hd => by
        simp only [Bundle.stringAtoms, Bundle.sN, List.mem_cons, List.not_mem_nil, or_false] at hd
        rcases hd with rfl | rfl | rfl | rfl | rfl | rfl | rfl
        · exact (hw _ (List.mem_of_getElem? (i := 36) rfl))
        · exact (hw _ (List.mem_of_getElem? (i := 73) rfl))
        · exact (hw _ (List.mem_of_getElem? (i := 37) rfl))
        · exact (hw _ (List.mem_of_getElem? (i := 74) rfl))
        · exact (hw _ (List.mem_of_getElem? (i := 75) rfl))
        · exact (hw _ (List.mem_of_getElem? (i := 76) rfl))
        · exact (hw _ (List.mem_of_getElem? (i := 77) rfl)))
  have z1 := own_szN mn hm0 (by omega)
  have z2 := own_szN mx (by omega) hmx
  have R0 := CHr.refl hCH
  have K0 : Keep h0 h0 [] := Keep.refl h0 _
  obtain ⟨T1, h1, X1, e1, E1, A1, D1, -, st1⟩ := newO X0 hx hZ hown (hw _ (List.mem_of_getElem? (i := 22) rfl)) (hw _ (List.mem_of_getElem? (i := 23) rfl)) (hw _ (List.mem_of_getElem? (i := 24) rfl)) e0 (g := (mkF m 0 #[.val (.ref nd)] [])) rfl (hb hby d_prog_15_method_6_code_0) (by decide) (by decide)
  obtain ⟨sb, gsb⟩ : ∃ z, z = h0.size := ⟨_, rfl⟩
  rw [← gsb] at A1 D1 st1
  have ge_sb : n0 ≤ sb := by rw [gsb]; exact Z0
  have gk_sb : h0.size ≤ sb := by rw [gsb]; exact K0.1
  have ne_nd_sb : nd ≠ sb := by rw [gsb]; exact Nat.ne_of_lt End.lt
  have R_1 := R0.trans (CHr.ext E1 R0.1)
  have K_2 : Keep h0 h1 [] := K0.ext E1
  have Z_1 : n0 ≤ h1.size := Nat.le_trans Z0 E1.1
  obtain ⟨bf, gbf⟩ : ∃ z, z = h1.size := ⟨_, rfl⟩
  have ge_bf : n0 ≤ bf := by rw [gbf]; exact Z_1
  have gk_bf : h0.size ≤ bf := by rw [gbf]; exact K_2.1
  have E_3 := (End.ext E1)
  have ne_nd_bf : nd ≠ bf := by rw [gbf]; exact Nat.ne_of_lt E_3.lt
  have ne_sb_bf : sb ≠ bf := by rw [gbf]; exact Nat.ne_of_lt A1.lt
  have O_4 := (X00.ext E1)
  obtain ⟨_, _, ⟨T2, L2, k2, n2⟩, -, X2, ⟨Lc2, hQ2, l2, y2, z2⟩, st2⟩ := X1.specialBack hx (y := (⟨"java/lang/StringBuilder", "<init>", "()V"⟩ : MethodName)) rfl hown (mvT hZ (hw _ (List.mem_of_getElem? (i := 25) rfl))) (mvT hZ (hw _ (List.mem_of_getElem? (i := 26) rfl))) (mvT hZ (hw _ (List.mem_of_getElem? (i := 27) rfl))) (by decide) (backOf (W := 1) (sb_init l Z a0 hw [] sb zc h1 n0 Z_1 O_4 SC hzc A1 (D1 (Or.inl (hw _ (List.mem_of_getElem? (i := 39) rfl))) (ty := (.array .byte)) (by decide)) (D1 (Or.inl (hw _ (List.mem_of_getElem? (i := 41) rfl))) (ty := .byte) (by decide)) (D1 (Or.inl (hw _ (List.mem_of_getElem? (i := 53) rfl))) (ty := .int) (by decide)) ge_sb) hZ (hw _ (List.mem_of_getElem? (i := 27) rfl)) (hw _ (List.mem_of_getElem? (i := 24) rfl)) (by decide) (by decide)) (g := (mkF m 4 #[.val (.ref nd)] [(.ref sb), (.ref sb)])) rfl (by rw [hml]; rfl) (Steps.refl _) (a := sb) (argsL := []) (rest := [(.ref sb)]) (lenOf pd_567 rfl) rfl (by show 2 * 0 + _ ≤ _; exact Nat.le_of_eq rfl) (hb hby d_prog_15_method_6_code_4) (fun _ _ => ⟨rfl, e1, (by decide : 1 + 1 ≤ _), (by decide : 4 + 16 ≤ _)⟩)
  dsimp only [Pt.U, Pt.locs, Pt.cells, Pt.slots] at X2 l2 y2 z2 st2 hQ2
  subst l2 y2 z2
  obtain ⟨rfl, N2q, Kc2, QE0, QV0, QC0, QN0, kb, QB0⟩ := hQ2
  have N2 := Fr.app N0 N2q
  have R_5 := R_1.trans (CHr.keep Kc2 (sfS (Safe.exa hZ.alike A1 (by decide) (by decide)) sf0) R_1.1)
  have S_6 := Safe.keep Kc2 (sfS (Safe.exa hZ.alike A1 (by decide) (by decide)) sf0) R_1.1 (Safe.new (Z := Z) (EL := consts_1) (vm := s.vm) (h := h1) (Nat.le_of_eq gbf.symm))
  have K_7 : Keep h0 T2.heap [] := K_2.trans Kc2 (allS (Or.inr gk_sb) all0)
  have Z_2 : n0 ≤ T2.heap.size := Nat.le_trans Z_1 Kc2.1
  rw [← gbf] at QV0 QB0
  have VB0 : Arv Z T2.heap bf kb .byte (16 : Int32) (List.replicate 16 (.int 0)) (.int 0) := QB0.pad (pad_rep [] (.int 0) 16)
  have F_8 := ((Fm.ext E1).keep Kc2 (ninS ne_nd_sb nin0))
  obtain ⟨T3, X3, e3, st3⟩ := getF X2 hx hZ hown (host := "") (Or.inl (hw _ (List.mem_of_getElem? (i := 13) rfl))) Via.refl rfl F_8 (g := (mkF m 8 #[.val (.ref nd)] [(.ref nd), (.ref sb)])) rfl rfl (hb hby d_prog_15_method_6_code_8)
  have O_9 := (O_4.keep Kc2 (allS ge_sb all0))
  obtain ⟨cq4, kq4, q4a, q4b, q4c⟩ := isOf hZ e3 QE0
  obtain ⟨_, _, ⟨T4, L4, k4, n4⟩, -, X4, ⟨Lc4, hQ4, l4, y4, z4⟩, st4⟩ := X3.virtualBack hx (y := (⟨"java/lang/StringBuilder", "append", "(I)Ljava/lang/StringBuilder;"⟩ : MethodName)) (z := (⟨"java/lang/StringBuilder", "append", "(I)Ljava/lang/StringBuilder;"⟩ : MethodName)) hown (mvT hZ (hw _ (List.mem_of_getElem? (i := 42) rfl))) (mvT hZ (hw _ (List.mem_of_getElem? (i := 43) rfl))) (notFace_of_selects (args := #[]) (mvT hZ (hw _ (List.mem_of_getElem? (i := 45) rfl)))) (mvT hZ (hw _ (List.mem_of_getElem? (i := 45) rfl))) (mvT hZ (hw _ (List.mem_of_getElem? (i := 44) rfl))) (by decide) (backOf (W := 0) (sb_appI l Z a0 hw [] sb bf kb (0 : Int32) (List.replicate 16 (.int 0)) mn zc dO dT cO cT T2.heap n0 Z_2 O_9 SC hzc TO TT QE0 QV0 QC0 QN0 VB0 ne_sb_bf ge_sb ge_bf (by simp) hm0 (by omega) (by decide) (by rw [own_p0]; omega)) hZ (hw _ (List.mem_of_getElem? (i := 46) rfl)) (hw _ (List.mem_of_getElem? (i := 24) rfl)) (by decide) (by decide)) q4a q4c (g := (mkF m 11 #[.val (.ref nd)] [(.int mn), (.ref sb)])) rfl (by rw [hml]; rfl) (Steps.refl _) (argsL := [(.int mn)]) (rest := []) (lenOf pd_571 rfl) rfl (by show 2 * 0 + _ ≤ _; exact Nat.le_of_eq rfl) (hb hby d_prog_15_method_6_code_11) (fun _ _ => ⟨rfl, e3, (by decide : 2 + 0 ≤ _), (by decide : 20 + 0 ≤ _)⟩)
  dsimp only [Pt.U, Pt.locs, Pt.cells, Pt.slots] at X4 l4 y4 z4 st4 hQ4
  subst l4 y4 z4
  obtain ⟨rfl, N4q, Kc4, QE1, QV1, QC1, QN1, QA1⟩ := hQ4
  have N4 := Fr.app N2 N4q
  have R_10 := R_5.trans (CHr.keep Kc4 (sfS (Safe.exa hZ.alike QE0 (by decide) (by decide)) (sfS S_6 sf0)) R_5.1)
  have S_11 := Safe.keep Kc4 (sfS (Safe.exa hZ.alike QE0 (by decide) (by decide)) (sfS S_6 sf0)) R_5.1 S_6
  have K_12 : Keep h0 T4.heap [] := K_7.trans Kc4 (allS (Or.inr gk_sb) (allS (Or.inr gk_bf) all0))
  have Z_4 : n0 ≤ T4.heap.size := Nat.le_trans Z_2 Kc4.1
  obtain ⟨c1, hc1⟩ : ∃ z, z = (0 : Int32) + own_sz mn := ⟨_, rfl⟩
  rw [← hc1] at QN1 QA1
  rw [own_0add] at hc1
  have c1i : c1.toInt = (own_sz mn).toInt := by rw [hc1]
  have c1n : c1.toNatClampNeg = (own_sz mn).toNatClampNeg := by rw [hc1]
  have hl1 : (own_gc (List.replicate 16 (.int 0)) c1.toNatClampNeg mn).length = 16 := by rw [own_gcL]; simp
  have hl2 : (own_dot (own_gc (List.replicate 16 (.int 0)) c1.toNatClampNeg mn) c1.toNatClampNeg).length = 16 := by rw [own_dotL (by rw [hl1, c1n]; omega), hl1]
  obtain ⟨lt, T5, h5, k1, lb, lk, X5, e5, E5, S5, le5, hZ5, hown5, LE, LC, LV, LA, -, -, C5, -, -, st5⟩ := ldcCH (s := s) (vm0 := s.vm) X4 hx hZ hown (hw _ (List.mem_of_getElem? (i := 72) rfl)) wS rfl ((State.WarmedH.refl s).since 0) (Nat.zero_le _) hEL (by simp [consts_1]) R_10.1 (vs := [.int 46, .int 46]) (z := (2 : Int32)) ⟨by decide, rfl⟩ (by decide) rfl (g := (mkF m 14 #[.val (.ref nd)] [(.ref sb)])) rfl (hb hby d_prog_15_method_6_code_14) (n := 8) (by decide) (by decide) (by decide) (by decide)
  have Sb5 := C5.safe QA1.lt S_11
  have K_13 : Keep h0 h5 [] := K_12.ext E5
  have Z_5 : n0 ≤ h5.size := Nat.le_trans Z_4 E5.1
  have R5 := R_10.trans C5
  have O_14 := ((O_9.keep Kc4 (allS ge_sb (allS ge_bf all0))).ext E5)
  have E_15 := (QE1.ext E5)
  have F_16 := (QV1.ext E5)
  have F_17 := (QC1.ext E5)
  have F_18 := (QN1.ext E5)
  have V_19 := (QA1.ext E5)
  obtain ⟨cq6, kq6, q6a, q6b, q6c⟩ := isOf hZ5 e5 E_15
  obtain ⟨_, _, ⟨T6, L6, k6, n6⟩, -, X6, ⟨Lc6, hQ6, l6, y6, z6⟩, st6⟩ := X5.virtualBack hx (y := (⟨"java/lang/StringBuilder", "append", "(Ljava/lang/String;)Ljava/lang/StringBuilder;"⟩ : MethodName)) (z := (⟨"java/lang/StringBuilder", "append", "(Ljava/lang/String;)Ljava/lang/StringBuilder;"⟩ : MethodName)) hown5 (mvT hZ5 (hw _ (List.mem_of_getElem? (i := 78) rfl))) (mvT hZ5 (hw _ (List.mem_of_getElem? (i := 79) rfl))) (notFace_of_selects (args := #[]) (mvT hZ5 (hw _ (List.mem_of_getElem? (i := 81) rfl)))) (mvT hZ5 (hw _ (List.mem_of_getElem? (i := 81) rfl))) (mvT hZ5 (hw _ (List.mem_of_getElem? (i := 80) rfl))) (by decide) (backOf (W := 0) (sb_appS l Z a0 hw [] sb bf kb c1 (own_gc (List.replicate 16 (.int 0)) c1.toNatClampNeg mn) lt lb lk zc h5 n0 Z_5 O_14 SC hzc E_15 F_16 F_17 F_18 V_19 ne_sb_bf ge_sb ge_bf LE LV LC LA hl1 (by omega) (by omega)) hZ5 (hw _ (List.mem_of_getElem? (i := 82) rfl)) (hw _ (List.mem_of_getElem? (i := 24) rfl)) (by decide) (by decide)) q6a q6c (g := (mkF m 16 #[.val (.ref nd)] [(.ref lt), (.ref sb)])) rfl (by rw [hml]; rfl) (Steps.refl _) (argsL := [(.ref lt)]) (rest := []) (lenOf pd_574 rfl) rfl (by show 2 * 0 + _ ≤ _; exact Nat.le_of_eq rfl) (hb hby d_prog_15_method_6_code_16) (fun _ _ => ⟨rfl, e5, (by decide : 4 + 0 ≤ _), (by decide : 32 + 0 ≤ _)⟩)
  dsimp only [Pt.U, Pt.locs, Pt.cells, Pt.slots] at X6 l6 y6 z6 st6 hQ6
  subst l6 y6 z6
  obtain ⟨rfl, N6q, Kc6, QE2, QV2, QC2, QN2, QA2⟩ := hQ6
  have N6 := Fr.app N4 N6q
  have R_20 := R5.trans (CHr.keep Kc6 (sfS (Safe.exa hZ5.alike E_15 (by decide) (by decide)) (sfS Sb5 sf0)) R5.1)
  have S_21 := Safe.keep Kc6 (sfS (Safe.exa hZ5.alike E_15 (by decide) (by decide)) (sfS Sb5 sf0)) R5.1 Sb5
  have K_22 : Keep h0 T6.heap [] := K_13.trans Kc6 (allS (Or.inr gk_sb) (allS (Or.inr gk_bf) all0))
  have Z_6 : n0 ≤ T6.heap.size := Nat.le_trans Z_5 Kc6.1
  obtain ⟨c2, hc2⟩ : ∃ z, z = c1 + (2 : Int32) := ⟨_, rfl⟩
  rw [← hc2] at QN2
  have c2i : c2.toInt = (own_sz mn).toInt + 2 := by rw [hc2, own_addk (k := 2) (K := 2) rfl (by omega) (by omega) (by omega), c1i]
  have F_23 := (((((Fx.ext E1).keep Kc2 (ninS ne_nd_sb nin0)).keep Kc4 (ninS ne_nd_sb (ninS ne_nd_bf nin0))).ext E5).keep Kc6 (ninS ne_nd_sb (ninS ne_nd_bf nin0)))
  obtain ⟨T7, X7, e7, st7⟩ := getF X6 hx hZ5 hown5 (host := "") (Or.inl (hw _ (List.mem_of_getElem? (i := 15) rfl))) Via.refl rfl F_23 (g := (mkF m 20 #[.val (.ref nd)] [(.ref nd), (.ref sb)])) rfl rfl (hb hby d_prog_15_method_6_code_20)
  have O_24 := (O_14.keep Kc6 (allS ge_sb (allS ge_bf all0)))
  obtain ⟨cq8, kq8, q8a, q8b, q8c⟩ := isOf hZ5 e7 QE2
  obtain ⟨_, _, ⟨T8, L8, k8, n8⟩, -, X8, ⟨Lc8, hQ8, l8, y8, z8⟩, st8⟩ := X7.virtualBack hx (y := (⟨"java/lang/StringBuilder", "append", "(I)Ljava/lang/StringBuilder;"⟩ : MethodName)) (z := (⟨"java/lang/StringBuilder", "append", "(I)Ljava/lang/StringBuilder;"⟩ : MethodName)) hown5 (mvT hZ5 (hw _ (List.mem_of_getElem? (i := 42) rfl))) (mvT hZ5 (hw _ (List.mem_of_getElem? (i := 43) rfl))) (notFace_of_selects (args := #[]) (mvT hZ5 (hw _ (List.mem_of_getElem? (i := 45) rfl)))) (mvT hZ5 (hw _ (List.mem_of_getElem? (i := 45) rfl))) (mvT hZ5 (hw _ (List.mem_of_getElem? (i := 44) rfl))) (by decide) (backOf (W := 0) (sb_appI l Z a0 hw [] sb bf kb c2 (own_dot (own_gc (List.replicate 16 (.int 0)) c1.toNatClampNeg mn) c1.toNatClampNeg) mx zc dO dT cO cT T6.heap n0 Z_6 O_24 SC hzc TO TT QE2 QV2 QC2 QN2 QA2 ne_sb_bf ge_sb ge_bf hl2 (by omega) hmx (by omega) (by omega)) hZ5 (hw _ (List.mem_of_getElem? (i := 46) rfl)) (hw _ (List.mem_of_getElem? (i := 24) rfl)) (by decide) (by decide)) q8a q8c (g := (mkF m 23 #[.val (.ref nd)] [(.int mx), (.ref sb)])) rfl (by rw [hml]; rfl) (Steps.refl _) (argsL := [(.int mx)]) (rest := []) (lenOf pd_571 rfl) rfl (by show 2 * 0 + _ ≤ _; exact Nat.le_of_eq rfl) (hb hby d_prog_15_method_6_code_23) (fun _ _ => ⟨rfl, e7, (by decide : 4 + 0 ≤ _), (by decide : 32 + 0 ≤ _)⟩)
  dsimp only [Pt.U, Pt.locs, Pt.cells, Pt.slots] at X8 l8 y8 z8 st8 hQ8
  subst l8 y8 z8
  obtain ⟨rfl, N8q, Kc8, QE3, QV3, QC3, QN3, QA3⟩ := hQ8
  have N8 := Fr.app N6 N8q
  have R_25 := R_20.trans (CHr.keep Kc8 (sfS (Safe.exa hZ5.alike QE2 (by decide) (by decide)) (sfS S_21 sf0)) R_20.1)
  have S_26 := Safe.keep Kc8 (sfS (Safe.exa hZ5.alike QE2 (by decide) (by decide)) (sfS S_21 sf0)) R_20.1 S_21
  have K_27 : Keep h0 T8.heap [] := K_22.trans Kc8 (allS (Or.inr gk_sb) (allS (Or.inr gk_bf) all0))
  have Z_8 : n0 ≤ T8.heap.size := Nat.le_trans Z_6 Kc8.1
  obtain ⟨c3, hc3⟩ : ∃ z, z = c2 + own_sz mx := ⟨_, rfl⟩
  rw [← hc3] at QN3 QA3
  have c3i : c3.toInt = (own_sz mn).toInt + 2 + (own_sz mx).toInt := by rw [hc3, own_addI (by omega) (by omega) (by omega), c2i]
  have c3n : c3.toNatClampNeg = (own_sz mn).toNatClampNeg + 2 + (own_sz mx).toNatClampNeg := own_tnI (by omega)
  have hl3 : (own_gc (own_dot (own_gc (List.replicate 16 (.int 0)) c1.toNatClampNeg mn) c1.toNatClampNeg) c3.toNatClampNeg mx).length = 16 := by rw [own_gcL, hl2]
  have O_28 := (O_24.keep Kc8 (allS ge_sb (allS ge_bf all0)))
  obtain ⟨cq9, kq9, q9a, q9b, q9c⟩ := isOf hZ5 rfl QE3
  obtain ⟨_, _, ⟨T9, L9, k9, n9⟩, -, X9, ⟨Lc9, hQ9, l9, y9, z9⟩, st9⟩ := X8.virtualBack hx (y := (⟨"java/lang/StringBuilder", "toString", "()Ljava/lang/String;"⟩ : MethodName)) (z := (⟨"java/lang/StringBuilder", "toString", "()Ljava/lang/String;"⟩ : MethodName)) hown5 (mvT hZ5 (hw _ (List.mem_of_getElem? (i := 121) rfl))) (mvT hZ5 (hw _ (List.mem_of_getElem? (i := 122) rfl))) (notFace_of_selects (args := #[]) (mvT hZ5 (hw _ (List.mem_of_getElem? (i := 124) rfl)))) (mvT hZ5 (hw _ (List.mem_of_getElem? (i := 124) rfl))) (mvT hZ5 (hw _ (List.mem_of_getElem? (i := 123) rfl))) (by decide) (backOf (W := 0) (sb_tos l Z a0 hw [] sb bf kb c3 (own_gc (own_dot (own_gc (List.replicate 16 (.int 0)) c1.toNatClampNeg mn) c1.toNatClampNeg) c3.toNatClampNeg mx) zc T8.heap n0 Z_8 O_28 SC hzc QE3 QV3 QC3 QN3 QA3 ne_sb_bf ge_sb ge_bf hl3 (by omega) (by omega)) hZ5 (hw _ (List.mem_of_getElem? (i := 125) rfl)) (hw _ (List.mem_of_getElem? (i := 24) rfl)) (by decide) (by decide)) q9a q9c (g := (mkF m 26 #[.val (.ref nd)] [(.ref sb)])) rfl (by rw [hml]; rfl) (Steps.refl _) (argsL := []) (rest := []) (lenOf pd_579 rfl) rfl (by show 2 * 0 + _ ≤ _; exact Nat.le_of_eq rfl) (hb hby d_prog_15_method_6_code_26) (fun _ _ => ⟨rfl, rfl, (by decide : 4 + 2 ≤ _), (by decide : 32 + 20 ≤ _)⟩)
  dsimp only [Pt.U, Pt.locs, Pt.cells, Pt.slots] at X9 l9 y9 z9 st9 hQ9
  subst l9 y9 z9
  obtain ⟨rfl, N9q, Kc9, TE, TC, sv, ka, bs, TV, TA, TB⟩ := hQ9
  have N9 := Fr.app N8 N9q
  have R_29 := R_25.trans (CHr.keep Kc9 sf0 R_25.1)
  have S_30 := Safe.keep Kc9 sf0 R_25.1 S_26
  have K_31 : Keep h0 T9.heap [] := K_27.trans Kc9 all0
  have Z_9 : n0 ≤ T9.heap.size := Nat.le_trans Z_8 Kc9.1
  obtain ⟨fs, hr, hrun, hended, hend⟩ := X9.leaveW (s := s) S5 (Nat.le_trans (Nat.le_trans (Nat.le_trans le5 Kc6.1) Kc8.1) Kc9.1) (v := (some (.ref T8.heap.size))) (fun h => by rw [Bd.returns] at h; cases h) (hlocks := hlk)
  refine ⟨_, _, pre0 _ ?_, hrun, hended, _, _, rfl, ?_, ?_, ⟨hend.1, hend.2.1, hend.2.2.1, hend.2.2.2.mono (by decide) (by decide)⟩⟩
  · show Steps p.tables e below (s₁.setTop (mkF m 0 #[.val (.ref nd)] [])) _
    refine st1 _ ?_
    show Steps p.tables e below (T1.setTop (mkF m 3 #[.val (.ref nd)] [(.ref sb)])) _
    refine XS.dup X1.here hx rfl (hb hby d_prog_15_method_6_code_3) rfl rfl ?_
    show Steps p.tables e below (T1.setTop (mkF m 4 #[.val (.ref nd)] [(.ref sb), (.ref sb)])) _
    refine st2.trans ?_
    show Steps p.tables e below (T2.setTop (mkF m 7 #[.val (.ref nd)] [(.ref sb)])) _
    refine XS.aloadN X2.here hx rfl (hb hby d_prog_15_method_6_code_7) rfl rfl ?_
    show Steps p.tables e below (T2.setTop (mkF m 8 #[.val (.ref nd)] [(.ref nd), (.ref sb)])) _
    refine st3 _ ?_
    show Steps p.tables e below (T3.setTop (mkF m 11 #[.val (.ref nd)] [(.int mn), (.ref sb)])) _
    refine st4.trans ?_
    show Steps p.tables e below (T4.setTop (mkF m 14 #[.val (.ref nd)] [(.ref sb)])) _
    refine st5 _ ?_
    show Steps p.tables e below (T5.setTop (mkF m 16 #[.val (.ref nd)] [(.ref lt), (.ref sb)])) _
    refine st6.trans ?_
    show Steps p.tables e below (T6.setTop (mkF m 19 #[.val (.ref nd)] [(.ref sb)])) _
    refine XS.aloadN X6.here hx rfl (hb hby d_prog_15_method_6_code_19) rfl rfl ?_
    show Steps p.tables e below (T6.setTop (mkF m 20 #[.val (.ref nd)] [(.ref nd), (.ref sb)])) _
    refine st7 _ ?_
    show Steps p.tables e below (T7.setTop (mkF m 23 #[.val (.ref nd)] [(.int mx), (.ref sb)])) _
    refine st8.trans ?_
    show Steps p.tables e below (T8.setTop (mkF m 26 #[.val (.ref nd)] [(.ref sb)])) _
    refine st9.trans ?_
    show Steps p.tables e below (T9.setTop (mkF m 29 #[.val (.ref nd)] [(.ref T8.heap.size)])) _
    exact retOut X9 hx Bd.returns rfl (Or.inr (Or.inr (Or.inr (Or.inr ⟨rfl, rfl, rfl⟩)))) (hb hby d_prog_15_method_6_code_29) hr
  · have P := own_pure mn mx hm0 (by omega) (by omega) hmx
    rw [c3n, c1n] at TB
    exact ⟨_, sv, ka, bs, c3, rfl, N9, K_31, TE, TC, TV, TA, c3i, own_hasC TB (by omega) (by omega) P.1, (TB _ (by omega)).trans P.2.1, (TB _ (by omega)).trans P.2.2.1, own_hasC TB (by omega) (by omega) P.2.2.2⟩
  · show CHr Z consts_1 s.vm s.heap T9.vm T9.heap; rw [hh]; exact R_29.trans (CHv.at (s := s) (vm0 := T5.vm) X9 hZ5 hEL R_29.1)
theorem pd_581 : parseMethodDescriptor "(Ljava/lang/String;II)Z" = some ⟨[(.object "java/lang/String"), .int, .int], some .boolean⟩ := by decide +kernel
theorem ef_582 (m : MethodId) (x0 : Int32) (x1 : Int32) : entryFrame m #[(.int x0), (.int x1)] 8 = mkF m 0 #[.val (.int x0), .val (.int x1), .unset, .unset, .unset, .unset, .unset, .unset] [] := by first | (simp [entryFrame, mkF, argsToLocals, Value.category]; done) | rfl
def Q_law_0 (Z : State) (p1 p2 : Int32) (vF : Value) (zc : Int32) (dO dT : Addr) (cO cT : Cell) (h0 : Heap) (n0 : Nat) (v : Option Value) (h : Heap) (L : List Loc) : Prop := v = some (.int (1 : Int32)) ∧ Fr n0 L
set_option maxRecDepth 65536 in
set_option maxHeartbeats 40000000 in
theorem law_0 (l : Launch) (Z : State) (a0 : Array Value) (hw : ∀ d ∈ tables_1, d.before a0 Z = true) (ws : List Jvm.Cond) (p1 p2 : Int32) (vF : Value) (zc : Int32) (dO dT : Addr) (cO cT : Cell) (h0 : Heap) (n0 : Nat) (Z0 : n0 ≤ h0.size) (X00 : Old Z n0 h0)(SF : Sta Z Z.heap "jdk/internal/util/Preconditions" "SIOOBE_FORMATTER" "Ljava/util/function/BiFunction;" vF) (hF : vF.isRef = true)(SC : Sta Z Z.heap "java/lang/String" "COMPACT_STRINGS" "Z" (.int zc)) (hzc : ¬ zc = 0)(TO : own_O Z dO cO) (TT : own_T Z dT cT) :
    MetFree l x (head1 (Jvm.Cond.code x code maxLocals ret :: ws) room_1) (fun a U => a = #[(.int p1), (.int p2)] ∧ Z.Warmed39 U.vm ∧ U.heap = h0 ∧ CHv Z consts_1 U.vm h0) (fun _ _ _ _ _ => True) (fun _ U o U' => ∃ v L, o = .returned v ∧ Q_law_0 Z p1 p2 vF zc dO dT cO cT h0 n0 v U'.heap L ∧ ReturnedEndW U o U' L room_1.cells room_1.slots) := by
  refine MetFree.of_bodySF (plainFor_of_name pn_394) hisR ?_
  intro p e s m args below meth c s₁ Bd hml0 hP hK
  obtain ⟨rfl, hZ, hh, hCH⟩ := hP
  have hx := Bd.exec
  have hby := Bd.bytes
  have hml : c.maxLocals = 8 := hml0
  have hown : s.vm.findClass "com/example/head_count/headcount/NodeIdRangeToStringPinLaw" = some m.cls := findClass_of_methodNamed Bd.named
  have hnm := (name_of_methodNamed Bd.named Bd.method).1
  have X0 : Stand p l e room_1 s m #[(.int p1), (.int p2)] below meth c s₁ [] 0 0 := Stand.of_body Bd
  have e0 : s₁.heap = h0 := by rw [← hh, Bd.state]; rfl
  have N0 := Fr.nil n0
  have hlk : meth.locks = false := BodyLoose.notSynchronized Bd
  have pre0 : ∀ t, Steps p.tables e below (s₁.setTop (mkF m 0 #[.val (.int p1), .val (.int p2), .unset, .unset, .unset, .unset, .unset, .unset] [])) t → Steps p.tables e below (s₁.setTop (entryFrame m #[(.int p1), (.int p2)] maxLocals)) t := fun t k => castTop (ef_582 m p1 p2) k
  have hEL : EW Z a0 consts_1 := EW.cons (own := "com/example/head_count/headcount/NodeIdRange") (index := 35) (hw _ (List.mem_of_getElem? (i := 72) rfl)) (by decide) EW.nil
  have R0 := CHr.refl hCH
  obtain ⟨mn, hmn⟩ : ∃ z, z = (8 : Int32) + (p1 &&& (2147483647 : Int32)) % (65528 : Int32) := ⟨_, rfl⟩
  have mnr : 8 ≤ mn.toInt ∧ mn.toInt < 65536 := by rw [hmn]; exact own_mn p1
  have mxx := own_mx p2 mn mnr.1 mnr.2
  obtain ⟨mx, hmx⟩ : ∃ z, z = mn + (p2 &&& (2147483647 : Int32)) % ((65536 : Int32) - mn) := ⟨_, rfl⟩
  rw [← hmx] at mxx
  have z1 := own_szN mn (by omega) (by omega)
  have z2 := own_szN mx (by omega) (by omega)
  obtain ⟨s1, hs1⟩ : ∃ z, z = own_sz mn := ⟨_, rfl⟩
  obtain ⟨s2, hs2⟩ : ∃ z, z = own_sz mx := ⟨_, rfl⟩
  have s1i : s1.toInt = (own_sz mn).toInt := by rw [hs1]
  have s2i : s2.toInt = (own_sz mx).toInt := by rw [hs2]
  obtain ⟨T1, h1, X1, e1, E1, A1, D1, -, st1⟩ := newO X0 hx hZ hown (hw _ (List.mem_of_getElem? (i := 3) rfl)) (hw _ (List.mem_of_getElem? (i := 4) rfl)) (hw _ (List.mem_of_getElem? (i := 5) rfl)) e0 (g := (mkF m 23 #[.val (.int p1), .val (.int p2), .val (.int mn), .val (.int mx), .unset, .unset, .unset, .unset] [])) rfl (hb hby at_23) (by decide) (by decide)
  obtain ⟨nd, gnd⟩ : ∃ z, z = h0.size := ⟨_, rfl⟩
  rw [← gnd] at A1 D1 st1
  have ge_nd : n0 ≤ nd := by rw [gnd]; exact Z0
  have R_1 := R0.trans (CHr.ext E1 R0.1)
  have Z_1 : n0 ≤ h1.size := Nat.le_trans Z0 E1.1
  obtain ⟨_, _, ⟨T2, L2, k2, n2⟩, -, X2, ⟨Lc2, hQ2, l2, y2, z2⟩, st2⟩ := X1.specialBack hx (y := (⟨"com/example/head_count/headcount/NodeIdRange", "<init>", "(II)V"⟩ : MethodName)) rfl hown (mvT hZ (hw _ (List.mem_of_getElem? (i := 6) rfl))) (mvT hZ (hw _ (List.mem_of_getElem? (i := 7) rfl))) (mvT hZ (hw _ (List.mem_of_getElem? (i := 8) rfl))) (by decide) (backOf (W := 1) (nd_init l Z a0 hw [] nd mn mx h1 n0 Z_1 A1 (D1 (Or.inr (hw _ (List.mem_of_getElem? (i := 14) rfl))) (ty := .int) (by decide)) (D1 (Or.inr (hw _ (List.mem_of_getElem? (i := 16) rfl))) (ty := .int) (by decide)) ge_nd mnr.1 mxx.2.2 mxx.2.1) hZ (hw _ (List.mem_of_getElem? (i := 8) rfl)) (hw _ (List.mem_of_getElem? (i := 5) rfl)) (by decide) (by decide)) (g := (mkF m 29 #[.val (.int p1), .val (.int p2), .val (.int mn), .val (.int mx), .unset, .unset, .unset, .unset] [(.int mx), (.int mn), (.ref nd), (.ref nd)])) rfl (by rw [hml]; rfl) (Steps.refl _) (a := nd) (argsL := [(.int mn), (.int mx)]) (rest := [(.ref nd)]) (lenOf pd_297 rfl) rfl (by show 2 * 0 + _ ≤ _; exact Nat.le_of_eq rfl) (hb hby at_29) (fun _ _ => ⟨rfl, e1, (by decide : 1 + 0 ≤ _), (by decide : 2 + 0 ≤ _)⟩)
  dsimp only [Pt.U, Pt.locs, Pt.cells, Pt.slots] at X2 l2 y2 z2 st2 hQ2
  subst l2 y2 z2
  obtain ⟨rfl, N2q, Kc2, NE, NM, NX⟩ := hQ2
  have N2 := Fr.app N0 N2q
  have R_2 := R_1.trans (CHr.keep Kc2 (sfS (Safe.exa hZ.alike A1 (by decide) (by decide)) sf0) R_1.1)
  have Z_2 : n0 ≤ T2.heap.size := Nat.le_trans Z_1 Kc2.1
  have O_3 := ((X00.ext E1).keep Kc2 (allS ge_nd all0))
  obtain ⟨cq3, kq3, q3a, q3b, q3c⟩ := isOf hZ rfl NE
  obtain ⟨_, _, ⟨T3, L3, k3, n3⟩, -, X3, S3, gr3, ⟨Lc3, hQ3, l3, y3, z3, cr3⟩, st3⟩ := X2.virtualBackS hx (y := (⟨"com/example/head_count/headcount/NodeIdRange", "toString", "()Ljava/lang/String;"⟩ : MethodName)) (z := (⟨"com/example/head_count/headcount/NodeIdRange", "toString", "()Ljava/lang/String;"⟩ : MethodName)) hown (mvT hZ (hw _ (List.mem_of_getElem? (i := 17) rfl))) (mvT hZ (hw _ (List.mem_of_getElem? (i := 18) rfl))) (notFace_of_selects (args := #[]) (mvT hZ (hw _ (List.mem_of_getElem? (i := 20) rfl)))) (mvT hZ (hw _ (List.mem_of_getElem? (i := 20) rfl))) (mvT hZ (hw _ (List.mem_of_getElem? (i := 19) rfl))) (by decide) (backOfSH (W := 0) (nd_tos l Z a0 hw [] nd mn mx zc dO dT cO cT T2.heap n0 Z_2 O_3 SC hzc TO TT NE NM NX (by omega) mxx.2.2 mxx.2.1) hZ (hw _ (List.mem_of_getElem? (i := 21) rfl)) (hw _ (List.mem_of_getElem? (i := 5) rfl)) (by decide) (by decide) hEL R_2.1) q3a q3c (g := (mkF m 36 #[.val (.int p1), .val (.int p2), .val (.int mn), .val (.int mx), .val (.ref nd), .unset, .unset, .unset] [(.ref nd)])) rfl (by rw [hml]; rfl) (Steps.refl _) (argsL := []) (rest := []) (lenOf pd_579 rfl) rfl (by show 2 * 0 + _ ≤ _; exact Nat.le_of_eq rfl) (hb hby at_36) (fun _ _ => ⟨rfl, rfl, (by decide : 1 + 6 ≤ _), (by decide : 2 + 52 ≤ _)⟩)
  dsimp only [Pt.U, Pt.locs, Pt.cells, Pt.slots] at X3 l3 y3 z3 st3 hQ3 S3 gr3 cr3
  subst l3 y3 z3
  obtain ⟨str, sv, ks, bs, len, rfl, N3q, Kc3, TE, TC, TV, TA, tl, P1, P2, P3, P4⟩ := hQ3
  have hZw3 : Z.Warmed39 (s.setVm T3.vm).vm := State.Warmed39.trans hZ S3.1
  have hownw3 : (s.setVm T3.vm).vm.findClass "com/example/head_count/headcount/NodeIdRangeToStringPinLaw" = some m.cls := (S3.1.alike.findClass _ _).trans hown
  have N3 := Fr.app N2 N3q
  have Z_3 : n0 ≤ T3.heap.size := Nat.le_trans Z_2 Kc3.1
  rw [← hs1] at P1 P2 P3 P4 tl
  rw [← hs2] at P4 tl
  have s1n := own_tnI (x := s1) (i := (own_sz mn).toNatClampNeg) (by rw [s1i]; exact z1.1)
  have s2n := own_tnI (x := s2) (i := (own_sz mx).toNatClampNeg) (by rw [s2i]; exact z2.1)
  have lnI : len = s1 + (2 : Int32) + s2 := Int32.toInt_inj.mp (by rw [own_addI (by rw [own_addk (k := 2) (K := 2) rfl (by omega) (by omega) (by omega)]; omega) (by omega) (by rw [own_addk (k := 2) (K := 2) rfl (by omega) (by omega) (by omega)]; omega), own_addk (k := 2) (K := 2) rfl (by omega) (by omega) (by omega), tl])
  obtain ⟨u1, hu1⟩ : ∃ z, z = s1 + (1 : Int32) := ⟨_, rfl⟩
  have u1i : u1.toInt = s1.toInt + 1 := by rw [hu1]; exact own_addk rfl (by omega) (by omega) (by omega)
  obtain ⟨u2, hu2⟩ : ∃ z, z = s1 + (2 : Int32) := ⟨_, rfl⟩
  have u2i : u2.toInt = s1.toInt + 2 := by rw [hu2]; exact own_addk rfl (by omega) (by omega) (by omega)
  rw [← hu2] at lnI
  have u1n : u1.toNatClampNeg = s1.toNatClampNeg + 1 := own_tnI (by rw [u1i, s1n]; omega)
  have e3 : (u2 + own_sz mx).toNatClampNeg = s1.toNatClampNeg + 2 + s2.toNatClampNeg := own_tnI (by rw [own_addI (by omega) (by omega) (by omega), u2i, s1n, s2n]; omega)
  rw [← e3] at P4
  rw [← u1n] at P3
  obtain ⟨_, _, ⟨T4, L4, k4, n4⟩, -, X4, ⟨Lc4, hQ4, l4, y4, z4⟩, st4⟩ := Jvm.LawKit.callS X3 hx (y := (⟨"com/example/head_count/headcount/NodeIdRangeToStringPinLaw", "digits", "(I)I"⟩ : MethodName)) hownw3 (mvT hZw3 (hw _ (List.mem_of_getElem? (i := 164) rfl))) (mvT hZw3 (hw _ (List.mem_of_getElem? (i := 165) rfl))) (mvT hZw3 (hw _ (List.mem_of_getElem? (i := 166) rfl))) (mvT hZw3 (hw _ (List.mem_of_getElem? (i := 167) rfl))) (by decide) (backOf (W := 0) (dg l Z a0 hw [] mn T3.heap n0 Z_3 (by omega) (by omega)) hZw3 (hw _ (List.mem_of_getElem? (i := 167) rfl)) (hw _ (List.mem_of_getElem? (i := 166) rfl)) (by decide) (by decide)) (g := (mkF m 49 #[.val (.int p1), .val (.int p2), .val (.int mn), .val (.int mx), .val (.ref nd), .val (.ref str), .unset, .unset] [(.int mn)])) rfl (by rw [hml]; rfl) (argsL := [(.int mn)]) (rest := []) (lenOf pd_154 rfl) rfl (by show 2 * 0 + _ ≤ _; exact Nat.le_of_eq rfl) (hb hby at_49) (fun _ _ => ⟨rfl, rfl, (by decide : 7 + 0 ≤ _), (by decide : 54 + 0 ≤ _)⟩)
  dsimp only [Pt.U, Pt.locs, Pt.cells, Pt.slots] at X4 l4 y4 z4 st4 hQ4
  subst l4 y4 z4
  obtain ⟨rfl, N4q, e4⟩ := hQ4
  have N4 := Fr.app N3 N4q
  obtain ⟨_, _, ⟨T5, L5, k5, n5⟩, -, X5, ⟨Lc5, hQ5, l5, y5, z5⟩, st5⟩ := Jvm.LawKit.callS X4 hx (y := (⟨"com/example/head_count/headcount/NodeIdRangeToStringPinLaw", "digits", "(I)I"⟩ : MethodName)) hownw3 (mvT hZw3 (hw _ (List.mem_of_getElem? (i := 164) rfl))) (mvT hZw3 (hw _ (List.mem_of_getElem? (i := 165) rfl))) (mvT hZw3 (hw _ (List.mem_of_getElem? (i := 166) rfl))) (mvT hZw3 (hw _ (List.mem_of_getElem? (i := 167) rfl))) (by decide) (backOf (W := 0) (dg l Z a0 hw [] mx T3.heap n0 Z_3 (by omega) (by omega)) hZw3 (hw _ (List.mem_of_getElem? (i := 167) rfl)) (hw _ (List.mem_of_getElem? (i := 166) rfl)) (by decide) (by decide)) (g := (mkF m 55 #[.val (.int p1), .val (.int p2), .val (.int mn), .val (.int mx), .val (.ref nd), .val (.ref str), .val (.int s1), .unset] [(.int mx)])) rfl (by rw [hml]; rfl) (argsL := [(.int mx)]) (rest := []) (lenOf pd_154 rfl) rfl (by show 2 * 0 + _ ≤ _; exact Nat.le_of_eq rfl) (hb hby at_55) (fun _ _ => ⟨rfl, e4, (by decide : 7 + 0 ≤ _), (by decide : 54 + 0 ≤ _)⟩)
  dsimp only [Pt.U, Pt.locs, Pt.cells, Pt.slots] at X5 l5 y5 z5 st5 hQ5
  subst l5 y5 z5
  obtain ⟨rfl, N5q, e5⟩ := hQ5
  have N5 := Fr.app N4 N5q
  have O_4 := (O_3.keep Kc3 all0)
  obtain ⟨cq6, kq6, q6a, q6b, q6c⟩ := isOf hZw3 e5 TE
  obtain ⟨_, _, ⟨T6, L6, k6, n6⟩, -, X6, ⟨Lc6, hQ6, l6, y6, z6⟩, st6⟩ := X5.virtualBack hx (y := (⟨"java/lang/String", "length", "()I"⟩ : MethodName)) (z := (⟨"java/lang/String", "length", "()I"⟩ : MethodName)) hownw3 (mvT hZw3 (hw _ (List.mem_of_getElem? (i := 168) rfl))) (mvT hZw3 (hw _ (List.mem_of_getElem? (i := 88) rfl))) (notFace_of_selects (args := #[]) (mvT hZw3 (hw _ (List.mem_of_getElem? (i := 90) rfl)))) (mvT hZw3 (hw _ (List.mem_of_getElem? (i := 90) rfl))) (mvT hZw3 (hw _ (List.mem_of_getElem? (i := 89) rfl))) (by decide) (backOf (W := 0) (st_len l Z a0 hw [] str sv ks len bs zc T3.heap n0 Z_3 O_4 SC hzc TE TV TC TA) hZw3 (hw _ (List.mem_of_getElem? (i := 91) rfl)) (hw _ (List.mem_of_getElem? (i := 36) rfl)) (by decide) (by decide)) q6a q6c (g := (mkF m 62 #[.val (.int p1), .val (.int p2), .val (.int mn), .val (.int mx), .val (.ref nd), .val (.ref str), .val (.int s1), .val (.int s2)] [(.ref str)])) rfl (by rw [hml]; rfl) (Steps.refl _) (argsL := []) (rest := []) (lenOf pd_244 rfl) rfl (by show 2 * 0 + _ ≤ _; exact Nat.le_of_eq rfl) (hb hby at_62) (fun _ _ => ⟨rfl, e5, (by decide : 7 + 0 ≤ _), (by decide : 54 + 0 ≤ _)⟩)
  dsimp only [Pt.U, Pt.locs, Pt.cells, Pt.slots] at X6 l6 y6 z6 st6 hQ6
  subst l6 y6 z6
  obtain ⟨rfl, N6q, e6⟩ := hQ6
  have N6 := Fr.app N5 N6q
  obtain ⟨cq7, kq7, q7a, q7b, q7c⟩ := isOf hZw3 e6 TE
  obtain ⟨_, _, ⟨T7, L7, k7, n7⟩, -, X7, ⟨Lc7, hQ7, l7, y7, z7⟩, st7⟩ := X6.virtualBack hx (y := (⟨"java/lang/String", "charAt", "(I)C"⟩ : MethodName)) (z := (⟨"java/lang/String", "charAt", "(I)C"⟩ : MethodName)) hownw3 (mvT hZw3 (hw _ (List.mem_of_getElem? (i := 169) rfl))) (mvT hZw3 (hw _ (List.mem_of_getElem? (i := 170) rfl))) (notFace_of_selects (args := #[]) (mvT hZw3 (hw _ (List.mem_of_getElem? (i := 172) rfl)))) (mvT hZw3 (hw _ (List.mem_of_getElem? (i := 172) rfl))) (mvT hZw3 (hw _ (List.mem_of_getElem? (i := 171) rfl))) (by decide) (backOf (W := 0) (st_ch l Z a0 hw [] str sv ks len s1 (46 : Int32) bs vF zc T3.heap n0 Z_3 O_4 SF hF TA (own_bl (i := s1.toInt) rfl (by omega) (by omega)) P2 (by decide) (by decide) SC hzc TE TV TC) hZw3 (hw _ (List.mem_of_getElem? (i := 173) rfl)) (hw _ (List.mem_of_getElem? (i := 36) rfl)) (by decide) (by decide)) q7a q7c (g := (mkF m 81 #[.val (.int p1), .val (.int p2), .val (.int mn), .val (.int mx), .val (.ref nd), .val (.ref str), .val (.int s1), .val (.int s2)] [(.int s1), (.ref str)])) rfl (by rw [hml]; rfl) (Steps.refl _) (argsL := [(.int s1)]) (rest := []) (lenOf pd_462 rfl) rfl (by show 2 * 0 + _ ≤ _; exact Nat.le_of_eq rfl) (hb hby at_81) (fun _ _ => ⟨rfl, e6, (by decide : 7 + 0 ≤ _), (by decide : 54 + 0 ≤ _)⟩)
  dsimp only [Pt.U, Pt.locs, Pt.cells, Pt.slots] at X7 l7 y7 z7 st7 hQ7
  subst l7 y7 z7
  obtain ⟨rfl, N7q, e7⟩ := hQ7
  have N7 := Fr.app N6 N7q
  obtain ⟨cq8, kq8, q8a, q8b, q8c⟩ := isOf hZw3 e7 TE
  obtain ⟨_, _, ⟨T8, L8, k8, n8⟩, -, X8, ⟨Lc8, hQ8, l8, y8, z8⟩, st8⟩ := X7.virtualBack hx (y := (⟨"java/lang/String", "charAt", "(I)C"⟩ : MethodName)) (z := (⟨"java/lang/String", "charAt", "(I)C"⟩ : MethodName)) hownw3 (mvT hZw3 (hw _ (List.mem_of_getElem? (i := 169) rfl))) (mvT hZw3 (hw _ (List.mem_of_getElem? (i := 170) rfl))) (notFace_of_selects (args := #[]) (mvT hZw3 (hw _ (List.mem_of_getElem? (i := 172) rfl)))) (mvT hZw3 (hw _ (List.mem_of_getElem? (i := 172) rfl))) (mvT hZw3 (hw _ (List.mem_of_getElem? (i := 171) rfl))) (by decide) (backOf (W := 0) (st_ch l Z a0 hw [] str sv ks len u1 (46 : Int32) bs vF zc T3.heap n0 Z_3 O_4 SF hF TA (own_bl u1i (by omega) (by omega)) P3 (by decide) (by decide) SC hzc TE TV TC) hZw3 (hw _ (List.mem_of_getElem? (i := 173) rfl)) (hw _ (List.mem_of_getElem? (i := 36) rfl)) (by decide) (by decide)) q8a q8c (g := (mkF m 95 #[.val (.int p1), .val (.int p2), .val (.int mn), .val (.int mx), .val (.ref nd), .val (.ref str), .val (.int s1), .val (.int s2)] [(.int u1), (.ref str)])) rfl (by rw [hml]; rfl) (Steps.refl _) (argsL := [(.int u1)]) (rest := []) (lenOf pd_462 rfl) rfl (by show 2 * 0 + _ ≤ _; exact Nat.le_of_eq rfl) (hb hby at_95) (fun _ _ => ⟨rfl, e7, (by decide : 7 + 0 ≤ _), (by decide : 54 + 0 ≤ _)⟩)
  dsimp only [Pt.U, Pt.locs, Pt.cells, Pt.slots] at X8 l8 y8 z8 st8 hQ8
  subst l8 y8 z8
  obtain ⟨rfl, N8q, e8⟩ := hQ8
  have N8 := Fr.app N7 N8q
  obtain ⟨_, _, ⟨T9, L9, k9, n9⟩, -, X9, ⟨Lc9, hQ9, l9, y9, z9⟩, st9⟩ := Jvm.LawKit.callS X8 hx (y := (⟨"com/example/head_count/headcount/NodeIdRangeToStringPinLaw", "numAt", "(Ljava/lang/String;II)Z"⟩ : MethodName)) hownw3 (mvT hZw3 (hw _ (List.mem_of_getElem? (i := 191) rfl))) (mvT hZw3 (hw _ (List.mem_of_getElem? (i := 192) rfl))) (mvT hZw3 (hw _ (List.mem_of_getElem? (i := 166) rfl))) (mvT hZw3 (hw _ (List.mem_of_getElem? (i := 193) rfl))) (by decide) (backOf (W := 0) (na l Z a0 hw [] str sv ks len (0 : Int32) mn bs vF zc T3.heap n0 Z_3 O_4 SF hF SC hzc TE TV TC TA (by omega) (by decide) (by rw [own_p0]; omega) (by rw [own_0add, ← hs1]; exact P1) (by omega) (by omega)) hZw3 (hw _ (List.mem_of_getElem? (i := 193) rfl)) (hw _ (List.mem_of_getElem? (i := 166) rfl)) (by decide) (by decide)) (g := (mkF m 109 #[.val (.int p1), .val (.int p2), .val (.int mn), .val (.int mx), .val (.ref nd), .val (.ref str), .val (.int s1), .val (.int s2)] [(.int mn), (.int (0 : Int32)), (.ref str)])) rfl (by rw [hml]; rfl) (argsL := [(.ref str), (.int (0 : Int32)), (.int mn)]) (rest := []) (lenOf pd_581 rfl) rfl (by show 2 * 0 + _ ≤ _; exact Nat.le_of_eq rfl) (hb hby at_109) (fun _ _ => ⟨rfl, e8, (by decide : 7 + 0 ≤ _), (by decide : 54 + 0 ≤ _)⟩)
  dsimp only [Pt.U, Pt.locs, Pt.cells, Pt.slots] at X9 l9 y9 z9 st9 hQ9
  subst l9 y9 z9
  obtain ⟨rfl, N9q, e9⟩ := hQ9
  have N9 := Fr.app N8 N9q
  obtain ⟨_, _, ⟨T10, L10, k10, n10⟩, -, X10, ⟨Lc10, hQ10, l10, y10, z10⟩, st10⟩ := Jvm.LawKit.callS X9 hx (y := (⟨"com/example/head_count/headcount/NodeIdRangeToStringPinLaw", "numAt", "(Ljava/lang/String;II)Z"⟩ : MethodName)) hownw3 (mvT hZw3 (hw _ (List.mem_of_getElem? (i := 191) rfl))) (mvT hZw3 (hw _ (List.mem_of_getElem? (i := 192) rfl))) (mvT hZw3 (hw _ (List.mem_of_getElem? (i := 166) rfl))) (mvT hZw3 (hw _ (List.mem_of_getElem? (i := 193) rfl))) (by decide) (backOf (W := 0) (na l Z a0 hw [] str sv ks len u2 mx bs vF zc T3.heap n0 Z_3 O_4 SF hF SC hzc TE TV TC TA (by omega) (by omega) (by omega) P4 (by omega) (by omega)) hZw3 (hw _ (List.mem_of_getElem? (i := 193) rfl)) (hw _ (List.mem_of_getElem? (i := 166) rfl)) (by decide) (by decide)) (g := (mkF m 122 #[.val (.int p1), .val (.int p2), .val (.int mn), .val (.int mx), .val (.ref nd), .val (.ref str), .val (.int s1), .val (.int s2)] [(.int mx), (.int u2), (.ref str)])) rfl (by rw [hml]; rfl) (argsL := [(.ref str), (.int u2), (.int mx)]) (rest := []) (lenOf pd_581 rfl) rfl (by show 2 * 0 + _ ≤ _; exact Nat.le_of_eq rfl) (hb hby at_122) (fun _ _ => ⟨rfl, e9, (by decide : 7 + 0 ≤ _), (by decide : 54 + 0 ≤ _)⟩)
  dsimp only [Pt.U, Pt.locs, Pt.cells, Pt.slots] at X10 l10 y10 z10 st10 hQ10
  subst l10 y10 z10
  obtain ⟨rfl, N10q, e10⟩ := hQ10
  have N10 := Fr.app N9 N10q
  obtain ⟨fs, hr, hrun, hended, hend⟩ := X10.leaveW (s := s) S3 (by rw [e10]; exact (Nat.le_refl _)) (v := (some (.int (1 : Int32)))) (fun h => by rw [Bd.returns] at h; cases h) (hlocks := hlk)
  refine ⟨_, _, pre0 _ ?_, hrun, hended, _, _, rfl, ?_, ⟨hend.1, hend.2.1, hend.2.2.1, hend.2.2.2.mono (by decide) (by decide)⟩⟩
  · show Steps p.tables e below (s₁.setTop (mkF m 0 #[.val (.int p1), .val (.int p2), .unset, .unset, .unset, .unset, .unset, .unset] [])) _
    refine XT.bipushV X0.here hx rfl (8 : Int32) (hb hby at_0) (by decide) ?_
    show Steps p.tables e below (s₁.setTop (mkF m 2 #[.val (.int p1), .val (.int p2), .unset, .unset, .unset, .unset, .unset, .unset] [(.int (8 : Int32))])) _
    refine XS.iloadN X0.here hx rfl (hb hby at_2) rfl ?_
    show Steps p.tables e below (s₁.setTop (mkF m 3 #[.val (.int p1), .val (.int p2), .unset, .unset, .unset, .unset, .unset, .unset] [(.int p1), (.int (8 : Int32))])) _
    refine X0.ldcI hx hown (mvT hZ (hw _ (List.mem_of_getElem? (i := 0) rfl))) rfl (hb hby at_3) ?_
    show Steps p.tables e below (s₁.setTop (mkF m 5 #[.val (.int p1), .val (.int p2), .unset, .unset, .unset, .unset, .unset, .unset] [(.int (2147483647 : Int32)), (.int p1), (.int (8 : Int32))])) _
    refine XS.iand X0.here hx rfl (hb hby at_5) rfl ?_
    show Steps p.tables e below (s₁.setTop (mkF m 6 #[.val (.int p1), .val (.int p2), .unset, .unset, .unset, .unset, .unset, .unset] [(.int (p1 &&& (2147483647 : Int32))), (.int (8 : Int32))])) _
    refine X0.ldcI hx hown (mvT hZ (hw _ (List.mem_of_getElem? (i := 1) rfl))) rfl (hb hby at_6) ?_
    show Steps p.tables e below (s₁.setTop (mkF m 8 #[.val (.int p1), .val (.int p2), .unset, .unset, .unset, .unset, .unset, .unset] [(.int (65528 : Int32)), (.int (p1 &&& (2147483647 : Int32))), (.int (8 : Int32))])) _
    refine iremM X0 hx rfl (hb hby at_8) rfl (by decide) ?_
    show Steps p.tables e below (s₁.setTop (mkF m 9 #[.val (.int p1), .val (.int p2), .unset, .unset, .unset, .unset, .unset, .unset] [(.int ((p1 &&& (2147483647 : Int32)) % (65528 : Int32))), (.int (8 : Int32))])) _
    refine XS.iadd X0.here hx rfl (hb hby at_9) rfl ?_
    show Steps p.tables e below (s₁.setTop (mkF m 10 #[.val (.int p1), .val (.int p2), .unset, .unset, .unset, .unset, .unset, .unset] [(.int ((8 : Int32) + ((p1 &&& (2147483647 : Int32)) % (65528 : Int32))))])) _
    rw [← hmn]
    show Steps p.tables e below (s₁.setTop (mkF m 10 #[.val (.int p1), .val (.int p2), .unset, .unset, .unset, .unset, .unset, .unset] [(.int mn)])) _
    refine XS.istoreN X0.here hx rfl (hb hby at_10) rfl (l' := #[.val (.int p1), .val (.int p2), .val (.int mn), .unset, .unset, .unset, .unset, .unset]) rfl ?_
    show Steps p.tables e below (s₁.setTop (mkF m 11 #[.val (.int p1), .val (.int p2), .val (.int mn), .unset, .unset, .unset, .unset, .unset] [])) _
    refine XS.iloadN X0.here hx rfl (hb hby at_11) rfl ?_
    show Steps p.tables e below (s₁.setTop (mkF m 12 #[.val (.int p1), .val (.int p2), .val (.int mn), .unset, .unset, .unset, .unset, .unset] [(.int mn)])) _
    refine XS.iloadN X0.here hx rfl (hb hby at_12) rfl ?_
    show Steps p.tables e below (s₁.setTop (mkF m 13 #[.val (.int p1), .val (.int p2), .val (.int mn), .unset, .unset, .unset, .unset, .unset] [(.int p2), (.int mn)])) _
    refine X0.ldcI hx hown (mvT hZ (hw _ (List.mem_of_getElem? (i := 0) rfl))) rfl (hb hby at_13) ?_
    show Steps p.tables e below (s₁.setTop (mkF m 15 #[.val (.int p1), .val (.int p2), .val (.int mn), .unset, .unset, .unset, .unset, .unset] [(.int (2147483647 : Int32)), (.int p2), (.int mn)])) _
    refine XS.iand X0.here hx rfl (hb hby at_15) rfl ?_
    show Steps p.tables e below (s₁.setTop (mkF m 16 #[.val (.int p1), .val (.int p2), .val (.int mn), .unset, .unset, .unset, .unset, .unset] [(.int (p2 &&& (2147483647 : Int32))), (.int mn)])) _
    refine X0.ldcI hx hown (mvT hZ (hw _ (List.mem_of_getElem? (i := 2) rfl))) rfl (hb hby at_16) ?_
    show Steps p.tables e below (s₁.setTop (mkF m 18 #[.val (.int p1), .val (.int p2), .val (.int mn), .unset, .unset, .unset, .unset, .unset] [(.int (65536 : Int32)), (.int (p2 &&& (2147483647 : Int32))), (.int mn)])) _
    refine XS.iloadN X0.here hx rfl (hb hby at_18) rfl ?_
    show Steps p.tables e below (s₁.setTop (mkF m 19 #[.val (.int p1), .val (.int p2), .val (.int mn), .unset, .unset, .unset, .unset, .unset] [(.int mn), (.int (65536 : Int32)), (.int (p2 &&& (2147483647 : Int32))), (.int mn)])) _
    refine XS.isub X0.here hx rfl (hb hby at_19) rfl ?_
    show Steps p.tables e below (s₁.setTop (mkF m 20 #[.val (.int p1), .val (.int p2), .val (.int mn), .unset, .unset, .unset, .unset, .unset] [(.int ((65536 : Int32) - mn)), (.int (p2 &&& (2147483647 : Int32))), (.int mn)])) _
    refine iremM X0 hx rfl (hb hby at_20) rfl mxx.1 ?_
    show Steps p.tables e below (s₁.setTop (mkF m 21 #[.val (.int p1), .val (.int p2), .val (.int mn), .unset, .unset, .unset, .unset, .unset] [(.int ((p2 &&& (2147483647 : Int32)) % ((65536 : Int32) - mn))), (.int mn)])) _
    refine XS.iadd X0.here hx rfl (hb hby at_21) rfl ?_
    show Steps p.tables e below (s₁.setTop (mkF m 22 #[.val (.int p1), .val (.int p2), .val (.int mn), .unset, .unset, .unset, .unset, .unset] [(.int (mn + ((p2 &&& (2147483647 : Int32)) % ((65536 : Int32) - mn))))])) _
    rw [← hmx]
    show Steps p.tables e below (s₁.setTop (mkF m 22 #[.val (.int p1), .val (.int p2), .val (.int mn), .unset, .unset, .unset, .unset, .unset] [(.int mx)])) _
    refine XS.istoreN X0.here hx rfl (hb hby at_22) rfl (l' := #[.val (.int p1), .val (.int p2), .val (.int mn), .val (.int mx), .unset, .unset, .unset, .unset]) rfl ?_
    show Steps p.tables e below (s₁.setTop (mkF m 23 #[.val (.int p1), .val (.int p2), .val (.int mn), .val (.int mx), .unset, .unset, .unset, .unset] [])) _
    refine st1 _ ?_
    show Steps p.tables e below (T1.setTop (mkF m 26 #[.val (.int p1), .val (.int p2), .val (.int mn), .val (.int mx), .unset, .unset, .unset, .unset] [(.ref nd)])) _
    refine XS.dup X1.here hx rfl (hb hby at_26) rfl rfl ?_
    show Steps p.tables e below (T1.setTop (mkF m 27 #[.val (.int p1), .val (.int p2), .val (.int mn), .val (.int mx), .unset, .unset, .unset, .unset] [(.ref nd), (.ref nd)])) _
    refine XS.iloadN X1.here hx rfl (hb hby at_27) rfl ?_
    show Steps p.tables e below (T1.setTop (mkF m 28 #[.val (.int p1), .val (.int p2), .val (.int mn), .val (.int mx), .unset, .unset, .unset, .unset] [(.int mn), (.ref nd), (.ref nd)])) _
    refine XS.iloadN X1.here hx rfl (hb hby at_28) rfl ?_
    show Steps p.tables e below (T1.setTop (mkF m 29 #[.val (.int p1), .val (.int p2), .val (.int mn), .val (.int mx), .unset, .unset, .unset, .unset] [(.int mx), (.int mn), (.ref nd), (.ref nd)])) _
    refine st2.trans ?_
    show Steps p.tables e below (T2.setTop (mkF m 32 #[.val (.int p1), .val (.int p2), .val (.int mn), .val (.int mx), .unset, .unset, .unset, .unset] [(.ref nd)])) _
    refine XS.astore X2.here hx rfl (hb hby at_32) rfl rfl (l' := #[.val (.int p1), .val (.int p2), .val (.int mn), .val (.int mx), .val (.ref nd), .unset, .unset, .unset]) rfl ?_
    show Steps p.tables e below (T2.setTop (mkF m 34 #[.val (.int p1), .val (.int p2), .val (.int mn), .val (.int mx), .val (.ref nd), .unset, .unset, .unset] [])) _
    refine XS.aload X2.here hx rfl (hb hby at_34) rfl rfl ?_
    show Steps p.tables e below (T2.setTop (mkF m 36 #[.val (.int p1), .val (.int p2), .val (.int mn), .val (.int mx), .val (.ref nd), .unset, .unset, .unset] [(.ref nd)])) _
    refine st3.trans ?_
    show Steps p.tables e below (T3.setTop (mkF m 39 #[.val (.int p1), .val (.int p2), .val (.int mn), .val (.int mx), .val (.ref nd), .unset, .unset, .unset] [(.ref str)])) _
    refine XS.astore X3.here hx rfl (hb hby at_39) rfl rfl (l' := #[.val (.int p1), .val (.int p2), .val (.int mn), .val (.int mx), .val (.ref nd), .val (.ref str), .unset, .unset]) rfl ?_
    show Steps p.tables e below (T3.setTop (mkF m 41 #[.val (.int p1), .val (.int p2), .val (.int mn), .val (.int mx), .val (.ref nd), .val (.ref str), .unset, .unset] [])) _
    refine XS.aload X3.here hx rfl (hb hby at_41) rfl rfl ?_
    show Steps p.tables e below (T3.setTop (mkF m 43 #[.val (.int p1), .val (.int p2), .val (.int mn), .val (.int mx), .val (.ref nd), .val (.ref str), .unset, .unset] [(.ref str)])) _
    refine XT.nonnullYes X3.here hx rfl (pc0 := 43) (pc' := 48) rfl (hb hby at_43) rfl rfl (by simp) (by decide) (by decide) ?_
    show Steps p.tables e below (T3.setTop (mkF m 48 #[.val (.int p1), .val (.int p2), .val (.int mn), .val (.int mx), .val (.ref nd), .val (.ref str), .unset, .unset] [])) _
    refine XS.iloadN X3.here hx rfl (hb hby at_48) rfl ?_
    show Steps p.tables e below (T3.setTop (mkF m 49 #[.val (.int p1), .val (.int p2), .val (.int mn), .val (.int mx), .val (.ref nd), .val (.ref str), .unset, .unset] [(.int mn)])) _
    refine st4 _ ?_
    show Steps p.tables e below (T4.setTop (mkF m 52 #[.val (.int p1), .val (.int p2), .val (.int mn), .val (.int mx), .val (.ref nd), .val (.ref str), .unset, .unset] [(.int (own_sz mn))])) _
    rw [← hs1]
    show Steps p.tables e below (T4.setTop (mkF m 52 #[.val (.int p1), .val (.int p2), .val (.int mn), .val (.int mx), .val (.ref nd), .val (.ref str), .unset, .unset] [(.int s1)])) _
    refine XS.istore X4.here hx rfl (hb hby at_52) rfl (l' := #[.val (.int p1), .val (.int p2), .val (.int mn), .val (.int mx), .val (.ref nd), .val (.ref str), .val (.int s1), .unset]) rfl ?_
    show Steps p.tables e below (T4.setTop (mkF m 54 #[.val (.int p1), .val (.int p2), .val (.int mn), .val (.int mx), .val (.ref nd), .val (.ref str), .val (.int s1), .unset] [])) _
    refine XS.iloadN X4.here hx rfl (hb hby at_54) rfl ?_
    show Steps p.tables e below (T4.setTop (mkF m 55 #[.val (.int p1), .val (.int p2), .val (.int mn), .val (.int mx), .val (.ref nd), .val (.ref str), .val (.int s1), .unset] [(.int mx)])) _
    refine st5 _ ?_
    show Steps p.tables e below (T5.setTop (mkF m 58 #[.val (.int p1), .val (.int p2), .val (.int mn), .val (.int mx), .val (.ref nd), .val (.ref str), .val (.int s1), .unset] [(.int (own_sz mx))])) _
    rw [← hs2]
    show Steps p.tables e below (T5.setTop (mkF m 58 #[.val (.int p1), .val (.int p2), .val (.int mn), .val (.int mx), .val (.ref nd), .val (.ref str), .val (.int s1), .unset] [(.int s2)])) _
    refine XS.istore X5.here hx rfl (hb hby at_58) rfl (l' := #[.val (.int p1), .val (.int p2), .val (.int mn), .val (.int mx), .val (.ref nd), .val (.ref str), .val (.int s1), .val (.int s2)]) rfl ?_
    show Steps p.tables e below (T5.setTop (mkF m 60 #[.val (.int p1), .val (.int p2), .val (.int mn), .val (.int mx), .val (.ref nd), .val (.ref str), .val (.int s1), .val (.int s2)] [])) _
    refine XS.aload X5.here hx rfl (hb hby at_60) rfl rfl ?_
    show Steps p.tables e below (T5.setTop (mkF m 62 #[.val (.int p1), .val (.int p2), .val (.int mn), .val (.int mx), .val (.ref nd), .val (.ref str), .val (.int s1), .val (.int s2)] [(.ref str)])) _
    refine st6.trans ?_
    show Steps p.tables e below (T6.setTop (mkF m 65 #[.val (.int p1), .val (.int p2), .val (.int mn), .val (.int mx), .val (.ref nd), .val (.ref str), .val (.int s1), .val (.int s2)] [(.int len)])) _
    refine XS.iload X6.here hx rfl (hb hby at_65) rfl ?_
    show Steps p.tables e below (T6.setTop (mkF m 67 #[.val (.int p1), .val (.int p2), .val (.int mn), .val (.int mx), .val (.ref nd), .val (.ref str), .val (.int s1), .val (.int s2)] [(.int s1), (.int len)])) _
    refine XT.iconstV X6.here hx rfl (2 : Int32) (hb hby at_67) (by decide) ?_
    show Steps p.tables e below (T6.setTop (mkF m 68 #[.val (.int p1), .val (.int p2), .val (.int mn), .val (.int mx), .val (.ref nd), .val (.ref str), .val (.int s1), .val (.int s2)] [(.int (2 : Int32)), (.int s1), (.int len)])) _
    refine XS.iadd X6.here hx rfl (hb hby at_68) rfl ?_
    show Steps p.tables e below (T6.setTop (mkF m 69 #[.val (.int p1), .val (.int p2), .val (.int mn), .val (.int mx), .val (.ref nd), .val (.ref str), .val (.int s1), .val (.int s2)] [(.int (s1 + (2 : Int32))), (.int len)])) _
    rw [← hu2]
    show Steps p.tables e below (T6.setTop (mkF m 69 #[.val (.int p1), .val (.int p2), .val (.int mn), .val (.int mx), .val (.ref nd), .val (.ref str), .val (.int s1), .val (.int s2)] [(.int u2), (.int len)])) _
    refine XS.iload X6.here hx rfl (hb hby at_69) rfl ?_
    show Steps p.tables e below (T6.setTop (mkF m 71 #[.val (.int p1), .val (.int p2), .val (.int mn), .val (.int mx), .val (.ref nd), .val (.ref str), .val (.int s1), .val (.int s2)] [(.int s2), (.int u2), (.int len)])) _
    refine XS.iadd X6.here hx rfl (hb hby at_71) rfl ?_
    show Steps p.tables e below (T6.setTop (mkF m 72 #[.val (.int p1), .val (.int p2), .val (.int mn), .val (.int mx), .val (.ref nd), .val (.ref str), .val (.int s1), .val (.int s2)] [(.int (u2 + s2)), (.int len)])) _
    refine XS.icmpYes X6.here hx rfl (pc0 := 72) (pc' := 77) rfl (hb hby at_72) rfl (teq lnI).1 (by decide) (by decide) ?_
    show Steps p.tables e below (T6.setTop (mkF m 77 #[.val (.int p1), .val (.int p2), .val (.int mn), .val (.int mx), .val (.ref nd), .val (.ref str), .val (.int s1), .val (.int s2)] [])) _
    refine XS.aload X6.here hx rfl (hb hby at_77) rfl rfl ?_
    show Steps p.tables e below (T6.setTop (mkF m 79 #[.val (.int p1), .val (.int p2), .val (.int mn), .val (.int mx), .val (.ref nd), .val (.ref str), .val (.int s1), .val (.int s2)] [(.ref str)])) _
    refine XS.iload X6.here hx rfl (hb hby at_79) rfl ?_
    show Steps p.tables e below (T6.setTop (mkF m 81 #[.val (.int p1), .val (.int p2), .val (.int mn), .val (.int mx), .val (.ref nd), .val (.ref str), .val (.int s1), .val (.int s2)] [(.int s1), (.ref str)])) _
    refine st7.trans ?_
    show Steps p.tables e below (T7.setTop (mkF m 84 #[.val (.int p1), .val (.int p2), .val (.int mn), .val (.int mx), .val (.ref nd), .val (.ref str), .val (.int s1), .val (.int s2)] [(.int (46 : Int32))])) _
    refine XT.bipushV X7.here hx rfl (46 : Int32) (hb hby at_84) (by decide) ?_
    show Steps p.tables e below (T7.setTop (mkF m 86 #[.val (.int p1), .val (.int p2), .val (.int mn), .val (.int mx), .val (.ref nd), .val (.ref str), .val (.int s1), .val (.int s2)] [(.int (46 : Int32)), (.int (46 : Int32))])) _
    refine XS.icmpNo X7.here hx rfl (hb hby at_86) rfl (by decide) ?_
    show Steps p.tables e below (T7.setTop (mkF m 89 #[.val (.int p1), .val (.int p2), .val (.int mn), .val (.int mx), .val (.ref nd), .val (.ref str), .val (.int s1), .val (.int s2)] [])) _
    refine XS.aload X7.here hx rfl (hb hby at_89) rfl rfl ?_
    show Steps p.tables e below (T7.setTop (mkF m 91 #[.val (.int p1), .val (.int p2), .val (.int mn), .val (.int mx), .val (.ref nd), .val (.ref str), .val (.int s1), .val (.int s2)] [(.ref str)])) _
    refine XS.iload X7.here hx rfl (hb hby at_91) rfl ?_
    show Steps p.tables e below (T7.setTop (mkF m 93 #[.val (.int p1), .val (.int p2), .val (.int mn), .val (.int mx), .val (.ref nd), .val (.ref str), .val (.int s1), .val (.int s2)] [(.int s1), (.ref str)])) _
    refine XT.iconstV X7.here hx rfl (1 : Int32) (hb hby at_93) (by decide) ?_
    show Steps p.tables e below (T7.setTop (mkF m 94 #[.val (.int p1), .val (.int p2), .val (.int mn), .val (.int mx), .val (.ref nd), .val (.ref str), .val (.int s1), .val (.int s2)] [(.int (1 : Int32)), (.int s1), (.ref str)])) _
    refine XS.iadd X7.here hx rfl (hb hby at_94) rfl ?_
    show Steps p.tables e below (T7.setTop (mkF m 95 #[.val (.int p1), .val (.int p2), .val (.int mn), .val (.int mx), .val (.ref nd), .val (.ref str), .val (.int s1), .val (.int s2)] [(.int (s1 + (1 : Int32))), (.ref str)])) _
    rw [← hu1]
    show Steps p.tables e below (T7.setTop (mkF m 95 #[.val (.int p1), .val (.int p2), .val (.int mn), .val (.int mx), .val (.ref nd), .val (.ref str), .val (.int s1), .val (.int s2)] [(.int u1), (.ref str)])) _
    refine st8.trans ?_
    show Steps p.tables e below (T8.setTop (mkF m 98 #[.val (.int p1), .val (.int p2), .val (.int mn), .val (.int mx), .val (.ref nd), .val (.ref str), .val (.int s1), .val (.int s2)] [(.int (46 : Int32))])) _
    refine XT.bipushV X8.here hx rfl (46 : Int32) (hb hby at_98) (by decide) ?_
    show Steps p.tables e below (T8.setTop (mkF m 100 #[.val (.int p1), .val (.int p2), .val (.int mn), .val (.int mx), .val (.ref nd), .val (.ref str), .val (.int s1), .val (.int s2)] [(.int (46 : Int32)), (.int (46 : Int32))])) _
    refine XS.icmpYes X8.here hx rfl (pc0 := 100) (pc' := 105) rfl (hb hby at_100) rfl (by decide) (by decide) (by decide) ?_
    show Steps p.tables e below (T8.setTop (mkF m 105 #[.val (.int p1), .val (.int p2), .val (.int mn), .val (.int mx), .val (.ref nd), .val (.ref str), .val (.int s1), .val (.int s2)] [])) _
    refine XS.aload X8.here hx rfl (hb hby at_105) rfl rfl ?_
    show Steps p.tables e below (T8.setTop (mkF m 107 #[.val (.int p1), .val (.int p2), .val (.int mn), .val (.int mx), .val (.ref nd), .val (.ref str), .val (.int s1), .val (.int s2)] [(.ref str)])) _
    refine XT.iconstV X8.here hx rfl (0 : Int32) (hb hby at_107) (by decide) ?_
    show Steps p.tables e below (T8.setTop (mkF m 108 #[.val (.int p1), .val (.int p2), .val (.int mn), .val (.int mx), .val (.ref nd), .val (.ref str), .val (.int s1), .val (.int s2)] [(.int (0 : Int32)), (.ref str)])) _
    refine XS.iloadN X8.here hx rfl (hb hby at_108) rfl ?_
    show Steps p.tables e below (T8.setTop (mkF m 109 #[.val (.int p1), .val (.int p2), .val (.int mn), .val (.int mx), .val (.ref nd), .val (.ref str), .val (.int s1), .val (.int s2)] [(.int mn), (.int (0 : Int32)), (.ref str)])) _
    refine st9 _ ?_
    show Steps p.tables e below (T9.setTop (mkF m 112 #[.val (.int p1), .val (.int p2), .val (.int mn), .val (.int mx), .val (.ref nd), .val (.ref str), .val (.int s1), .val (.int s2)] [(.int (1 : Int32))])) _
    refine XS.ifNo X9.here hx rfl (hb hby at_112) rfl (by decide) ?_
    show Steps p.tables e below (T9.setTop (mkF m 115 #[.val (.int p1), .val (.int p2), .val (.int mn), .val (.int mx), .val (.ref nd), .val (.ref str), .val (.int s1), .val (.int s2)] [])) _
    refine XS.aload X9.here hx rfl (hb hby at_115) rfl rfl ?_
    show Steps p.tables e below (T9.setTop (mkF m 117 #[.val (.int p1), .val (.int p2), .val (.int mn), .val (.int mx), .val (.ref nd), .val (.ref str), .val (.int s1), .val (.int s2)] [(.ref str)])) _
    refine XS.iload X9.here hx rfl (hb hby at_117) rfl ?_
    show Steps p.tables e below (T9.setTop (mkF m 119 #[.val (.int p1), .val (.int p2), .val (.int mn), .val (.int mx), .val (.ref nd), .val (.ref str), .val (.int s1), .val (.int s2)] [(.int s1), (.ref str)])) _
    refine XT.iconstV X9.here hx rfl (2 : Int32) (hb hby at_119) (by decide) ?_
    show Steps p.tables e below (T9.setTop (mkF m 120 #[.val (.int p1), .val (.int p2), .val (.int mn), .val (.int mx), .val (.ref nd), .val (.ref str), .val (.int s1), .val (.int s2)] [(.int (2 : Int32)), (.int s1), (.ref str)])) _
    refine XS.iadd X9.here hx rfl (hb hby at_120) rfl ?_
    show Steps p.tables e below (T9.setTop (mkF m 121 #[.val (.int p1), .val (.int p2), .val (.int mn), .val (.int mx), .val (.ref nd), .val (.ref str), .val (.int s1), .val (.int s2)] [(.int (s1 + (2 : Int32))), (.ref str)])) _
    rw [← hu2]
    show Steps p.tables e below (T9.setTop (mkF m 121 #[.val (.int p1), .val (.int p2), .val (.int mn), .val (.int mx), .val (.ref nd), .val (.ref str), .val (.int s1), .val (.int s2)] [(.int u2), (.ref str)])) _
    refine XS.iloadN X9.here hx rfl (hb hby at_121) rfl ?_
    show Steps p.tables e below (T9.setTop (mkF m 122 #[.val (.int p1), .val (.int p2), .val (.int mn), .val (.int mx), .val (.ref nd), .val (.ref str), .val (.int s1), .val (.int s2)] [(.int mx), (.int u2), (.ref str)])) _
    refine st10 _ ?_
    show Steps p.tables e below (T10.setTop (mkF m 125 #[.val (.int p1), .val (.int p2), .val (.int mn), .val (.int mx), .val (.ref nd), .val (.ref str), .val (.int s1), .val (.int s2)] [(.int (1 : Int32))])) _
    refine XS.ifNo X10.here hx rfl (hb hby at_125) rfl (by decide) ?_
    show Steps p.tables e below (T10.setTop (mkF m 128 #[.val (.int p1), .val (.int p2), .val (.int mn), .val (.int mx), .val (.ref nd), .val (.ref str), .val (.int s1), .val (.int s2)] [])) _
    refine XT.iconstV X10.here hx rfl (1 : Int32) (hb hby at_128) (by decide) ?_
    show Steps p.tables e below (T10.setTop (mkF m 129 #[.val (.int p1), .val (.int p2), .val (.int mn), .val (.int mx), .val (.ref nd), .val (.ref str), .val (.int s1), .val (.int s2)] [(.int (1 : Int32))])) _
    refine XS.goto X10.here hx rfl (pc0 := 129) (pc' := 133) rfl (hb hby at_129) (by decide) (by decide) ?_
    show Steps p.tables e below (T10.setTop (mkF m 133 #[.val (.int p1), .val (.int p2), .val (.int mn), .val (.int mx), .val (.ref nd), .val (.ref str), .val (.int s1), .val (.int s2)] [(.int (1 : Int32))])) _
    exact retN X10 hx (t := .boolean) Bd.returns (by simp) (hb hby at_133) hr
  · exact ⟨rfl, N10⟩
theorem own_stuck {g : Nat → Option Bool} {x : Option Bool} (hx : x ≠ some true) : ∀ l : List Nat, l.foldl (fun acc i => match acc with | some true => g i | x => x) x = x
  | [] => rfl
  | a :: l => by
    have h : (match x with | some true => g a | x => x) = x := by
      rcases x with _ | b
      · rfl
      · cases b
        · rfl
        · exact absurd rfl hx
    simp only [List.foldl_cons, h]
    exact own_stuck hx l
theorem own_fold {g : Nat → Option Bool} : ∀ l : List Nat, l.foldl (fun acc i => match acc with | some true => g i | x => x) (some true) = some true → ∀ i ∈ l, g i = some true
  | [], _, i, hi => nomatch hi
  | a :: l, h, i, hi => by
    simp only [List.foldl_cons] at h
    by_cases ha : g a = some true
    · rcases List.mem_cons.mp hi with rfl | hi
      · exact ha
      · rw [ha] at h; exact own_fold l h i hi
    · rw [own_stuck ha l] at h; exact absurd h ha
theorem own_allv {Z : State} {args : Array Value} {t : Term} {c : Jvm.Cond} {a : Addr} {cl : Cell} (ev : t.eval args Z none [] Z = some (.ref a)) (ha : Z.arrayAt? a = some cl) (h : (Jvm.Cond.all t c).value args Z none Z [] = some true) (i : Nat) (hi : i < cl.slots.size) : c.value args Z none Z [i] = some true := by
  simp only [Cond.value, ev, ha] at h
  exact own_fold _ h i (List.mem_range.mpr hi)
theorem own_arrB {Z : State} {args : Array Value} {t : Term} {a : Addr} (ev : t.eval args Z none [] Z = some (.ref a)) (hx : (Jvm.Cond.exactly t "[B").value args Z none Z [] = some true) (wa : (Jvm.Cond.arrayClass .byte).before args Z = true) (hl : (Jvm.Cond.eq (.length t) (.int 100)).value args Z none Z [] = some true) :
    ∃ cl, Arr Z Z.heap a cl .byte ∧ Z.arrayAt? a = some cl ∧ cl.slots.size = 100 := by
  obtain ⟨x, y, e1, e2, -, -⟩ := cmp_v (Or.inl hl)
  cases hA : Z.arrayAt? a with
  | none => simp [Term.eval, ev, hA] at e1
  | some cl =>
    have hlt : cl.slots.size < 2 ^ 31 := by
      refine Classical.byContradiction fun q => ?_
      simp [Term.eval, ev, hA, q] at e1
    have hsz : cl.slots.size.toInt32 = 100 := gotT (Cond.eq_ints (len_f ev hA hlt) (Term.int_eval 100)) hl
    have hs2 : cl.slots.size = 100 := by
      have := len_toInt hlt
      rw [hsz, own_p100] at this
      omega
    obtain ⟨cell, k, g1, g2, g3, g4, -⟩ := Exa.start ev hx
    obtain ⟨cB, kB, comp, b1, b2, b3⟩ := Cond.arrayClass_spec wa
    have b1 : Z.vm.findClass "[B" = some cB := b1
    have hA' := hA
    simp only [State.arrayAt?, g1, g3, Option.bind_eq_bind, Option.bind_some] at hA'
    split at hA'
    · cases hA'
    · rename_i hno
      have : cell = cl := by
        revert hA'
        cases k.kind <;> intro hA' <;> first | exact Option.some.inj hA' | cases hA'
      subst this
      have e : cB = cell.cls := Option.some.inj (b1.symm.trans g2)
      subst e
      exact ⟨cell, ⟨g1, ⟨fun q hq => hno (Or.inr (by rw [hq]; rfl)), kB, b2, comp, b3⟩, fun q => hno (Or.inl q)⟩, rfl, hs2⟩
theorem own_tabE {Z : State} {args : Array Value} {C n d : String} {B : Term} {a : Addr} {cl : Cell} {r w : Int32} (ev : (Term.static C n d).eval args Z none [] Z = some (.ref a)) (A : Arr Z Z.heap a cl .byte) (ha : Z.arrayAt? a = some cl) (hs : cl.slots.size = 100)
    (h : (Jvm.Cond.all (.static C n d) (.eq (.elem (.static C n d) (.index 0)) B)).value args Z none Z [] = some true) (h0 : 0 ≤ r.toInt) (h1 : r.toInt < 100) (hB : B.eval args Z none [r.toNatClampNeg] Z = some (.int w)) : ¬ (r < 0 ∨ cl.slots.size ≤ r.toNatClampNeg) ∧ cl.slots[r.toNatClampNeg]? = some (.int w) := by
  have hn : ¬ r < 0 := own_le (by rw [own_p0]; omega)
  have hk : r.toNatClampNeg < 100 := by
    have := nat_of hn
    generalize r.toNatClampNeg = q at *; generalize r.toInt = z at *; omega
  refine ⟨fun q => q.elim hn fun q => by omega, ?_⟩
  have hv := own_allv ev ha h r.toNatClampNeg (by omega)
  obtain ⟨x, y, e1, e2, -, K⟩ := cmp_v (Or.inl hv)
  cases e2.symm.trans hB
  obtain ⟨z, rfl⟩ := K
  have q : z = w := gotT (Cond.eq_ints e1 e2) hv
  subst q
  exact (elem_in e1 (show (Term.static C n d).eval args Z none [r.toNatClampNeg] Z = some (.ref a) from ev) (idx_at hn) A.1).2
theorem own_idx {Z : State} {args : Array Value} {r : Int32} (h0 : 0 ≤ r.toInt) : (Term.add (.int 48) (.rem (.index 0) (.int 10))).eval args Z none [r.toNatClampNeg] Z = some (.int (48 + r % 10)) ∧ (Term.add (.int 48) (.div (.index 0) (.int 10))).eval args Z none [r.toNatClampNeg] Z = some (.int (48 + r / 10)) := by
  have hn : ¬ r < 0 := own_le (by rw [own_p0]; omega)
  have hb : r.toNatClampNeg.toInt32 = r := (back32 hn).1
  constructor
  · simp [Term.eval, hb]
  · simp [Term.eval, hb]
set_option maxRecDepth 65536 in
set_option maxHeartbeats 40000000 in
theorem comes_1 {Post : Tables → Env → Array Value → State → Outcome → State → Prop} (hpost : ∀ tb e args s v u, (limb_1_1.after args s (.returned v) u = true ∧ limb_1_2.after args s (.returned v) u = true ∧ True) → ReturnedEndW s (.returned v) u (Jvm.fieldLocs frame_1_writes args s ++ Jvm.arrayLocs frame_1_arrays args s ++ Jvm.staticLocs frame_1_statics s) 24 1216 → Post tb e args s (.returned v) u) :
    ArmFor flags0 classFile x code maxLocals ret World_1 tables_1 room_1 Calls_1 rest_1 Pre_1 Post := by
  intro l hfl _ _ p e ha hc hk s m args below hf hA hF happ hP
  obtain ⟨hcalls, hrest, hpre⟩ := hP
  obtain ⟨-, -, -, hnamed, -, -, -, hat⟩ := (Spec.applies_iff hf).mp happ
  obtain ⟨hg, hn⟩ := and_e (Cond.before_iff.mp (show (Jvm.Cond.and given_1 narrow_1).before args s = true from hpre))
  obtain ⟨hg1, hg2⟩ := and_e hg
  obtain ⟨w0, w1, rfl⟩ : ∃ w0 w1 : Value, args = #[w0, w1] := by
    have hs : args.size = 2 := by simpa [Cond.value, given_1] using hg1
    obtain ⟨L⟩ := args
    match L, hs with
    | [w0, w1], _ => exact ⟨w0, w1, rfl⟩
  have hw := fun d (hd : d ∈ tables_1) => atoms_spec (ws := Jvm.Cond.code x code maxLocals ret :: tables_1) hat d (List.mem_cons_of_mem _ hd)
  have hfit : Fit s := fun {y c} hc i hi => by
    obtain ⟨ha, rfl⟩ := Array.getElem?_eq_some_iff.mp hc
    have q := List.all_eq_true.mp ((Array.all_eq_true_iff_forall_mem.mp hF) _ (Array.getElem_mem ha)) i (List.mem_range.mpr hi)
    simpa [Array.getElem?_eq_getElem hi] using q
  obtain ⟨ga0, gr0⟩ := and_e hg2
  obtain ⟨i0, ev0⟩ := is_v ga0
  obtain rfl : w0 = (.int i0) := Option.some.inj ev0
  obtain ⟨i1, ev1⟩ := is_v gr0
  obtain rfl : w1 = (.int i1) := Option.some.inj ev1
  obtain ⟨hsets, -⟩ := atoms_of _ (rest_1_c_eq ▸ (show rest_1_c.before _ s = true from hrest))
  obtain ⟨zc, evc⟩ := is_v (Cond.before_iff.mp (hsets _ (List.mem_of_getElem? (i := 1) rfl)))
  have SC := Sta.start evc (Or.inl (hsets _ (List.mem_of_getElem? (i := 0) rfl)))
  have hzc : ¬ zc = 0 := gotF (Cond.eq_ints evc (Term.int_eval 0)) (not_v (Cond.before_iff.mp (hsets _ (List.mem_of_getElem? (i := 2) rfl))))
  obtain ⟨vF, evF, hF'⟩ := isR_v (Cond.before_iff.mp (hsets _ (List.mem_of_getElem? (i := 8) rfl)))
  have SF := Sta.start evF (Or.inl (hsets _ (List.mem_of_getElem? (i := 7) rfl)))
  obtain ⟨dO, evO⟩ := exa_v (Cond.before_iff.mp (hsets _ (List.mem_of_getElem? (i := 12) rfl)))
  obtain ⟨cO, AO, AO', sO⟩ := own_arrB evO (Cond.before_iff.mp (hsets _ (List.mem_of_getElem? (i := 12) rfl))) (hw _ (List.mem_of_getElem? (i := 37) rfl)) (Cond.before_iff.mp (hsets _ (List.mem_of_getElem? (i := 13) rfl)))
  have TO : own_O s dO cO := ⟨Sta.start evO (Or.inl (hsets _ (List.mem_of_getElem? (i := 11) rfl))), AO, fun r q0 q1 => own_tabE evO AO AO' sO (Cond.before_iff.mp (hsets _ (List.mem_of_getElem? (i := 14) rfl))) q0 q1 (own_idx q0).1⟩
  obtain ⟨dT, evT⟩ := exa_v (Cond.before_iff.mp (hsets _ (List.mem_of_getElem? (i := 17) rfl)))
  obtain ⟨cT, AT, AT', sT⟩ := own_arrB evT (Cond.before_iff.mp (hsets _ (List.mem_of_getElem? (i := 17) rfl))) (hw _ (List.mem_of_getElem? (i := 37) rfl)) (Cond.before_iff.mp (hsets _ (List.mem_of_getElem? (i := 18) rfl)))
  have TT : own_T s dT cT := ⟨Sta.start evT (Or.inl (hsets _ (List.mem_of_getElem? (i := 16) rfl))), AT, fun r q0 q1 => own_tabE evT AT AT' sT (Cond.before_iff.mp (hsets _ (List.mem_of_getElem? (i := 19) rfl))) q0 q1 (own_idx q0).2⟩
  have hCH : CHv s consts_1 s.vm s.heap := CHv.start (EW.cons (own := "com/example/head_count/headcount/NodeIdRange") (index := 35) (hw _ (List.mem_of_getElem? (i := 72) rfl)) (by decide) EW.nil) (fun q hq => hcalls.1 q hq) (hsets _ (List.mem_of_getElem? (i := 2) rfl)) (hw _ (List.mem_of_getElem? (i := 37) rfl)) (hw _ (List.mem_of_getElem? (i := 73) rfl))
  obtain ⟨n, o, h1, h2, h3, _, L, rfl, ⟨rfl, N⟩, hq⟩ := law_0 l s _ hw tables_1 i0 i1 vF zc dO dT cO cT s.heap s.heap.size (Nat.le_refl _) (Old.start s) SF hF' SC hzc TO TT p e ha hc hk s m _ below hf ((Spec.applies_iff_loose hf).mp happ).1 ⟨rfl, State.Warmed39.refl s, rfl, hCH⟩ trivial
  refine ⟨n, _, h1, h2, h3, hpost _ _ _ _ _ _ ⟨Cond.after_iff.mpr rfl, Cond.after_iff.mpr (eq_i res_at (Term.int_eval (1)) rfl), trivial⟩ ⟨hq.1, hq.2.1, hq.2.2.1, (hq.2.2.2.sift fun y hy => Or.inr (N y hy)).mono (by decide) (by decide)⟩⟩
theorem main_1_1 : Claimed_1_1 := comes_1 fun _ _ _ _ _ _ h hF => ⟨h.1, hF⟩
theorem main_1_2 : Claimed_1_2 := comes_1 fun _ _ _ _ _ _ h hF => ⟨h.2.1, hF⟩
end Jvm.Pilot.@@N@@
namespace Jvm.Pilot.@@N@@
open Jvm Jvm.ClassFile Sem Op Lib Jvm.Free Jvm.Stand Jvm.Pilot.@@N@@.Jvm.D
/-! MADE BY PROGRAM (witnessworld.py) out of the Statement's table words and the real class files: 25 classes; the members and pool entries that the words name. The judged class is class 1, her method 3. -/
namespace start1
open Jvm.ClassFile
def u (s : String) : CpInfo := .utf8 (stringToUtf16 s)
/-- a pool by its gaps: so many unusable entries, then the entry; so many at the end -/
def gap : Nat → List CpInfo → List CpInfo
  | 0, r => r
  | n + 1, r => .unusable :: gap n r
def poolList (es : List (Nat × CpInfo)) (last : Nat) : List CpInfo := es.foldr (fun e r => gap e.1 (e.2 :: r)) (gap last [])
def pool (es : List (Nat × CpInfo)) (last : Nat) : Array CpInfo := ⟨poolList es last⟩
def fileOf (pool : Array CpInfo) (this : Nat) (attrs : Array Attribute := #[]) (ms : Array MethodInfo := #[]) (fl : Nat := 33) (sup : Nat := 0) (ifs : Array Nat := #[]) (fds : Array FieldInfo := #[]) : ClassFile where
  minorVersion := 0
  majorVersion := 65
  constantPool := pool
  accessFlags := fl
  thisClass := this
  superClass := sup
  interfaces := ifs
  fields := fds
  methods := ms
  attributes := attrs
def plain (name : String) (sup : Option ClassId) : Class where
  name := name
  kind := .ordinary
  loader := none
  accessFlags := 33
  super := sup
  interfaces := #[]
  cf := none
  fields := #[]
  methods := #[]
  instanceTypes := #[]
  staticTypes := #[]
  resolved := #[]
  callSites := []
  init := .initialized
  statics := none
  mirror := none

def pool0 : Array CpInfo := pool [(5, u "<init>"), (0, u "()V"), (1, .class_ 10), (1, u "java/lang/Object")] 113

def k0c0 : Code := { maxStack := 0, maxLocals := 1, code := object_method_1_code, exceptionTable := #[], attributes := #[] }
def k0m0 : Method := { name := "<init>", desc := "()V", sig := { parameters := [], returnType := none }, accessFlags := 1, code := some k0c0 }
/-- java/lang/Object -/
def k0 : Class := { plain "java/lang/Object" none with
  accessFlags := 33
  interfaces := #[]
  cf := some (fileOf pool0 8 #[] #[{ accessFlags := 1, nameIndex := 5, descriptorIndex := 6, attributes := #[] }] 33 0 #[] #[])
  fields := #[]
  methods := #[k0m0]
  instanceTypes := #[]
  staticTypes := #[]
  resolved := Array.replicate 124 none
  statics := none }

def pool1 : Array CpInfo := pool [(2, .class_ 4), (1, u "java/lang/Object"), (0, u "<init>"), (0, u "()V"), (0, .methodref 8 9), (0, .class_ 10), (0, .nameAndType 11 12), (0, u "com/example/head_count/headcount/NodeIdRangeToStringPinLaw"), (0, u "digits"), (0, u "(I)I"), (0, .methodref 14 15), (0, .class_ 16), (0, .nameAndType 17 18), (0, u "java/lang/String"), (0, u "charAt"), (0, u "(I)C"), (0, .integer 2147483647), (0, .integer 65528), (0, .integer 65536), (0, .class_ 23), (0, u "com/example/head_count/headcount/NodeIdRange"), (0, .methodref 22 25), (0, .nameAndType 5 26), (0, u "(II)V"), (0, .methodref 22 28), (0, .nameAndType 29 30), (0, u "toString"), (0, u "()Ljava/lang/String;"), (0, .methodref 14 32), (0, .nameAndType 33 34), (0, u "length"), (0, u "()I"), (0, .methodref 8 36), (0, .nameAndType 37 38), (0, u "numAt"), (0, u "(Ljava/lang/String;II)Z"), (3, u "law"), (0, u "(II)Z")] 2

def k1m0 : Method := { name := "<init>", desc := "()V", sig := { parameters := [], returnType := none }, accessFlags := 1, code := none }
def k1c1 : Code := { maxStack := 2, maxLocals := 1, code := method_2_code, exceptionTable := #[], attributes := #[] }
def k1m1 : Method := { name := "digits", desc := "(I)I", sig := { parameters := [.int], returnType := some .int }, accessFlags := 10, code := some k1c1 }
def k1c2 : Code := { maxStack := 4, maxLocals := 6, code := method_3_code, exceptionTable := #[], attributes := #[] }
def k1m2 : Method := { name := "numAt", desc := "(Ljava/lang/String;II)Z", sig := { parameters := [(.object "java/lang/String"), .int, .int], returnType := some .boolean }, accessFlags := 10, code := some k1c2 }
def k1c3 : Code := { maxStack := 4, maxLocals := 8, code := code, exceptionTable := #[], attributes := #[] }
def k1m3 : Method := { name := "law", desc := "(II)Z", sig := { parameters := [.int, .int], returnType := some .boolean }, accessFlags := 9, code := some k1c3 }
/-- com/example/head_count/headcount/NodeIdRangeToStringPinLaw -/
def k1 : Class := { plain "com/example/head_count/headcount/NodeIdRangeToStringPinLaw" (some 0) with
  accessFlags := 49
  interfaces := #[]
  cf := some (fileOf pool1 8 #[] #[{ accessFlags := 1, nameIndex := 5, descriptorIndex := 6, attributes := #[] }, { accessFlags := 10, nameIndex := 11, descriptorIndex := 12, attributes := #[] }, { accessFlags := 10, nameIndex := 37, descriptorIndex := 38, attributes := #[] }, { accessFlags := 9, nameIndex := 42, descriptorIndex := 43, attributes := #[] }] 49 2 #[] #[])
  fields := #[]
  methods := #[k1m0, k1m1, k1m2, k1m3]
  instanceTypes := #[]
  staticTypes := #[]
  resolved := Array.replicate 46 none
  statics := none }

def pool2 : Array CpInfo := pool [(1, .methodref 2 3), (0, .class_ 4), (0, .nameAndType 5 6), (0, u "java/lang/Object"), (0, u "<init>"), (0, u "()V"), (0, .class_ 8), (0, u "com/example/head_count/headcount/NodeIdRange"), (2, .class_ 12), (0, u "java/lang/StringBuilder"), (0, .methodref 11 3), (2, .methodref 11 17), (0, .nameAndType 18 19), (0, u "append"), (0, u "(Ljava/lang/String;)Ljava/lang/StringBuilder;"), (0, .methodref 11 21), (0, .nameAndType 18 22), (0, u "(I)Ljava/lang/StringBuilder;"), (0, .methodref 11 24), (0, .nameAndType 25 26), (0, u "toString"), (0, u "()Ljava/lang/String;"), (3, .integer 65535), (4, .string 36), (0, u ".."), (2, .fieldref 7 40), (0, .nameAndType 41 42), (0, u "minId"), (0, u "I"), (0, .fieldref 7 44), (0, .nameAndType 45 42), (0, u "maxId"), (26, u "(II)V"), (2, u "DEFAULT"), (0, u "Lcom/example/head_count/headcount/NodeIdRange;"), (0, u "MIN_CLAIMABLE_ID"), (2, u "MAX_NODE_ID")] 12

def k2c0 : Code := { maxStack := 4, maxLocals := 3, code := prog_15_method_1_code, exceptionTable := #[], attributes := #[] }
def k2m0 : Method := { name := "<init>", desc := "(II)V", sig := { parameters := [.int, .int], returnType := none }, accessFlags := 1, code := some k2c0 }
def k2c1 : Code := { maxStack := 2, maxLocals := 1, code := prog_15_method_6_code, exceptionTable := #[], attributes := #[] }
def k2m1 : Method := { name := "toString", desc := "()Ljava/lang/String;", sig := { parameters := [], returnType := some (.object "java/lang/String") }, accessFlags := 1, code := some k2c1 }
/-- com/example/head_count/headcount/NodeIdRange -/
def k2 : Class := { plain "com/example/head_count/headcount/NodeIdRange" (some 0) with
  accessFlags := 33
  interfaces := #[]
  cf := some (fileOf pool2 7 #[] #[{ accessFlags := 1, nameIndex := 5, descriptorIndex := 72, attributes := #[] }, { accessFlags := 1, nameIndex := 25, descriptorIndex := 26, attributes := #[] }] 33 2 #[] #[{ accessFlags := 25, nameIndex := 77, descriptorIndex := 42, attributes := #[] }, { accessFlags := 25, nameIndex := 80, descriptorIndex := 42, attributes := #[] }, { accessFlags := 25, nameIndex := 75, descriptorIndex := 76, attributes := #[] }, { accessFlags := 18, nameIndex := 41, descriptorIndex := 42, attributes := #[] }, { accessFlags := 18, nameIndex := 45, descriptorIndex := 42, attributes := #[] }])
  fields := #[{ name := "MIN_CLAIMABLE_ID", type := .int, accessFlags := 25, slot := 0, constantValue := 0 }, { name := "MAX_NODE_ID", type := .int, accessFlags := 25, slot := 1, constantValue := 0 }, { name := "DEFAULT", type := (.object "com/example/head_count/headcount/NodeIdRange"), accessFlags := 25, slot := 2, constantValue := 0 }, { name := "minId", type := .int, accessFlags := 18, slot := 0, constantValue := 0 }, { name := "maxId", type := .int, accessFlags := 18, slot := 1, constantValue := 0 }]
  methods := #[k2m0, k2m1]
  instanceTypes := #[.int, .int]
  staticTypes := #[.int, .int, (.object "com/example/head_count/headcount/NodeIdRange")]
  resolved := Array.replicate 93 none
  statics := none }

def pool3 : Array CpInfo := pool [(1, .class_ 2), (0, u "java/lang/Appendable"), (0, .class_ 4), (0, u "java/lang/Object")] 9

/-- java/lang/Appendable -/
def k3 : Class := { plain "java/lang/Appendable" (some 0) with
  accessFlags := 1537
  interfaces := #[]
  cf := some (fileOf pool3 1 #[] #[] 1537 3 #[] #[])
  fields := #[]
  methods := #[]
  instanceTypes := #[]
  staticTypes := #[]
  resolved := Array.replicate 14 none
  statics := none }

def pool4 : Array CpInfo := pool [(2, .class_ 4), (1, u "java/lang/CharSequence"), (42, .class_ 48), (0, u "java/lang/CharSequence$1CodePointIterator"), (10, .class_ 60), (0, u "java/lang/CharSequence$1CharIterator"), (5, .class_ 67), (0, u "java/lang/Object")] 63

/-- java/lang/CharSequence -/
def k4 : Class := { plain "java/lang/CharSequence" (some 0) with
  accessFlags := 1537
  interfaces := #[]
  cf := some (fileOf pool4 2 #[.nestMembers #[47, 59]] #[] 1537 66 #[] #[])
  fields := #[]
  methods := #[]
  instanceTypes := #[]
  staticTypes := #[]
  resolved := Array.replicate 131 none
  statics := none }

def pool5 : Array CpInfo := pool [(1, .class_ 2), (0, u "java/lang/String"), (0, .methodref 4 5), (0, .class_ 6), (0, .nameAndType 7 8), (0, u "java/lang/Object"), (0, u "<init>"), (0, u "()V"), (1, .class_ 12), (1, u "java/lang/AbstractStringBuilder"), (0, u "EMPTYVALUE"), (0, u "[B"), (0, .fieldref 10 16), (0, .nameAndType 17 14), (0, u "value"), (0, .fieldref 1 19), (0, .nameAndType 20 21), (0, u "COMPACT_STRINGS"), (0, u "Z"), (0, .fieldref 10 23), (0, .nameAndType 24 25), (0, u "coder"), (0, u "B"), (6, .methodref 1 33), (0, .nameAndType 34 35), (0, u "length"), (0, u "()I"), (0, .class_ 37), (0, u "java/lang/Integer"), (2, .methodref 1 41), (0, .nameAndType 24 42), (0, u "()B"), (2, u "append"), (0, u "(Ljava/lang/String;)Ljava/lang/AbstractStringBuilder;"), (1, .class_ 49), (0, u "java/lang/CharSequence"), (19, u "(Ljava/lang/String;)V"), (5, u "maybeLatin1"), (3, .fieldref 10 80), (0, .nameAndType 81 82), (0, u "count"), (0, u "I"), (0, .methodref 10 84), (0, .nameAndType 85 86), (0, u "isLatin1"), (0, u "()Z"), (13, .methodref 10 101), (0, .nameAndType 102 103), (0, u "ensureCapacityInternal"), (0, u "(I)V"), (3, u "(I)I"), (80, u "getChars"), (19, .methodref 10 209), (0, .nameAndType 210 211), (0, u "putStringAt"), (0, u "(ILjava/lang/String;)V"), (5, u "inflateIfNeededFor"), (2, .nameAndType 221 222), (0, u "getBytes"), (0, u "([BIB)V"), (22, .methodref 36 246), (0, .nameAndType 247 107), (0, u "stringSize"), (0, .methodref 36 249), (0, .nameAndType 188 250), (0, u "(II[B)I"), (146, .methodref 10 398), (0, .nameAndType 217 69), (0, .methodref 1 220), (3, u "()[B"), (40, .class_ 445), (0, u "java/lang/Appendable"), (65, u "(I)Ljava/lang/AbstractStringBuilder;"), (40, u "getValue")] 56

def k5m0 : Method := { name := "<init>", desc := "()V", sig := { parameters := [], returnType := none }, accessFlags := 0, code := none }
def k5c1 : Code := { maxStack := 2, maxLocals := 2, code := jdk_68_method_2_code, exceptionTable := #[], attributes := #[] }
def k5m1 : Method := { name := "<init>", desc := "(I)V", sig := { parameters := [.int], returnType := none }, accessFlags := 0, code := some k5c1 }
def k5c2 : Code := { maxStack := 1, maxLocals := 1, code := jdk_68_method_6_code, exceptionTable := #[], attributes := #[] }
def k5m2 : Method := { name := "length", desc := "()I", sig := { parameters := [], returnType := some .int }, accessFlags := 1, code := some k5c2 }
def k5c3 : Code := { maxStack := 4, maxLocals := 3, code := jdk_68_method_9_code, exceptionTable := #[], attributes := #[] }
def k5m3 : Method := { name := "ensureCapacityInternal", desc := "(I)V", sig := { parameters := [.int], returnType := none }, accessFlags := 2, code := some k5c3 }
def k5c4 : Code := { maxStack := 3, maxLocals := 3, code := jdk_68_method_22_code, exceptionTable := #[], attributes := #[] }
def k5m4 : Method := { name := "append", desc := "(Ljava/lang/String;)Ljava/lang/AbstractStringBuilder;", sig := { parameters := [(.object "java/lang/String")], returnType := some (.object "java/lang/AbstractStringBuilder") }, accessFlags := 1, code := some k5c4 }
def k5c5 : Code := { maxStack := 4, maxLocals := 4, code := jdk_68_method_32_code, exceptionTable := #[], attributes := #[] }
def k5m5 : Method := { name := "append", desc := "(I)Ljava/lang/AbstractStringBuilder;", sig := { parameters := [.int], returnType := some (.object "java/lang/AbstractStringBuilder") }, accessFlags := 1, code := some k5c5 }
def k5c6 : Code := { maxStack := 1, maxLocals := 1, code := jdk_68_method_64_code, exceptionTable := #[], attributes := #[] }
def k5m6 : Method := { name := "getValue", desc := "()[B", sig := { parameters := [], returnType := some (.array .byte) }, accessFlags := 16, code := some k5c6 }
def k5c7 : Code := { maxStack := 1, maxLocals := 1, code := jdk_68_method_68_code, exceptionTable := #[], attributes := #[] }
def k5m7 : Method := { name := "isLatin1", desc := "()Z", sig := { parameters := [], returnType := some .boolean }, accessFlags := 16, code := some k5c7 }
def k5c8 : Code := { maxStack := 2, maxLocals := 2, code := jdk_68_method_71_code, exceptionTable := #[], attributes := #[] }
def k5m8 : Method := { name := "inflateIfNeededFor", desc := "(Ljava/lang/String;)V", sig := { parameters := [(.object "java/lang/String")], returnType := none }, accessFlags := 2, code := some k5c8 }
def k5c9 : Code := { maxStack := 4, maxLocals := 3, code := jdk_68_method_73_code, exceptionTable := #[], attributes := #[] }
def k5m9 : Method := { name := "putStringAt", desc := "(ILjava/lang/String;)V", sig := { parameters := [.int, (.object "java/lang/String")], returnType := none }, accessFlags := 2, code := some k5c9 }
/-- java/lang/AbstractStringBuilder -/
def k5 : Class := { plain "java/lang/AbstractStringBuilder" (some 0) with
  accessFlags := 1056
  interfaces := #[3, 4]
  cf := some (fileOf pool5 10 #[] #[{ accessFlags := 0, nameIndex := 7, descriptorIndex := 8, attributes := #[] }, { accessFlags := 0, nameIndex := 7, descriptorIndex := 103, attributes := #[] }, { accessFlags := 1, nameIndex := 34, descriptorIndex := 35, attributes := #[] }, { accessFlags := 2, nameIndex := 102, descriptorIndex := 103, attributes := #[] }, { accessFlags := 1, nameIndex := 45, descriptorIndex := 46, attributes := #[] }, { accessFlags := 1, nameIndex := 45, descriptorIndex := 511, attributes := #[] }, { accessFlags := 16, nameIndex := 552, descriptorIndex := 403, attributes := #[] }, { accessFlags := 16, nameIndex := 85, descriptorIndex := 86, attributes := #[] }, { accessFlags := 2, nameIndex := 217, descriptorIndex := 69, attributes := #[] }, { accessFlags := 2, nameIndex := 210, descriptorIndex := 211, attributes := #[] }] 1056 4 #[444, 48] #[{ accessFlags := 0, nameIndex := 17, descriptorIndex := 14, attributes := #[] }, { accessFlags := 0, nameIndex := 24, descriptorIndex := 25, attributes := #[] }, { accessFlags := 0, nameIndex := 75, descriptorIndex := 21, attributes := #[] }, { accessFlags := 0, nameIndex := 81, descriptorIndex := 82, attributes := #[] }, { accessFlags := 26, nameIndex := 13, descriptorIndex := 14, attributes := #[] }])
  fields := #[{ name := "value", type := (.array .byte), accessFlags := 0, slot := 0, constantValue := 0 }, { name := "coder", type := .byte, accessFlags := 0, slot := 1, constantValue := 0 }, { name := "maybeLatin1", type := .boolean, accessFlags := 0, slot := 2, constantValue := 0 }, { name := "count", type := .int, accessFlags := 0, slot := 3, constantValue := 0 }, { name := "EMPTYVALUE", type := (.array .byte), accessFlags := 26, slot := 0, constantValue := 0 }]
  methods := #[k5m0, k5m1, k5m2, k5m3, k5m4, k5m5, k5m6, k5m7, k5m8, k5m9]
  instanceTypes := #[(.array .byte), .byte, .boolean, .int]
  staticTypes := #[(.array .byte)]
  resolved := Array.replicate 609 none
  statics := none }

def pool6 : Array CpInfo := pool [(1, .class_ 2), (0, u "java/io/Serializable"), (0, .class_ 4), (0, u "java/lang/Object")] 2

/-- java/io/Serializable -/
def k6 : Class := { plain "java/io/Serializable" (some 0) with
  accessFlags := 1537
  interfaces := #[]
  cf := some (fileOf pool6 1 #[] #[] 1537 3 #[] #[])
  fields := #[]
  methods := #[]
  instanceTypes := #[]
  staticTypes := #[]
  resolved := Array.replicate 7 none
  statics := none }

def pool7 : Array CpInfo := pool [(1, .class_ 2), (0, u "java/lang/Comparable"), (0, .class_ 4), (0, u "java/lang/Object")] 7

/-- java/lang/Comparable -/
def k7 : Class := { plain "java/lang/Comparable" (some 0) with
  accessFlags := 1537
  interfaces := #[]
  cf := some (fileOf pool7 1 #[] #[] 1537 3 #[] #[])
  fields := #[]
  methods := #[]
  instanceTypes := #[]
  staticTypes := #[]
  resolved := Array.replicate 12 none
  statics := none }

def pool8 : Array CpInfo := pool [(1, .methodref 2 3), (0, .class_ 4), (0, .nameAndType 5 6), (0, u "java/lang/AbstractStringBuilder"), (0, u "<init>"), (0, u "(I)V"), (11, .class_ 20), (1, u "java/lang/String"), (3, .class_ 26), (1, u "java/lang/StringBuilder"), (0, u "append"), (0, u "(Ljava/lang/String;)Ljava/lang/StringBuilder;"), (0, .methodref 2 30), (0, .nameAndType 27 31), (0, u "(Ljava/lang/String;)Ljava/lang/AbstractStringBuilder;"), (21, .methodref 2 54), (0, .nameAndType 27 55), (0, u "(I)Ljava/lang/AbstractStringBuilder;"), (81, .methodref 18 138), (0, .nameAndType 5 139), (0, u "(Ljava/lang/StringBuilder;)V"), (5, u "()V"), (10, u "()I"), (111, u "(I)Ljava/lang/StringBuilder;"), (74, .methodref 2 344), (0, .nameAndType 345 156), (0, u "length"), (3, .class_ 350), (0, u "java/lang/Appendable"), (0, .class_ 352), (0, u "java/io/Serializable"), (0, .class_ 354), (0, u "java/lang/Comparable"), (0, .class_ 356), (0, u "java/lang/CharSequence"), (0, u "serialVersionUID"), (0, u "J"), (40, u "toString"), (0, u "()Ljava/lang/String;")] 21

def k8c0 : Code := { maxStack := 2, maxLocals := 1, code := jdk_67_method_1_code, exceptionTable := #[], attributes := #[] }
def k8m0 : Method := { name := "<init>", desc := "()V", sig := { parameters := [], returnType := none }, accessFlags := 1, code := some k8c0 }
def k8c1 : Code := { maxStack := 2, maxLocals := 2, code := jdk_67_method_7_code, exceptionTable := #[], attributes := #[] }
def k8m1 : Method := { name := "append", desc := "(Ljava/lang/String;)Ljava/lang/StringBuilder;", sig := { parameters := [(.object "java/lang/String")], returnType := some (.object "java/lang/StringBuilder") }, accessFlags := 1, code := some k8c1 }
def k8c2 : Code := { maxStack := 2, maxLocals := 2, code := jdk_67_method_15_code, exceptionTable := #[], attributes := #[] }
def k8m2 : Method := { name := "append", desc := "(I)Ljava/lang/StringBuilder;", sig := { parameters := [.int], returnType := some (.object "java/lang/StringBuilder") }, accessFlags := 1, code := some k8c2 }
def k8c3 : Code := { maxStack := 3, maxLocals := 1, code := jdk_67_method_42_code, exceptionTable := #[], attributes := #[] }
def k8m3 : Method := { name := "toString", desc := "()Ljava/lang/String;", sig := { parameters := [], returnType := some (.object "java/lang/String") }, accessFlags := 1, code := some k8c3 }
def k8c4 : Code := { maxStack := 1, maxLocals := 1, code := jdk_67_method_93_code, exceptionTable := #[], attributes := #[] }
def k8m4 : Method := { name := "length", desc := "()I", sig := { parameters := [], returnType := some .int }, accessFlags := 4161, code := some k8c4 }
/-- java/lang/StringBuilder -/
def k8 : Class := { plain "java/lang/StringBuilder" (some 5) with
  accessFlags := 49
  interfaces := #[3, 6, 7, 4]
  cf := some (fileOf pool8 24 #[] #[{ accessFlags := 1, nameIndex := 5, descriptorIndex := 145, attributes := #[] }, { accessFlags := 1, nameIndex := 27, descriptorIndex := 28, attributes := #[] }, { accessFlags := 1, nameIndex := 27, descriptorIndex := 268, attributes := #[] }, { accessFlags := 1, nameIndex := 399, descriptorIndex := 400, attributes := #[] }, { accessFlags := 4161, nameIndex := 345, descriptorIndex := 156, attributes := #[] }] 49 2 #[349, 351, 353, 355] #[{ accessFlags := 24, nameIndex := 357, descriptorIndex := 358, attributes := #[] }])
  fields := #[{ name := "serialVersionUID", type := .long, accessFlags := 24, slot := 0, constantValue := 0 }]
  methods := #[k8m0, k8m1, k8m2, k8m3, k8m4]
  instanceTypes := #[(.array .byte), .byte, .boolean, .int]
  staticTypes := #[.long]
  resolved := Array.replicate 422 none
  statics := none }

def pool9 : Array CpInfo := pool [(1, .class_ 2), (0, u "java/lang/constant/Constable"), (0, .class_ 4), (0, u "java/lang/Object")] 6

/-- java/lang/constant/Constable -/
def k9 : Class := { plain "java/lang/constant/Constable" (some 0) with
  accessFlags := 1537
  interfaces := #[]
  cf := some (fileOf pool9 1 #[] #[] 1537 3 #[] #[])
  fields := #[]
  methods := #[]
  instanceTypes := #[]
  staticTypes := #[]
  resolved := Array.replicate 11 none
  statics := none }

def pool10 : Array CpInfo := pool [(1, .class_ 2), (0, u "java/lang/constant/ConstantDesc"), (0, .class_ 4), (0, u "java/lang/Object")] 32

/-- java/lang/constant/ConstantDesc -/
def k10 : Class := { plain "java/lang/constant/ConstantDesc" (some 0) with
  accessFlags := 1537
  interfaces := #[]
  cf := some (fileOf pool10 1 #[] #[] 1537 3 #[] #[])
  fields := #[]
  methods := #[]
  instanceTypes := #[]
  staticTypes := #[]
  resolved := Array.replicate 37 none
  statics := none }

def pool11 : Array CpInfo := pool [(1, .methodref 2 3), (0, .class_ 4), (0, .nameAndType 5 6), (0, u "java/lang/Object"), (0, u "<init>"), (0, u "()V"), (2, .fieldref 10 11), (0, .class_ 12), (0, .nameAndType 13 14), (0, u "java/lang/String"), (0, u "value"), (0, u "[B"), (0, .fieldref 10 16), (0, .nameAndType 17 18), (0, u "coder"), (0, u "B"), (2, u "hash"), (0, u "I"), (2, u "hashIsZero"), (0, u "Z"), (11, .fieldref 10 39), (0, .nameAndType 40 26), (0, u "COMPACT_STRINGS"), (13, .methodref 55 56), (0, .class_ 57), (0, .nameAndType 58 59), (0, u "java/util/Arrays"), (0, u "copyOfRange"), (0, u "([BII)[B"), (47, .class_ 109), (1, u "java/lang/StringLatin1"), (32, u "()Z"), (50, .class_ 195), (1, u "java/lang/System"), (16, .methodref 193 213), (0, .nameAndType 214 215), (0, u "arraycopy"), (0, u "(Ljava/lang/Object;ILjava/lang/Object;II)V"), (118, u "()I"), (0, .methodref 10 336), (0, .nameAndType 17 337), (0, u "()B"), (2, u "()[B"), (22, u "([BI)C"), (27, u "(II)V"), (35, u "(I)C"), (61, .methodref 10 490), (0, .nameAndType 5 491), (0, u "(Ljava/lang/AbstractStringBuilder;Ljava/lang/Void;)V"), (0, .methodref 10 493), (0, .nameAndType 494 142), (0, u "isLatin1"), (0, .methodref 107 496), (0, .nameAndType 497 363), (0, u "charAt"), (3, u "checkIndex"), (4, .nameAndType 507 334), (0, u "length"), (24, u "getBytes"), (16, .methodref 550 506), (0, .class_ 551), (0, u "java/lang/AbstractStringBuilder"), (0, .methodref 550 553), (0, .nameAndType 554 340), (0, u "getValue"), (20, .class_ 576), (0, u "java/lang/CharSequence"), (22, u "CASE_INSENSITIVE_ORDER"), (0, u "Ljava/util/Comparator;"), (220, u "([BIB)V"), (225, .methodref 550 493), (5, .fieldref 1054 1055), (0, .class_ 1056), (0, .nameAndType 1057 1058), (0, u "jdk/internal/util/Preconditions"), (0, u "SIOOBE_FORMATTER"), (0, u "Ljava/util/function/BiFunction;"), (0, .methodref 1054 1060), (0, .nameAndType 501 1061), (0, u "(IILjava/util/function/BiFunction;)I"), (39, u "serialPersistentFields"), (0, u "[Ljava/io/ObjectStreamField;"), (0, .class_ 1104), (0, u "java/lang/String$CaseInsensitiveComparator"), (1, .class_ 1107), (0, u "java/io/Serializable"), (0, .class_ 1109), (0, u "java/lang/Comparable"), (0, .class_ 1111), (0, u "java/lang/constant/Constable"), (0, .class_ 1113), (0, u "java/lang/constant/ConstantDesc"), (2, u "serialVersionUID"), (0, u "J"), (3, u "REPL"), (0, u "C"), (2, u "LATIN1"), (1, u "UTF16"), (105, u "(Ljava/lang/StringBuilder;)V")] 217

def k11m0 : Method := { name := "<init>", desc := "()V", sig := { parameters := [], returnType := none }, accessFlags := 1, code := none }
def k11c1 : Code := { maxStack := 3, maxLocals := 2, code := jdk_42_method_53_code, exceptionTable := #[], attributes := #[] }
def k11m1 : Method := { name := "<init>", desc := "(Ljava/lang/StringBuilder;)V", sig := { parameters := [(.object "java/lang/StringBuilder")], returnType := none }, accessFlags := 1, code := some k11c1 }
def k11c2 : Code := { maxStack := 2, maxLocals := 1, code := jdk_42_method_54_code, exceptionTable := #[], attributes := #[] }
def k11m2 : Method := { name := "length", desc := "()I", sig := { parameters := [], returnType := some .int }, accessFlags := 1, code := some k11c2 }
def k11c3 : Code := { maxStack := 2, maxLocals := 2, code := jdk_42_method_56_code, exceptionTable := #[], attributes := #[] }
def k11m3 : Method := { name := "charAt", desc := "(I)C", sig := { parameters := [.int], returnType := some .char }, accessFlags := 1, code := some k11c3 }
def k11c4 : Code := { maxStack := 5, maxLocals := 4, code := jdk_42_method_147_code, exceptionTable := #[], attributes := #[] }
def k11m4 : Method := { name := "getBytes", desc := "([BIB)V", sig := { parameters := [(.array .byte), .int, .byte], returnType := none }, accessFlags := 0, code := some k11c4 }
def k11c5 : Code := { maxStack := 5, maxLocals := 5, code := jdk_42_method_150_code, exceptionTable := #[], attributes := #[] }
def k11m5 : Method := { name := "<init>", desc := "(Ljava/lang/AbstractStringBuilder;Ljava/lang/Void;)V", sig := { parameters := [(.object "java/lang/AbstractStringBuilder"), (.object "java/lang/Void")], returnType := none }, accessFlags := 0, code := some k11c5 }
def k11c6 : Code := { maxStack := 1, maxLocals := 1, code := jdk_42_method_152_code, exceptionTable := #[], attributes := #[] }
def k11m6 : Method := { name := "coder", desc := "()B", sig := { parameters := [], returnType := some .byte }, accessFlags := 0, code := some k11c6 }
def k11c7 : Code := { maxStack := 1, maxLocals := 1, code := jdk_42_method_154_code, exceptionTable := #[], attributes := #[] }
def k11m7 : Method := { name := "isLatin1", desc := "()Z", sig := { parameters := [], returnType := some .boolean }, accessFlags := 0, code := some k11c7 }
def k11c8 : Code := { maxStack := 3, maxLocals := 2, code := jdk_42_method_155_code, exceptionTable := #[], attributes := #[] }
def k11m8 : Method := { name := "checkIndex", desc := "(II)V", sig := { parameters := [.int, .int], returnType := none }, accessFlags := 8, code := some k11c8 }
/-- java/lang/String -/
def k11 : Class := { plain "java/lang/String" (some 0) with
  accessFlags := 49
  interfaces := #[6, 7, 4, 9, 10]
  cf := some (fileOf pool11 10 #[.nestMembers #[1103]] #[{ accessFlags := 1, nameIndex := 5, descriptorIndex := 6, attributes := #[] }, { accessFlags := 1, nameIndex := 5, descriptorIndex := 1233, attributes := #[] }, { accessFlags := 1, nameIndex := 507, descriptorIndex := 334, attributes := #[] }, { accessFlags := 1, nameIndex := 497, descriptorIndex := 427, attributes := #[] }, { accessFlags := 0, nameIndex := 532, descriptorIndex := 821, attributes := #[] }, { accessFlags := 0, nameIndex := 5, descriptorIndex := 491, attributes := #[] }, { accessFlags := 0, nameIndex := 17, descriptorIndex := 337, attributes := #[] }, { accessFlags := 0, nameIndex := 494, descriptorIndex := 142, attributes := #[] }, { accessFlags := 8, nameIndex := 501, descriptorIndex := 391, attributes := #[] }] 49 2 #[1106, 1108, 575, 1110, 1112] #[{ accessFlags := 18, nameIndex := 13, descriptorIndex := 14, attributes := #[] }, { accessFlags := 18, nameIndex := 17, descriptorIndex := 18, attributes := #[] }, { accessFlags := 2, nameIndex := 21, descriptorIndex := 22, attributes := #[] }, { accessFlags := 2, nameIndex := 25, descriptorIndex := 26, attributes := #[] }, { accessFlags := 26, nameIndex := 1116, descriptorIndex := 1117, attributes := #[] }, { accessFlags := 24, nameIndex := 40, descriptorIndex := 26, attributes := #[] }, { accessFlags := 26, nameIndex := 1101, descriptorIndex := 1102, attributes := #[] }, { accessFlags := 26, nameIndex := 1121, descriptorIndex := 1122, attributes := #[] }, { accessFlags := 25, nameIndex := 599, descriptorIndex := 600, attributes := #[] }, { accessFlags := 24, nameIndex := 1125, descriptorIndex := 18, attributes := #[] }, { accessFlags := 24, nameIndex := 1127, descriptorIndex := 18, attributes := #[] }])
  fields := #[{ name := "value", type := (.array .byte), accessFlags := 18, slot := 0, constantValue := 0 }, { name := "coder", type := .byte, accessFlags := 18, slot := 1, constantValue := 0 }, { name := "hash", type := .int, accessFlags := 2, slot := 2, constantValue := 0 }, { name := "hashIsZero", type := .boolean, accessFlags := 2, slot := 3, constantValue := 0 }, { name := "serialVersionUID", type := .long, accessFlags := 26, slot := 0, constantValue := 0 }, { name := "COMPACT_STRINGS", type := .boolean, accessFlags := 24, slot := 1, constantValue := 0 }, { name := "serialPersistentFields", type := (.array (.object "java/io/ObjectStreamField")), accessFlags := 26, slot := 2, constantValue := 0 }, { name := "REPL", type := .char, accessFlags := 26, slot := 3, constantValue := 0 }, { name := "CASE_INSENSITIVE_ORDER", type := (.object "java/util/Comparator"), accessFlags := 25, slot := 4, constantValue := 0 }, { name := "LATIN1", type := .byte, accessFlags := 24, slot := 5, constantValue := 0 }, { name := "UTF16", type := .byte, accessFlags := 24, slot := 6, constantValue := 0 }]
  methods := #[k11m0, k11m1, k11m2, k11m3, k11m4, k11m5, k11m6, k11m7, k11m8]
  instanceTypes := #[(.array .byte), .byte, .int, .boolean]
  staticTypes := #[.long, .boolean, (.array (.object "java/io/ObjectStreamField")), .char, (.object "java/util/Comparator"), .byte, .byte]
  resolved := Array.replicate 1451 none
  statics := some 0 }

def pool12 : Array CpInfo := pool [(2, .class_ 4), (1, u "java/lang/Object"), (0, u "<init>"), (0, u "()V"), (1, .class_ 10), (1, u "java/lang/Number"), (2, .class_ 14), (0, u "java/io/Serializable"), (0, u "serialVersionUID"), (0, u "J")] 20

def k12m0 : Method := { name := "<init>", desc := "()V", sig := { parameters := [], returnType := none }, accessFlags := 1, code := none }
/-- java/lang/Number -/
def k12 : Class := { plain "java/lang/Number" (some 0) with
  accessFlags := 1057
  interfaces := #[6]
  cf := some (fileOf pool12 8 #[] #[{ accessFlags := 1, nameIndex := 5, descriptorIndex := 6, attributes := #[] }] 1057 2 #[13] #[{ accessFlags := 26, nameIndex := 15, descriptorIndex := 16, attributes := #[] }])
  fields := #[{ name := "serialVersionUID", type := .long, accessFlags := 26, slot := 0, constantValue := 0 }]
  methods := #[k12m0]
  instanceTypes := #[]
  staticTypes := #[.long]
  resolved := Array.replicate 37 none
  statics := none }

def pool13 : Array CpInfo := pool [(1, .class_ 2), (0, u "java/lang/Integer"), (16, u "digits"), (0, u "[C"), (33, u "(I)I"), (19, u "stringSize"), (2, u "getChars"), (0, u "(II[B)I"), (4, .fieldref 1 84), (0, .nameAndType 85 86), (0, u "DigitOnes"), (0, u "[B"), (0, .fieldref 1 88), (0, .nameAndType 89 86), (0, u "DigitTens"), (99, .class_ 190), (0, u "java/lang/Integer$IntegerCache"), (3, u "I"), (8, .class_ 204), (0, u "java/lang/Number"), (2, u "value"), (94, u "TYPE"), (0, u "Ljava/lang/Class;"), (0, .class_ 305), (0, u "java/lang/Comparable"), (0, .class_ 307), (0, u "java/lang/constant/Constable"), (0, .class_ 309), (0, u "java/lang/constant/ConstantDesc"), (0, u "MIN_VALUE"), (1, u "MAX_VALUE"), (3, u "SIZE"), (1, u "BYTES"), (1, u "serialVersionUID"), (0, u "J")] 131

def k13c0 : Code := { maxStack := 4, maxLocals := 7, code := jdk_33_method_12_code, exceptionTable := #[], attributes := #[] }
def k13m0 : Method := { name := "getChars", desc := "(II[B)I", sig := { parameters := [.int, .int, (.array .byte)], returnType := some .int }, accessFlags := 8, code := some k13c0 }
def k13c1 : Code := { maxStack := 2, maxLocals := 4, code := jdk_33_method_13_code, exceptionTable := #[], attributes := #[] }
def k13m1 : Method := { name := "stringSize", desc := "(I)I", sig := { parameters := [.int], returnType := some .int }, accessFlags := 8, code := some k13c1 }
/-- java/lang/Integer -/
def k13 : Class := { plain "java/lang/Integer" (some 12) with
  accessFlags := 49
  interfaces := #[7, 9, 10]
  cf := some (fileOf pool13 1 #[.nestMembers #[189]] #[{ accessFlags := 8, nameIndex := 77, descriptorIndex := 78, attributes := #[] }, { accessFlags := 8, nameIndex := 74, descriptorIndex := 54, attributes := #[] }] 49 203 #[304, 306, 308] #[{ accessFlags := 25, nameIndex := 310, descriptorIndex := 194, attributes := #[] }, { accessFlags := 25, nameIndex := 312, descriptorIndex := 194, attributes := #[] }, { accessFlags := 25, nameIndex := 302, descriptorIndex := 303, attributes := #[] }, { accessFlags := 24, nameIndex := 19, descriptorIndex := 20, attributes := #[] }, { accessFlags := 24, nameIndex := 89, descriptorIndex := 86, attributes := #[] }, { accessFlags := 24, nameIndex := 85, descriptorIndex := 86, attributes := #[] }, { accessFlags := 18, nameIndex := 207, descriptorIndex := 194, attributes := #[] }, { accessFlags := 25, nameIndex := 316, descriptorIndex := 194, attributes := #[] }, { accessFlags := 25, nameIndex := 318, descriptorIndex := 194, attributes := #[] }, { accessFlags := 26, nameIndex := 320, descriptorIndex := 321, attributes := #[] }])
  fields := #[{ name := "MIN_VALUE", type := .int, accessFlags := 25, slot := 0, constantValue := 0 }, { name := "MAX_VALUE", type := .int, accessFlags := 25, slot := 1, constantValue := 0 }, { name := "TYPE", type := (.object "java/lang/Class"), accessFlags := 25, slot := 2, constantValue := 0 }, { name := "digits", type := (.array .char), accessFlags := 24, slot := 3, constantValue := 0 }, { name := "DigitTens", type := (.array .byte), accessFlags := 24, slot := 4, constantValue := 0 }, { name := "DigitOnes", type := (.array .byte), accessFlags := 24, slot := 5, constantValue := 0 }, { name := "value", type := .int, accessFlags := 18, slot := 0, constantValue := 0 }, { name := "SIZE", type := .int, accessFlags := 25, slot := 6, constantValue := 0 }, { name := "BYTES", type := .int, accessFlags := 25, slot := 7, constantValue := 0 }, { name := "serialVersionUID", type := .long, accessFlags := 26, slot := 8, constantValue := 0 }]
  methods := #[k13m0, k13m1]
  instanceTypes := #[.int]
  staticTypes := #[.int, .int, (.object "java/lang/Class"), (.array .char), (.array .byte), (.array .byte), .int, .int, .long]
  resolved := Array.replicate 453 none
  statics := some 1 }

def pool14 : Array CpInfo := pool [(2, .class_ 4), (1, u "java/lang/Object"), (0, u "<init>"), (0, u "()V"), (1, .class_ 10), (1, u "java/lang/System"), (0, u "allowSecurityManager"), (0, u "I"), (16, u "cons"), (0, u "Ljava/io/Console;"), (77, .class_ 110), (1, u "java/lang/System$CallersHolder"), (43, u "initialErrStream"), (0, u "Ljava/io/PrintStream;"), (19, u "security"), (0, u "Ljava/lang/SecurityManager;"), (31, .class_ 209), (0, u "java/lang/System$1"), (7, u "props"), (0, u "Ljava/util/Properties;"), (2, u "lineSeparator"), (0, u "Ljava/lang/String;"), (96, .class_ 321), (1, u "java/lang/System$LoggerFinder"), (5, .class_ 328), (0, u "java/lang/System$Logger"), (67, u "err"), (2, u "out"), (91, u "notSupportedJnuEncoding"), (15, u "in"), (17, u "initialIn"), (0, u "Ljava/io/InputStream;"), (35, u "bootLayer"), (0, u "Ljava/lang/ModuleLayer;"), (99, .class_ 664), (0, u "java/lang/System$2"), (9, u "NEVER"), (2, u "MAYBE"), (49, u "arraycopy"), (0, u "(Ljava/lang/Object;ILjava/lang/Object;II)V"), (72, .class_ 802), (0, u "java/lang/System$Logger$Level")] 31

def k14m0 : Method := { name := "<init>", desc := "()V", sig := { parameters := [], returnType := none }, accessFlags := 2, code := none }
def k14m1 : Method := { name := "arraycopy", desc := "(Ljava/lang/Object;ILjava/lang/Object;II)V", sig := { parameters := [(.object "java/lang/Object"), .int, (.object "java/lang/Object"), .int, .int], returnType := none }, accessFlags := 265, code := none }
/-- java/lang/System -/
def k14 : Class := { plain "java/lang/System" (some 0) with
  accessFlags := 49
  interfaces := #[]
  cf := some (fileOf pool14 8 #[.nestMembers #[319, 327, 801, 108, 663, 208]] #[{ accessFlags := 2, nameIndex := 5, descriptorIndex := 6, attributes := #[] }, { accessFlags := 265, nameIndex := 727, descriptorIndex := 728, attributes := #[] }] 49 2 #[] #[{ accessFlags := 25, nameIndex := 507, descriptorIndex := 526, attributes := #[] }, { accessFlags := 25, nameIndex := 399, descriptorIndex := 155, attributes := #[] }, { accessFlags := 25, nameIndex := 396, descriptorIndex := 155, attributes := #[] }, { accessFlags := 10, nameIndex := 525, descriptorIndex := 526, attributes := #[] }, { accessFlags := 26, nameIndex := 674, descriptorIndex := 12, attributes := #[] }, { accessFlags := 26, nameIndex := 677, descriptorIndex := 12, attributes := #[] }, { accessFlags := 10, nameIndex := 11, descriptorIndex := 12, attributes := #[] }, { accessFlags := 74, nameIndex := 175, descriptorIndex := 176, attributes := #[] }, { accessFlags := 10, nameIndex := 491, descriptorIndex := 222, attributes := #[] }, { accessFlags := 74, nameIndex := 29, descriptorIndex := 30, attributes := #[] }, { accessFlags := 74, nameIndex := 154, descriptorIndex := 155, attributes := #[] }, { accessFlags := 10, nameIndex := 217, descriptorIndex := 218, attributes := #[] }, { accessFlags := 10, nameIndex := 221, descriptorIndex := 222, attributes := #[] }, { accessFlags := 8, nameIndex := 562, descriptorIndex := 563, attributes := #[] }])
  fields := #[{ name := "in", type := (.object "java/io/InputStream"), accessFlags := 25, slot := 0, constantValue := 0 }, { name := "out", type := (.object "java/io/PrintStream"), accessFlags := 25, slot := 1, constantValue := 0 }, { name := "err", type := (.object "java/io/PrintStream"), accessFlags := 25, slot := 2, constantValue := 0 }, { name := "initialIn", type := (.object "java/io/InputStream"), accessFlags := 10, slot := 3, constantValue := 0 }, { name := "NEVER", type := .int, accessFlags := 26, slot := 4, constantValue := 0 }, { name := "MAYBE", type := .int, accessFlags := 26, slot := 5, constantValue := 0 }, { name := "allowSecurityManager", type := .int, accessFlags := 10, slot := 6, constantValue := 0 }, { name := "security", type := (.object "java/lang/SecurityManager"), accessFlags := 74, slot := 7, constantValue := 0 }, { name := "notSupportedJnuEncoding", type := (.object "java/lang/String"), accessFlags := 10, slot := 8, constantValue := 0 }, { name := "cons", type := (.object "java/io/Console"), accessFlags := 74, slot := 9, constantValue := 0 }, { name := "initialErrStream", type := (.object "java/io/PrintStream"), accessFlags := 74, slot := 10, constantValue := 0 }, { name := "props", type := (.object "java/util/Properties"), accessFlags := 10, slot := 11, constantValue := 0 }, { name := "lineSeparator", type := (.object "java/lang/String"), accessFlags := 10, slot := 12, constantValue := 0 }, { name := "bootLayer", type := (.object "java/lang/ModuleLayer"), accessFlags := 8, slot := 13, constantValue := 0 }]
  methods := #[k14m0, k14m1]
  instanceTypes := #[]
  staticTypes := #[(.object "java/io/InputStream"), (.object "java/io/PrintStream"), (.object "java/io/PrintStream"), (.object "java/io/InputStream"), .int, .int, .int, (.object "java/lang/SecurityManager"), (.object "java/lang/String"), (.object "java/io/Console"), (.object "java/io/PrintStream"), (.object "java/util/Properties"), (.object "java/lang/String"), (.object "java/lang/ModuleLayer")]
  resolved := Array.replicate 834 none
  statics := none }

def pool15 : Array CpInfo := pool [(2, .class_ 4), (1, u "java/lang/Object"), (0, u "<init>"), (0, u "()V"), (7, .class_ 16), (1, u "java/util/Arrays"), (57, .class_ 76), (1, u "java/util/Arrays$NaturalOrder"), (36, .class_ 115), (1, u "java/util/Arrays$LegacyMergeSort"), (1, u "Z"), (21, u "copyOfRange"), (10, .methodref 151 152), (0, .class_ 153), (0, .nameAndType 154 155), (0, u "java/lang/System"), (0, u "arraycopy"), (0, u "(Ljava/lang/Object;ILjava/lang/Object;II)V"), (148, .methodref 305 306), (0, .class_ 307), (0, .nameAndType 308 309), (0, u "java/lang/Math"), (0, u "min"), (0, u "(II)I"), (29, .methodref 14 340), (0, .nameAndType 341 342), (0, u "copyOfRangeByte"), (0, u "([BII)[B"), (0, .methodref 14 344), (0, .nameAndType 345 346), (0, u "checkLength"), (0, u "(II)V"), (28, .class_ 376), (0, u "java/util/Arrays$ArrayList"), (68, u "$assertionsDisabled"), (269, u "MIN_ARRAY_SORT_GRAN"), (0, u "I"), (2, u "INSERTIONSORT_THRESHOLD"), (255, .class_ 976), (0, u "java/util/Arrays$ArrayItr")] 52

def k15m0 : Method := { name := "<init>", desc := "()V", sig := { parameters := [], returnType := none }, accessFlags := 2, code := none }
def k15c1 : Code := { maxStack := 4, maxLocals := 2, code := jdk_65_method_131_code, exceptionTable := #[], attributes := #[] }
def k15m1 : Method := { name := "checkLength", desc := "(II)V", sig := { parameters := [.int, .int], returnType := none }, accessFlags := 10, code := some k15c1 }
def k15c2 : Code := { maxStack := 3, maxLocals := 3, code := jdk_65_method_132_code, exceptionTable := #[], attributes := #[] }
def k15m2 : Method := { name := "copyOfRange", desc := "([BII)[B", sig := { parameters := [(.array .byte), .int, .int], returnType := some (.array .byte) }, accessFlags := 9, code := some k15c2 }
def k15c3 : Code := { maxStack := 6, maxLocals := 5, code := jdk_65_method_133_code, exceptionTable := #[], attributes := #[] }
def k15m3 : Method := { name := "copyOfRangeByte", desc := "([BII)[B", sig := { parameters := [(.array .byte), .int, .int], returnType := some (.array .byte) }, accessFlags := 10, code := some k15c3 }
/-- java/util/Arrays -/
def k15 : Class := { plain "java/util/Arrays" (some 0) with
  accessFlags := 49
  interfaces := #[]
  cf := some (fileOf pool15 14 #[.nestMembers #[975, 375, 113, 74]] #[{ accessFlags := 2, nameIndex := 5, descriptorIndex := 6, attributes := #[] }, { accessFlags := 10, nameIndex := 345, descriptorIndex := 346, attributes := #[] }, { accessFlags := 9, nameIndex := 139, descriptorIndex := 342, attributes := #[] }, { accessFlags := 10, nameIndex := 341, descriptorIndex := 342, attributes := #[] }] 49 2 #[] #[{ accessFlags := 26, nameIndex := 715, descriptorIndex := 716, attributes := #[] }, { accessFlags := 26, nameIndex := 719, descriptorIndex := 716, attributes := #[] }, { accessFlags := 4120, nameIndex := 445, descriptorIndex := 117, attributes := #[] }])
  fields := #[{ name := "MIN_ARRAY_SORT_GRAN", type := .int, accessFlags := 26, slot := 0, constantValue := 0 }, { name := "INSERTIONSORT_THRESHOLD", type := .int, accessFlags := 26, slot := 1, constantValue := 0 }, { name := "$assertionsDisabled", type := .boolean, accessFlags := 4120, slot := 2, constantValue := 0 }]
  methods := #[k15m0, k15m1, k15m2, k15m3]
  instanceTypes := #[]
  staticTypes := #[.int, .int, .boolean]
  resolved := Array.replicate 1029 none
  statics := none }

def pool16 : Array CpInfo := pool [(1, .class_ 2), (0, u "java/lang/Math"), (1, .class_ 6), (1, u "java/lang/Object"), (0, u "<init>"), (0, u "()V"), (89, .class_ 100), (1, u "java/lang/Math$RandomNumberGeneratorHolder"), (71, u "negativeZeroFloatBits"), (0, u "J"), (2, u "negativeZeroDoubleBits"), (24, u "min"), (43, u "$assertionsDisabled"), (0, u "Z"), (88, u "(II)I"), (2, u "twoToTheDoubleScaleDown"), (0, u "D"), (4, u "twoToTheDoubleScaleUp"), (9, u "E"), (3, u "PI"), (2, u "TAU"), (2, u "DEGREES_TO_RADIANS"), (0, u "RADIANS_TO_DEGREES")] 94

def k16m0 : Method := { name := "<init>", desc := "()V", sig := { parameters := [], returnType := none }, accessFlags := 2, code := none }
def k16c1 : Code := { maxStack := 2, maxLocals := 2, code := jdk_29_method_69_code, exceptionTable := #[], attributes := #[] }
def k16m1 : Method := { name := "min", desc := "(II)I", sig := { parameters := [.int, .int], returnType := some .int }, accessFlags := 9, code := some k16c1 }
/-- java/lang/Math -/
def k16 : Class := { plain "java/lang/Math" (some 0) with
  accessFlags := 49
  interfaces := #[]
  cf := some (fileOf pool16 1 #[.nestMembers #[98]] #[{ accessFlags := 2, nameIndex := 7, descriptorIndex := 8, attributes := #[] }, { accessFlags := 9, nameIndex := 201, descriptorIndex := 335, attributes := #[] }] 49 4 #[] #[{ accessFlags := 25, nameIndex := 354, descriptorIndex := 339, attributes := #[] }, { accessFlags := 25, nameIndex := 358, descriptorIndex := 339, attributes := #[] }, { accessFlags := 25, nameIndex := 361, descriptorIndex := 339, attributes := #[] }, { accessFlags := 26, nameIndex := 364, descriptorIndex := 339, attributes := #[] }, { accessFlags := 26, nameIndex := 365, descriptorIndex := 339, attributes := #[] }, { accessFlags := 26, nameIndex := 172, descriptorIndex := 173, attributes := #[] }, { accessFlags := 26, nameIndex := 176, descriptorIndex := 173, attributes := #[] }, { accessFlags := 8, nameIndex := 344, descriptorIndex := 339, attributes := #[] }, { accessFlags := 8, nameIndex := 338, descriptorIndex := 339, attributes := #[] }, { accessFlags := 4120, nameIndex := 245, descriptorIndex := 246, attributes := #[] }])
  fields := #[{ name := "E", type := .double, accessFlags := 25, slot := 0, constantValue := 0 }, { name := "PI", type := .double, accessFlags := 25, slot := 1, constantValue := 0 }, { name := "TAU", type := .double, accessFlags := 25, slot := 2, constantValue := 0 }, { name := "DEGREES_TO_RADIANS", type := .double, accessFlags := 26, slot := 3, constantValue := 0 }, { name := "RADIANS_TO_DEGREES", type := .double, accessFlags := 26, slot := 4, constantValue := 0 }, { name := "negativeZeroFloatBits", type := .long, accessFlags := 26, slot := 5, constantValue := 0 }, { name := "negativeZeroDoubleBits", type := .long, accessFlags := 26, slot := 6, constantValue := 0 }, { name := "twoToTheDoubleScaleUp", type := .double, accessFlags := 8, slot := 7, constantValue := 0 }, { name := "twoToTheDoubleScaleDown", type := .double, accessFlags := 8, slot := 8, constantValue := 0 }, { name := "$assertionsDisabled", type := .boolean, accessFlags := 4120, slot := 9, constantValue := 0 }]
  methods := #[k16m0, k16m1]
  instanceTypes := #[]
  staticTypes := #[.double, .double, .double, .double, .double, .long, .long, .double, .double, .boolean]
  resolved := Array.replicate 460 none
  statics := none }

def pool17 : Array CpInfo := pool [(1, .class_ 2), (0, u "java/lang/String"), (1, .class_ 6), (1, u "java/lang/Object"), (0, u "<init>"), (0, u "()V"), (0, .methodref 1 10), (0, .nameAndType 11 12), (0, u "checkIndex"), (0, u "(II)V"), (1, .class_ 16), (1, u "java/lang/StringLatin1"), (36, u "([BI)C"), (67, u "$assertionsDisabled"), (0, u "Z"), (98, .class_ 223), (1, u "java/lang/StringLatin1$LinesSpliterator"), (28, u "charAt"), (137, .class_ 391), (0, u "java/lang/StringLatin1$CharsSpliterator")] 3

def k17m0 : Method := { name := "<init>", desc := "()V", sig := { parameters := [], returnType := none }, accessFlags := 0, code := none }
def k17c1 : Code := { maxStack := 2, maxLocals := 2, code := jdk_43_method_2_code, exceptionTable := #[], attributes := #[] }
def k17m1 : Method := { name := "charAt", desc := "([BI)C", sig := { parameters := [(.array .byte), .int], returnType := some .char }, accessFlags := 9, code := some k17c1 }
/-- java/lang/StringLatin1 -/
def k17 : Class := { plain "java/lang/StringLatin1" (some 0) with
  accessFlags := 48
  interfaces := #[]
  cf := some (fileOf pool17 14 #[.nestMembers #[390, 221]] #[{ accessFlags := 0, nameIndex := 7, descriptorIndex := 8, attributes := #[] }, { accessFlags := 9, nameIndex := 252, descriptorIndex := 53, attributes := #[] }] 48 4 #[] #[{ accessFlags := 4120, nameIndex := 121, descriptorIndex := 122, attributes := #[] }])
  fields := #[{ name := "$assertionsDisabled", type := .boolean, accessFlags := 4120, slot := 0, constantValue := 0 }]
  methods := #[k17m0, k17m1]
  instanceTypes := #[]
  staticTypes := #[.boolean]
  resolved := Array.replicate 395 none
  statics := none }

def pool18 : Array CpInfo := pool [(2, .class_ 4), (1, u "java/lang/Object"), (0, u "<init>"), (0, u "()V"), (17, .class_ 26), (1, u "jdk/internal/util/Preconditions"), (6, u "checkIndex"), (21, .class_ 56), (0, u "jdk/internal/util/Preconditions$4"), (57, .class_ 115), (0, u "jdk/internal/util/Preconditions$1"), (7, u "SIOOBE_FORMATTER"), (0, u "Ljava/util/function/BiFunction;"), (0, .class_ 126), (0, u "jdk/internal/util/Preconditions$2"), (3, u "AIOOBE_FORMATTER"), (0, .class_ 132), (0, u "jdk/internal/util/Preconditions$3"), (3, u "IOOBE_FORMATTER"), (41, u "(IILjava/util/function/BiFunction;)I")] 15

def k18m0 : Method := { name := "<init>", desc := "()V", sig := { parameters := [], returnType := none }, accessFlags := 1, code := none }
def k18c1 : Code := { maxStack := 3, maxLocals := 3, code := jdk_41_method_11_code, exceptionTable := #[], attributes := #[] }
def k18m1 : Method := { name := "checkIndex", desc := "(IILjava/util/function/BiFunction;)I", sig := { parameters := [.int, .int, (.object "java/util/function/BiFunction")], returnType := some .int }, accessFlags := 9, code := some k18c1 }
/-- jdk/internal/util/Preconditions -/
def k18 : Class := { plain "jdk/internal/util/Preconditions" (some 0) with
  accessFlags := 33
  interfaces := #[]
  cf := some (fileOf pool18 24 #[.nestMembers #[55, 131, 125, 114]] #[{ accessFlags := 1, nameIndex := 5, descriptorIndex := 6, attributes := #[] }, { accessFlags := 9, nameIndex := 33, descriptorIndex := 178, attributes := #[] }] 33 2 #[] #[{ accessFlags := 25, nameIndex := 123, descriptorIndex := 124, attributes := #[] }, { accessFlags := 25, nameIndex := 130, descriptorIndex := 124, attributes := #[] }, { accessFlags := 25, nameIndex := 136, descriptorIndex := 124, attributes := #[] }])
  fields := #[{ name := "SIOOBE_FORMATTER", type := (.object "java/util/function/BiFunction"), accessFlags := 25, slot := 0, constantValue := 0 }, { name := "AIOOBE_FORMATTER", type := (.object "java/util/function/BiFunction"), accessFlags := 25, slot := 1, constantValue := 0 }, { name := "IOOBE_FORMATTER", type := (.object "java/util/function/BiFunction"), accessFlags := 25, slot := 2, constantValue := 0 }]
  methods := #[k18m0, k18m1]
  instanceTypes := #[]
  staticTypes := #[(.object "java/util/function/BiFunction"), (.object "java/util/function/BiFunction"), (.object "java/util/function/BiFunction")]
  resolved := Array.replicate 194 none
  statics := some 2 }

def pool19 : Array CpInfo := pool [(9, u "<init>"), (6, .class_ 18), (1, u "java/lang/Object"), (0, u "()V"), (1, .class_ 23), (1, u "jdk/internal/util/ArraysSupport"), (0, u "LOG2_ARRAY_LONG_INDEX_SCALE"), (0, u "I"), (2, u "U"), (0, u "Ljdk/internal/misc/Unsafe;"), (8, u "BIG_ENDIAN"), (0, u "Z"), (8, u "LOG2_BYTE_BIT_SIZE"), (4, u "LOG2_ARRAY_INT_INDEX_SCALE"), (54, u "JLA"), (0, u "Ljdk/internal/access/JavaLangAccess;"), (11, u "LOG2_ARRAY_BOOLEAN_INDEX_SCALE"), (9, u "LOG2_ARRAY_BYTE_INDEX_SCALE"), (5, u "LOG2_ARRAY_CHAR_INDEX_SCALE"), (5, u "LOG2_ARRAY_SHORT_INDEX_SCALE"), (18, u "LOG2_ARRAY_FLOAT_INDEX_SCALE"), (24, u "LOG2_ARRAY_DOUBLE_INDEX_SCALE"), (89, u "T_BOOLEAN"), (2, u "T_CHAR"), (1, u "T_FLOAT"), (1, u "T_DOUBLE"), (1, u "T_BYTE"), (1, u "T_SHORT"), (1, u "T_INT"), (1, u "T_LONG"), (1, u "SOFT_MAX_ARRAY_LENGTH")] 83

def k19m0 : Method := { name := "<init>", desc := "()V", sig := { parameters := [], returnType := none }, accessFlags := 2, code := none }
/-- jdk/internal/util/ArraysSupport -/
def k19 : Class := { plain "jdk/internal/util/ArraysSupport" (some 0) with
  accessFlags := 33
  interfaces := #[]
  cf := some (fileOf pool19 21 #[] #[{ accessFlags := 2, nameIndex := 9, descriptorIndex := 19, attributes := #[] }] 33 16 #[] #[{ accessFlags := 24, nameIndex := 28, descriptorIndex := 29, attributes := #[] }, { accessFlags := 26, nameIndex := 38, descriptorIndex := 39, attributes := #[] }, { accessFlags := 25, nameIndex := 121, descriptorIndex := 25, attributes := #[] }, { accessFlags := 25, nameIndex := 131, descriptorIndex := 25, attributes := #[] }, { accessFlags := 25, nameIndex := 137, descriptorIndex := 25, attributes := #[] }, { accessFlags := 25, nameIndex := 143, descriptorIndex := 25, attributes := #[] }, { accessFlags := 25, nameIndex := 53, descriptorIndex := 25, attributes := #[] }, { accessFlags := 25, nameIndex := 24, descriptorIndex := 25, attributes := #[] }, { accessFlags := 25, nameIndex := 162, descriptorIndex := 25, attributes := #[] }, { accessFlags := 25, nameIndex := 187, descriptorIndex := 25, attributes := #[] }, { accessFlags := 26, nameIndex := 48, descriptorIndex := 25, attributes := #[] }, { accessFlags := 25, nameIndex := 277, descriptorIndex := 25, attributes := #[] }, { accessFlags := 25, nameIndex := 280, descriptorIndex := 25, attributes := #[] }, { accessFlags := 25, nameIndex := 282, descriptorIndex := 25, attributes := #[] }, { accessFlags := 25, nameIndex := 284, descriptorIndex := 25, attributes := #[] }, { accessFlags := 25, nameIndex := 286, descriptorIndex := 25, attributes := #[] }, { accessFlags := 25, nameIndex := 288, descriptorIndex := 25, attributes := #[] }, { accessFlags := 25, nameIndex := 290, descriptorIndex := 25, attributes := #[] }, { accessFlags := 25, nameIndex := 292, descriptorIndex := 25, attributes := #[] }, { accessFlags := 26, nameIndex := 108, descriptorIndex := 109, attributes := #[] }, { accessFlags := 25, nameIndex := 294, descriptorIndex := 25, attributes := #[] }])
  fields := #[{ name := "U", type := (.object "jdk/internal/misc/Unsafe"), accessFlags := 24, slot := 0, constantValue := 0 }, { name := "BIG_ENDIAN", type := .boolean, accessFlags := 26, slot := 1, constantValue := 0 }, { name := "LOG2_ARRAY_BOOLEAN_INDEX_SCALE", type := .int, accessFlags := 25, slot := 2, constantValue := 0 }, { name := "LOG2_ARRAY_BYTE_INDEX_SCALE", type := .int, accessFlags := 25, slot := 3, constantValue := 0 }, { name := "LOG2_ARRAY_CHAR_INDEX_SCALE", type := .int, accessFlags := 25, slot := 4, constantValue := 0 }, { name := "LOG2_ARRAY_SHORT_INDEX_SCALE", type := .int, accessFlags := 25, slot := 5, constantValue := 0 }, { name := "LOG2_ARRAY_INT_INDEX_SCALE", type := .int, accessFlags := 25, slot := 6, constantValue := 0 }, { name := "LOG2_ARRAY_LONG_INDEX_SCALE", type := .int, accessFlags := 25, slot := 7, constantValue := 0 }, { name := "LOG2_ARRAY_FLOAT_INDEX_SCALE", type := .int, accessFlags := 25, slot := 8, constantValue := 0 }, { name := "LOG2_ARRAY_DOUBLE_INDEX_SCALE", type := .int, accessFlags := 25, slot := 9, constantValue := 0 }, { name := "LOG2_BYTE_BIT_SIZE", type := .int, accessFlags := 26, slot := 10, constantValue := 0 }, { name := "T_BOOLEAN", type := .int, accessFlags := 25, slot := 11, constantValue := 0 }, { name := "T_CHAR", type := .int, accessFlags := 25, slot := 12, constantValue := 0 }, { name := "T_FLOAT", type := .int, accessFlags := 25, slot := 13, constantValue := 0 }, { name := "T_DOUBLE", type := .int, accessFlags := 25, slot := 14, constantValue := 0 }, { name := "T_BYTE", type := .int, accessFlags := 25, slot := 15, constantValue := 0 }, { name := "T_SHORT", type := .int, accessFlags := 25, slot := 16, constantValue := 0 }, { name := "T_INT", type := .int, accessFlags := 25, slot := 17, constantValue := 0 }, { name := "T_LONG", type := .int, accessFlags := 25, slot := 18, constantValue := 0 }, { name := "JLA", type := (.object "jdk/internal/access/JavaLangAccess"), accessFlags := 26, slot := 19, constantValue := 0 }, { name := "SOFT_MAX_ARRAY_LENGTH", type := .int, accessFlags := 25, slot := 20, constantValue := 0 }]
  methods := #[k19m0]
  instanceTypes := #[]
  staticTypes := #[(.object "jdk/internal/misc/Unsafe"), .boolean, .int, .int, .int, .int, .int, .int, .int, .int, .int, .int, .int, .int, .int, .int, .int, .int, .int, (.object "jdk/internal/access/JavaLangAccess"), .int]
  resolved := Array.replicate 378 none
  statics := none }

def pool20 : Array CpInfo := pool [(1, u "java/lang/Cloneable"), (0, .class_ 1), (0, u "java/lang/Object"), (0, .class_ 3)] 3

/-- java/lang/Cloneable -/
def k20 : Class := { plain "java/lang/Cloneable" (some 0) with
  accessFlags := 1537
  interfaces := #[]
  cf := some (fileOf pool20 2 #[] #[] 1537 4 #[] #[])
  fields := #[]
  methods := #[]
  instanceTypes := #[]
  staticTypes := #[]
  resolved := Array.replicate 8 none
  statics := none }

/-- the primitive byte -/
def k21 : Class := { plain "byte" none with kind := .primitive 'B', accessFlags := 0x411 }
/-- [B -/
def k22 : Class := { plain "[B" (some 0) with kind := .array 21 .byte, interfaces := #[20, 6], accessFlags := 1041 }

/-- the primitive int -/
def k23 : Class := { plain "int" none with kind := .primitive 'I', accessFlags := 0x411 }
/-- [I -/
def k24 : Class := { plain "[I" (some 0) with kind := .array 23 .int, interfaces := #[20, 6], accessFlags := 1041 }

def heap : Heap := #[{ cls := 11, slots := #[.long 0, .int 1, .null, .int 0, .null, .int 0, .int 0], vm := .statics 11 },
  { cls := 13, slots := #[.int 0, .int 0, .null, .null, .ref 4, .ref 3, .int 0, .int 0, .long 0], vm := .statics 13 },
  { cls := 18, slots := #[.null, .null, .null], vm := .statics 18 },
  { cls := 22, slots := #[.int 48, .int 49, .int 50, .int 51, .int 52, .int 53, .int 54, .int 55, .int 56, .int 57, .int 48, .int 49, .int 50, .int 51, .int 52, .int 53, .int 54, .int 55, .int 56, .int 57, .int 48, .int 49, .int 50, .int 51, .int 52, .int 53, .int 54, .int 55, .int 56, .int 57, .int 48, .int 49, .int 50, .int 51, .int 52, .int 53, .int 54, .int 55, .int 56, .int 57, .int 48, .int 49, .int 50, .int 51, .int 52, .int 53, .int 54, .int 55, .int 56, .int 57, .int 48, .int 49, .int 50, .int 51, .int 52, .int 53, .int 54, .int 55, .int 56, .int 57, .int 48, .int 49, .int 50, .int 51, .int 52, .int 53, .int 54, .int 55, .int 56, .int 57, .int 48, .int 49, .int 50, .int 51, .int 52, .int 53, .int 54, .int 55, .int 56, .int 57, .int 48, .int 49, .int 50, .int 51, .int 52, .int 53, .int 54, .int 55, .int 56, .int 57, .int 48, .int 49, .int 50, .int 51, .int 52, .int 53, .int 54, .int 55, .int 56, .int 57], vm := .none },
  { cls := 22, slots := #[.int 48, .int 48, .int 48, .int 48, .int 48, .int 48, .int 48, .int 48, .int 48, .int 48, .int 49, .int 49, .int 49, .int 49, .int 49, .int 49, .int 49, .int 49, .int 49, .int 49, .int 50, .int 50, .int 50, .int 50, .int 50, .int 50, .int 50, .int 50, .int 50, .int 50, .int 51, .int 51, .int 51, .int 51, .int 51, .int 51, .int 51, .int 51, .int 51, .int 51, .int 52, .int 52, .int 52, .int 52, .int 52, .int 52, .int 52, .int 52, .int 52, .int 52, .int 53, .int 53, .int 53, .int 53, .int 53, .int 53, .int 53, .int 53, .int 53, .int 53, .int 54, .int 54, .int 54, .int 54, .int 54, .int 54, .int 54, .int 54, .int 54, .int 54, .int 55, .int 55, .int 55, .int 55, .int 55, .int 55, .int 55, .int 55, .int 55, .int 55, .int 56, .int 56, .int 56, .int 56, .int 56, .int 56, .int 56, .int 56, .int 56, .int 56, .int 57, .int 57, .int 57, .int 57, .int 57, .int 57, .int 57, .int 57, .int 57, .int 57], vm := .none }]
def classes : Array Class := #[k0, k1, k2, k3, k4, k5, k6, k7, k8, k9, k10, k11, k12, k13, k14, k15, k16, k17, k18, k19, k20, k21, k22, k23, k24]
def interned : List (Array UInt16 × Addr) := []
def slotsUsed : Nat := 219
def theMethod : MethodId := ⟨1, 3⟩
def args0 : Array Value := #[.int 5, .int 3]
def aboutOver (below : List Frame) : State where
  vm := { classes := classes, interned := interned.toArray }
  heap := heap
  slotsUsed := slotsUsed
  threads := #[{ frames := .invoking theMethod args0 :: below }]
def below0 : List Frame := [.native { method := ⟨0, 0⟩, args := #[] }]
def about1 : State := aboutOver below0
def p0 : Program := .bare "" "" ""
def e0 : Env := launch0.env 0 0 0
theorem w_frames : about1.frames = Frame.invoking theMethod args0 :: below0 := rfl
set_option maxRecDepth 65536 in
theorem w_args : argsFit about1.vm theMethod args0 = true := by decide +kernel
set_option maxRecDepth 65536 in
theorem w_heap : heapFits about1 = true := by decide +kernel
set_option maxRecDepth 65536 in
theorem w_runnable : about1.curStatus? = some .runnable := by decide +kernel
set_option maxRecDepth 65536 in
theorem w_alone : about1.alone = true := by decide +kernel
set_option maxRecDepth 65536 in
theorem w_named : about1.methodNamed? x = some theMethod := by decide +kernel
set_option maxRecDepth 65536 in
theorem w_hears : about1.hears theMethod below0 = true := by decide +kernel
set_option maxRecDepth 65536 in
theorem w_ripe : about1.ripe theMethod args0 below0 = true := by decide +kernel
theorem w_running : about1.status = .running := rfl
set_option maxRecDepth 65536 in
theorem w_room : about1.hasRoom e0.platform room_1 = true :=
  launch0.hasRoom_least _ room_1 (by decide +kernel) (by decide +kernel) (by decide +kernel) (by decide +kernel) (by decide +kernel) (by decide +kernel)
theorem allAtoms_all (ts : List Jvm.Cond) (a : Array Jvm.Value) (st : Jvm.State) : (allAtoms ts).before a st = ts.all (fun c => c.before a st) := by
  induction ts with
  | nil => rfl
  | cons c t ih =>
    show (Jvm.Cond.and c (allAtoms t)).before a st = _
    rw [Jvm.Cond.before_and, ih, List.all_cons]
def words1 : List Jvm.Cond := Jvm.Cond.code x code maxLocals ret :: tables_1
/-- a 'code' word, met by the world's own term for the bytes: nothing is compared byte by byte -/
theorem code_word {y : MethodName} {bytes : ByteArray} {mx : Nat} {rt : Option FieldType} {a : Array Value} {s : State} {m : MethodId} {meth : Method} {c : Code} (h1 : s.methodNamed? y = some m) (h2 : s.vm.method? m = some meth) (h3 : meth.code = some c) (h4 : c.code = bytes)
    (h5 : (c.maxLocals == mx && c.exceptionTable.isEmpty && decide (c.maxStack ≤ mostOperands) && decide (meth.sig.returnType = rt) && !meth.locks && decide (parseMethodDescriptor y.desc = some meth.sig)) = true) : (Jvm.Cond.code y bytes mx rt).before a s = true := by
  simp only [Bool.and_eq_true, beq_iff_eq, Bool.not_eq_true', decide_eq_true_eq] at h5
  obtain ⟨⟨⟨⟨⟨g1, g2⟩, g3⟩, g4⟩, g5⟩, g6⟩ := h5
  simp [Cond.before, Cond.holds, Cond.value, h1, h2, h3, h4, g1, g2, g3, g4, g5, g6]
def isCode : Jvm.Cond → Bool
  | .code _ _ _ _ => true
  | _ => false
theorem all_split {L : List Jvm.Cond} {P : Jvm.Cond → Bool} (h1 : L.all (fun c => isCode c || P c) = true) (h2 : ∀ c ∈ L.filter isCode, P c = true) : L.all P = true := by
  refine List.all_eq_true.mpr fun c hc => ?_
  have h := List.all_eq_true.mp h1 c hc
  rcases Bool.eq_false_or_eq_true (isCode c) with hi | hi
  · exact h2 c (List.mem_filter.mpr ⟨hc, hi⟩)
  · simpa [hi] using h
set_option maxRecDepth 65536 in
theorem w_c0 : (Jvm.Cond.code x code maxLocals ret).before args0 about1 = true := code_word (m := ⟨1, 3⟩) (meth := k1m3) (c := k1c3) (by decide +kernel) rfl rfl rfl (by decide +kernel)
set_option maxRecDepth 65536 in
theorem w_c1 : (Jvm.Cond.code ({ cls := "com/example/head_count/headcount/NodeIdRange", name := "<init>", desc := "(II)V" } : Jvm.MethodName) prog_15_method_1_code (3 : Nat) (Option.none : Option Jvm.ClassFile.FieldType)).before args0 about1 = true := code_word (m := ⟨2, 0⟩) (meth := k2m0) (c := k2c0) (by decide +kernel) rfl rfl rfl (by decide +kernel)
set_option maxRecDepth 65536 in
theorem w_c2 : (Jvm.Cond.code ({ cls := "java/lang/Object", name := "<init>", desc := "()V" } : Jvm.MethodName) object_method_1_code (1 : Nat) (Option.none : Option Jvm.ClassFile.FieldType)).before args0 about1 = true := code_word (m := ⟨0, 0⟩) (meth := k0m0) (c := k0c0) (by decide +kernel) rfl rfl rfl (by decide +kernel)
set_option maxRecDepth 65536 in
theorem w_c3 : (Jvm.Cond.code ({ cls := "com/example/head_count/headcount/NodeIdRange", name := "toString", desc := "()Ljava/lang/String;" } : Jvm.MethodName) prog_15_method_6_code (1 : Nat) (Option.some (Jvm.ClassFile.FieldType.object "java/lang/String"))).before args0 about1 = true := code_word (m := ⟨2, 1⟩) (meth := k2m1) (c := k2c1) (by decide +kernel) rfl rfl rfl (by decide +kernel)
set_option maxRecDepth 65536 in
theorem w_c4 : (Jvm.Cond.code ({ cls := "java/lang/StringBuilder", name := "<init>", desc := "()V" } : Jvm.MethodName) jdk_67_method_1_code (1 : Nat) (Option.none : Option Jvm.ClassFile.FieldType)).before args0 about1 = true := code_word (m := ⟨8, 0⟩) (meth := k8m0) (c := k8c0) (by decide +kernel) rfl rfl rfl (by decide +kernel)
set_option maxRecDepth 65536 in
theorem w_c5 : (Jvm.Cond.code ({ cls := "java/lang/AbstractStringBuilder", name := "<init>", desc := "(I)V" } : Jvm.MethodName) jdk_68_method_2_code (2 : Nat) (Option.none : Option Jvm.ClassFile.FieldType)).before args0 about1 = true := code_word (m := ⟨5, 1⟩) (meth := k5m1) (c := k5c1) (by decide +kernel) rfl rfl rfl (by decide +kernel)
set_option maxRecDepth 65536 in
theorem w_c6 : (Jvm.Cond.code ({ cls := "java/lang/StringBuilder", name := "append", desc := "(I)Ljava/lang/StringBuilder;" } : Jvm.MethodName) jdk_67_method_15_code (2 : Nat) (Option.some (Jvm.ClassFile.FieldType.object "java/lang/StringBuilder"))).before args0 about1 = true := code_word (m := ⟨8, 2⟩) (meth := k8m2) (c := k8c2) (by decide +kernel) rfl rfl rfl (by decide +kernel)
set_option maxRecDepth 65536 in
theorem w_c7 : (Jvm.Cond.code ({ cls := "java/lang/AbstractStringBuilder", name := "append", desc := "(I)Ljava/lang/AbstractStringBuilder;" } : Jvm.MethodName) jdk_68_method_32_code (4 : Nat) (Option.some (Jvm.ClassFile.FieldType.object "java/lang/AbstractStringBuilder"))).before args0 about1 = true := code_word (m := ⟨5, 5⟩) (meth := k5m5) (c := k5c5) (by decide +kernel) rfl rfl rfl (by decide +kernel)
set_option maxRecDepth 65536 in
theorem w_c8 : (Jvm.Cond.code ({ cls := "java/lang/Integer", name := "stringSize", desc := "(I)I" } : Jvm.MethodName) jdk_33_method_13_code (4 : Nat) (Option.some Jvm.ClassFile.FieldType.int)).before args0 about1 = true := code_word (m := ⟨13, 1⟩) (meth := k13m1) (c := k13c1) (by decide +kernel) rfl rfl rfl (by decide +kernel)
set_option maxRecDepth 65536 in
theorem w_c9 : (Jvm.Cond.code ({ cls := "java/lang/AbstractStringBuilder", name := "ensureCapacityInternal", desc := "(I)V" } : Jvm.MethodName) jdk_68_method_9_code (3 : Nat) (Option.none : Option Jvm.ClassFile.FieldType)).before args0 about1 = true := code_word (m := ⟨5, 3⟩) (meth := k5m3) (c := k5c3) (by decide +kernel) rfl rfl rfl (by decide +kernel)
set_option maxRecDepth 65536 in
theorem w_c10 : (Jvm.Cond.code ({ cls := "java/lang/AbstractStringBuilder", name := "isLatin1", desc := "()Z" } : Jvm.MethodName) jdk_68_method_68_code (1 : Nat) (Option.some Jvm.ClassFile.FieldType.boolean)).before args0 about1 = true := code_word (m := ⟨5, 7⟩) (meth := k5m7) (c := k5c7) (by decide +kernel) rfl rfl rfl (by decide +kernel)
set_option maxRecDepth 65536 in
theorem w_c11 : (Jvm.Cond.code ({ cls := "java/lang/Integer", name := "getChars", desc := "(II[B)I" } : Jvm.MethodName) jdk_33_method_12_code (7 : Nat) (Option.some Jvm.ClassFile.FieldType.int)).before args0 about1 = true := code_word (m := ⟨13, 0⟩) (meth := k13m0) (c := k13c0) (by decide +kernel) rfl rfl rfl (by decide +kernel)
set_option maxRecDepth 65536 in
theorem w_c12 : (Jvm.Cond.code ({ cls := "java/lang/StringBuilder", name := "append", desc := "(Ljava/lang/String;)Ljava/lang/StringBuilder;" } : Jvm.MethodName) jdk_67_method_7_code (2 : Nat) (Option.some (Jvm.ClassFile.FieldType.object "java/lang/StringBuilder"))).before args0 about1 = true := code_word (m := ⟨8, 1⟩) (meth := k8m1) (c := k8c1) (by decide +kernel) rfl rfl rfl (by decide +kernel)
set_option maxRecDepth 65536 in
theorem w_c13 : (Jvm.Cond.code ({ cls := "java/lang/AbstractStringBuilder", name := "append", desc := "(Ljava/lang/String;)Ljava/lang/AbstractStringBuilder;" } : Jvm.MethodName) jdk_68_method_22_code (3 : Nat) (Option.some (Jvm.ClassFile.FieldType.object "java/lang/AbstractStringBuilder"))).before args0 about1 = true := code_word (m := ⟨5, 4⟩) (meth := k5m4) (c := k5c4) (by decide +kernel) rfl rfl rfl (by decide +kernel)
set_option maxRecDepth 65536 in
theorem w_c14 : (Jvm.Cond.code ({ cls := "java/lang/String", name := "length", desc := "()I" } : Jvm.MethodName) jdk_42_method_54_code (1 : Nat) (Option.some Jvm.ClassFile.FieldType.int)).before args0 about1 = true := code_word (m := ⟨11, 2⟩) (meth := k11m2) (c := k11c2) (by decide +kernel) rfl rfl rfl (by decide +kernel)
set_option maxRecDepth 65536 in
theorem w_c15 : (Jvm.Cond.code ({ cls := "java/lang/String", name := "coder", desc := "()B" } : Jvm.MethodName) jdk_42_method_152_code (1 : Nat) (Option.some Jvm.ClassFile.FieldType.byte)).before args0 about1 = true := code_word (m := ⟨11, 6⟩) (meth := k11m6) (c := k11c6) (by decide +kernel) rfl rfl rfl (by decide +kernel)
set_option maxRecDepth 65536 in
theorem w_c16 : (Jvm.Cond.code ({ cls := "java/lang/AbstractStringBuilder", name := "putStringAt", desc := "(ILjava/lang/String;)V" } : Jvm.MethodName) jdk_68_method_73_code (3 : Nat) (Option.none : Option Jvm.ClassFile.FieldType)).before args0 about1 = true := code_word (m := ⟨5, 9⟩) (meth := k5m9) (c := k5c9) (by decide +kernel) rfl rfl rfl (by decide +kernel)
set_option maxRecDepth 65536 in
theorem w_c17 : (Jvm.Cond.code ({ cls := "java/lang/AbstractStringBuilder", name := "inflateIfNeededFor", desc := "(Ljava/lang/String;)V" } : Jvm.MethodName) jdk_68_method_71_code (2 : Nat) (Option.none : Option Jvm.ClassFile.FieldType)).before args0 about1 = true := code_word (m := ⟨5, 8⟩) (meth := k5m8) (c := k5c8) (by decide +kernel) rfl rfl rfl (by decide +kernel)
set_option maxRecDepth 65536 in
theorem w_c18 : (Jvm.Cond.code ({ cls := "java/lang/String", name := "getBytes", desc := "([BIB)V" } : Jvm.MethodName) jdk_42_method_147_code (4 : Nat) (Option.none : Option Jvm.ClassFile.FieldType)).before args0 about1 = true := code_word (m := ⟨11, 4⟩) (meth := k11m4) (c := k11c4) (by decide +kernel) rfl rfl rfl (by decide +kernel)
set_option maxRecDepth 65536 in
theorem w_c19 : (Jvm.Cond.code ({ cls := "java/lang/StringBuilder", name := "toString", desc := "()Ljava/lang/String;" } : Jvm.MethodName) jdk_67_method_42_code (1 : Nat) (Option.some (Jvm.ClassFile.FieldType.object "java/lang/String"))).before args0 about1 = true := code_word (m := ⟨8, 3⟩) (meth := k8m3) (c := k8c3) (by decide +kernel) rfl rfl rfl (by decide +kernel)
set_option maxRecDepth 65536 in
theorem w_c20 : (Jvm.Cond.code ({ cls := "java/lang/String", name := "<init>", desc := "(Ljava/lang/StringBuilder;)V" } : Jvm.MethodName) jdk_42_method_53_code (2 : Nat) (Option.none : Option Jvm.ClassFile.FieldType)).before args0 about1 = true := code_word (m := ⟨11, 1⟩) (meth := k11m1) (c := k11c1) (by decide +kernel) rfl rfl rfl (by decide +kernel)
set_option maxRecDepth 65536 in
theorem w_c21 : (Jvm.Cond.code ({ cls := "java/lang/String", name := "<init>", desc := "(Ljava/lang/AbstractStringBuilder;Ljava/lang/Void;)V" } : Jvm.MethodName) jdk_42_method_150_code (5 : Nat) (Option.none : Option Jvm.ClassFile.FieldType)).before args0 about1 = true := code_word (m := ⟨11, 5⟩) (meth := k11m5) (c := k11c5) (by decide +kernel) rfl rfl rfl (by decide +kernel)
set_option maxRecDepth 65536 in
theorem w_c22 : (Jvm.Cond.code ({ cls := "java/lang/AbstractStringBuilder", name := "getValue", desc := "()[B" } : Jvm.MethodName) jdk_68_method_64_code (1 : Nat) (Option.some (Jvm.ClassFile.FieldType.array Jvm.ClassFile.FieldType.byte))).before args0 about1 = true := code_word (m := ⟨5, 6⟩) (meth := k5m6) (c := k5c6) (by decide +kernel) rfl rfl rfl (by decide +kernel)
set_option maxRecDepth 65536 in
theorem w_c23 : (Jvm.Cond.code ({ cls := "java/lang/StringBuilder", name := "length", desc := "()I" } : Jvm.MethodName) jdk_67_method_93_code (1 : Nat) (Option.some Jvm.ClassFile.FieldType.int)).before args0 about1 = true := code_word (m := ⟨8, 4⟩) (meth := k8m4) (c := k8c4) (by decide +kernel) rfl rfl rfl (by decide +kernel)
set_option maxRecDepth 65536 in
theorem w_c24 : (Jvm.Cond.code ({ cls := "java/lang/AbstractStringBuilder", name := "length", desc := "()I" } : Jvm.MethodName) jdk_68_method_6_code (1 : Nat) (Option.some Jvm.ClassFile.FieldType.int)).before args0 about1 = true := code_word (m := ⟨5, 2⟩) (meth := k5m2) (c := k5c2) (by decide +kernel) rfl rfl rfl (by decide +kernel)
set_option maxRecDepth 65536 in
theorem w_c25 : (Jvm.Cond.code ({ cls := "java/util/Arrays", name := "copyOfRange", desc := "([BII)[B" } : Jvm.MethodName) jdk_65_method_132_code (3 : Nat) (Option.some (Jvm.ClassFile.FieldType.array Jvm.ClassFile.FieldType.byte))).before args0 about1 = true := code_word (m := ⟨15, 2⟩) (meth := k15m2) (c := k15c2) (by decide +kernel) rfl rfl rfl (by decide +kernel)
set_option maxRecDepth 65536 in
theorem w_c26 : (Jvm.Cond.code ({ cls := "java/util/Arrays", name := "copyOfRangeByte", desc := "([BII)[B" } : Jvm.MethodName) jdk_65_method_133_code (5 : Nat) (Option.some (Jvm.ClassFile.FieldType.array Jvm.ClassFile.FieldType.byte))).before args0 about1 = true := code_word (m := ⟨15, 3⟩) (meth := k15m3) (c := k15c3) (by decide +kernel) rfl rfl rfl (by decide +kernel)
set_option maxRecDepth 65536 in
theorem w_c27 : (Jvm.Cond.code ({ cls := "java/util/Arrays", name := "checkLength", desc := "(II)V" } : Jvm.MethodName) jdk_65_method_131_code (2 : Nat) (Option.none : Option Jvm.ClassFile.FieldType)).before args0 about1 = true := code_word (m := ⟨15, 1⟩) (meth := k15m1) (c := k15c1) (by decide +kernel) rfl rfl rfl (by decide +kernel)
set_option maxRecDepth 65536 in
theorem w_c28 : (Jvm.Cond.code ({ cls := "java/lang/Math", name := "min", desc := "(II)I" } : Jvm.MethodName) jdk_29_method_69_code (2 : Nat) (Option.some Jvm.ClassFile.FieldType.int)).before args0 about1 = true := code_word (m := ⟨16, 1⟩) (meth := k16m1) (c := k16c1) (by decide +kernel) rfl rfl rfl (by decide +kernel)
set_option maxRecDepth 65536 in
theorem w_c29 : (Jvm.Cond.code ({ cls := "com/example/head_count/headcount/NodeIdRangeToStringPinLaw", name := "digits", desc := "(I)I" } : Jvm.MethodName) method_2_code (1 : Nat) (Option.some Jvm.ClassFile.FieldType.int)).before args0 about1 = true := code_word (m := ⟨1, 1⟩) (meth := k1m1) (c := k1c1) (by decide +kernel) rfl rfl rfl (by decide +kernel)
set_option maxRecDepth 65536 in
theorem w_c30 : (Jvm.Cond.code ({ cls := "java/lang/String", name := "charAt", desc := "(I)C" } : Jvm.MethodName) jdk_42_method_56_code (2 : Nat) (Option.some Jvm.ClassFile.FieldType.char)).before args0 about1 = true := code_word (m := ⟨11, 3⟩) (meth := k11m3) (c := k11c3) (by decide +kernel) rfl rfl rfl (by decide +kernel)
set_option maxRecDepth 65536 in
theorem w_c31 : (Jvm.Cond.code ({ cls := "java/lang/String", name := "isLatin1", desc := "()Z" } : Jvm.MethodName) jdk_42_method_154_code (1 : Nat) (Option.some Jvm.ClassFile.FieldType.boolean)).before args0 about1 = true := code_word (m := ⟨11, 7⟩) (meth := k11m7) (c := k11c7) (by decide +kernel) rfl rfl rfl (by decide +kernel)
set_option maxRecDepth 65536 in
theorem w_c32 : (Jvm.Cond.code ({ cls := "java/lang/StringLatin1", name := "charAt", desc := "([BI)C" } : Jvm.MethodName) jdk_43_method_2_code (2 : Nat) (Option.some Jvm.ClassFile.FieldType.char)).before args0 about1 = true := code_word (m := ⟨17, 1⟩) (meth := k17m1) (c := k17c1) (by decide +kernel) rfl rfl rfl (by decide +kernel)
set_option maxRecDepth 65536 in
theorem w_c33 : (Jvm.Cond.code ({ cls := "java/lang/String", name := "checkIndex", desc := "(II)V" } : Jvm.MethodName) jdk_42_method_155_code (2 : Nat) (Option.none : Option Jvm.ClassFile.FieldType)).before args0 about1 = true := code_word (m := ⟨11, 8⟩) (meth := k11m8) (c := k11c8) (by decide +kernel) rfl rfl rfl (by decide +kernel)
set_option maxRecDepth 65536 in
theorem w_c34 : (Jvm.Cond.code ({ cls := "jdk/internal/util/Preconditions", name := "checkIndex", desc := "(IILjava/util/function/BiFunction;)I" } : Jvm.MethodName) jdk_41_method_11_code (3 : Nat) (Option.some Jvm.ClassFile.FieldType.int)).before args0 about1 = true := code_word (m := ⟨18, 1⟩) (meth := k18m1) (c := k18c1) (by decide +kernel) rfl rfl rfl (by decide +kernel)
set_option maxRecDepth 65536 in
theorem w_c35 : (Jvm.Cond.code ({ cls := "com/example/head_count/headcount/NodeIdRangeToStringPinLaw", name := "numAt", desc := "(Ljava/lang/String;II)Z" } : Jvm.MethodName) method_3_code (6 : Nat) (Option.some Jvm.ClassFile.FieldType.boolean)).before args0 about1 = true := code_word (m := ⟨1, 2⟩) (meth := k1m2) (c := k1c2) (by decide +kernel) rfl rfl rfl (by decide +kernel)
def codes1 : List Jvm.Cond := [Jvm.Cond.code x code maxLocals ret, Jvm.Cond.code ({ cls := "com/example/head_count/headcount/NodeIdRange", name := "<init>", desc := "(II)V" } : Jvm.MethodName) prog_15_method_1_code (3 : Nat) (Option.none : Option Jvm.ClassFile.FieldType), Jvm.Cond.code ({ cls := "java/lang/Object", name := "<init>", desc := "()V" } : Jvm.MethodName) object_method_1_code (1 : Nat) (Option.none : Option Jvm.ClassFile.FieldType), Jvm.Cond.code ({ cls := "com/example/head_count/headcount/NodeIdRange", name := "toString", desc := "()Ljava/lang/String;" } : Jvm.MethodName) prog_15_method_6_code (1 : Nat) (Option.some (Jvm.ClassFile.FieldType.object "java/lang/String")), Jvm.Cond.code ({ cls := "java/lang/StringBuilder", name := "<init>", desc := "()V" } : Jvm.MethodName) jdk_67_method_1_code (1 : Nat) (Option.none : Option Jvm.ClassFile.FieldType), Jvm.Cond.code ({ cls := "java/lang/AbstractStringBuilder", name := "<init>", desc := "(I)V" } : Jvm.MethodName) jdk_68_method_2_code (2 : Nat) (Option.none : Option Jvm.ClassFile.FieldType), Jvm.Cond.code ({ cls := "java/lang/StringBuilder", name := "append", desc := "(I)Ljava/lang/StringBuilder;" } : Jvm.MethodName) jdk_67_method_15_code (2 : Nat) (Option.some (Jvm.ClassFile.FieldType.object "java/lang/StringBuilder")), Jvm.Cond.code ({ cls := "java/lang/AbstractStringBuilder", name := "append", desc := "(I)Ljava/lang/AbstractStringBuilder;" } : Jvm.MethodName) jdk_68_method_32_code (4 : Nat) (Option.some (Jvm.ClassFile.FieldType.object "java/lang/AbstractStringBuilder")), Jvm.Cond.code ({ cls := "java/lang/Integer", name := "stringSize", desc := "(I)I" } : Jvm.MethodName) jdk_33_method_13_code (4 : Nat) (Option.some Jvm.ClassFile.FieldType.int), Jvm.Cond.code ({ cls := "java/lang/AbstractStringBuilder", name := "ensureCapacityInternal", desc := "(I)V" } : Jvm.MethodName) jdk_68_method_9_code (3 : Nat) (Option.none : Option Jvm.ClassFile.FieldType), Jvm.Cond.code ({ cls := "java/lang/AbstractStringBuilder", name := "isLatin1", desc := "()Z" } : Jvm.MethodName) jdk_68_method_68_code (1 : Nat) (Option.some Jvm.ClassFile.FieldType.boolean), Jvm.Cond.code ({ cls := "java/lang/Integer", name := "getChars", desc := "(II[B)I" } : Jvm.MethodName) jdk_33_method_12_code (7 : Nat) (Option.some Jvm.ClassFile.FieldType.int), Jvm.Cond.code ({ cls := "java/lang/StringBuilder", name := "append", desc := "(Ljava/lang/String;)Ljava/lang/StringBuilder;" } : Jvm.MethodName) jdk_67_method_7_code (2 : Nat) (Option.some (Jvm.ClassFile.FieldType.object "java/lang/StringBuilder")), Jvm.Cond.code ({ cls := "java/lang/AbstractStringBuilder", name := "append", desc := "(Ljava/lang/String;)Ljava/lang/AbstractStringBuilder;" } : Jvm.MethodName) jdk_68_method_22_code (3 : Nat) (Option.some (Jvm.ClassFile.FieldType.object "java/lang/AbstractStringBuilder")), Jvm.Cond.code ({ cls := "java/lang/String", name := "length", desc := "()I" } : Jvm.MethodName) jdk_42_method_54_code (1 : Nat) (Option.some Jvm.ClassFile.FieldType.int), Jvm.Cond.code ({ cls := "java/lang/String", name := "coder", desc := "()B" } : Jvm.MethodName) jdk_42_method_152_code (1 : Nat) (Option.some Jvm.ClassFile.FieldType.byte), Jvm.Cond.code ({ cls := "java/lang/AbstractStringBuilder", name := "putStringAt", desc := "(ILjava/lang/String;)V" } : Jvm.MethodName) jdk_68_method_73_code (3 : Nat) (Option.none : Option Jvm.ClassFile.FieldType), Jvm.Cond.code ({ cls := "java/lang/AbstractStringBuilder", name := "inflateIfNeededFor", desc := "(Ljava/lang/String;)V" } : Jvm.MethodName) jdk_68_method_71_code (2 : Nat) (Option.none : Option Jvm.ClassFile.FieldType), Jvm.Cond.code ({ cls := "java/lang/String", name := "getBytes", desc := "([BIB)V" } : Jvm.MethodName) jdk_42_method_147_code (4 : Nat) (Option.none : Option Jvm.ClassFile.FieldType), Jvm.Cond.code ({ cls := "java/lang/StringBuilder", name := "toString", desc := "()Ljava/lang/String;" } : Jvm.MethodName) jdk_67_method_42_code (1 : Nat) (Option.some (Jvm.ClassFile.FieldType.object "java/lang/String")), Jvm.Cond.code ({ cls := "java/lang/String", name := "<init>", desc := "(Ljava/lang/StringBuilder;)V" } : Jvm.MethodName) jdk_42_method_53_code (2 : Nat) (Option.none : Option Jvm.ClassFile.FieldType), Jvm.Cond.code ({ cls := "java/lang/String", name := "<init>", desc := "(Ljava/lang/AbstractStringBuilder;Ljava/lang/Void;)V" } : Jvm.MethodName) jdk_42_method_150_code (5 : Nat) (Option.none : Option Jvm.ClassFile.FieldType), Jvm.Cond.code ({ cls := "java/lang/AbstractStringBuilder", name := "getValue", desc := "()[B" } : Jvm.MethodName) jdk_68_method_64_code (1 : Nat) (Option.some (Jvm.ClassFile.FieldType.array Jvm.ClassFile.FieldType.byte)), Jvm.Cond.code ({ cls := "java/lang/StringBuilder", name := "length", desc := "()I" } : Jvm.MethodName) jdk_67_method_93_code (1 : Nat) (Option.some Jvm.ClassFile.FieldType.int), Jvm.Cond.code ({ cls := "java/lang/AbstractStringBuilder", name := "length", desc := "()I" } : Jvm.MethodName) jdk_68_method_6_code (1 : Nat) (Option.some Jvm.ClassFile.FieldType.int), Jvm.Cond.code ({ cls := "java/util/Arrays", name := "copyOfRange", desc := "([BII)[B" } : Jvm.MethodName) jdk_65_method_132_code (3 : Nat) (Option.some (Jvm.ClassFile.FieldType.array Jvm.ClassFile.FieldType.byte)), Jvm.Cond.code ({ cls := "java/util/Arrays", name := "copyOfRangeByte", desc := "([BII)[B" } : Jvm.MethodName) jdk_65_method_133_code (5 : Nat) (Option.some (Jvm.ClassFile.FieldType.array Jvm.ClassFile.FieldType.byte)), Jvm.Cond.code ({ cls := "java/util/Arrays", name := "checkLength", desc := "(II)V" } : Jvm.MethodName) jdk_65_method_131_code (2 : Nat) (Option.none : Option Jvm.ClassFile.FieldType), Jvm.Cond.code ({ cls := "java/lang/Math", name := "min", desc := "(II)I" } : Jvm.MethodName) jdk_29_method_69_code (2 : Nat) (Option.some Jvm.ClassFile.FieldType.int), Jvm.Cond.code ({ cls := "com/example/head_count/headcount/NodeIdRangeToStringPinLaw", name := "digits", desc := "(I)I" } : Jvm.MethodName) method_2_code (1 : Nat) (Option.some Jvm.ClassFile.FieldType.int), Jvm.Cond.code ({ cls := "java/lang/String", name := "charAt", desc := "(I)C" } : Jvm.MethodName) jdk_42_method_56_code (2 : Nat) (Option.some Jvm.ClassFile.FieldType.char), Jvm.Cond.code ({ cls := "java/lang/String", name := "isLatin1", desc := "()Z" } : Jvm.MethodName) jdk_42_method_154_code (1 : Nat) (Option.some Jvm.ClassFile.FieldType.boolean), Jvm.Cond.code ({ cls := "java/lang/StringLatin1", name := "charAt", desc := "([BI)C" } : Jvm.MethodName) jdk_43_method_2_code (2 : Nat) (Option.some Jvm.ClassFile.FieldType.char), Jvm.Cond.code ({ cls := "java/lang/String", name := "checkIndex", desc := "(II)V" } : Jvm.MethodName) jdk_42_method_155_code (2 : Nat) (Option.none : Option Jvm.ClassFile.FieldType), Jvm.Cond.code ({ cls := "jdk/internal/util/Preconditions", name := "checkIndex", desc := "(IILjava/util/function/BiFunction;)I" } : Jvm.MethodName) jdk_41_method_11_code (3 : Nat) (Option.some Jvm.ClassFile.FieldType.int), Jvm.Cond.code ({ cls := "com/example/head_count/headcount/NodeIdRangeToStringPinLaw", name := "numAt", desc := "(Ljava/lang/String;II)Z" } : Jvm.MethodName) method_3_code (6 : Nat) (Option.some Jvm.ClassFile.FieldType.boolean)]
set_option maxRecDepth 65536 in
theorem codes_eq : words1.filter isCode = codes1 := rfl
theorem w_codes : ∀ c ∈ words1.filter isCode, c.before args0 about1 = true := by
  rw [codes_eq]
  intro c hc
  simp only [codes1, List.mem_cons, List.not_mem_nil, or_false] at hc
  rcases hc with rfl | rfl | rfl | rfl | rfl | rfl | rfl | rfl | rfl | rfl | rfl | rfl | rfl | rfl | rfl | rfl | rfl | rfl | rfl | rfl | rfl | rfl | rfl | rfl | rfl | rfl | rfl | rfl | rfl | rfl | rfl | rfl | rfl | rfl | rfl | rfl
  · exact w_c0
  · exact w_c1
  · exact w_c2
  · exact w_c3
  · exact w_c4
  · exact w_c5
  · exact w_c6
  · exact w_c7
  · exact w_c8
  · exact w_c9
  · exact w_c10
  · exact w_c11
  · exact w_c12
  · exact w_c13
  · exact w_c14
  · exact w_c15
  · exact w_c16
  · exact w_c17
  · exact w_c18
  · exact w_c19
  · exact w_c20
  · exact w_c21
  · exact w_c22
  · exact w_c23
  · exact w_c24
  · exact w_c25
  · exact w_c26
  · exact w_c27
  · exact w_c28
  · exact w_c29
  · exact w_c30
  · exact w_c31
  · exact w_c32
  · exact w_c33
  · exact w_c34
  · exact w_c35
set_option maxRecDepth 65536 in
theorem w_t1 : (words1.take 24).all (fun c => isCode c || c.before args0 about1) = true := by decide +kernel
set_option maxRecDepth 65536 in
theorem w_t2 : ((words1.drop 24).take 24).all (fun c => isCode c || c.before args0 about1) = true := by decide +kernel
set_option maxRecDepth 65536 in
theorem w_t3 : (((words1.drop 24).drop 24).take 24).all (fun c => isCode c || c.before args0 about1) = true := by decide +kernel
set_option maxRecDepth 65536 in
theorem w_t4 : ((((words1.drop 24).drop 24).drop 24).take 24).all (fun c => isCode c || c.before args0 about1) = true := by decide +kernel
set_option maxRecDepth 65536 in
theorem w_t5 : (((((words1.drop 24).drop 24).drop 24).drop 24).take 24).all (fun c => isCode c || c.before args0 about1) = true := by decide +kernel
set_option maxRecDepth 65536 in
theorem w_t6 : ((((((words1.drop 24).drop 24).drop 24).drop 24).drop 24).take 24).all (fun c => isCode c || c.before args0 about1) = true := by decide +kernel
set_option maxRecDepth 65536 in
theorem w_t7 : (((((((words1.drop 24).drop 24).drop 24).drop 24).drop 24).drop 24).take 24).all (fun c => isCode c || c.before args0 about1) = true := by decide +kernel
set_option maxRecDepth 65536 in
theorem w_t8 : ((((((((words1.drop 24).drop 24).drop 24).drop 24).drop 24).drop 24).drop 24).take 24).all (fun c => isCode c || c.before args0 about1) = true := by decide +kernel
set_option maxRecDepth 65536 in
theorem w_t9 : ((((((((words1.drop 24).drop 24).drop 24).drop 24).drop 24).drop 24).drop 24).drop 24).all (fun c => isCode c || c.before args0 about1) = true := by decide +kernel
theorem w_tables : (allAtoms (Jvm.Cond.code x code maxLocals ret :: tables_1)).before args0 about1 = true := by
  rw [allAtoms_all]
  show words1.all (fun c => c.before args0 about1) = true
  refine all_split ?_ w_codes
  rw [← List.take_append_drop 24 words1, List.all_append, w_t1, ← List.take_append_drop 24 (words1.drop 24), List.all_append, w_t2, ← List.take_append_drop 24 ((words1.drop 24).drop 24), List.all_append, w_t3, ← List.take_append_drop 24 (((words1.drop 24).drop 24).drop 24), List.all_append, w_t4, ← List.take_append_drop 24 ((((words1.drop 24).drop 24).drop 24).drop 24), List.all_append, w_t5, ← List.take_append_drop 24 (((((words1.drop 24).drop 24).drop 24).drop 24).drop 24), List.all_append, w_t6, ← List.take_append_drop 24 ((((((words1.drop 24).drop 24).drop 24).drop 24).drop 24).drop 24), List.all_append, w_t7, ← List.take_append_drop 24 (((((((words1.drop 24).drop 24).drop 24).drop 24).drop 24).drop 24).drop 24), List.all_append, w_t8, w_t9]
  rfl
set_option maxRecDepth 65536 in
theorem w_rest : rest_1_c.before args0 about1 = true := by decide +kernel
set_option maxRecDepth 65536 in
theorem w_case : (Jvm.Cond.and given_1 narrow_1).before args0 about1 = true := by decide +kernel
set_option maxRecDepth 65536 in
theorem w_consts : constsHeld consts_1 about1 := Jvm.Lit.constsHeldB_iff.mp (by decide +kernel)
theorem w_applies : (headSpec (Jvm.Cond.code x code maxLocals ret :: tables_1) room_1).applies x e0.platform about1 = true :=
  (Spec.applies_iff w_frames).mpr ⟨w_running, w_runnable, w_alone, w_named, w_hears, w_ripe, w_room, w_tables⟩
theorem atStart : AtStart classFile x code maxLocals ret World_1 tables_1 room_1 Calls_1 rest_1 Pre_1 launch0 p0 e0 about1 theMethod args0 below0 :=
  ⟨lists_1, trivial, launch0.admits_env _ _ _, launch0.least_env, fairChoices_fair.cas, fairChoices_fair.clock, w_frames, w_args, w_heap, w_applies, ⟨w_consts, trivial⟩, w_rest, w_case⟩
end start1
theorem witness_1 : WitnessClaimed_1 := ⟨start1.p0, start1.e0, start1.about1, start1.theMethod, start1.args0, start1.below0, start1.atStart⟩
end Jvm.Pilot.@@N@@
