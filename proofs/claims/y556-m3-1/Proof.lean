import JvmDerived
import JvmDerived.Pilot.@@N@@Statement
import JvmDerived.Pilot.@@N@@Code
set_option linter.unusedVariables false
set_option linter.unusedSimpArgs false
namespace Jvm.RoadKit
open Sem ClassFile Op Lib Jvm.Stand Jvm.Free Jvm.LawKit
section New
variable {p : Program} {l : Launch} {e : Env} {R : Room} {s : State} {m : MethodId} {args : Array Value} {below : List Frame} {meth : Method} {c : Code} {T : State} {locs : List Loc} {cells slots : Nat}
theorem retI (X : Stand p l e R s m args below meth c T locs cells slots) (hx : p.tables.exec = Jvm.exec) {pc : Nat} {Ls : Array Slot} {z : Int32} {rest : List Value} (hret : meth.sig.returnType = some .int) (hd : decode c.code pc = .ok (.ireturn, 1)) {fs : List Frame}
    (hl : ∀ (f : JFrame) (acts : List Action), f.method = m → f.locked = none → f.entered = [] → (doReturn e (T.setTop f) acts (some (.int z))).1 = T.setFrames fs) : Steps p.tables e below (T.setTop (mkF m pc Ls (.int z :: rest))) (T.setFrames fs) :=
  retOut X hx hret rfl (Or.inl ⟨rfl, Or.inl rfl, _, rfl⟩) hd hl
end New
end Jvm.RoadKit
namespace Jvm.Pilot.@@N@@
open Jvm Jvm.ClassFile Sem Op Lib Jvm.Free Jvm.Stand Jvm.LawKit Jvm.RoadKit Bundle Jvm.Pilot.@@N@@.Jvm.D
abbrev own_m0 : MethodName := ⟨"com/example/measurewright/measurewright/Comparison", "holds", "(Ljava/lang/Comparable;Ljava/lang/Comparable;)Z"⟩
abbrev own_m1 : MethodName := ⟨"com/example/measurewright/measurewright/Comparison", "satisfiedBy", "(I)Z"⟩
abbrev own_m2 : MethodName := ⟨"com/example/measurewright/measurewright/Comparison", "converse", "()Lcom/example/measurewright/measurewright/Comparison;"⟩
abbrev own_m3 : MethodName := ⟨"java/lang/Integer", "compareTo", "(Ljava/lang/Object;)I"⟩
abbrev own_m4 : MethodName := ⟨"java/lang/Integer", "valueOf", "(I)Ljava/lang/Integer;"⟩
abbrev own_m5 : MethodName := ⟨"java/lang/Enum", "ordinal", "()I"⟩
abbrev own_m6 : MethodName := ⟨"java/lang/Comparable", "compareTo", "(Ljava/lang/Object;)I"⟩
abbrev own_m7 : MethodName := ⟨"com/example/measurewright/measurewright/ComparisonConversePinLaw", "pick", "(I)Lcom/example/measurewright/measurewright/Comparison;"⟩
abbrev own_m8 : MethodName := ⟨"java/lang/Integer", "compareTo", "(Ljava/lang/Integer;)I"⟩
abbrev own_m9 : MethodName := ⟨"com/example/measurewright/measurewright/Comparison", "ordinal", "()I"⟩
abbrev own_m10 : MethodName := ⟨"java/lang/Integer", "compare", "(II)I"⟩
abbrev own_m11 : MethodName := ⟨"java/lang/Integer", "<init>", "(I)V"⟩
abbrev own_m12 : MethodName := ⟨"java/lang/Number", "<init>", "()V"⟩
/-- what a body that writes nothing leaves: its value, no place written, the heap as it was -/
def PQ (w : Option Value) (h0 : Heap) (n0 : Nat) (v : Option Value) (h : Heap) (L : List Loc) : Prop := v = w ∧ Fr n0 L ∧ h = h0
def LQ (n0 : Nat) (v : Option Value) (h : Heap) (L : List Loc) : Prop := v = some (.int (1 : Int32)) ∧ Fr n0 L ∧ True
theorem own_selpS {s : State} {args args' : Array Value} {y x2 y2 : MethodName} (w : (Cond.selects y.cls x2 y2).before args' s = true) (h2 : y2.cls = y.cls) (hp : (Cond.privateMethod y).before args s = true) (hi : (Cond.instanceMethod y).before args' s = true) (hy : y.cls ≠ "java/lang/invoke/MethodHandle" ∧ y.cls ≠ "java/lang/invoke/VarHandle") : (Cond.selects y.cls y y).before args' s = true := by
  obtain ⟨c, r, m, h1, -, h3, -, k, hk, hki⟩ := Cond.selects_spec w
  have hc : s.vm.findClass y.cls = some m.cls := by rw [← h2]; exact findClass_of_methodNamed h3
  exact Stand.selects_self_of_private hc hk hki (Cond.privateMethod_at hp) hi hy
theorem own_selpI {s : State} {args args' : Array Value} {y : MethodName} {n : Nat} (w : (Cond.instantiable y.cls n).before args' s = true) (hp : (Cond.privateMethod y).before args s = true) (hi : (Cond.instanceMethod y).before args' s = true) (hy : y.cls ≠ "java/lang/invoke/MethodHandle" ∧ y.cls ≠ "java/lang/invoke/VarHandle") : (Cond.selects y.cls y y).before args' s = true := by
  obtain ⟨c, k, h1, h2, -, h4, -⟩ := Cond.instantiable_spec w
  exact Stand.selects_self_of_private h1 h2 (by simpa using (Bool.or_eq_false_iff.mp h4).1) (Cond.privateMethod_at hp) hi hy
theorem own_pd0 : parseMethodDescriptor "()V" = some ⟨[], none⟩ := by decide +kernel
theorem own_pd1 : parseMethodDescriptor "(I)V" = some ⟨[.int], none⟩ := by decide +kernel
theorem own_pd2 : parseMethodDescriptor "(I)Lcom/example/measurewright/measurewright/Comparison;" = some ⟨[.int], some (.object "com/example/measurewright/measurewright/Comparison")⟩ := by decide +kernel
theorem own_pd3 : parseMethodDescriptor "(I)Ljava/lang/Integer;" = some ⟨[.int], some (.object "java/lang/Integer")⟩ := by decide +kernel
theorem own_pd4 : parseMethodDescriptor "()I" = some ⟨[], some .int⟩ := by decide +kernel
theorem own_pd5 : parseMethodDescriptor "()Lcom/example/measurewright/measurewright/Comparison;" = some ⟨[], some (.object "com/example/measurewright/measurewright/Comparison")⟩ := by decide +kernel
theorem own_pd6 : parseMethodDescriptor "(II)I" = some ⟨[.int, .int], some .int⟩ := by decide +kernel
theorem own_pd7 : parseMethodDescriptor "(Ljava/lang/Integer;)I" = some ⟨[(.object "java/lang/Integer")], some .int⟩ := by decide +kernel
theorem own_pd8 : parseMethodDescriptor "(Ljava/lang/Object;)I" = some ⟨[(.object "java/lang/Object")], some .int⟩ := by decide +kernel
theorem own_pd9 : parseMethodDescriptor "(I)Z" = some ⟨[.int], some .boolean⟩ := by decide +kernel
theorem own_pd10 : parseMethodDescriptor "(Ljava/lang/Comparable;Ljava/lang/Comparable;)Z" = some ⟨[(.object "java/lang/Comparable"), (.object "java/lang/Comparable")], some .boolean⟩ := by decide +kernel
def own_Bx (Z : State) (a : Addr) : Prop := ∃ c : Cell, Bxs Z a c "java/lang/Integer" "I" (256 : Int32) (fun j => .int (j - 128))
theorem own_bxstart {s : State} {args : Array Value} {a : Addr} {c : Cell} (et : ∀ idx, (Term.static "java/lang/Integer$IntegerCache" "cache" "[Ljava/lang/Integer;").eval args s none idx s = some (.ref a)) (A : Arr s s.heap a c (.object "java/lang/Integer")) (q : c.slots.size < 2 ^ 31) (e : c.slots.size.toInt32 = (256 : Int32))
    (h : (Cond.all (.static "java/lang/Integer$IntegerCache" "cache" "[Ljava/lang/Integer;") (.and (.exactly (.elem (.static "java/lang/Integer$IntegerCache" "cache" "[Ljava/lang/Integer;") (.index 0)) "java/lang/Integer") (.eq (.field (.elem (.static "java/lang/Integer$IntegerCache" "cache" "[Ljava/lang/Integer;") (.index 0)) "java/lang/Integer" "value" "I") (.sub (.index 0) (.int 128))))).value args s none s [] = some true) : own_Bx s a :=
  ⟨c, Bxs.start et A q e (by decide) h fun X j hj hh => eqv_i (by
    have e1 : (Term.index 0).eval args s none [j.toNatClampNeg] s = some (.int j) := by
      show some (Value.int (j.toNatClampNeg).toInt32) = _
      rw [(back32 hj).1]
    simp [Term.eval, e1]
    exact (back32 hj).1) hh⟩
theorem own_bxin {c : Cell} {q : Int32} (S : c.slots.size = (256 : Int32).toNatClampNeg) (h1 : ¬ q < (-128 : Int32)) (h2 : ¬ (127 : Int32) < q) : ¬ ((q + (128 : Int32)) < 0 ∨ c.slots.size ≤ (q + (128 : Int32)).toNatClampNeg) := by
  have e := c_iadd q 128
  have r := rng32 (q + 128)
  have r2 := rng32 q
  simp only [Int32.lt_iff_toInt_lt] at h1 h2 ⊢
  have k1 : (-128 : Int32).toInt = -128 := rfl
  have k2 : (127 : Int32).toInt = 127 := rfl
  have k3 : (128 : Int32).toInt = 128 := rfl
  have k4 : (0 : Int32).toInt = 0 := rfl
  have k5 : (256 : Int32).toNatClampNeg = 256 := rfl
  rw [k1] at h1; rw [k2] at h2; rw [k3] at e; rw [k4]
  simp only [Int32.toNatClampNeg] at *
  omega
theorem own_bxv (q : Int32) : q + (128 : Int32) - 128 = q := by
  apply Int32.toInt_inj.mp
  have e := c_iadd q 128
  have e2 := c_isub (q + 128) 128
  have r := rng32 q
  have r2 := rng32 (q + 128 - 128)
  have k3 : (128 : Int32).toInt = 128 := rfl
  omega
def QV (Z : State) (q1 : Int32) (h0 : Heap) (n0 : Nat) (v : Option Value) (h : Heap) (L : List Loc) : Prop := ∃ r : Addr, v = some (.ref r) ∧ Fr n0 L ∧ Keep h0 h [] ∧ Exa Z h r "java/lang/Integer" ∧ Fld Z h r "java/lang/Integer" "value" "I" (.int q1)
theorem own_k (p : Int32) : ∃ n, n < 5 ∧ ((p &&& (2147483647 : Int32)) % (5 : Int32)) = Int32.ofNat n := by
  have q0 := c_and p 2147483647 (by decide)
  have q := (c_irem (p &&& (2147483647 : Int32)) (5 : Int32) 5 rfl).1 q0.1
  refine ⟨((p &&& (2147483647 : Int32)).toInt % 5).toNat, by omega, ?_⟩
  rw [← Int32.toInt_inj, q, Int32.toInt_ofNat_small (by omega)]
  omega
theorem own_n1 {a b : Int32} (h : a < b) : ¬ (b < a) := by rw [Int32.lt_iff_toInt_lt] at *; omega
theorem own_n2 {a b : Int32} (h : a < b) : ¬ (b = a) := fun e => by subst e; rw [Int32.lt_iff_toInt_lt] at h; omega
theorem own_n3 {a b : Int32} (h : a = b) : ¬ (b < a) := by subst h; rw [Int32.lt_iff_toInt_lt]; omega
theorem own_n4 {a b : Int32} (h : ¬ (a < b)) (k : ¬ (a = b)) : b < a := by rw [Int32.lt_iff_toInt_lt] at *; rw [← Int32.toInt_inj] at k; omega
theorem own_eqv {s : State} {args : Array Value} {t u : Term} {w : Value} (hu : u.eval args s none [] s = some w) (h : (Cond.eq t u).value args s none s [] = some true) (hk : (match w with | .retAddr _ => false | .float _ => false | .double _ => false | _ => true) = true := by rfl) : t.eval args s none [] s = some w := by
  obtain ⟨x, y, e1, e2, -, -⟩ := cmp_v (Or.inl h)
  cases hu.symm.trans e2
  rw [e1]
  simp only [Cond.value, e1, hu] at h
  cases x <;> cases w <;> simp at h hk ⊢ <;> exact h
theorem own_fld {s : State} {args : Array Value} {t : Term} {C n d : String} {a : Addr} {v : Value} (ht : t.eval args s none [] s = some (.ref a)) (h : (Term.field t C n d).eval args s none [] s = some v) : Fld s s.heap a C n d v := Fld.start ((fld_at ht).symm.trans h)
theorem own_len {s : State} {args : Array Value} {t : Term} {ty : FieldType} {a : Addr} {n : Int32} (ht : t.eval args s none [] s = some (.ref a)) (ha : (Cond.arrayOf t ty).value args s none s [] = some true) (hl : (Cond.eq (.length t) (.int n)).value args s none s [] = some true) (hn : ¬ n < 0) :
    ∃ c : Cell, Arr s s.heap a c ty ∧ c.slots.size < 2 ^ 31 ∧ c.slots.size.toInt32 = n := by
  obtain ⟨c, A⟩ := Arr.start ht ha
  have e := own_eqv (Term.int_eval n) hl
  have A2 := A.fin (Vm.Alike.refl _)
  obtain ⟨x, c2, e1, e2, e3⟩ := Term.length_spec e
  cases ht.symm.trans e1
  cases A2.symm.trans e2
  have h31 := SBG.length_lt ht A2 e
  refine ⟨c, A, h31, ?_⟩
  have := len_f ht A2 h31
  rw [e] at this
  simpa using (Option.some.inj this).symm
theorem own_elem {s : State} {args : Array Value} {t : Term} {ty : FieldType} {a : Addr} {c : Cell} {j : Int32} {v : Value} (ht : t.eval args s none [] s = some (.ref a)) (A : Arr s s.heap a c ty) (h : (Term.elem t (.int j)).eval args s none [] s = some v) : c.slots[j.toNatClampNeg]? = some v := (elem_in h ht (Term.int_eval j) A.1).2
theorem own_all0 {s : State} {args : Array Value} {t : Term} {ty : FieldType} {a : Addr} {c : Cell} {k n : Int32} (ht : ∀ idx, t.eval args s none idx s = some (.ref a)) (A : Arr s s.heap a c ty) (h31 : c.slots.size < 2 ^ 31) (hn : c.slots.size.toInt32 = n)
    (h : (Cond.all t (.or (.lt (.index 0) (.int k)) (.eq (.elem t (.index 0)) (.int 0)))).value args s none s [] = some true) (j : Nat) (hj : j < n.toNatClampNeg) (hk : ¬ j.toInt32 < k) : c.slots[j]? = some (.int 0) := by
  have A2 := A.fin (Vm.Alike.refl _)
  have hsz : n.toNatClampNeg = c.slots.size := by rw [← hn]; simp only [Int32.toNatClampNeg, len_toInt h31]; rfl
  have hj2 : j < c.slots.size := hsz ▸ hj
  have q := Cond.all_elim (ht []) A2 h j hj2
  have e1 : (Term.index 0).eval args s none [j] s = some (.int j.toInt32) := rfl
  have l1 : (Cond.lt (.index 0) (.int k)).value args s none s [j] = some false := by
    simp [Cond.value, e1, Term.int_eval, hk]
  have q2 : (Cond.eq (.elem t (.index 0)) (.int 0)).value args s none s [j] = some true := by
    have q3 : (match (Cond.lt (.index 0) (.int k)).value args s none s [j] with | some false => (Cond.eq (.elem t (.index 0)) (.int 0)).value args s none s [j] | x => x) = some true := q
    rw [l1] at q3
    exact q3
  obtain ⟨x, y, e2, e3, -, -⟩ := cmp_v (Or.inl q2)
  cases (Term.int_eval (args := args) (first := s) (o := none) (idx := [j]) (s := s) 0).symm.trans e3
  have e4 : (Term.elem t (.index 0)).eval args s none [j] s = some (.int 0) := by
    simp only [Cond.value, e2, e3] at q2
    rw [e2]; cases x <;> simp at q2 ⊢; exact q2
  have e5 := elem_in e4 (ht [j]) e1 A.1
  have e6 : (Nat.toInt32 j).toNatClampNeg = j := by simp only [Int32.toNatClampNeg, len_toInt (Nat.lt_trans hj2 h31)]; rfl
  rw [e6] at e5
  exact e5.2
theorem own_csne {s : State} {args : Array Value} {t : Term} {v : Int32} (e : t.eval args s none [] s = some (.int v)) (h : (Cond.not (.eq t (.int 0))).value args s none s [] = some true) : ¬ (v = (0 : Int32)) := by
  have q := not_v h
  intro hv
  subst hv
  have q2 := Cond.eq_ints e (Term.int_eval (args := args) (first := s) (o := none) (idx := []) (s := s) 0)
  rw [q2] at q
  simp at q
theorem own_orref {s : State} {args : Array Value} {C f d : String} (h : (Cond.isRef (.static C f d)).value args s none s [] = some true) (hi : (Cond.initializedFor C f d).before args s = true ∨ ((Cond.initialized C).before args s = true ∧ (Cond.laysStatic C f d).before args s = true)) : (Sta s s.heap C f d .null) ∨ (∃ a, Sta s s.heap C f d (.ref a)) := by
  obtain ⟨x, e, hr⟩ := isR_v h
  rcases ref_cases hr with rfl | ⟨a, rfl⟩
  · exact Or.inl (Sta.start e hi)
  · exact Or.inr ⟨a, Sta.start e hi⟩
def own_St (Z : State) (A : Nat → Addr) (K : Nat → ClassId) : Prop := ((Sta Z Z.heap "com/example/measurewright/measurewright/Comparison" "LESS" "Lcom/example/measurewright/measurewright/Comparison;" (.ref (A 0))) ∧ (Exa Z Z.heap (A 0) "com/example/measurewright/measurewright/Comparison") ∧ (Sta Z Z.heap "com/example/measurewright/measurewright/Comparison" "AT_MOST" "Lcom/example/measurewright/measurewright/Comparison;" (.ref (A 1))) ∧ (Exa Z Z.heap (A 1) "com/example/measurewright/measurewright/Comparison") ∧ (Sta Z Z.heap "com/example/measurewright/measurewright/Comparison" "EQUAL" "Lcom/example/measurewright/measurewright/Comparison;" (.ref (A 2))) ∧ (Exa Z Z.heap (A 2) "com/example/measurewright/measurewright/Comparison") ∧ (Sta Z Z.heap "com/example/measurewright/measurewright/Comparison" "AT_LEAST" "Lcom/example/measurewright/measurewright/Comparison;" (.ref (A 3))) ∧ (Exa Z Z.heap (A 3) "com/example/measurewright/measurewright/Comparison") ∧ True) ∧ ((Sta Z Z.heap "com/example/measurewright/measurewright/Comparison" "GREATER" "Lcom/example/measurewright/measurewright/Comparison;" (.ref (A 4))) ∧ (Exa Z Z.heap (A 4) "com/example/measurewright/measurewright/Comparison") ∧ (Sta Z Z.heap "java/lang/Integer$IntegerCache" "cache" "[Ljava/lang/Integer;" (.ref (A 5))) ∧ (Exa Z Z.heap (A 5) "[Ljava/lang/Integer;") ∧ (Fld Z Z.heap (A 0) "java/lang/Enum" "ordinal" "I" (.int (0 : Int32))) ∧ (Fld Z Z.heap (A 4) "java/lang/Enum" "ordinal" "I" (.int (4 : Int32))) ∧ (Fld Z Z.heap (A 1) "java/lang/Enum" "ordinal" "I" (.int (1 : Int32))) ∧ (Fld Z Z.heap (A 3) "java/lang/Enum" "ordinal" "I" (.int (3 : Int32))) ∧ True) ∧ ((Fld Z Z.heap (A 2) "java/lang/Enum" "ordinal" "I" (.int (2 : Int32))) ∧ (Sta Z Z.heap "java/lang/Integer$IntegerCache" "high" "I" (.int (127 : Int32))) ∧ (own_Bx Z (A 5)) ∧ True) ∧ True
theorem own_d_jdk_18_method_1_code_0 : decode jdk_18_method_1_code 0 = .ok (.aload_n 0, 1) := by decide +kernel
theorem own_d_jdk_18_method_1_code_1 : decode jdk_18_method_1_code 1 = .ok (.invokespecial 1, 3) := by decide +kernel
theorem own_d_jdk_18_method_1_code_4 : decode jdk_18_method_1_code 4 = .ok (.return_, 1) := by decide +kernel
theorem own_pn0 : plainName "java/lang/Number" = true := by first | (simp [plainName, overriddenIn]; done) | decide +kernel
theorem own_ef_rm2 (m : MethodId) (A : Nat → Addr) (K : Nat → ClassId) (q1 : Int32)  (b3 : Addr) : entryFrame m #[(.ref b3)] 1 = mkF m 0 #[.val (.ref b3)] [] := by first | (simp [entryFrame, mkF, argsToLocals, Value.category, maxLocals]; done) | rfl
set_option maxRecDepth 65536 in
set_option maxHeartbeats 40000000 in
theorem rm2 (l : Launch) (Z : State) (a0 : Array Value) (hw : ∀ d ∈ tables_1, d.before a0 Z = true) (ws : List Jvm.Cond) (h0 : Heap) (n0 : Nat) (A : Nat → Addr) (K : Nat → ClassId) (q1 : Int32)  (b3 : Addr) (EN : own_St Z A K) (OL0 : Old Z n0 h0) :
    MetFree l own_m12 (head1 (Jvm.Cond.code own_m12 jdk_18_method_1_code 1 none :: ws) ({ frames := 1, cells := 0, slots := 0, locals := 12 } : Room)) (fun a U => a = #[(.ref b3)] ∧ Z.Warmed39 U.vm ∧ U.heap = h0) (fun _ _ _ _ _ => True) (fun _ U o U' => ∃ v L, o = .returned v ∧ (PQ none h0 n0) v U'.heap L ∧ FrameEnd U o U' L ({ frames := 1, cells := 0, slots := 0, locals := 12 } : Room).cells ({ frames := 1, cells := 0, slots := 0, locals := 12 } : Room).slots) := by
  refine MetFree.of_bodySF (plainFor_of_name own_pn0) hisR ?_
  intro p e s m args below meth c s₁ Bd hml0 hP hK
  obtain ⟨rfl, hZ, hh⟩ := hP
  have hx := Bd.exec
  have hby := Bd.bytes
  have hml : c.maxLocals = 1 := hml0
  have hown : s.vm.findClass "java/lang/Number" = some m.cls := findClass_of_methodNamed Bd.named
  have hnm := (name_of_methodNamed Bd.named Bd.method).1
  have X0 : Stand p l e ({ frames := 1, cells := 0, slots := 0, locals := 12 } : Room) s m #[(.ref b3)] below meth c s₁ [] 0 0 := Stand.of_body Bd
  have e0 : s₁.heap = h0 := by rw [← hh, Bd.state]; rfl
  have N0 := Fr.nil n0
  have pre0 : ∀ t, Steps p.tables e below (s₁.setTop (mkF m 0 #[.val (.ref b3)] [])) t → Steps p.tables e below (s₁.setTop (entryFrame m #[(.ref b3)] 1)) t := fun t k => castTop (own_ef_rm2 m A K q1 b3) k
  have KK0 : Keep h0 h0 [] := Keep.refl _ _
  obtain ⟨T4, X4, e4, st4⟩ := initO X0 hx hZ hown (hw _ (List.mem_of_getElem? (i := 78) rfl)) (hw _ (List.mem_of_getElem? (i := 79) rfl)) (hw _ (List.mem_of_getElem? (i := 80) rfl)) e0 (g := (mkF m 1 #[.val (.ref b3)] [(.ref b3)])) rfl (by rw [hml]; rfl) rfl (hb hby own_d_jdk_18_method_1_code_1) (by decide) (W := 0) (by show 2 * 0 + _ ≤ _; exact Nat.le_of_eq rfl) (by decide)
  obtain ⟨fs, hr, hrun, hended, hW, hsame⟩ := X4.leave (v := none) (fun _ => rfl)
  refine ⟨_, _, pre0 _ ?_, hrun, hended, _, _, rfl, ?_, ⟨_, rfl⟩, hW, hsame.mono (by decide) (by decide)⟩
  · show Steps p.tables e below (s₁.setTop (mkF m 0 #[.val (.ref b3)] [])) _
    refine XS.aloadN X0.here hx rfl (hb hby own_d_jdk_18_method_1_code_0) rfl rfl ?_
    show Steps p.tables e below (s₁.setTop (mkF m 1 #[.val (.ref b3)] [(.ref b3)])) _
    refine st4 _ ?_
    show Steps p.tables e below (T4.setTop (mkF m 4 #[.val (.ref b3)] [])) _
    exact X4.returnOut hx Bd.returns (hb hby own_d_jdk_18_method_1_code_4) hr
  · show PQ none h0 n0 _ T4.heap _
    rw [e4]
    exact ⟨rfl, N0, rfl⟩
def Q_rm1 (Z : State) (A : Nat → Addr) (K : Nat → ClassId) (q1 : Int32) (b3 : Addr) (h0 : Heap) (n0 : Nat) (v : Option Value) (h : Heap) (L : List Loc) : Prop := v = none ∧ Fr n0 L ∧ Keep h0 h [b3] ∧ (Exa Z h b3 "java/lang/Integer") ∧ (Fld Z h b3 "java/lang/Integer" "value" "I" (.int q1))
theorem own_d_jdk_33_method_23_code_0 : decode jdk_33_method_23_code 0 = .ok (.aload_n 0, 1) := by decide +kernel
theorem own_d_jdk_33_method_23_code_1 : decode jdk_33_method_23_code 1 = .ok (.invokespecial 202, 3) := by decide +kernel
theorem own_d_jdk_33_method_23_code_4 : decode jdk_33_method_23_code 4 = .ok (.aload_n 0, 1) := by decide +kernel
theorem own_d_jdk_33_method_23_code_5 : decode jdk_33_method_23_code 5 = .ok (.iload_n 1, 1) := by decide +kernel
theorem own_d_jdk_33_method_23_code_6 : decode jdk_33_method_23_code 6 = .ok (.putfield 205, 3) := by decide +kernel
theorem own_d_jdk_33_method_23_code_9 : decode jdk_33_method_23_code 9 = .ok (.return_, 1) := by decide +kernel
theorem own_pn1 : plainName "java/lang/Integer" = true := by first | (simp [plainName, overriddenIn]; done) | decide +kernel
theorem own_ef_rm1 (m : MethodId) (A : Nat → Addr) (K : Nat → ClassId) (q1 : Int32)  (b3 : Addr) : entryFrame m #[(.ref b3), (.int q1)] 2 = mkF m 0 #[.val (.ref b3), .val (.int q1)] [] := by first | (simp [entryFrame, mkF, argsToLocals, Value.category, maxLocals]; done) | rfl
set_option maxRecDepth 65536 in
set_option maxHeartbeats 40000000 in
theorem rm1 (l : Launch) (Z : State) (a0 : Array Value) (hw : ∀ d ∈ tables_1, d.before a0 Z = true) (ws : List Jvm.Cond) (h0 : Heap) (n0 : Nat) (A : Nat → Addr) (K : Nat → ClassId) (q1 : Int32)  (b3 : Addr) (EN : own_St Z A K) (OL0 : Old Z n0 h0) (G_F_b3_java_lang_Integer_value : Fld Z h0 b3 "java/lang/Integer" "value" "I" (.int (0 : Int32))) (G_E_b3 : Exa Z h0 b3 "java/lang/Integer") (gn_b3 : n0 ≤ b3) :
    MetFree l own_m11 (head1 (Jvm.Cond.code own_m11 jdk_33_method_23_code 2 none :: ws) ({ frames := 2, cells := 0, slots := 0, locals := 24 } : Room)) (fun a U => a = #[(.ref b3), (.int q1)] ∧ Z.Warmed39 U.vm ∧ U.heap = h0) (fun _ _ _ _ _ => True) (fun _ U o U' => ∃ v L, o = .returned v ∧ Q_rm1 Z A K q1 b3 h0 n0 v U'.heap L ∧ FrameEnd U o U' L ({ frames := 2, cells := 0, slots := 0, locals := 24 } : Room).cells ({ frames := 2, cells := 0, slots := 0, locals := 24 } : Room).slots) := by
  refine MetFree.of_bodySF (plainFor_of_name own_pn1) hisR ?_
  intro p e s m args below meth c s₁ Bd hml0 hP hK
  obtain ⟨rfl, hZ, hh⟩ := hP
  have hx := Bd.exec
  have hby := Bd.bytes
  have hml : c.maxLocals = 2 := hml0
  have hown : s.vm.findClass "java/lang/Integer" = some m.cls := findClass_of_methodNamed Bd.named
  have hnm := (name_of_methodNamed Bd.named Bd.method).1
  have X0 : Stand p l e ({ frames := 2, cells := 0, slots := 0, locals := 24 } : Room) s m #[(.ref b3), (.int q1)] below meth c s₁ [] 0 0 := Stand.of_body Bd
  have e0 : s₁.heap = h0 := by rw [← hh, Bd.state]; rfl
  have N0 := Fr.nil n0
  have pre0 : ∀ t, Steps p.tables e below (s₁.setTop (mkF m 0 #[.val (.ref b3), .val (.int q1)] [])) t → Steps p.tables e below (s₁.setTop (entryFrame m #[(.ref b3), (.int q1)] 2)) t := fun t k => castTop (own_ef_rm1 m A K q1 b3) k
  have KK0 : Keep h0 h0 [b3] := Keep.refl _ _
  obtain ⟨_, _, ⟨T5, L5, k5, n5⟩, -, X5, ⟨Lc5, hQ5, l5, y5, z5⟩, st5⟩ := X0.specialBack hx (y := own_m12) rfl hown (mvT hZ (hw _ (List.mem_of_getElem? (i := 72) rfl))) (mvT hZ (hw _ (List.mem_of_getElem? (i := 73) rfl))) (mvT hZ (hw _ (List.mem_of_getElem? (i := 77) rfl))) (by decide) (backOf (W := 0) (rm2 l Z a0 hw [] h0 n0 A K q1 b3 EN OL0) hZ (hw _ (List.mem_of_getElem? (i := 77) rfl)) (hw _ (List.mem_of_getElem? (i := 76) rfl)) (by decide) (by decide)) (g := (mkF m 1 #[.val (.ref b3), .val (.int q1)] [(.ref b3)])) rfl (by rw [hml]; rfl) (Steps.refl _) (a := b3) (argsL := []) (rest := []) (lenOf own_pd0 rfl) rfl (by show 2 * 0 + _ ≤ _; exact Nat.le_of_eq rfl) (hb hby own_d_jdk_33_method_23_code_1) (fun _ _ => ⟨rfl, e0, (by decide : 0 + 0 ≤ _), (by decide : 0 + 0 ≤ _)⟩)
  dsimp only [Pt.U, Pt.locs, Pt.cells, Pt.slots] at X5 l5 y5 z5 st5 hQ5
  subst l5 y5 z5
  obtain ⟨rfl, N5q, e5⟩ := hQ5
  have N5 := Fr.app N0 N5q
  obtain ⟨T6, h6, X6, e6, W6, st6⟩ := putF X5 hx hZ hown (host := "") (Or.inl (hw _ (List.mem_of_getElem? (i := 52) rfl))) Via.refl e5 G_F_b3_java_lang_Integer_value G_E_b3 (Or.inr ⟨(hw _ (List.mem_of_getElem? (i := 53) rfl)), rfl, hnm⟩) (hw _ (List.mem_of_getElem? (i := 68) rfl)) (ty := .int) (by decide) rfl rfl (g := (mkF m 6 #[.val (.ref b3), .val (.int q1)] [(.int q1), (.ref b3)])) rfl rfl (hb hby own_d_jdk_33_method_23_code_6)
  have NF6 := Fr.snoc X6 N5 gn_b3
  have OL6 : Old Z n0 h6 := OL0.wr W6 gn_b3
  have KK6 : Keep h0 h6 [b3] := KK0.wr W6 (Or.inl (List.mem_of_getElem? (i := 0) rfl))
  have Fw6 : Fld Z h6 b3 "java/lang/Integer" "value" "I" (.int q1) := G_F_b3_java_lang_Integer_value.same W6
  have fx7 : Exa Z h6 b3 "java/lang/Integer" := (G_E_b3.wr W6)
  obtain ⟨fs, hr, hrun, hended, hW, hsame⟩ := X6.leave (v := none) (fun _ => rfl)
  refine ⟨_, _, pre0 _ ?_, hrun, hended, _, _, rfl, ?_, ⟨_, rfl⟩, hW, hsame.mono (by decide) (by decide)⟩
  · show Steps p.tables e below (s₁.setTop (mkF m 0 #[.val (.ref b3), .val (.int q1)] [])) _
    refine XS.aloadN X0.here hx rfl (hb hby own_d_jdk_33_method_23_code_0) rfl rfl ?_
    show Steps p.tables e below (s₁.setTop (mkF m 1 #[.val (.ref b3), .val (.int q1)] [(.ref b3)])) _
    refine st5.trans ?_
    show Steps p.tables e below (T5.setTop (mkF m 4 #[.val (.ref b3), .val (.int q1)] [])) _
    refine XS.aloadN X5.here hx rfl (hb hby own_d_jdk_33_method_23_code_4) rfl rfl ?_
    show Steps p.tables e below (T5.setTop (mkF m 5 #[.val (.ref b3), .val (.int q1)] [(.ref b3)])) _
    refine XS.iloadN X5.here hx rfl (hb hby own_d_jdk_33_method_23_code_5) rfl ?_
    show Steps p.tables e below (T5.setTop (mkF m 6 #[.val (.ref b3), .val (.int q1)] [(.int q1), (.ref b3)])) _
    refine st6 _ ?_
    show Steps p.tables e below (T6.setTop (mkF m 9 #[.val (.ref b3), .val (.int q1)] [])) _
    exact X6.returnOut hx Bd.returns (hb hby own_d_jdk_33_method_23_code_9) hr
  · show Q_rm1 Z A K q1 b3 h0 n0 _ T6.heap _
    rw [e6]
    exact ⟨rfl, NF6, KK6, fx7, Fw6⟩
theorem own_d_jdk_33_method_22_code_0 : decode jdk_33_method_22_code 0 = .ok (.iload_n 0, 1) := by decide +kernel
theorem own_d_jdk_33_method_22_code_1 : decode jdk_33_method_22_code 1 = .ok (.bipush (-128), 2) := by decide +kernel
theorem own_d_jdk_33_method_22_code_3 : decode jdk_33_method_22_code 3 = .ok (.if_icmp .lt 20, 3) := by decide +kernel
theorem own_d_jdk_33_method_22_code_6 : decode jdk_33_method_22_code 6 = .ok (.iload_n 0, 1) := by decide +kernel
theorem own_d_jdk_33_method_22_code_7 : decode jdk_33_method_22_code 7 = .ok (.getstatic 191, 3) := by decide +kernel
theorem own_d_jdk_33_method_22_code_10 : decode jdk_33_method_22_code 10 = .ok (.if_icmp .gt 13, 3) := by decide +kernel
theorem own_d_jdk_33_method_22_code_13 : decode jdk_33_method_22_code 13 = .ok (.getstatic 195, 3) := by decide +kernel
theorem own_d_jdk_33_method_22_code_16 : decode jdk_33_method_22_code 16 = .ok (.iload_n 0, 1) := by decide +kernel
theorem own_d_jdk_33_method_22_code_17 : decode jdk_33_method_22_code 17 = .ok (.sipush 128, 3) := by decide +kernel
theorem own_d_jdk_33_method_22_code_20 : decode jdk_33_method_22_code 20 = .ok (.iadd, 1) := by decide +kernel
theorem own_d_jdk_33_method_22_code_21 : decode jdk_33_method_22_code 21 = .ok (.aaload, 1) := by decide +kernel
theorem own_d_jdk_33_method_22_code_22 : decode jdk_33_method_22_code 22 = .ok (.areturn, 1) := by decide +kernel
theorem own_d_jdk_33_method_22_code_23 : decode jdk_33_method_22_code 23 = .ok (.new 1, 3) := by decide +kernel
theorem own_d_jdk_33_method_22_code_26 : decode jdk_33_method_22_code 26 = .ok (.dup, 1) := by decide +kernel
theorem own_d_jdk_33_method_22_code_27 : decode jdk_33_method_22_code 27 = .ok (.iload_n 0, 1) := by decide +kernel
theorem own_d_jdk_33_method_22_code_28 : decode jdk_33_method_22_code 28 = .ok (.invokespecial 199, 3) := by decide +kernel
theorem own_d_jdk_33_method_22_code_31 : decode jdk_33_method_22_code 31 = .ok (.areturn, 1) := by decide +kernel
theorem own_ef_rmV (m : MethodId) (A : Nat → Addr) (K : Nat → ClassId) (q1 : Int32)  : entryFrame m #[(.int q1)] 1 = mkF m 0 #[.val (.int q1)] [] := by first | (simp [entryFrame, mkF, argsToLocals, Value.category, maxLocals]; done) | rfl
set_option maxRecDepth 65536 in
set_option maxHeartbeats 40000000 in
theorem rmV (l : Launch) (Z : State) (a0 : Array Value) (hw : ∀ d ∈ tables_1, d.before a0 Z = true) (ws : List Jvm.Cond) (h0 : Heap) (n0 : Nat) (A : Nat → Addr) (K : Nat → ClassId) (q1 : Int32)  (EN : own_St Z A K) (OL0 : Old Z n0 h0) :
    MetFree l own_m4 (head1 (Jvm.Cond.code own_m4 jdk_33_method_22_code 1 (some (.object "java/lang/Integer")) :: ws) ({ frames := 3, cells := 1, slots := 1, locals := 38 } : Room)) (fun a U => a = #[(.int q1)] ∧ Z.Warmed39 U.vm ∧ U.heap = h0) (fun _ _ _ _ _ => True) (fun _ U o U' => ∃ v L, o = .returned v ∧ (QV Z q1 h0 n0) v U'.heap L ∧ FrameEnd U o U' L ({ frames := 3, cells := 1, slots := 1, locals := 38 } : Room).cells ({ frames := 3, cells := 1, slots := 1, locals := 38 } : Room).slots) := by
  refine MetFree.of_bodySF (plainFor_of_name own_pn1) hisR ?_
  intro p e s m args below meth c s₁ Bd hml0 hP hK
  obtain ⟨rfl, hZ, hh⟩ := hP
  have hx := Bd.exec
  have hby := Bd.bytes
  have hml : c.maxLocals = 1 := hml0
  have hown : s.vm.findClass "java/lang/Integer" = some m.cls := findClass_of_methodNamed Bd.named
  have hnm := (name_of_methodNamed Bd.named Bd.method).1
  have X0 : Stand p l e ({ frames := 3, cells := 1, slots := 1, locals := 38 } : Room) s m #[(.int q1)] below meth c s₁ [] 0 0 := Stand.of_body Bd
  have e0 : s₁.heap = h0 := by rw [← hh, Bd.state]; rfl
  have N0 := Fr.nil n0
  have pre0 : ∀ t, Steps p.tables e below (s₁.setTop (mkF m 0 #[.val (.int q1)] [])) t → Steps p.tables e below (s₁.setTop (entryFrame m #[(.int q1)] 1)) t := fun t k => castTop (own_ef_rmV m A K q1 ) k
  have KK0 : Keep h0 h0 [] := Keep.refl _ _
  have pre1 : ∀ t, Steps p.tables e below (s₁.setTop (mkF m 3 #[.val (.int q1)] [(.int (-128 : Int32)), (.int q1)])) t → Steps p.tables e below (s₁.setTop (entryFrame m #[(.int q1)] 1)) t := fun t k => pre0 t (by
    show Steps p.tables e below (s₁.setTop (mkF m 0 #[.val (.int q1)] [])) _
    refine XS.iloadN X0.here hx rfl (hb hby own_d_jdk_33_method_22_code_0) rfl ?_
    show Steps p.tables e below (s₁.setTop (mkF m 1 #[.val (.int q1)] [(.int q1)])) _
    refine XS.bipush X0.here hx rfl (hb hby own_d_jdk_33_method_22_code_1) ?_
    exact k)
  by_cases hc3_2 : q1 < (-128 : Int32)
  · obtain ⟨T3, h3, X3, e3, E3, A3, D3, -, st3⟩ := newO X0 hx hZ hown (hw _ (List.mem_of_getElem? (i := 45) rfl)) (hw _ (List.mem_of_getElem? (i := 68) rfl)) (hw _ (List.mem_of_getElem? (i := 10) rfl)) e0 (g := (mkF m 23 #[.val (.int q1)] [])) rfl (hb hby own_d_jdk_33_method_22_code_23) (by decide) (by decide)
    obtain ⟨b3, g3⟩ : ∃ z, z = h0.size := ⟨_, rfl⟩
    rw [← g3] at A3 D3 st3
    have gn_b3 : n0 ≤ b3 := Nat.le_trans (OL0.1 ▸ OL0.2.1) (Nat.le_of_eq g3.symm)
    have sz_b3 : h0.size ≤ b3 := Nat.le_trans KK0.1 (Nat.le_of_eq g3.symm)
    have OL3 : Old Z n0 h3 := OL0.ext E3
    have KK3 : Keep h0 h3 [] := KK0.ext E3
    have F3_value : Fld Z h3 b3 "java/lang/Integer" "value" "I" (.int (0 : Int32)) := D3 (Or.inr (hw _ (List.mem_of_getElem? (i := 53) rfl))) (ty := .int) (by decide)
    obtain ⟨_, _, ⟨T8, L8, k8, n8⟩, -, X8, ⟨Lc8, hQ8, l8, y8, z8⟩, st8⟩ := X3.specialBack hx (y := own_m11) rfl hown (mvT hZ (hw _ (List.mem_of_getElem? (i := 69) rfl))) (mvT hZ (hw _ (List.mem_of_getElem? (i := 70) rfl))) (mvT hZ (hw _ (List.mem_of_getElem? (i := 71) rfl))) (by decide) (backOf (W := 1) (rm1 l Z a0 hw [] h3 n0 A K q1 b3 EN OL3 F3_value A3 gn_b3) hZ (hw _ (List.mem_of_getElem? (i := 71) rfl)) (hw _ (List.mem_of_getElem? (i := 10) rfl)) (by decide) (by decide)) (g := (mkF m 28 #[.val (.int q1)] [(.int q1), (.ref b3), (.ref b3)])) rfl (by rw [hml]; rfl) (Steps.refl _) (a := b3) (argsL := [(.int q1)]) (rest := [(.ref b3)]) (lenOf own_pd1 rfl) rfl (by show 2 * 0 + _ ≤ _; exact Nat.le_of_eq rfl) (hb hby own_d_jdk_33_method_22_code_28) (fun _ _ => ⟨rfl, e3, (by decide : 1 + 0 ≤ _), (by decide : 1 + 0 ≤ _)⟩)
    dsimp only [Pt.U, Pt.locs, Pt.cells, Pt.slots] at X8 l8 y8 z8 st8 hQ8
    subst l8 y8 z8
    obtain ⟨rfl, N8q, K8c, f8_0, f8_1⟩ := hQ8
    have N8 := Fr.app N0 N8q
    have OL8 : Old Z n0 T8.heap := OL3.keep K8c (allS gn_b3 all0)
    have KK8 : Keep h0 T8.heap [] := KK3.trans K8c (allS (Or.inr sz_b3) all0)
    obtain ⟨fs, hr, hrun, hended, hW, hsame⟩ := X8.leave (v := some (.ref b3)) (fun h => by rw [Bd.returns] at h; cases h)
    refine ⟨_, _, pre1 _ ?_, hrun, hended, _, _, rfl, ?_, ⟨_, rfl⟩, hW, hsame.mono (by decide) (by decide)⟩
    · show Steps p.tables e below (s₁.setTop (mkF m 3 #[.val (.int q1)] [(.int (-128 : Int32)), (.int q1)])) _
      refine XS.icmpYes X0.here hx rfl (pc0 := 3) (pc' := 23) rfl (hb hby own_d_jdk_33_method_22_code_3) rfl (tlt hc3_2).1 (by decide) (by decide) ?_
      show Steps p.tables e below (s₁.setTop (mkF m 23 #[.val (.int q1)] [])) _
      refine st3 _ ?_
      show Steps p.tables e below (T3.setTop (mkF m 26 #[.val (.int q1)] [(.ref b3)])) _
      refine XS.dup X3.here hx rfl (hb hby own_d_jdk_33_method_22_code_26) rfl rfl ?_
      show Steps p.tables e below (T3.setTop (mkF m 27 #[.val (.int q1)] [(.ref b3), (.ref b3)])) _
      refine XS.iloadN X3.here hx rfl (hb hby own_d_jdk_33_method_22_code_27) rfl ?_
      show Steps p.tables e below (T3.setTop (mkF m 28 #[.val (.int q1)] [(.int q1), (.ref b3), (.ref b3)])) _
      refine st8.trans ?_
      show Steps p.tables e below (T8.setTop (mkF m 31 #[.val (.int q1)] [(.ref b3)])) _
      exact retOut X8 hx Bd.returns rfl (Or.inr (Or.inr (Or.inr (Or.inr ⟨rfl, rfl, rfl⟩)))) (hb hby own_d_jdk_33_method_22_code_31) hr
    · show QV Z q1 h0 n0 _ T8.heap _
      exact ⟨b3, rfl, N8, KK8, f8_0, f8_1⟩
  · obtain ⟨T9, X9, e9, st9⟩ := getS2 X0 hx hZ hown (host := "") (Or.inl (hw _ (List.mem_of_getElem? (i := 12) rfl))) Via.refl e0 (EN.2.2.1.2.1.ext OL0.2) (g := (mkF m 7 #[.val (.int q1)] [(.int q1)])) rfl (hb hby own_d_jdk_33_method_22_code_7)
    have pre10 : ∀ t, Steps p.tables e below (T9.setTop (mkF m 10 #[.val (.int q1)] [(.int (127 : Int32)), (.int q1)])) t → Steps p.tables e below (s₁.setTop (entryFrame m #[(.int q1)] 1)) t := fun t k => pre1 t (by
      show Steps p.tables e below (s₁.setTop (mkF m 3 #[.val (.int q1)] [(.int (-128 : Int32)), (.int q1)])) _
      refine XS.icmpNo X0.here hx rfl (hb hby own_d_jdk_33_method_22_code_3) rfl (flt hc3_2).1 ?_
      show Steps p.tables e below (s₁.setTop (mkF m 6 #[.val (.int q1)] [])) _
      refine XS.iloadN X0.here hx rfl (hb hby own_d_jdk_33_method_22_code_6) rfl ?_
      show Steps p.tables e below (s₁.setTop (mkF m 7 #[.val (.int q1)] [(.int q1)])) _
      refine st9 _ ?_
      exact k)
    by_cases hc10_11 : (127 : Int32) < q1
    · obtain ⟨T12, h12, X12, e12, E12, A12, D12, -, st12⟩ := newO X9 hx hZ hown (hw _ (List.mem_of_getElem? (i := 45) rfl)) (hw _ (List.mem_of_getElem? (i := 68) rfl)) (hw _ (List.mem_of_getElem? (i := 10) rfl)) e9 (g := (mkF m 23 #[.val (.int q1)] [])) rfl (hb hby own_d_jdk_33_method_22_code_23) (by decide) (by decide)
      obtain ⟨b12, g12⟩ : ∃ z, z = h0.size := ⟨_, rfl⟩
      rw [← g12] at A12 D12 st12
      have gn_b12 : n0 ≤ b12 := Nat.le_trans (OL0.1 ▸ OL0.2.1) (Nat.le_of_eq g12.symm)
      have sz_b12 : h0.size ≤ b12 := Nat.le_trans KK0.1 (Nat.le_of_eq g12.symm)
      have OL12 : Old Z n0 h12 := OL0.ext E12
      have KK12 : Keep h0 h12 [] := KK0.ext E12
      have F12_value : Fld Z h12 b12 "java/lang/Integer" "value" "I" (.int (0 : Int32)) := D12 (Or.inr (hw _ (List.mem_of_getElem? (i := 53) rfl))) (ty := .int) (by decide)
      obtain ⟨_, _, ⟨T13, L13, k13, n13⟩, -, X13, ⟨Lc13, hQ13, l13, y13, z13⟩, st13⟩ := X12.specialBack hx (y := own_m11) rfl hown (mvT hZ (hw _ (List.mem_of_getElem? (i := 69) rfl))) (mvT hZ (hw _ (List.mem_of_getElem? (i := 70) rfl))) (mvT hZ (hw _ (List.mem_of_getElem? (i := 71) rfl))) (by decide) (backOf (W := 1) (rm1 l Z a0 hw [] h12 n0 A K q1 b12 EN OL12 F12_value A12 gn_b12) hZ (hw _ (List.mem_of_getElem? (i := 71) rfl)) (hw _ (List.mem_of_getElem? (i := 10) rfl)) (by decide) (by decide)) (g := (mkF m 28 #[.val (.int q1)] [(.int q1), (.ref b12), (.ref b12)])) rfl (by rw [hml]; rfl) (Steps.refl _) (a := b12) (argsL := [(.int q1)]) (rest := [(.ref b12)]) (lenOf own_pd1 rfl) rfl (by show 2 * 0 + _ ≤ _; exact Nat.le_of_eq rfl) (hb hby own_d_jdk_33_method_22_code_28) (fun _ _ => ⟨rfl, e12, (by decide : 1 + 0 ≤ _), (by decide : 1 + 0 ≤ _)⟩)
      dsimp only [Pt.U, Pt.locs, Pt.cells, Pt.slots] at X13 l13 y13 z13 st13 hQ13
      subst l13 y13 z13
      obtain ⟨rfl, N13q, K13c, f13_0, f13_1⟩ := hQ13
      have N13 := Fr.app N0 N13q
      have OL13 : Old Z n0 T13.heap := OL12.keep K13c (allS gn_b12 all0)
      have KK13 : Keep h0 T13.heap [] := KK12.trans K13c (allS (Or.inr sz_b12) all0)
      obtain ⟨fs, hr, hrun, hended, hW, hsame⟩ := X13.leave (v := some (.ref b12)) (fun h => by rw [Bd.returns] at h; cases h)
      refine ⟨_, _, pre10 _ ?_, hrun, hended, _, _, rfl, ?_, ⟨_, rfl⟩, hW, hsame.mono (by decide) (by decide)⟩
      · show Steps p.tables e below (T9.setTop (mkF m 10 #[.val (.int q1)] [(.int (127 : Int32)), (.int q1)])) _
        refine XS.icmpYes X9.here hx rfl (pc0 := 10) (pc' := 23) rfl (hb hby own_d_jdk_33_method_22_code_10) rfl (tlt hc10_11).2.2.1 (by decide) (by decide) ?_
        show Steps p.tables e below (T9.setTop (mkF m 23 #[.val (.int q1)] [])) _
        refine st12 _ ?_
        show Steps p.tables e below (T12.setTop (mkF m 26 #[.val (.int q1)] [(.ref b12)])) _
        refine XS.dup X12.here hx rfl (hb hby own_d_jdk_33_method_22_code_26) rfl rfl ?_
        show Steps p.tables e below (T12.setTop (mkF m 27 #[.val (.int q1)] [(.ref b12), (.ref b12)])) _
        refine XS.iloadN X12.here hx rfl (hb hby own_d_jdk_33_method_22_code_27) rfl ?_
        show Steps p.tables e below (T12.setTop (mkF m 28 #[.val (.int q1)] [(.int q1), (.ref b12), (.ref b12)])) _
        refine st13.trans ?_
        show Steps p.tables e below (T13.setTop (mkF m 31 #[.val (.int q1)] [(.ref b12)])) _
        exact retOut X13 hx Bd.returns rfl (Or.inr (Or.inr (Or.inr (Or.inr ⟨rfl, rfl, rfl⟩)))) (hb hby own_d_jdk_33_method_22_code_31) hr
      · show QV Z q1 h0 n0 _ T13.heap _
        exact ⟨b12, rfl, N13, KK13, f13_0, f13_1⟩
    · obtain ⟨T14, X14, e14, st14⟩ := getS2 X9 hx hZ hown (host := "") (Or.inl (hw _ (List.mem_of_getElem? (i := 14) rfl))) Via.refl e9 (EN.2.1.2.2.1.ext OL0.2) (g := (mkF m 13 #[.val (.int q1)] [])) rfl (hb hby own_d_jdk_33_method_22_code_13)
      obtain ⟨cB15, BX15⟩ := EN.2.2.1.2.2.1
      have hin15 := own_bxin BX15.2.1 hc3_2 hc10_11
      obtain ⟨bx15, hat15, eb15, fb15⟩ := BX15.2.2.2 _ hin15
      have fb15' : Fld Z Z.heap bx15 "java/lang/Integer" "value" "I" (.int q1) := own_bxv q1 ▸ fb15
      obtain ⟨fs, hr, hrun, hended, hW, hsame⟩ := X14.leave (v := some (.ref bx15)) (fun h => by rw [Bd.returns] at h; cases h)
      refine ⟨_, _, pre10 _ ?_, hrun, hended, _, _, rfl, ?_, ⟨_, rfl⟩, hW, hsame.mono (by decide) (by decide)⟩
      · show Steps p.tables e below (T9.setTop (mkF m 10 #[.val (.int q1)] [(.int (127 : Int32)), (.int q1)])) _
        refine XS.icmpNo X9.here hx rfl (hb hby own_d_jdk_33_method_22_code_10) rfl (flt hc10_11).2.2.1 ?_
        show Steps p.tables e below (T9.setTop (mkF m 13 #[.val (.int q1)] [])) _
        refine st14 _ ?_
        show Steps p.tables e below (T14.setTop (mkF m 16 #[.val (.int q1)] [(.ref (A 5))])) _
        refine XS.iloadN X14.here hx rfl (hb hby own_d_jdk_33_method_22_code_16) rfl ?_
        show Steps p.tables e below (T14.setTop (mkF m 17 #[.val (.int q1)] [(.int q1), (.ref (A 5))])) _
        refine XS.sipush X14.here hx rfl (hb hby own_d_jdk_33_method_22_code_17) ?_
        show Steps p.tables e below (T14.setTop (mkF m 20 #[.val (.int q1)] [(.int (128 : Int32)), (.int q1), (.ref (A 5))])) _
        refine XS.iadd X14.here hx rfl (hb hby own_d_jdk_33_method_22_code_20) rfl ?_
        show Steps p.tables e below (T14.setTop (mkF m 21 #[.val (.int q1)] [(.int (q1 + (128 : Int32))), (.ref (A 5))])) _
        refine X14.aaload hx (j := (q1 + (128 : Int32))) (v := (.ref bx15)) (by rw [e14]; exact (BX15.1.ext OL0.2).1) (State.isArrayOf_alike hZ.alike BX15.1.2.1) rfl BX15.1.2.2 hin15 hat15 (g := (mkF m 21 #[.val (.int q1)] [(.int (q1 + (128 : Int32))), (.ref (A 5))])) rfl rfl (hb hby own_d_jdk_33_method_22_code_21) _ ?_
        show Steps p.tables e below (T14.setTop (mkF m 22 #[.val (.int q1)] [(.ref bx15)])) _
        exact retOut X14 hx Bd.returns rfl (Or.inr (Or.inr (Or.inr (Or.inr ⟨rfl, rfl, rfl⟩)))) (hb hby own_d_jdk_33_method_22_code_22) hr
      · show QV Z q1 h0 n0 _ T14.heap _
        rw [e14]
        exact ⟨bx15, rfl, N0, KK0, (eb15.ext OL0.2), (fb15'.ext OL0.2)⟩
theorem own_d_method_2_code_0 : decode method_2_code 0 = .ok (.iload_n 0, 1) := by decide +kernel
theorem own_d_method_2_code_1 : decode method_2_code 1 = .ok (.ldc 7, 2) := by decide +kernel
theorem own_d_method_2_code_3 : decode method_2_code 3 = .ok (.iand, 1) := by decide +kernel
theorem own_d_method_2_code_4 : decode method_2_code 4 = .ok (.iconst 5, 1) := by decide +kernel
theorem own_d_method_2_code_5 : decode method_2_code 5 = .ok (.irem, 1) := by decide +kernel
theorem own_d_method_2_code_6 : decode method_2_code 6 = .ok (.istore_n 1, 1) := by decide +kernel
theorem own_d_method_2_code_7 : decode method_2_code 7 = .ok (.iload_n 1, 1) := by decide +kernel
theorem own_d_method_2_code_8 : decode method_2_code 8 = .ok (.ifCond .ne 7, 3) := by decide +kernel
theorem own_d_method_2_code_11 : decode method_2_code 11 = .ok (.getstatic 8, 3) := by decide +kernel
theorem own_d_method_2_code_14 : decode method_2_code 14 = .ok (.areturn, 1) := by decide +kernel
theorem own_pn2 : plainName "com/example/measurewright/measurewright/ComparisonConversePinLaw" = true := by first | (simp [plainName, overriddenIn]; done) | decide +kernel
theorem own_ef_rm3 (m : MethodId) (p1 : Int32) (p2 : Int32) (p3 : Int32) (A : Nat → Addr) (K : Nat → ClassId)  : entryFrame m #[(.int p1)] 2 = mkF m 0 #[.val (.int p1), .unset] [] := by first | (simp [entryFrame, mkF, argsToLocals, Value.category, maxLocals]; done) | rfl
set_option maxRecDepth 65536 in
set_option maxHeartbeats 40000000 in
theorem rm3 (l : Launch) (Z : State) (a0 : Array Value) (hw : ∀ d ∈ tables_1, d.before a0 Z = true) (ws : List Jvm.Cond) (h0 : Heap) (n0 : Nat) (p1 : Int32) (p2 : Int32) (p3 : Int32) (A : Nat → Addr) (K : Nat → ClassId)  (EN : own_St Z A K) (OL0 : Old Z n0 h0) (hk16 : ((p1 &&& (2147483647 : Int32)) % (5 : Int32)) = (0 : Int32)) :
    MetFree l own_m7 (head1 (Jvm.Cond.code own_m7 method_2_code 2 (some (.object "com/example/measurewright/measurewright/Comparison")) :: ws) ({ frames := 0, cells := 0, slots := 0, locals := 0 } : Room)) (fun a U => a = #[(.int p1)] ∧ Z.Warmed39 U.vm ∧ U.heap = h0) (fun _ _ _ _ _ => True) (fun _ U o U' => ∃ v L, o = .returned v ∧ (PQ (some (.ref (A 0))) h0 n0) v U'.heap L ∧ FrameEnd U o U' L ({ frames := 0, cells := 0, slots := 0, locals := 0 } : Room).cells ({ frames := 0, cells := 0, slots := 0, locals := 0 } : Room).slots) := by
  refine MetFree.of_bodySF (plainFor_of_name own_pn2) hisR ?_
  intro p e s m args below meth c s₁ Bd hml0 hP hK
  obtain ⟨rfl, hZ, hh⟩ := hP
  have hx := Bd.exec
  have hby := Bd.bytes
  have hml : c.maxLocals = 2 := hml0
  have hown : s.vm.findClass "com/example/measurewright/measurewright/ComparisonConversePinLaw" = some m.cls := findClass_of_methodNamed Bd.named
  have hnm := (name_of_methodNamed Bd.named Bd.method).1
  have X0 : Stand p l e ({ frames := 0, cells := 0, slots := 0, locals := 0 } : Room) s m #[(.int p1)] below meth c s₁ [] 0 0 := Stand.of_body Bd
  have e0 : s₁.heap = h0 := by rw [← hh, Bd.state]; rfl
  have N0 := Fr.nil n0
  have pre0 : ∀ t, Steps p.tables e below (s₁.setTop (mkF m 0 #[.val (.int p1), .unset] [])) t → Steps p.tables e below (s₁.setTop (entryFrame m #[(.int p1)] 2)) t := fun t k => castTop (own_ef_rm3 m p1 p2 p3 A K ) k
  have KK0 : Keep h0 h0 [] := Keep.refl _ _
  obtain ⟨T18, X18, e18, st18⟩ := getS2 X0 hx hZ hown (host := "") (Or.inl (hw _ (List.mem_of_getElem? (i := 5) rfl))) Via.refl e0 (EN.1.1.ext OL0.2) (g := (mkF m 11 #[.val (.int p1), .val (.int (0 : Int32))] [])) rfl (hb hby own_d_method_2_code_11)
  obtain ⟨fs, hr, hrun, hended, hW, hsame⟩ := X18.leave (v := some (.ref (A 0))) (fun h => by rw [Bd.returns] at h; cases h)
  refine ⟨_, _, pre0 _ ?_, hrun, hended, _, _, rfl, ?_, ⟨_, rfl⟩, hW, hsame.mono (by decide) (by decide)⟩
  · show Steps p.tables e below (s₁.setTop (mkF m 0 #[.val (.int p1), .unset] [])) _
    refine XS.iloadN X0.here hx rfl (hb hby own_d_method_2_code_0) rfl ?_
    show Steps p.tables e below (s₁.setTop (mkF m 1 #[.val (.int p1), .unset] [(.int p1)])) _
    refine X0.ldcInt hx hown (mvT hZ (hw _ (List.mem_of_getElem? (i := 4) rfl))) (g := (mkF m 1 #[.val (.int p1), .unset] [(.int p1)])) rfl (hb hby own_d_method_2_code_1) _ ?_
    show Steps p.tables e below (s₁.setTop (mkF m 3 #[.val (.int p1), .unset] [(.int (2147483647 : Int32)), (.int p1)])) _
    refine XS.iand X0.here hx rfl (hb hby own_d_method_2_code_3) rfl ?_
    show Steps p.tables e below (s₁.setTop (mkF m 4 #[.val (.int p1), .unset] [(.int (p1 &&& (2147483647 : Int32)))])) _
    refine XS.iconst X0.here hx rfl (hb hby own_d_method_2_code_4) ?_
    show Steps p.tables e below (s₁.setTop (mkF m 5 #[.val (.int p1), .unset] [(.int (5 : Int32)), (.int (p1 &&& (2147483647 : Int32)))])) _
    refine iremM X0 hx rfl (hb hby own_d_method_2_code_5) rfl (by decide) ?_
    show Steps p.tables e below (s₁.setTop (mkF m 6 #[.val (.int p1), .unset] [(.int ((p1 &&& (2147483647 : Int32)) % (5 : Int32)))])) _
    rw [hk16]
    show Steps p.tables e below (s₁.setTop (mkF m 6 #[.val (.int p1), .unset] [(.int (0 : Int32))])) _
    refine XS.istoreN X0.here hx rfl (hb hby own_d_method_2_code_6) rfl (l' := #[.val (.int p1), .val (.int (0 : Int32))]) rfl ?_
    show Steps p.tables e below (s₁.setTop (mkF m 7 #[.val (.int p1), .val (.int (0 : Int32))] [])) _
    refine XS.iloadN X0.here hx rfl (hb hby own_d_method_2_code_7) rfl ?_
    show Steps p.tables e below (s₁.setTop (mkF m 8 #[.val (.int p1), .val (.int (0 : Int32))] [(.int (0 : Int32))])) _
    refine XS.ifNo X0.here hx rfl (hb hby own_d_method_2_code_8) rfl ((if0 _ _).trans (teq (by decide : (0 : Int32) = (0 : Int32))).2) ?_
    show Steps p.tables e below (s₁.setTop (mkF m 11 #[.val (.int p1), .val (.int (0 : Int32))] [])) _
    refine st18 _ ?_
    show Steps p.tables e below (T18.setTop (mkF m 14 #[.val (.int p1), .val (.int (0 : Int32))] [(.ref (A 0))])) _
    exact retOut X18 hx Bd.returns rfl (Or.inr (Or.inr (Or.inr (Or.inr ⟨rfl, rfl, rfl⟩)))) (hb hby own_d_method_2_code_14) hr
  · show PQ (some (.ref (A 0))) h0 n0 _ T18.heap _
    rw [e18]
    exact ⟨rfl, N0, rfl⟩
theorem own_d_jdk_37_method_2_code_0 : decode jdk_37_method_2_code 0 = .ok (.aload_n 0, 1) := by decide +kernel
theorem own_d_jdk_37_method_2_code_1 : decode jdk_37_method_2_code 1 = .ok (.getfield 7, 3) := by decide +kernel
theorem own_d_jdk_37_method_2_code_4 : decode jdk_37_method_2_code 4 = .ok (.ireturn, 1) := by decide +kernel
theorem own_pn3 : plainName "java/lang/Enum" = true := by first | (simp [plainName, overriddenIn]; done) | decide +kernel
theorem own_ef_rm5 (m : MethodId) (p1 : Int32) (p2 : Int32) (p3 : Int32) (A : Nat → Addr) (K : Nat → ClassId)  : entryFrame m #[(.ref (A 0))] 1 = mkF m 0 #[.val (.ref (A 0))] [] := by first | (simp [entryFrame, mkF, argsToLocals, Value.category, maxLocals]; done) | rfl
set_option maxRecDepth 65536 in
set_option maxHeartbeats 40000000 in
theorem rm5 (l : Launch) (Z : State) (a0 : Array Value) (hw : ∀ d ∈ tables_1, d.before a0 Z = true) (ws : List Jvm.Cond) (h0 : Heap) (n0 : Nat) (p1 : Int32) (p2 : Int32) (p3 : Int32) (A : Nat → Addr) (K : Nat → ClassId)  (EN : own_St Z A K) (OL0 : Old Z n0 h0) :
    MetFree l own_m5 (head1 (Jvm.Cond.code own_m5 jdk_37_method_2_code 1 (some .int) :: ws) ({ frames := 0, cells := 0, slots := 0, locals := 0 } : Room)) (fun a U => a = #[(.ref (A 0))] ∧ Z.Warmed39 U.vm ∧ U.heap = h0) (fun _ _ _ _ _ => True) (fun _ U o U' => ∃ v L, o = .returned v ∧ (PQ (some (.int (0 : Int32))) h0 n0) v U'.heap L ∧ FrameEnd U o U' L ({ frames := 0, cells := 0, slots := 0, locals := 0 } : Room).cells ({ frames := 0, cells := 0, slots := 0, locals := 0 } : Room).slots) := by
  refine MetFree.of_bodySF (plainFor_of_name own_pn3) hisR ?_
  intro p e s m args below meth c s₁ Bd hml0 hP hK
  obtain ⟨rfl, hZ, hh⟩ := hP
  have hx := Bd.exec
  have hby := Bd.bytes
  have hml : c.maxLocals = 1 := hml0
  have hown : s.vm.findClass "java/lang/Enum" = some m.cls := findClass_of_methodNamed Bd.named
  have hnm := (name_of_methodNamed Bd.named Bd.method).1
  have X0 : Stand p l e ({ frames := 0, cells := 0, slots := 0, locals := 0 } : Room) s m #[(.ref (A 0))] below meth c s₁ [] 0 0 := Stand.of_body Bd
  have e0 : s₁.heap = h0 := by rw [← hh, Bd.state]; rfl
  have N0 := Fr.nil n0
  have pre0 : ∀ t, Steps p.tables e below (s₁.setTop (mkF m 0 #[.val (.ref (A 0))] [])) t → Steps p.tables e below (s₁.setTop (entryFrame m #[(.ref (A 0))] 1)) t := fun t k => castTop (own_ef_rm5 m p1 p2 p3 A K ) k
  have KK0 : Keep h0 h0 [] := Keep.refl _ _
  obtain ⟨T22, X22, e22, st22⟩ := getF X0 hx hZ hown (host := "") (Or.inl (hw _ (List.mem_of_getElem? (i := 27) rfl))) Via.refl e0 (EN.2.1.2.2.2.2.1.ext OL0.2) (g := (mkF m 1 #[.val (.ref (A 0))] [(.ref (A 0))])) rfl rfl (hb hby own_d_jdk_37_method_2_code_1)
  obtain ⟨fs, hr, hrun, hended, hW, hsame⟩ := X22.leave (v := some (.int (0 : Int32))) (fun h => by rw [Bd.returns] at h; cases h)
  refine ⟨_, _, pre0 _ ?_, hrun, hended, _, _, rfl, ?_, ⟨_, rfl⟩, hW, hsame.mono (by decide) (by decide)⟩
  · show Steps p.tables e below (s₁.setTop (mkF m 0 #[.val (.ref (A 0))] [])) _
    refine XS.aloadN X0.here hx rfl (hb hby own_d_jdk_37_method_2_code_0) rfl rfl ?_
    show Steps p.tables e below (s₁.setTop (mkF m 1 #[.val (.ref (A 0))] [(.ref (A 0))])) _
    refine st22 _ ?_
    show Steps p.tables e below (T22.setTop (mkF m 4 #[.val (.ref (A 0))] [(.int (0 : Int32))])) _
    exact retI X22 hx Bd.returns (hb hby own_d_jdk_37_method_2_code_4) hr
  · show PQ (some (.int (0 : Int32))) h0 n0 _ T22.heap _
    rw [e22]
    exact ⟨rfl, N0, rfl⟩
theorem own_d_prog_3_method_7_code_0 : decode prog_3_method_7_code 0 = .ok (.aload_n 0, 1) := by decide +kernel
theorem own_d_prog_3_method_7_code_1 : decode prog_3_method_7_code 1 = .ok (.invokevirtual 52, 3) := by decide +kernel
theorem own_d_prog_3_method_7_code_4 : decode prog_3_method_7_code 4 = .ok (.tableswitch 36 0 4 #[46, 52, 58, 64, 70], 36) := by decide +kernel
theorem own_d_prog_3_method_7_code_50 : decode prog_3_method_7_code 50 = .ok (.getstatic 16, 3) := by decide +kernel
theorem own_d_prog_3_method_7_code_53 : decode prog_3_method_7_code 53 = .ok (.goto 24, 3) := by decide +kernel
theorem own_d_prog_3_method_7_code_77 : decode prog_3_method_7_code 77 = .ok (.areturn, 1) := by decide +kernel
theorem own_pn4 : plainName "com/example/measurewright/measurewright/Comparison" = true := by first | (simp [plainName, overriddenIn]; done) | decide +kernel
theorem own_ef_rm4 (m : MethodId) (p1 : Int32) (p2 : Int32) (p3 : Int32) (A : Nat → Addr) (K : Nat → ClassId)  : entryFrame m #[(.ref (A 0))] 1 = mkF m 0 #[.val (.ref (A 0))] [] := by first | (simp [entryFrame, mkF, argsToLocals, Value.category, maxLocals]; done) | rfl
set_option maxRecDepth 65536 in
set_option maxHeartbeats 40000000 in
theorem rm4 (l : Launch) (Z : State) (a0 : Array Value) (hw : ∀ d ∈ tables_1, d.before a0 Z = true) (ws : List Jvm.Cond) (h0 : Heap) (n0 : Nat) (p1 : Int32) (p2 : Int32) (p3 : Int32) (A : Nat → Addr) (K : Nat → ClassId)  (EN : own_St Z A K) (OL0 : Old Z n0 h0) :
    MetFree l own_m2 (head1 (Jvm.Cond.code own_m2 prog_3_method_7_code 1 (some (.object "com/example/measurewright/measurewright/Comparison")) :: ws) ({ frames := 1, cells := 0, slots := 0, locals := 12 } : Room)) (fun a U => a = #[(.ref (A 0))] ∧ Z.Warmed39 U.vm ∧ U.heap = h0) (fun _ _ _ _ _ => True) (fun _ U o U' => ∃ v L, o = .returned v ∧ (PQ (some (.ref (A 4))) h0 n0) v U'.heap L ∧ FrameEnd U o U' L ({ frames := 1, cells := 0, slots := 0, locals := 12 } : Room).cells ({ frames := 1, cells := 0, slots := 0, locals := 12 } : Room).slots) := by
  refine MetFree.of_bodySF (plainFor_of_name own_pn4) hisR ?_
  intro p e s m args below meth c s₁ Bd hml0 hP hK
  obtain ⟨rfl, hZ, hh⟩ := hP
  have hx := Bd.exec
  have hby := Bd.bytes
  have hml : c.maxLocals = 1 := hml0
  have hown : s.vm.findClass "com/example/measurewright/measurewright/Comparison" = some m.cls := findClass_of_methodNamed Bd.named
  have hnm := (name_of_methodNamed Bd.named Bd.method).1
  have X0 : Stand p l e ({ frames := 1, cells := 0, slots := 0, locals := 12 } : Room) s m #[(.ref (A 0))] below meth c s₁ [] 0 0 := Stand.of_body Bd
  have e0 : s₁.heap = h0 := by rw [← hh, Bd.state]; rfl
  have N0 := Fr.nil n0
  have pre0 : ∀ t, Steps p.tables e below (s₁.setTop (mkF m 0 #[.val (.ref (A 0))] [])) t → Steps p.tables e below (s₁.setTop (entryFrame m #[(.ref (A 0))] 1)) t := fun t k => castTop (own_ef_rm4 m p1 p2 p3 A K ) k
  have KK0 : Keep h0 h0 [] := Keep.refl _ _
  obtain ⟨cq23, kq23, q23a, q23b, q23c⟩ := isOf hZ e0 (EN.1.2.1.ext OL0.2)
  obtain ⟨_, _, ⟨T23, L23, k23, n23⟩, -, X23, ⟨Lc23, hQ23, l23, y23, z23⟩, st23⟩ := X0.virtualBackUp hx (x := own_m9) (y := own_m5) (owner := "java/lang/Enum") hown (mvT hZ (hw _ (List.mem_of_getElem? (i := 20) rfl))) (mvT hZ (hw _ (List.mem_of_getElem? (i := 21) rfl))) (mvT hZ (hw _ (List.mem_of_getElem? (i := 22) rfl))) (by decide) (mvT hZ (hw _ (List.mem_of_getElem? (i := 24) rfl))) (mvT hZ (hw _ (List.mem_of_getElem? (i := 23) rfl))) (backOf (W := 0) (rm5 l Z a0 hw [] h0 n0 p1 p2 p3 A K EN OL0) hZ (hw _ (List.mem_of_getElem? (i := 26) rfl)) (hw _ (List.mem_of_getElem? (i := 25) rfl)) (by decide) (by decide)) q23a q23c (g := (mkF m 1 #[.val (.ref (A 0))] [(.ref (A 0))])) rfl (by rw [hml]; rfl) (Steps.refl _) (argsL := []) (rest := []) (lenOf own_pd4 rfl) rfl (by show 2 * 0 + _ ≤ _; exact Nat.le_of_eq rfl) (hb hby own_d_prog_3_method_7_code_1) (fun _ _ => ⟨rfl, e0, (by decide : 0 + 0 ≤ _), (by decide : 0 + 0 ≤ _)⟩)
  dsimp only [Pt.U, Pt.locs, Pt.cells, Pt.slots] at X23 l23 y23 z23 st23 hQ23
  subst l23 y23 z23
  obtain ⟨rfl, N23q, e23⟩ := hQ23
  have N23 := Fr.app N0 N23q
  obtain ⟨T24, X24, e24, st24⟩ := getS2 X23 hx hZ hown (host := "") (Or.inl (hw _ (List.mem_of_getElem? (i := 29) rfl))) Via.refl e23 (EN.2.1.1.ext OL0.2) (g := (mkF m 50 #[.val (.ref (A 0))] [])) rfl (hb hby own_d_prog_3_method_7_code_50)
  obtain ⟨fs, hr, hrun, hended, hW, hsame⟩ := X24.leave (v := some (.ref (A 4))) (fun h => by rw [Bd.returns] at h; cases h)
  refine ⟨_, _, pre0 _ ?_, hrun, hended, _, _, rfl, ?_, ⟨_, rfl⟩, hW, hsame.mono (by decide) (by decide)⟩
  · show Steps p.tables e below (s₁.setTop (mkF m 0 #[.val (.ref (A 0))] [])) _
    refine XS.aloadN X0.here hx rfl (hb hby own_d_prog_3_method_7_code_0) rfl rfl ?_
    show Steps p.tables e below (s₁.setTop (mkF m 1 #[.val (.ref (A 0))] [(.ref (A 0))])) _
    refine st23.trans ?_
    show Steps p.tables e below (T23.setTop (mkF m 4 #[.val (.ref (A 0))] [(.int (0 : Int32))])) _
    refine XS.tswIn X23.here hx rfl (pc0 := 4) (pc' := 50) rfl (hb hby own_d_prog_3_method_7_code_4) rfl (by decide) (o := 46) (by decide) (by decide) (by decide) ?_
    show Steps p.tables e below (T23.setTop (mkF m 50 #[.val (.ref (A 0))] [])) _
    refine st24 _ ?_
    show Steps p.tables e below (T24.setTop (mkF m 53 #[.val (.ref (A 0))] [(.ref (A 4))])) _
    refine XS.goto X24.here hx rfl (pc0 := 53) (pc' := 77) rfl (hb hby own_d_prog_3_method_7_code_53) (by decide) (by decide) ?_
    show Steps p.tables e below (T24.setTop (mkF m 77 #[.val (.ref (A 0))] [(.ref (A 4))])) _
    exact retOut X24 hx Bd.returns rfl (Or.inr (Or.inr (Or.inr (Or.inr ⟨rfl, rfl, rfl⟩)))) (hb hby own_d_prog_3_method_7_code_77) hr
  · show PQ (some (.ref (A 4))) h0 n0 _ T24.heap _
    rw [e24]
    exact ⟨rfl, N23, rfl⟩
theorem own_d_jdk_33_method_40_code_0 : decode jdk_33_method_40_code 0 = .ok (.iload_n 0, 1) := by decide +kernel
theorem own_d_jdk_33_method_40_code_1 : decode jdk_33_method_40_code 1 = .ok (.iload_n 1, 1) := by decide +kernel
theorem own_d_jdk_33_method_40_code_2 : decode jdk_33_method_40_code 2 = .ok (.if_icmp .ge 7, 3) := by decide +kernel
theorem own_d_jdk_33_method_40_code_5 : decode jdk_33_method_40_code 5 = .ok (.iconst (-1), 1) := by decide +kernel
theorem own_d_jdk_33_method_40_code_6 : decode jdk_33_method_40_code 6 = .ok (.goto 13, 3) := by decide +kernel
theorem own_d_jdk_33_method_40_code_19 : decode jdk_33_method_40_code 19 = .ok (.ireturn, 1) := by decide +kernel
theorem own_ef_rm9 (m : MethodId) (p1 : Int32) (p2 : Int32) (p3 : Int32) (A : Nat → Addr) (K : Nat → ClassId)  : entryFrame m #[(.int p2), (.int p3)] 2 = mkF m 0 #[.val (.int p2), .val (.int p3)] [] := by first | (simp [entryFrame, mkF, argsToLocals, Value.category, maxLocals]; done) | rfl
set_option maxRecDepth 65536 in
set_option maxHeartbeats 40000000 in
theorem rm9 (l : Launch) (Z : State) (a0 : Array Value) (hw : ∀ d ∈ tables_1, d.before a0 Z = true) (ws : List Jvm.Cond) (h0 : Heap) (n0 : Nat) (p1 : Int32) (p2 : Int32) (p3 : Int32) (A : Nat → Addr) (K : Nat → ClassId)  (EN : own_St Z A K) (OL0 : Old Z n0 h0) (hp_17 : p2 < p3) :
    MetFree l own_m10 (head1 (Jvm.Cond.code own_m10 jdk_33_method_40_code 2 (some .int) :: ws) ({ frames := 0, cells := 0, slots := 0, locals := 0 } : Room)) (fun a U => a = #[(.int p2), (.int p3)] ∧ Z.Warmed39 U.vm ∧ U.heap = h0) (fun _ _ _ _ _ => True) (fun _ U o U' => ∃ v L, o = .returned v ∧ (PQ (some (.int (-1 : Int32))) h0 n0) v U'.heap L ∧ FrameEnd U o U' L ({ frames := 0, cells := 0, slots := 0, locals := 0 } : Room).cells ({ frames := 0, cells := 0, slots := 0, locals := 0 } : Room).slots) := by
  refine MetFree.of_bodySF (plainFor_of_name own_pn1) hisR ?_
  intro p e s m args below meth c s₁ Bd hml0 hP hK
  obtain ⟨rfl, hZ, hh⟩ := hP
  have hx := Bd.exec
  have hby := Bd.bytes
  have hml : c.maxLocals = 2 := hml0
  have hown : s.vm.findClass "java/lang/Integer" = some m.cls := findClass_of_methodNamed Bd.named
  have hnm := (name_of_methodNamed Bd.named Bd.method).1
  have X0 : Stand p l e ({ frames := 0, cells := 0, slots := 0, locals := 0 } : Room) s m #[(.int p2), (.int p3)] below meth c s₁ [] 0 0 := Stand.of_body Bd
  have e0 : s₁.heap = h0 := by rw [← hh, Bd.state]; rfl
  have N0 := Fr.nil n0
  have pre0 : ∀ t, Steps p.tables e below (s₁.setTop (mkF m 0 #[.val (.int p2), .val (.int p3)] [])) t → Steps p.tables e below (s₁.setTop (entryFrame m #[(.int p2), (.int p3)] 2)) t := fun t k => castTop (own_ef_rm9 m p1 p2 p3 A K ) k
  have KK0 : Keep h0 h0 [] := Keep.refl _ _
  obtain ⟨fs, hr, hrun, hended, hW, hsame⟩ := X0.leave (v := some (.int (-1 : Int32))) (fun h => by rw [Bd.returns] at h; cases h)
  refine ⟨_, _, pre0 _ ?_, hrun, hended, _, _, rfl, ?_, ⟨_, rfl⟩, hW, hsame.mono (by decide) (by decide)⟩
  · show Steps p.tables e below (s₁.setTop (mkF m 0 #[.val (.int p2), .val (.int p3)] [])) _
    refine XS.iloadN X0.here hx rfl (hb hby own_d_jdk_33_method_40_code_0) rfl ?_
    show Steps p.tables e below (s₁.setTop (mkF m 1 #[.val (.int p2), .val (.int p3)] [(.int p2)])) _
    refine XS.iloadN X0.here hx rfl (hb hby own_d_jdk_33_method_40_code_1) rfl ?_
    show Steps p.tables e below (s₁.setTop (mkF m 2 #[.val (.int p2), .val (.int p3)] [(.int p3), (.int p2)])) _
    refine XS.icmpNo X0.here hx rfl (hb hby own_d_jdk_33_method_40_code_2) rfl (tlt hp_17).2.1 ?_
    show Steps p.tables e below (s₁.setTop (mkF m 5 #[.val (.int p2), .val (.int p3)] [])) _
    refine XS.iconst X0.here hx rfl (hb hby own_d_jdk_33_method_40_code_5) ?_
    show Steps p.tables e below (s₁.setTop (mkF m 6 #[.val (.int p2), .val (.int p3)] [(.int (-1 : Int32))])) _
    refine XS.goto X0.here hx rfl (pc0 := 6) (pc' := 19) rfl (hb hby own_d_jdk_33_method_40_code_6) (by decide) (by decide) ?_
    show Steps p.tables e below (s₁.setTop (mkF m 19 #[.val (.int p2), .val (.int p3)] [(.int (-1 : Int32))])) _
    exact retI X0 hx Bd.returns (hb hby own_d_jdk_33_method_40_code_19) hr
  · show PQ (some (.int (-1 : Int32))) h0 n0 _ s₁.heap _
    rw [e0]
    exact ⟨rfl, N0, rfl⟩
theorem own_d_jdk_33_method_39_code_0 : decode jdk_33_method_39_code 0 = .ok (.aload_n 0, 1) := by decide +kernel
theorem own_d_jdk_33_method_39_code_1 : decode jdk_33_method_39_code 1 = .ok (.getfield 205, 3) := by decide +kernel
theorem own_d_jdk_33_method_39_code_4 : decode jdk_33_method_39_code 4 = .ok (.aload_n 1, 1) := by decide +kernel
theorem own_d_jdk_33_method_39_code_5 : decode jdk_33_method_39_code 5 = .ok (.getfield 205, 3) := by decide +kernel
theorem own_d_jdk_33_method_39_code_8 : decode jdk_33_method_39_code 8 = .ok (.invokestatic 259, 3) := by decide +kernel
theorem own_d_jdk_33_method_39_code_11 : decode jdk_33_method_39_code 11 = .ok (.ireturn, 1) := by decide +kernel
theorem own_ef_rm8 (m : MethodId) (p1 : Int32) (p2 : Int32) (p3 : Int32) (A : Nat → Addr) (K : Nat → ClassId)  (r20 : Addr) (r21 : Addr) : entryFrame m #[(.ref r20), (.ref r21)] 2 = mkF m 0 #[.val (.ref r20), .val (.ref r21)] [] := by first | (simp [entryFrame, mkF, argsToLocals, Value.category, maxLocals]; done) | rfl
set_option maxRecDepth 65536 in
set_option maxHeartbeats 40000000 in
theorem rm8 (l : Launch) (Z : State) (a0 : Array Value) (hw : ∀ d ∈ tables_1, d.before a0 Z = true) (ws : List Jvm.Cond) (h0 : Heap) (n0 : Nat) (p1 : Int32) (p2 : Int32) (p3 : Int32) (A : Nat → Addr) (K : Nat → ClassId)  (r20 : Addr) (r21 : Addr) (EN : own_St Z A K) (OL0 : Old Z n0 h0) (G_F_r20_java_lang_Integer_value : Fld Z h0 r20 "java/lang/Integer" "value" "I" (.int p2)) (G_F_r21_java_lang_Integer_value : Fld Z h0 r21 "java/lang/Integer" "value" "I" (.int p3)) (hp_17 : p2 < p3) :
    MetFree l own_m8 (head1 (Jvm.Cond.code own_m8 jdk_33_method_39_code 2 (some .int) :: ws) ({ frames := 1, cells := 0, slots := 0, locals := 13 } : Room)) (fun a U => a = #[(.ref r20), (.ref r21)] ∧ Z.Warmed39 U.vm ∧ U.heap = h0) (fun _ _ _ _ _ => True) (fun _ U o U' => ∃ v L, o = .returned v ∧ (PQ (some (.int (-1 : Int32))) h0 n0) v U'.heap L ∧ FrameEnd U o U' L ({ frames := 1, cells := 0, slots := 0, locals := 13 } : Room).cells ({ frames := 1, cells := 0, slots := 0, locals := 13 } : Room).slots) := by
  refine MetFree.of_bodySF (plainFor_of_name own_pn1) hisR ?_
  intro p e s m args below meth c s₁ Bd hml0 hP hK
  obtain ⟨rfl, hZ, hh⟩ := hP
  have hx := Bd.exec
  have hby := Bd.bytes
  have hml : c.maxLocals = 2 := hml0
  have hown : s.vm.findClass "java/lang/Integer" = some m.cls := findClass_of_methodNamed Bd.named
  have hnm := (name_of_methodNamed Bd.named Bd.method).1
  have X0 : Stand p l e ({ frames := 1, cells := 0, slots := 0, locals := 13 } : Room) s m #[(.ref r20), (.ref r21)] below meth c s₁ [] 0 0 := Stand.of_body Bd
  have e0 : s₁.heap = h0 := by rw [← hh, Bd.state]; rfl
  have N0 := Fr.nil n0
  have pre0 : ∀ t, Steps p.tables e below (s₁.setTop (mkF m 0 #[.val (.ref r20), .val (.ref r21)] [])) t → Steps p.tables e below (s₁.setTop (entryFrame m #[(.ref r20), (.ref r21)] 2)) t := fun t k => castTop (own_ef_rm8 m p1 p2 p3 A K r20 r21) k
  have KK0 : Keep h0 h0 [] := Keep.refl _ _
  obtain ⟨T27, X27, e27, st27⟩ := getF X0 hx hZ hown (host := "") (Or.inl (hw _ (List.mem_of_getElem? (i := 52) rfl))) Via.refl e0 G_F_r20_java_lang_Integer_value (g := (mkF m 1 #[.val (.ref r20), .val (.ref r21)] [(.ref r20)])) rfl rfl (hb hby own_d_jdk_33_method_39_code_1)
  obtain ⟨T28, X28, e28, st28⟩ := getF X27 hx hZ hown (host := "") (Or.inl (hw _ (List.mem_of_getElem? (i := 52) rfl))) Via.refl e27 G_F_r21_java_lang_Integer_value (g := (mkF m 5 #[.val (.ref r20), .val (.ref r21)] [(.ref r21), (.int p2)])) rfl rfl (hb hby own_d_jdk_33_method_39_code_5)
  obtain ⟨_, _, ⟨T29, L29, k29, n29⟩, -, X29, ⟨Lc29, hQ29, l29, y29, z29⟩, st29⟩ := Jvm.LawKit.callS X28 hx (y := own_m10) hown (mvT hZ (hw _ (List.mem_of_getElem? (i := 54) rfl))) (mvT hZ (hw _ (List.mem_of_getElem? (i := 55) rfl))) (mvT hZ (hw _ (List.mem_of_getElem? (i := 10) rfl))) (mvT hZ (hw _ (List.mem_of_getElem? (i := 56) rfl))) (by decide) (backOf (W := 0) (rm9 l Z a0 hw [] h0 n0 p1 p2 p3 A K EN OL0 hp_17) hZ (hw _ (List.mem_of_getElem? (i := 56) rfl)) (hw _ (List.mem_of_getElem? (i := 10) rfl)) (by decide) (by decide)) (g := (mkF m 8 #[.val (.ref r20), .val (.ref r21)] [(.int p3), (.int p2)])) rfl (by rw [hml]; rfl) (argsL := [(.int p2), (.int p3)]) (rest := []) (lenOf own_pd6 rfl) rfl (by show 2 * 0 + _ ≤ _; exact Nat.le_of_eq rfl) (hb hby own_d_jdk_33_method_39_code_8) (fun _ _ => ⟨rfl, e28, (by decide : 0 + 0 ≤ _), (by decide : 0 + 0 ≤ _)⟩)
  dsimp only [Pt.U, Pt.locs, Pt.cells, Pt.slots] at X29 l29 y29 z29 st29 hQ29
  subst l29 y29 z29
  obtain ⟨rfl, N29q, e29⟩ := hQ29
  have N29 := Fr.app N0 N29q
  obtain ⟨fs, hr, hrun, hended, hW, hsame⟩ := X29.leave (v := some (.int (-1 : Int32))) (fun h => by rw [Bd.returns] at h; cases h)
  refine ⟨_, _, pre0 _ ?_, hrun, hended, _, _, rfl, ?_, ⟨_, rfl⟩, hW, hsame.mono (by decide) (by decide)⟩
  · show Steps p.tables e below (s₁.setTop (mkF m 0 #[.val (.ref r20), .val (.ref r21)] [])) _
    refine XS.aloadN X0.here hx rfl (hb hby own_d_jdk_33_method_39_code_0) rfl rfl ?_
    show Steps p.tables e below (s₁.setTop (mkF m 1 #[.val (.ref r20), .val (.ref r21)] [(.ref r20)])) _
    refine st27 _ ?_
    show Steps p.tables e below (T27.setTop (mkF m 4 #[.val (.ref r20), .val (.ref r21)] [(.int p2)])) _
    refine XS.aloadN X27.here hx rfl (hb hby own_d_jdk_33_method_39_code_4) rfl rfl ?_
    show Steps p.tables e below (T27.setTop (mkF m 5 #[.val (.ref r20), .val (.ref r21)] [(.ref r21), (.int p2)])) _
    refine st28 _ ?_
    show Steps p.tables e below (T28.setTop (mkF m 8 #[.val (.ref r20), .val (.ref r21)] [(.int p3), (.int p2)])) _
    refine st29 _ ?_
    show Steps p.tables e below (T29.setTop (mkF m 11 #[.val (.ref r20), .val (.ref r21)] [(.int (-1 : Int32))])) _
    exact retI X29 hx Bd.returns (hb hby own_d_jdk_33_method_39_code_11) hr
  · show PQ (some (.int (-1 : Int32))) h0 n0 _ T29.heap _
    rw [e29]
    exact ⟨rfl, N29, rfl⟩
theorem own_d_jdk_33_method_63_code_0 : decode jdk_33_method_63_code 0 = .ok (.aload_n 0, 1) := by decide +kernel
theorem own_d_jdk_33_method_63_code_1 : decode jdk_33_method_63_code 1 = .ok (.aload_n 1, 1) := by decide +kernel
theorem own_d_jdk_33_method_63_code_2 : decode jdk_33_method_63_code 2 = .ok (.checkcast 1, 3) := by decide +kernel
theorem own_d_jdk_33_method_63_code_5 : decode jdk_33_method_63_code 5 = .ok (.invokevirtual 284, 3) := by decide +kernel
theorem own_d_jdk_33_method_63_code_8 : decode jdk_33_method_63_code 8 = .ok (.ireturn, 1) := by decide +kernel
theorem own_ef_rm7 (m : MethodId) (p1 : Int32) (p2 : Int32) (p3 : Int32) (A : Nat → Addr) (K : Nat → ClassId)  (r20 : Addr) (r21 : Addr) : entryFrame m #[(.ref r20), (.ref r21)] 2 = mkF m 0 #[.val (.ref r20), .val (.ref r21)] [] := by first | (simp [entryFrame, mkF, argsToLocals, Value.category, maxLocals]; done) | rfl
set_option maxRecDepth 65536 in
set_option maxHeartbeats 40000000 in
theorem rm7 (l : Launch) (Z : State) (a0 : Array Value) (hw : ∀ d ∈ tables_1, d.before a0 Z = true) (ws : List Jvm.Cond) (h0 : Heap) (n0 : Nat) (p1 : Int32) (p2 : Int32) (p3 : Int32) (A : Nat → Addr) (K : Nat → ClassId)  (r20 : Addr) (r21 : Addr) (EN : own_St Z A K) (OL0 : Old Z n0 h0) (G_E_r21 : Exa Z h0 r21 "java/lang/Integer") (G_E_r20 : Exa Z h0 r20 "java/lang/Integer") (G_F_r20_java_lang_Integer_value : Fld Z h0 r20 "java/lang/Integer" "value" "I" (.int p2)) (G_F_r21_java_lang_Integer_value : Fld Z h0 r21 "java/lang/Integer" "value" "I" (.int p3)) (hp_17 : p2 < p3) :
    MetFree l own_m3 (head1 (Jvm.Cond.code own_m3 jdk_33_method_63_code 2 (some .int) :: ws) ({ frames := 2, cells := 0, slots := 0, locals := 26 } : Room)) (fun a U => a = #[(.ref r20), (.ref r21)] ∧ Z.Warmed39 U.vm ∧ U.heap = h0) (fun _ _ _ _ _ => True) (fun _ U o U' => ∃ v L, o = .returned v ∧ (PQ (some (.int (-1 : Int32))) h0 n0) v U'.heap L ∧ FrameEnd U o U' L ({ frames := 2, cells := 0, slots := 0, locals := 26 } : Room).cells ({ frames := 2, cells := 0, slots := 0, locals := 26 } : Room).slots) := by
  refine MetFree.of_bodySF (plainFor_of_name own_pn1) hisR ?_
  intro p e s m args below meth c s₁ Bd hml0 hP hK
  obtain ⟨rfl, hZ, hh⟩ := hP
  have hx := Bd.exec
  have hby := Bd.bytes
  have hml : c.maxLocals = 2 := hml0
  have hown : s.vm.findClass "java/lang/Integer" = some m.cls := findClass_of_methodNamed Bd.named
  have hnm := (name_of_methodNamed Bd.named Bd.method).1
  have X0 : Stand p l e ({ frames := 2, cells := 0, slots := 0, locals := 26 } : Room) s m #[(.ref r20), (.ref r21)] below meth c s₁ [] 0 0 := Stand.of_body Bd
  have e0 : s₁.heap = h0 := by rw [← hh, Bd.state]; rfl
  have N0 := Fr.nil n0
  have pre0 : ∀ t, Steps p.tables e below (s₁.setTop (mkF m 0 #[.val (.ref r20), .val (.ref r21)] [])) t → Steps p.tables e below (s₁.setTop (entryFrame m #[(.ref r20), (.ref r21)] 2)) t := fun t k => castTop (own_ef_rm7 m p1 p2 p3 A K r20 r21) k
  have KK0 : Keep h0 h0 [] := Keep.refl _ _
  obtain ⟨T26, X26, e26, st26⟩ := castY X0 hx hZ hown (hw _ (List.mem_of_getElem? (i := 45) rfl)) e0 (Ins.self G_E_r21) (g := (mkF m 2 #[.val (.ref r20), .val (.ref r21)] [(.ref r21), (.ref r20)])) rfl rfl (hb hby own_d_jdk_33_method_63_code_2)
  obtain ⟨cq30, kq30, q30a, q30b, q30c⟩ := isOf hZ e26 G_E_r20
  obtain ⟨_, _, ⟨T30, L30, k30, n30⟩, -, X30, ⟨Lc30, hQ30, l30, y30, z30⟩, st30⟩ := X26.virtualBack hx (y := own_m8) (z := own_m8) hown (mvT hZ (hw _ (List.mem_of_getElem? (i := 47) rfl))) (mvT hZ (hw _ (List.mem_of_getElem? (i := 48) rfl))) (notFace_of_selects (args := #[]) (mvT hZ (hw _ (List.mem_of_getElem? (i := 50) rfl)))) (mvT hZ (hw _ (List.mem_of_getElem? (i := 50) rfl))) (mvT hZ (hw _ (List.mem_of_getElem? (i := 49) rfl))) (by decide) (backOf (W := 0) (rm8 l Z a0 hw [] h0 n0 p1 p2 p3 A K r20 r21 EN OL0 G_F_r20_java_lang_Integer_value G_F_r21_java_lang_Integer_value hp_17) hZ (hw _ (List.mem_of_getElem? (i := 51) rfl)) (hw _ (List.mem_of_getElem? (i := 10) rfl)) (by decide) (by decide)) q30a q30c (g := (mkF m 5 #[.val (.ref r20), .val (.ref r21)] [(.ref r21), (.ref r20)])) rfl (by rw [hml]; rfl) (Steps.refl _) (argsL := [(.ref r21)]) (rest := []) (lenOf own_pd7 rfl) rfl (by show 2 * 0 + _ ≤ _; exact Nat.le_of_eq rfl) (hb hby own_d_jdk_33_method_63_code_5) (fun _ _ => ⟨rfl, e26, (by decide : 0 + 0 ≤ _), (by decide : 0 + 0 ≤ _)⟩)
  dsimp only [Pt.U, Pt.locs, Pt.cells, Pt.slots] at X30 l30 y30 z30 st30 hQ30
  subst l30 y30 z30
  obtain ⟨rfl, N30q, e30⟩ := hQ30
  have N30 := Fr.app N0 N30q
  obtain ⟨fs, hr, hrun, hended, hW, hsame⟩ := X30.leave (v := some (.int (-1 : Int32))) (fun h => by rw [Bd.returns] at h; cases h)
  refine ⟨_, _, pre0 _ ?_, hrun, hended, _, _, rfl, ?_, ⟨_, rfl⟩, hW, hsame.mono (by decide) (by decide)⟩
  · show Steps p.tables e below (s₁.setTop (mkF m 0 #[.val (.ref r20), .val (.ref r21)] [])) _
    refine XS.aloadN X0.here hx rfl (hb hby own_d_jdk_33_method_63_code_0) rfl rfl ?_
    show Steps p.tables e below (s₁.setTop (mkF m 1 #[.val (.ref r20), .val (.ref r21)] [(.ref r20)])) _
    refine XS.aloadN X0.here hx rfl (hb hby own_d_jdk_33_method_63_code_1) rfl rfl ?_
    show Steps p.tables e below (s₁.setTop (mkF m 2 #[.val (.ref r20), .val (.ref r21)] [(.ref r21), (.ref r20)])) _
    refine st26 _ ?_
    show Steps p.tables e below (T26.setTop (mkF m 5 #[.val (.ref r20), .val (.ref r21)] [(.ref r21), (.ref r20)])) _
    refine st30.trans ?_
    show Steps p.tables e below (T30.setTop (mkF m 8 #[.val (.ref r20), .val (.ref r21)] [(.int (-1 : Int32))])) _
    exact retI X30 hx Bd.returns (hb hby own_d_jdk_33_method_63_code_8) hr
  · show PQ (some (.int (-1 : Int32))) h0 n0 _ T30.heap _
    rw [e30]
    exact ⟨rfl, N30, rfl⟩
theorem own_d_prog_3_method_6_code_0 : decode prog_3_method_6_code 0 = .ok (.aload_n 0, 1) := by decide +kernel
theorem own_d_prog_3_method_6_code_1 : decode prog_3_method_6_code 1 = .ok (.invokevirtual 52, 3) := by decide +kernel
theorem own_d_prog_3_method_6_code_4 : decode prog_3_method_6_code 4 = .ok (.tableswitch 36 0 4 #[46, 58, 70, 82, 94], 36) := by decide +kernel
theorem own_d_prog_3_method_6_code_50 : decode prog_3_method_6_code 50 = .ok (.iload_n 1, 1) := by decide +kernel
theorem own_d_prog_3_method_6_code_51 : decode prog_3_method_6_code 51 = .ok (.ifCond .ge 7, 3) := by decide +kernel
theorem own_d_prog_3_method_6_code_54 : decode prog_3_method_6_code 54 = .ok (.iconst 1, 1) := by decide +kernel
theorem own_d_prog_3_method_6_code_55 : decode prog_3_method_6_code 55 = .ok (.goto 52, 3) := by decide +kernel
theorem own_d_prog_3_method_6_code_107 : decode prog_3_method_6_code 107 = .ok (.ireturn, 1) := by decide +kernel
theorem own_ef_rm10 (m : MethodId) (p1 : Int32) (p2 : Int32) (p3 : Int32) (A : Nat → Addr) (K : Nat → ClassId)  : entryFrame m #[(.ref (A 0)), (.int (-1 : Int32))] 2 = mkF m 0 #[.val (.ref (A 0)), .val (.int (-1 : Int32))] [] := by first | (simp [entryFrame, mkF, argsToLocals, Value.category, maxLocals]; done) | rfl
set_option maxRecDepth 65536 in
set_option maxHeartbeats 40000000 in
theorem rm10 (l : Launch) (Z : State) (a0 : Array Value) (hw : ∀ d ∈ tables_1, d.before a0 Z = true) (ws : List Jvm.Cond) (h0 : Heap) (n0 : Nat) (p1 : Int32) (p2 : Int32) (p3 : Int32) (A : Nat → Addr) (K : Nat → ClassId)  (EN : own_St Z A K) (OL0 : Old Z n0 h0) :
    MetFree l own_m1 (head1 (Jvm.Cond.code own_m1 prog_3_method_6_code 2 (some .boolean) :: ws) ({ frames := 1, cells := 0, slots := 0, locals := 12 } : Room)) (fun a U => a = #[(.ref (A 0)), (.int (-1 : Int32))] ∧ Z.Warmed39 U.vm ∧ U.heap = h0) (fun _ _ _ _ _ => True) (fun _ U o U' => ∃ v L, o = .returned v ∧ (PQ (some (.int (1 : Int32))) h0 n0) v U'.heap L ∧ FrameEnd U o U' L ({ frames := 1, cells := 0, slots := 0, locals := 12 } : Room).cells ({ frames := 1, cells := 0, slots := 0, locals := 12 } : Room).slots) := by
  refine MetFree.of_bodySF (plainFor_of_name own_pn4) hisR ?_
  intro p e s m args below meth c s₁ Bd hml0 hP hK
  obtain ⟨rfl, hZ, hh⟩ := hP
  have hx := Bd.exec
  have hby := Bd.bytes
  have hml : c.maxLocals = 2 := hml0
  have hown : s.vm.findClass "com/example/measurewright/measurewright/Comparison" = some m.cls := findClass_of_methodNamed Bd.named
  have hnm := (name_of_methodNamed Bd.named Bd.method).1
  have X0 : Stand p l e ({ frames := 1, cells := 0, slots := 0, locals := 12 } : Room) s m #[(.ref (A 0)), (.int (-1 : Int32))] below meth c s₁ [] 0 0 := Stand.of_body Bd
  have e0 : s₁.heap = h0 := by rw [← hh, Bd.state]; rfl
  have N0 := Fr.nil n0
  have pre0 : ∀ t, Steps p.tables e below (s₁.setTop (mkF m 0 #[.val (.ref (A 0)), .val (.int (-1 : Int32))] [])) t → Steps p.tables e below (s₁.setTop (entryFrame m #[(.ref (A 0)), (.int (-1 : Int32))] 2)) t := fun t k => castTop (own_ef_rm10 m p1 p2 p3 A K ) k
  have KK0 : Keep h0 h0 [] := Keep.refl _ _
  obtain ⟨cq32, kq32, q32a, q32b, q32c⟩ := isOf hZ e0 (EN.1.2.1.ext OL0.2)
  obtain ⟨_, _, ⟨T32, L32, k32, n32⟩, -, X32, ⟨Lc32, hQ32, l32, y32, z32⟩, st32⟩ := X0.virtualBackUp hx (x := own_m9) (y := own_m5) (owner := "java/lang/Enum") hown (mvT hZ (hw _ (List.mem_of_getElem? (i := 20) rfl))) (mvT hZ (hw _ (List.mem_of_getElem? (i := 21) rfl))) (mvT hZ (hw _ (List.mem_of_getElem? (i := 22) rfl))) (by decide) (mvT hZ (hw _ (List.mem_of_getElem? (i := 24) rfl))) (mvT hZ (hw _ (List.mem_of_getElem? (i := 23) rfl))) (backOf (W := 0) (rm5 l Z a0 hw [] h0 n0 p1 p2 p3 A K EN OL0) hZ (hw _ (List.mem_of_getElem? (i := 26) rfl)) (hw _ (List.mem_of_getElem? (i := 25) rfl)) (by decide) (by decide)) q32a q32c (g := (mkF m 1 #[.val (.ref (A 0)), .val (.int (-1 : Int32))] [(.ref (A 0))])) rfl (by rw [hml]; rfl) (Steps.refl _) (argsL := []) (rest := []) (lenOf own_pd4 rfl) rfl (by show 2 * 0 + _ ≤ _; exact Nat.le_of_eq rfl) (hb hby own_d_prog_3_method_6_code_1) (fun _ _ => ⟨rfl, e0, (by decide : 0 + 0 ≤ _), (by decide : 0 + 0 ≤ _)⟩)
  dsimp only [Pt.U, Pt.locs, Pt.cells, Pt.slots] at X32 l32 y32 z32 st32 hQ32
  subst l32 y32 z32
  obtain ⟨rfl, N32q, e32⟩ := hQ32
  have N32 := Fr.app N0 N32q
  obtain ⟨fs, hr, hrun, hended, hW, hsame⟩ := X32.leave (v := some (.int (1 : Int32))) (fun h => by rw [Bd.returns] at h; cases h)
  refine ⟨_, _, pre0 _ ?_, hrun, hended, _, _, rfl, ?_, ⟨_, rfl⟩, hW, hsame.mono (by decide) (by decide)⟩
  · show Steps p.tables e below (s₁.setTop (mkF m 0 #[.val (.ref (A 0)), .val (.int (-1 : Int32))] [])) _
    refine XS.aloadN X0.here hx rfl (hb hby own_d_prog_3_method_6_code_0) rfl rfl ?_
    show Steps p.tables e below (s₁.setTop (mkF m 1 #[.val (.ref (A 0)), .val (.int (-1 : Int32))] [(.ref (A 0))])) _
    refine st32.trans ?_
    show Steps p.tables e below (T32.setTop (mkF m 4 #[.val (.ref (A 0)), .val (.int (-1 : Int32))] [(.int (0 : Int32))])) _
    refine XS.tswIn X32.here hx rfl (pc0 := 4) (pc' := 50) rfl (hb hby own_d_prog_3_method_6_code_4) rfl (by decide) (o := 46) (by decide) (by decide) (by decide) ?_
    show Steps p.tables e below (T32.setTop (mkF m 50 #[.val (.ref (A 0)), .val (.int (-1 : Int32))] [])) _
    refine XS.iloadN X32.here hx rfl (hb hby own_d_prog_3_method_6_code_50) rfl ?_
    show Steps p.tables e below (T32.setTop (mkF m 51 #[.val (.ref (A 0)), .val (.int (-1 : Int32))] [(.int (-1 : Int32))])) _
    refine XS.ifNo X32.here hx rfl (hb hby own_d_prog_3_method_6_code_51) rfl ((if0 _ _).trans (tlt (by decide : (-1 : Int32) < (0 : Int32))).2.1) ?_
    show Steps p.tables e below (T32.setTop (mkF m 54 #[.val (.ref (A 0)), .val (.int (-1 : Int32))] [])) _
    refine XS.iconst X32.here hx rfl (hb hby own_d_prog_3_method_6_code_54) ?_
    show Steps p.tables e below (T32.setTop (mkF m 55 #[.val (.ref (A 0)), .val (.int (-1 : Int32))] [(.int (1 : Int32))])) _
    refine XS.goto X32.here hx rfl (pc0 := 55) (pc' := 107) rfl (hb hby own_d_prog_3_method_6_code_55) (by decide) (by decide) ?_
    show Steps p.tables e below (T32.setTop (mkF m 107 #[.val (.ref (A 0)), .val (.int (-1 : Int32))] [(.int (1 : Int32))])) _
    exact retN X32 hx (t := .boolean) Bd.returns (by simp) (hb hby own_d_prog_3_method_6_code_107) hr
  · show PQ (some (.int (1 : Int32))) h0 n0 _ T32.heap _
    rw [e32]
    exact ⟨rfl, N32, rfl⟩
theorem own_d_prog_3_method_5_code_0 : decode prog_3_method_5_code 0 = .ok (.aload_n 0, 1) := by decide +kernel
theorem own_d_prog_3_method_5_code_1 : decode prog_3_method_5_code 1 = .ok (.aload_n 1, 1) := by decide +kernel
theorem own_d_prog_3_method_5_code_2 : decode prog_3_method_5_code 2 = .ok (.aload_n 2, 1) := by decide +kernel
theorem own_d_prog_3_method_5_code_3 : decode prog_3_method_5_code 3 = .ok (.invokeinterface 42 2, 5) := by decide +kernel
theorem own_d_prog_3_method_5_code_8 : decode prog_3_method_5_code 8 = .ok (.invokevirtual 48, 3) := by decide +kernel
theorem own_d_prog_3_method_5_code_11 : decode prog_3_method_5_code 11 = .ok (.ireturn, 1) := by decide +kernel
theorem own_ef_rm6 (m : MethodId) (p1 : Int32) (p2 : Int32) (p3 : Int32) (A : Nat → Addr) (K : Nat → ClassId)  (r20 : Addr) (r21 : Addr) : entryFrame m #[(.ref (A 0)), (.ref r20), (.ref r21)] 3 = mkF m 0 #[.val (.ref (A 0)), .val (.ref r20), .val (.ref r21)] [] := by first | (simp [entryFrame, mkF, argsToLocals, Value.category, maxLocals]; done) | rfl
set_option maxRecDepth 65536 in
set_option maxHeartbeats 40000000 in
theorem rm6 (l : Launch) (Z : State) (a0 : Array Value) (hw : ∀ d ∈ tables_1, d.before a0 Z = true) (ws : List Jvm.Cond) (h0 : Heap) (n0 : Nat) (p1 : Int32) (p2 : Int32) (p3 : Int32) (A : Nat → Addr) (K : Nat → ClassId)  (r20 : Addr) (r21 : Addr) (EN : own_St Z A K) (OL0 : Old Z n0 h0) (G_E_r20 : Exa Z h0 r20 "java/lang/Integer") (G_E_r21 : Exa Z h0 r21 "java/lang/Integer") (G_F_r20_java_lang_Integer_value : Fld Z h0 r20 "java/lang/Integer" "value" "I" (.int p2)) (G_F_r21_java_lang_Integer_value : Fld Z h0 r21 "java/lang/Integer" "value" "I" (.int p3)) (hp_17 : p2 < p3) :
    MetFree l own_m0 (head1 (Jvm.Cond.code own_m0 prog_3_method_5_code 3 (some .boolean) :: ws) ({ frames := 3, cells := 0, slots := 0, locals := 40 } : Room)) (fun a U => a = #[(.ref (A 0)), (.ref r20), (.ref r21)] ∧ Z.Warmed39 U.vm ∧ U.heap = h0) (fun _ _ _ _ _ => True) (fun _ U o U' => ∃ v L, o = .returned v ∧ (PQ (some (.int (1 : Int32))) h0 n0) v U'.heap L ∧ FrameEnd U o U' L ({ frames := 3, cells := 0, slots := 0, locals := 40 } : Room).cells ({ frames := 3, cells := 0, slots := 0, locals := 40 } : Room).slots) := by
  refine MetFree.of_bodySF (plainFor_of_name own_pn4) hisR ?_
  intro p e s m args below meth c s₁ Bd hml0 hP hK
  obtain ⟨rfl, hZ, hh⟩ := hP
  have hx := Bd.exec
  have hby := Bd.bytes
  have hml : c.maxLocals = 3 := hml0
  have hown : s.vm.findClass "com/example/measurewright/measurewright/Comparison" = some m.cls := findClass_of_methodNamed Bd.named
  have hnm := (name_of_methodNamed Bd.named Bd.method).1
  have X0 : Stand p l e ({ frames := 3, cells := 0, slots := 0, locals := 40 } : Room) s m #[(.ref (A 0)), (.ref r20), (.ref r21)] below meth c s₁ [] 0 0 := Stand.of_body Bd
  have e0 : s₁.heap = h0 := by rw [← hh, Bd.state]; rfl
  have N0 := Fr.nil n0
  have pre0 : ∀ t, Steps p.tables e below (s₁.setTop (mkF m 0 #[.val (.ref (A 0)), .val (.ref r20), .val (.ref r21)] [])) t → Steps p.tables e below (s₁.setTop (entryFrame m #[(.ref (A 0)), (.ref r20), (.ref r21)] 3)) t := fun t k => castTop (own_ef_rm6 m p1 p2 p3 A K r20 r21) k
  have KK0 : Keep h0 h0 [] := Keep.refl _ _
  obtain ⟨cq31, kq31, q31a, q31b, q31c⟩ := isOf hZ e0 G_E_r20
  obtain ⟨_, _, ⟨T31, L31, k31, n31⟩, -, X31, ⟨Lc31, hQ31, l31, y31, z31⟩, st31⟩ := X0.interfaceBack hx (xi := own_m6) (y := own_m3) hown (mvT hZ (hw _ (List.mem_of_getElem? (i := 36) rfl))) (mvT hZ (hw _ (List.mem_of_getElem? (i := 37) rfl))) (mvT hZ (hw _ (List.mem_of_getElem? (i := 38) rfl))) (mvT hZ (hw _ (List.mem_of_getElem? (i := 39) rfl))) (mvT hZ (hw _ (List.mem_of_getElem? (i := 40) rfl))) (mvT hZ (hw _ (List.mem_of_getElem? (i := 41) rfl))) (mvT hZ (hw _ (List.mem_of_getElem? (i := 42) rfl))) (mvT hZ (hw _ (List.mem_of_getElem? (i := 43) rfl))) (by decide) (backOf (W := 1) (rm7 l Z a0 hw [] h0 n0 p1 p2 p3 A K r20 r21 EN OL0 G_E_r21 G_E_r20 G_F_r20_java_lang_Integer_value G_F_r21_java_lang_Integer_value hp_17) hZ (hw _ (List.mem_of_getElem? (i := 44) rfl)) (hw _ (List.mem_of_getElem? (i := 10) rfl)) (by decide) (by decide)) q31a q31b q31c (g := (mkF m 3 #[.val (.ref (A 0)), .val (.ref r20), .val (.ref r21)] [(.ref r21), (.ref r20), (.ref (A 0))])) rfl (by rw [hml]; rfl) (Steps.refl _) (argsL := [(.ref r21)]) (rest := [(.ref (A 0))]) (lenOf own_pd8 rfl) rfl (by show 2 * 0 + _ ≤ _; exact Nat.le_of_eq rfl) (hb hby own_d_prog_3_method_5_code_3) (fun _ _ => ⟨rfl, e0, (by decide : 0 + 0 ≤ _), (by decide : 0 + 0 ≤ _)⟩)
  dsimp only [Pt.U, Pt.locs, Pt.cells, Pt.slots] at X31 l31 y31 z31 st31 hQ31
  subst l31 y31 z31
  obtain ⟨rfl, N31q, e31⟩ := hQ31
  have N31 := Fr.app N0 N31q
  obtain ⟨cq33, q33, q33'⟩ := (EN.1.2.1.ext OL0.2).cell
  obtain ⟨_, _, ⟨T33, L33, k33, n33⟩, -, X33, ⟨Lc33, hQ33, l33, y33, z33⟩, st33⟩ := X31.privateBack hx (y := own_m1) hown (mvT hZ (hw _ (List.mem_of_getElem? (i := 57) rfl))) (mvT hZ (hw _ (List.mem_of_getElem? (i := 58) rfl))) (own_selpS (y := own_m1) (mvT hZ (hw _ (List.mem_of_getElem? (i := 18) rfl))) rfl (mvP (args := #[]) hZ (hw _ (List.mem_of_getElem? (i := 59) rfl))) (mvT hZ (hw _ (List.mem_of_getElem? (i := 58) rfl))) (by decide)) (Cond.privateMethod_at (mvP hZ (hw _ (List.mem_of_getElem? (i := 59) rfl)) (args := #[]))) (mvT hZ (hw _ (List.mem_of_getElem? (i := 60) rfl))) (by decide) (backOf (W := 0) (rm10 l Z a0 hw [] h0 n0 p1 p2 p3 A K EN OL0) hZ (hw _ (List.mem_of_getElem? (i := 60) rfl)) (hw _ (List.mem_of_getElem? (i := 6) rfl)) (by decide) (by decide)) (g := (mkF m 8 #[.val (.ref (A 0)), .val (.ref r20), .val (.ref r21)] [(.int (-1 : Int32)), (.ref (A 0))])) rfl (by rw [hml]; rfl) (Steps.refl _) (a := (A 0)) (by rw [e31]; exact q33) q33' (argsL := [(.int (-1 : Int32))]) (rest := []) (lenOf own_pd9 rfl) rfl (by show 2 * 0 + _ ≤ _; exact Nat.le_of_eq rfl) (hb hby own_d_prog_3_method_5_code_8) (fun _ _ => ⟨rfl, e31, (by decide : 0 + 0 ≤ _), (by decide : 0 + 0 ≤ _)⟩)
  dsimp only [Pt.U, Pt.locs, Pt.cells, Pt.slots] at X33 l33 y33 z33 st33 hQ33
  subst l33 y33 z33
  obtain ⟨rfl, N33q, e33⟩ := hQ33
  have N33 := Fr.app N31 N33q
  obtain ⟨fs, hr, hrun, hended, hW, hsame⟩ := X33.leave (v := some (.int (1 : Int32))) (fun h => by rw [Bd.returns] at h; cases h)
  refine ⟨_, _, pre0 _ ?_, hrun, hended, _, _, rfl, ?_, ⟨_, rfl⟩, hW, hsame.mono (by decide) (by decide)⟩
  · show Steps p.tables e below (s₁.setTop (mkF m 0 #[.val (.ref (A 0)), .val (.ref r20), .val (.ref r21)] [])) _
    refine XS.aloadN X0.here hx rfl (hb hby own_d_prog_3_method_5_code_0) rfl rfl ?_
    show Steps p.tables e below (s₁.setTop (mkF m 1 #[.val (.ref (A 0)), .val (.ref r20), .val (.ref r21)] [(.ref (A 0))])) _
    refine XS.aloadN X0.here hx rfl (hb hby own_d_prog_3_method_5_code_1) rfl rfl ?_
    show Steps p.tables e below (s₁.setTop (mkF m 2 #[.val (.ref (A 0)), .val (.ref r20), .val (.ref r21)] [(.ref r20), (.ref (A 0))])) _
    refine XS.aloadN X0.here hx rfl (hb hby own_d_prog_3_method_5_code_2) rfl rfl ?_
    show Steps p.tables e below (s₁.setTop (mkF m 3 #[.val (.ref (A 0)), .val (.ref r20), .val (.ref r21)] [(.ref r21), (.ref r20), (.ref (A 0))])) _
    refine st31.trans ?_
    show Steps p.tables e below (T31.setTop (mkF m 8 #[.val (.ref (A 0)), .val (.ref r20), .val (.ref r21)] [(.int (-1 : Int32)), (.ref (A 0))])) _
    refine st33.trans ?_
    show Steps p.tables e below (T33.setTop (mkF m 11 #[.val (.ref (A 0)), .val (.ref r20), .val (.ref r21)] [(.int (1 : Int32))])) _
    exact retN X33 hx (t := .boolean) Bd.returns (by simp) (hb hby own_d_prog_3_method_5_code_11) hr
  · show PQ (some (.int (1 : Int32))) h0 n0 _ T33.heap _
    rw [e33]
    exact ⟨rfl, N33, rfl⟩
theorem own_d_jdk_33_method_40_code_9 : decode jdk_33_method_40_code 9 = .ok (.iload_n 0, 1) := by decide +kernel
theorem own_d_jdk_33_method_40_code_10 : decode jdk_33_method_40_code 10 = .ok (.iload_n 1, 1) := by decide +kernel
theorem own_d_jdk_33_method_40_code_11 : decode jdk_33_method_40_code 11 = .ok (.if_icmp .ne 7, 3) := by decide +kernel
theorem own_d_jdk_33_method_40_code_18 : decode jdk_33_method_40_code 18 = .ok (.iconst 1, 1) := by decide +kernel
theorem own_ef_rm14 (m : MethodId) (p1 : Int32) (p2 : Int32) (p3 : Int32) (A : Nat → Addr) (K : Nat → ClassId)  : entryFrame m #[(.int p3), (.int p2)] 2 = mkF m 0 #[.val (.int p3), .val (.int p2)] [] := by first | (simp [entryFrame, mkF, argsToLocals, Value.category, maxLocals]; done) | rfl
set_option maxRecDepth 65536 in
set_option maxHeartbeats 40000000 in
theorem rm14 (l : Launch) (Z : State) (a0 : Array Value) (hw : ∀ d ∈ tables_1, d.before a0 Z = true) (ws : List Jvm.Cond) (h0 : Heap) (n0 : Nat) (p1 : Int32) (p2 : Int32) (p3 : Int32) (A : Nat → Addr) (K : Nat → ClassId)  (EN : own_St Z A K) (OL0 : Old Z n0 h0) (hp_17 : p2 < p3) :
    MetFree l own_m10 (head1 (Jvm.Cond.code own_m10 jdk_33_method_40_code 2 (some .int) :: ws) ({ frames := 0, cells := 0, slots := 0, locals := 0 } : Room)) (fun a U => a = #[(.int p3), (.int p2)] ∧ Z.Warmed39 U.vm ∧ U.heap = h0) (fun _ _ _ _ _ => True) (fun _ U o U' => ∃ v L, o = .returned v ∧ (PQ (some (.int (1 : Int32))) h0 n0) v U'.heap L ∧ FrameEnd U o U' L ({ frames := 0, cells := 0, slots := 0, locals := 0 } : Room).cells ({ frames := 0, cells := 0, slots := 0, locals := 0 } : Room).slots) := by
  refine MetFree.of_bodySF (plainFor_of_name own_pn1) hisR ?_
  intro p e s m args below meth c s₁ Bd hml0 hP hK
  obtain ⟨rfl, hZ, hh⟩ := hP
  have hx := Bd.exec
  have hby := Bd.bytes
  have hml : c.maxLocals = 2 := hml0
  have hown : s.vm.findClass "java/lang/Integer" = some m.cls := findClass_of_methodNamed Bd.named
  have hnm := (name_of_methodNamed Bd.named Bd.method).1
  have X0 : Stand p l e ({ frames := 0, cells := 0, slots := 0, locals := 0 } : Room) s m #[(.int p3), (.int p2)] below meth c s₁ [] 0 0 := Stand.of_body Bd
  have e0 : s₁.heap = h0 := by rw [← hh, Bd.state]; rfl
  have N0 := Fr.nil n0
  have pre0 : ∀ t, Steps p.tables e below (s₁.setTop (mkF m 0 #[.val (.int p3), .val (.int p2)] [])) t → Steps p.tables e below (s₁.setTop (entryFrame m #[(.int p3), (.int p2)] 2)) t := fun t k => castTop (own_ef_rm14 m p1 p2 p3 A K ) k
  have KK0 : Keep h0 h0 [] := Keep.refl _ _
  obtain ⟨fs, hr, hrun, hended, hW, hsame⟩ := X0.leave (v := some (.int (1 : Int32))) (fun h => by rw [Bd.returns] at h; cases h)
  refine ⟨_, _, pre0 _ ?_, hrun, hended, _, _, rfl, ?_, ⟨_, rfl⟩, hW, hsame.mono (by decide) (by decide)⟩
  · show Steps p.tables e below (s₁.setTop (mkF m 0 #[.val (.int p3), .val (.int p2)] [])) _
    refine XS.iloadN X0.here hx rfl (hb hby own_d_jdk_33_method_40_code_0) rfl ?_
    show Steps p.tables e below (s₁.setTop (mkF m 1 #[.val (.int p3), .val (.int p2)] [(.int p3)])) _
    refine XS.iloadN X0.here hx rfl (hb hby own_d_jdk_33_method_40_code_1) rfl ?_
    show Steps p.tables e below (s₁.setTop (mkF m 2 #[.val (.int p3), .val (.int p2)] [(.int p2), (.int p3)])) _
    refine XS.icmpYes X0.here hx rfl (pc0 := 2) (pc' := 9) rfl (hb hby own_d_jdk_33_method_40_code_2) rfl (flt (own_n1 hp_17)).2.1 (by decide) (by decide) ?_
    show Steps p.tables e below (s₁.setTop (mkF m 9 #[.val (.int p3), .val (.int p2)] [])) _
    refine XS.iloadN X0.here hx rfl (hb hby own_d_jdk_33_method_40_code_9) rfl ?_
    show Steps p.tables e below (s₁.setTop (mkF m 10 #[.val (.int p3), .val (.int p2)] [(.int p3)])) _
    refine XS.iloadN X0.here hx rfl (hb hby own_d_jdk_33_method_40_code_10) rfl ?_
    show Steps p.tables e below (s₁.setTop (mkF m 11 #[.val (.int p3), .val (.int p2)] [(.int p2), (.int p3)])) _
    refine XS.icmpYes X0.here hx rfl (pc0 := 11) (pc' := 18) rfl (hb hby own_d_jdk_33_method_40_code_11) rfl (feq (own_n2 hp_17)).2 (by decide) (by decide) ?_
    show Steps p.tables e below (s₁.setTop (mkF m 18 #[.val (.int p3), .val (.int p2)] [])) _
    refine XS.iconst X0.here hx rfl (hb hby own_d_jdk_33_method_40_code_18) ?_
    show Steps p.tables e below (s₁.setTop (mkF m 19 #[.val (.int p3), .val (.int p2)] [(.int (1 : Int32))])) _
    exact retI X0 hx Bd.returns (hb hby own_d_jdk_33_method_40_code_19) hr
  · show PQ (some (.int (1 : Int32))) h0 n0 _ s₁.heap _
    rw [e0]
    exact ⟨rfl, N0, rfl⟩
theorem own_ef_rm13 (m : MethodId) (p1 : Int32) (p2 : Int32) (p3 : Int32) (A : Nat → Addr) (K : Nat → ClassId)  (r20 : Addr) (r21 : Addr) : entryFrame m #[(.ref r21), (.ref r20)] 2 = mkF m 0 #[.val (.ref r21), .val (.ref r20)] [] := by first | (simp [entryFrame, mkF, argsToLocals, Value.category, maxLocals]; done) | rfl
set_option maxRecDepth 65536 in
set_option maxHeartbeats 40000000 in
theorem rm13 (l : Launch) (Z : State) (a0 : Array Value) (hw : ∀ d ∈ tables_1, d.before a0 Z = true) (ws : List Jvm.Cond) (h0 : Heap) (n0 : Nat) (p1 : Int32) (p2 : Int32) (p3 : Int32) (A : Nat → Addr) (K : Nat → ClassId)  (r20 : Addr) (r21 : Addr) (EN : own_St Z A K) (OL0 : Old Z n0 h0) (G_F_r21_java_lang_Integer_value : Fld Z h0 r21 "java/lang/Integer" "value" "I" (.int p3)) (G_F_r20_java_lang_Integer_value : Fld Z h0 r20 "java/lang/Integer" "value" "I" (.int p2)) (hp_17 : p2 < p3) :
    MetFree l own_m8 (head1 (Jvm.Cond.code own_m8 jdk_33_method_39_code 2 (some .int) :: ws) ({ frames := 1, cells := 0, slots := 0, locals := 13 } : Room)) (fun a U => a = #[(.ref r21), (.ref r20)] ∧ Z.Warmed39 U.vm ∧ U.heap = h0) (fun _ _ _ _ _ => True) (fun _ U o U' => ∃ v L, o = .returned v ∧ (PQ (some (.int (1 : Int32))) h0 n0) v U'.heap L ∧ FrameEnd U o U' L ({ frames := 1, cells := 0, slots := 0, locals := 13 } : Room).cells ({ frames := 1, cells := 0, slots := 0, locals := 13 } : Room).slots) := by
  refine MetFree.of_bodySF (plainFor_of_name own_pn1) hisR ?_
  intro p e s m args below meth c s₁ Bd hml0 hP hK
  obtain ⟨rfl, hZ, hh⟩ := hP
  have hx := Bd.exec
  have hby := Bd.bytes
  have hml : c.maxLocals = 2 := hml0
  have hown : s.vm.findClass "java/lang/Integer" = some m.cls := findClass_of_methodNamed Bd.named
  have hnm := (name_of_methodNamed Bd.named Bd.method).1
  have X0 : Stand p l e ({ frames := 1, cells := 0, slots := 0, locals := 13 } : Room) s m #[(.ref r21), (.ref r20)] below meth c s₁ [] 0 0 := Stand.of_body Bd
  have e0 : s₁.heap = h0 := by rw [← hh, Bd.state]; rfl
  have N0 := Fr.nil n0
  have pre0 : ∀ t, Steps p.tables e below (s₁.setTop (mkF m 0 #[.val (.ref r21), .val (.ref r20)] [])) t → Steps p.tables e below (s₁.setTop (entryFrame m #[(.ref r21), (.ref r20)] 2)) t := fun t k => castTop (own_ef_rm13 m p1 p2 p3 A K r20 r21) k
  have KK0 : Keep h0 h0 [] := Keep.refl _ _
  obtain ⟨T38, X38, e38, st38⟩ := getF X0 hx hZ hown (host := "") (Or.inl (hw _ (List.mem_of_getElem? (i := 52) rfl))) Via.refl e0 G_F_r21_java_lang_Integer_value (g := (mkF m 1 #[.val (.ref r21), .val (.ref r20)] [(.ref r21)])) rfl rfl (hb hby own_d_jdk_33_method_39_code_1)
  obtain ⟨T39, X39, e39, st39⟩ := getF X38 hx hZ hown (host := "") (Or.inl (hw _ (List.mem_of_getElem? (i := 52) rfl))) Via.refl e38 G_F_r20_java_lang_Integer_value (g := (mkF m 5 #[.val (.ref r21), .val (.ref r20)] [(.ref r20), (.int p3)])) rfl rfl (hb hby own_d_jdk_33_method_39_code_5)
  obtain ⟨_, _, ⟨T40, L40, k40, n40⟩, -, X40, ⟨Lc40, hQ40, l40, y40, z40⟩, st40⟩ := Jvm.LawKit.callS X39 hx (y := own_m10) hown (mvT hZ (hw _ (List.mem_of_getElem? (i := 54) rfl))) (mvT hZ (hw _ (List.mem_of_getElem? (i := 55) rfl))) (mvT hZ (hw _ (List.mem_of_getElem? (i := 10) rfl))) (mvT hZ (hw _ (List.mem_of_getElem? (i := 56) rfl))) (by decide) (backOf (W := 0) (rm14 l Z a0 hw [] h0 n0 p1 p2 p3 A K EN OL0 hp_17) hZ (hw _ (List.mem_of_getElem? (i := 56) rfl)) (hw _ (List.mem_of_getElem? (i := 10) rfl)) (by decide) (by decide)) (g := (mkF m 8 #[.val (.ref r21), .val (.ref r20)] [(.int p2), (.int p3)])) rfl (by rw [hml]; rfl) (argsL := [(.int p3), (.int p2)]) (rest := []) (lenOf own_pd6 rfl) rfl (by show 2 * 0 + _ ≤ _; exact Nat.le_of_eq rfl) (hb hby own_d_jdk_33_method_39_code_8) (fun _ _ => ⟨rfl, e39, (by decide : 0 + 0 ≤ _), (by decide : 0 + 0 ≤ _)⟩)
  dsimp only [Pt.U, Pt.locs, Pt.cells, Pt.slots] at X40 l40 y40 z40 st40 hQ40
  subst l40 y40 z40
  obtain ⟨rfl, N40q, e40⟩ := hQ40
  have N40 := Fr.app N0 N40q
  obtain ⟨fs, hr, hrun, hended, hW, hsame⟩ := X40.leave (v := some (.int (1 : Int32))) (fun h => by rw [Bd.returns] at h; cases h)
  refine ⟨_, _, pre0 _ ?_, hrun, hended, _, _, rfl, ?_, ⟨_, rfl⟩, hW, hsame.mono (by decide) (by decide)⟩
  · show Steps p.tables e below (s₁.setTop (mkF m 0 #[.val (.ref r21), .val (.ref r20)] [])) _
    refine XS.aloadN X0.here hx rfl (hb hby own_d_jdk_33_method_39_code_0) rfl rfl ?_
    show Steps p.tables e below (s₁.setTop (mkF m 1 #[.val (.ref r21), .val (.ref r20)] [(.ref r21)])) _
    refine st38 _ ?_
    show Steps p.tables e below (T38.setTop (mkF m 4 #[.val (.ref r21), .val (.ref r20)] [(.int p3)])) _
    refine XS.aloadN X38.here hx rfl (hb hby own_d_jdk_33_method_39_code_4) rfl rfl ?_
    show Steps p.tables e below (T38.setTop (mkF m 5 #[.val (.ref r21), .val (.ref r20)] [(.ref r20), (.int p3)])) _
    refine st39 _ ?_
    show Steps p.tables e below (T39.setTop (mkF m 8 #[.val (.ref r21), .val (.ref r20)] [(.int p2), (.int p3)])) _
    refine st40 _ ?_
    show Steps p.tables e below (T40.setTop (mkF m 11 #[.val (.ref r21), .val (.ref r20)] [(.int (1 : Int32))])) _
    exact retI X40 hx Bd.returns (hb hby own_d_jdk_33_method_39_code_11) hr
  · show PQ (some (.int (1 : Int32))) h0 n0 _ T40.heap _
    rw [e40]
    exact ⟨rfl, N40, rfl⟩
theorem own_ef_rm12 (m : MethodId) (p1 : Int32) (p2 : Int32) (p3 : Int32) (A : Nat → Addr) (K : Nat → ClassId)  (r20 : Addr) (r21 : Addr) : entryFrame m #[(.ref r21), (.ref r20)] 2 = mkF m 0 #[.val (.ref r21), .val (.ref r20)] [] := by first | (simp [entryFrame, mkF, argsToLocals, Value.category, maxLocals]; done) | rfl
set_option maxRecDepth 65536 in
set_option maxHeartbeats 40000000 in
theorem rm12 (l : Launch) (Z : State) (a0 : Array Value) (hw : ∀ d ∈ tables_1, d.before a0 Z = true) (ws : List Jvm.Cond) (h0 : Heap) (n0 : Nat) (p1 : Int32) (p2 : Int32) (p3 : Int32) (A : Nat → Addr) (K : Nat → ClassId)  (r20 : Addr) (r21 : Addr) (EN : own_St Z A K) (OL0 : Old Z n0 h0) (G_E_r20 : Exa Z h0 r20 "java/lang/Integer") (G_E_r21 : Exa Z h0 r21 "java/lang/Integer") (G_F_r21_java_lang_Integer_value : Fld Z h0 r21 "java/lang/Integer" "value" "I" (.int p3)) (G_F_r20_java_lang_Integer_value : Fld Z h0 r20 "java/lang/Integer" "value" "I" (.int p2)) (hp_17 : p2 < p3) :
    MetFree l own_m3 (head1 (Jvm.Cond.code own_m3 jdk_33_method_63_code 2 (some .int) :: ws) ({ frames := 2, cells := 0, slots := 0, locals := 26 } : Room)) (fun a U => a = #[(.ref r21), (.ref r20)] ∧ Z.Warmed39 U.vm ∧ U.heap = h0) (fun _ _ _ _ _ => True) (fun _ U o U' => ∃ v L, o = .returned v ∧ (PQ (some (.int (1 : Int32))) h0 n0) v U'.heap L ∧ FrameEnd U o U' L ({ frames := 2, cells := 0, slots := 0, locals := 26 } : Room).cells ({ frames := 2, cells := 0, slots := 0, locals := 26 } : Room).slots) := by
  refine MetFree.of_bodySF (plainFor_of_name own_pn1) hisR ?_
  intro p e s m args below meth c s₁ Bd hml0 hP hK
  obtain ⟨rfl, hZ, hh⟩ := hP
  have hx := Bd.exec
  have hby := Bd.bytes
  have hml : c.maxLocals = 2 := hml0
  have hown : s.vm.findClass "java/lang/Integer" = some m.cls := findClass_of_methodNamed Bd.named
  have hnm := (name_of_methodNamed Bd.named Bd.method).1
  have X0 : Stand p l e ({ frames := 2, cells := 0, slots := 0, locals := 26 } : Room) s m #[(.ref r21), (.ref r20)] below meth c s₁ [] 0 0 := Stand.of_body Bd
  have e0 : s₁.heap = h0 := by rw [← hh, Bd.state]; rfl
  have N0 := Fr.nil n0
  have pre0 : ∀ t, Steps p.tables e below (s₁.setTop (mkF m 0 #[.val (.ref r21), .val (.ref r20)] [])) t → Steps p.tables e below (s₁.setTop (entryFrame m #[(.ref r21), (.ref r20)] 2)) t := fun t k => castTop (own_ef_rm12 m p1 p2 p3 A K r20 r21) k
  have KK0 : Keep h0 h0 [] := Keep.refl _ _
  obtain ⟨T37, X37, e37, st37⟩ := castY X0 hx hZ hown (hw _ (List.mem_of_getElem? (i := 45) rfl)) e0 (Ins.self G_E_r20) (g := (mkF m 2 #[.val (.ref r21), .val (.ref r20)] [(.ref r20), (.ref r21)])) rfl rfl (hb hby own_d_jdk_33_method_63_code_2)
  obtain ⟨cq41, kq41, q41a, q41b, q41c⟩ := isOf hZ e37 G_E_r21
  obtain ⟨_, _, ⟨T41, L41, k41, n41⟩, -, X41, ⟨Lc41, hQ41, l41, y41, z41⟩, st41⟩ := X37.virtualBack hx (y := own_m8) (z := own_m8) hown (mvT hZ (hw _ (List.mem_of_getElem? (i := 47) rfl))) (mvT hZ (hw _ (List.mem_of_getElem? (i := 48) rfl))) (notFace_of_selects (args := #[]) (mvT hZ (hw _ (List.mem_of_getElem? (i := 50) rfl)))) (mvT hZ (hw _ (List.mem_of_getElem? (i := 50) rfl))) (mvT hZ (hw _ (List.mem_of_getElem? (i := 49) rfl))) (by decide) (backOf (W := 0) (rm13 l Z a0 hw [] h0 n0 p1 p2 p3 A K r20 r21 EN OL0 G_F_r21_java_lang_Integer_value G_F_r20_java_lang_Integer_value hp_17) hZ (hw _ (List.mem_of_getElem? (i := 51) rfl)) (hw _ (List.mem_of_getElem? (i := 10) rfl)) (by decide) (by decide)) q41a q41c (g := (mkF m 5 #[.val (.ref r21), .val (.ref r20)] [(.ref r20), (.ref r21)])) rfl (by rw [hml]; rfl) (Steps.refl _) (argsL := [(.ref r20)]) (rest := []) (lenOf own_pd7 rfl) rfl (by show 2 * 0 + _ ≤ _; exact Nat.le_of_eq rfl) (hb hby own_d_jdk_33_method_63_code_5) (fun _ _ => ⟨rfl, e37, (by decide : 0 + 0 ≤ _), (by decide : 0 + 0 ≤ _)⟩)
  dsimp only [Pt.U, Pt.locs, Pt.cells, Pt.slots] at X41 l41 y41 z41 st41 hQ41
  subst l41 y41 z41
  obtain ⟨rfl, N41q, e41⟩ := hQ41
  have N41 := Fr.app N0 N41q
  obtain ⟨fs, hr, hrun, hended, hW, hsame⟩ := X41.leave (v := some (.int (1 : Int32))) (fun h => by rw [Bd.returns] at h; cases h)
  refine ⟨_, _, pre0 _ ?_, hrun, hended, _, _, rfl, ?_, ⟨_, rfl⟩, hW, hsame.mono (by decide) (by decide)⟩
  · show Steps p.tables e below (s₁.setTop (mkF m 0 #[.val (.ref r21), .val (.ref r20)] [])) _
    refine XS.aloadN X0.here hx rfl (hb hby own_d_jdk_33_method_63_code_0) rfl rfl ?_
    show Steps p.tables e below (s₁.setTop (mkF m 1 #[.val (.ref r21), .val (.ref r20)] [(.ref r21)])) _
    refine XS.aloadN X0.here hx rfl (hb hby own_d_jdk_33_method_63_code_1) rfl rfl ?_
    show Steps p.tables e below (s₁.setTop (mkF m 2 #[.val (.ref r21), .val (.ref r20)] [(.ref r20), (.ref r21)])) _
    refine st37 _ ?_
    show Steps p.tables e below (T37.setTop (mkF m 5 #[.val (.ref r21), .val (.ref r20)] [(.ref r20), (.ref r21)])) _
    refine st41.trans ?_
    show Steps p.tables e below (T41.setTop (mkF m 8 #[.val (.ref r21), .val (.ref r20)] [(.int (1 : Int32))])) _
    exact retI X41 hx Bd.returns (hb hby own_d_jdk_33_method_63_code_8) hr
  · show PQ (some (.int (1 : Int32))) h0 n0 _ T41.heap _
    rw [e41]
    exact ⟨rfl, N41, rfl⟩
theorem own_ef_rm16 (m : MethodId) (p1 : Int32) (p2 : Int32) (p3 : Int32) (A : Nat → Addr) (K : Nat → ClassId)  : entryFrame m #[(.ref (A 4))] 1 = mkF m 0 #[.val (.ref (A 4))] [] := by first | (simp [entryFrame, mkF, argsToLocals, Value.category, maxLocals]; done) | rfl
set_option maxRecDepth 65536 in
set_option maxHeartbeats 40000000 in
theorem rm16 (l : Launch) (Z : State) (a0 : Array Value) (hw : ∀ d ∈ tables_1, d.before a0 Z = true) (ws : List Jvm.Cond) (h0 : Heap) (n0 : Nat) (p1 : Int32) (p2 : Int32) (p3 : Int32) (A : Nat → Addr) (K : Nat → ClassId)  (EN : own_St Z A K) (OL0 : Old Z n0 h0) :
    MetFree l own_m5 (head1 (Jvm.Cond.code own_m5 jdk_37_method_2_code 1 (some .int) :: ws) ({ frames := 0, cells := 0, slots := 0, locals := 0 } : Room)) (fun a U => a = #[(.ref (A 4))] ∧ Z.Warmed39 U.vm ∧ U.heap = h0) (fun _ _ _ _ _ => True) (fun _ U o U' => ∃ v L, o = .returned v ∧ (PQ (some (.int (4 : Int32))) h0 n0) v U'.heap L ∧ FrameEnd U o U' L ({ frames := 0, cells := 0, slots := 0, locals := 0 } : Room).cells ({ frames := 0, cells := 0, slots := 0, locals := 0 } : Room).slots) := by
  refine MetFree.of_bodySF (plainFor_of_name own_pn3) hisR ?_
  intro p e s m args below meth c s₁ Bd hml0 hP hK
  obtain ⟨rfl, hZ, hh⟩ := hP
  have hx := Bd.exec
  have hby := Bd.bytes
  have hml : c.maxLocals = 1 := hml0
  have hown : s.vm.findClass "java/lang/Enum" = some m.cls := findClass_of_methodNamed Bd.named
  have hnm := (name_of_methodNamed Bd.named Bd.method).1
  have X0 : Stand p l e ({ frames := 0, cells := 0, slots := 0, locals := 0 } : Room) s m #[(.ref (A 4))] below meth c s₁ [] 0 0 := Stand.of_body Bd
  have e0 : s₁.heap = h0 := by rw [← hh, Bd.state]; rfl
  have N0 := Fr.nil n0
  have pre0 : ∀ t, Steps p.tables e below (s₁.setTop (mkF m 0 #[.val (.ref (A 4))] [])) t → Steps p.tables e below (s₁.setTop (entryFrame m #[(.ref (A 4))] 1)) t := fun t k => castTop (own_ef_rm16 m p1 p2 p3 A K ) k
  have KK0 : Keep h0 h0 [] := Keep.refl _ _
  obtain ⟨T43, X43, e43, st43⟩ := getF X0 hx hZ hown (host := "") (Or.inl (hw _ (List.mem_of_getElem? (i := 27) rfl))) Via.refl e0 (EN.2.1.2.2.2.2.2.1.ext OL0.2) (g := (mkF m 1 #[.val (.ref (A 4))] [(.ref (A 4))])) rfl rfl (hb hby own_d_jdk_37_method_2_code_1)
  obtain ⟨fs, hr, hrun, hended, hW, hsame⟩ := X43.leave (v := some (.int (4 : Int32))) (fun h => by rw [Bd.returns] at h; cases h)
  refine ⟨_, _, pre0 _ ?_, hrun, hended, _, _, rfl, ?_, ⟨_, rfl⟩, hW, hsame.mono (by decide) (by decide)⟩
  · show Steps p.tables e below (s₁.setTop (mkF m 0 #[.val (.ref (A 4))] [])) _
    refine XS.aloadN X0.here hx rfl (hb hby own_d_jdk_37_method_2_code_0) rfl rfl ?_
    show Steps p.tables e below (s₁.setTop (mkF m 1 #[.val (.ref (A 4))] [(.ref (A 4))])) _
    refine st43 _ ?_
    show Steps p.tables e below (T43.setTop (mkF m 4 #[.val (.ref (A 4))] [(.int (4 : Int32))])) _
    exact retI X43 hx Bd.returns (hb hby own_d_jdk_37_method_2_code_4) hr
  · show PQ (some (.int (4 : Int32))) h0 n0 _ T43.heap _
    rw [e43]
    exact ⟨rfl, N0, rfl⟩
theorem own_d_prog_3_method_6_code_98 : decode prog_3_method_6_code 98 = .ok (.iload_n 1, 1) := by decide +kernel
theorem own_d_prog_3_method_6_code_99 : decode prog_3_method_6_code 99 = .ok (.ifCond .le 7, 3) := by decide +kernel
theorem own_d_prog_3_method_6_code_102 : decode prog_3_method_6_code 102 = .ok (.iconst 1, 1) := by decide +kernel
theorem own_d_prog_3_method_6_code_103 : decode prog_3_method_6_code 103 = .ok (.goto 4, 3) := by decide +kernel
theorem own_ef_rm15 (m : MethodId) (p1 : Int32) (p2 : Int32) (p3 : Int32) (A : Nat → Addr) (K : Nat → ClassId)  : entryFrame m #[(.ref (A 4)), (.int (1 : Int32))] 2 = mkF m 0 #[.val (.ref (A 4)), .val (.int (1 : Int32))] [] := by first | (simp [entryFrame, mkF, argsToLocals, Value.category, maxLocals]; done) | rfl
set_option maxRecDepth 65536 in
set_option maxHeartbeats 40000000 in
theorem rm15 (l : Launch) (Z : State) (a0 : Array Value) (hw : ∀ d ∈ tables_1, d.before a0 Z = true) (ws : List Jvm.Cond) (h0 : Heap) (n0 : Nat) (p1 : Int32) (p2 : Int32) (p3 : Int32) (A : Nat → Addr) (K : Nat → ClassId)  (EN : own_St Z A K) (OL0 : Old Z n0 h0) :
    MetFree l own_m1 (head1 (Jvm.Cond.code own_m1 prog_3_method_6_code 2 (some .boolean) :: ws) ({ frames := 1, cells := 0, slots := 0, locals := 12 } : Room)) (fun a U => a = #[(.ref (A 4)), (.int (1 : Int32))] ∧ Z.Warmed39 U.vm ∧ U.heap = h0) (fun _ _ _ _ _ => True) (fun _ U o U' => ∃ v L, o = .returned v ∧ (PQ (some (.int (1 : Int32))) h0 n0) v U'.heap L ∧ FrameEnd U o U' L ({ frames := 1, cells := 0, slots := 0, locals := 12 } : Room).cells ({ frames := 1, cells := 0, slots := 0, locals := 12 } : Room).slots) := by
  refine MetFree.of_bodySF (plainFor_of_name own_pn4) hisR ?_
  intro p e s m args below meth c s₁ Bd hml0 hP hK
  obtain ⟨rfl, hZ, hh⟩ := hP
  have hx := Bd.exec
  have hby := Bd.bytes
  have hml : c.maxLocals = 2 := hml0
  have hown : s.vm.findClass "com/example/measurewright/measurewright/Comparison" = some m.cls := findClass_of_methodNamed Bd.named
  have hnm := (name_of_methodNamed Bd.named Bd.method).1
  have X0 : Stand p l e ({ frames := 1, cells := 0, slots := 0, locals := 12 } : Room) s m #[(.ref (A 4)), (.int (1 : Int32))] below meth c s₁ [] 0 0 := Stand.of_body Bd
  have e0 : s₁.heap = h0 := by rw [← hh, Bd.state]; rfl
  have N0 := Fr.nil n0
  have pre0 : ∀ t, Steps p.tables e below (s₁.setTop (mkF m 0 #[.val (.ref (A 4)), .val (.int (1 : Int32))] [])) t → Steps p.tables e below (s₁.setTop (entryFrame m #[(.ref (A 4)), (.int (1 : Int32))] 2)) t := fun t k => castTop (own_ef_rm15 m p1 p2 p3 A K ) k
  have KK0 : Keep h0 h0 [] := Keep.refl _ _
  obtain ⟨cq44, kq44, q44a, q44b, q44c⟩ := isOf hZ e0 (EN.2.1.2.1.ext OL0.2)
  obtain ⟨_, _, ⟨T44, L44, k44, n44⟩, -, X44, ⟨Lc44, hQ44, l44, y44, z44⟩, st44⟩ := X0.virtualBackUp hx (x := own_m9) (y := own_m5) (owner := "java/lang/Enum") hown (mvT hZ (hw _ (List.mem_of_getElem? (i := 20) rfl))) (mvT hZ (hw _ (List.mem_of_getElem? (i := 21) rfl))) (mvT hZ (hw _ (List.mem_of_getElem? (i := 22) rfl))) (by decide) (mvT hZ (hw _ (List.mem_of_getElem? (i := 24) rfl))) (mvT hZ (hw _ (List.mem_of_getElem? (i := 23) rfl))) (backOf (W := 0) (rm16 l Z a0 hw [] h0 n0 p1 p2 p3 A K EN OL0) hZ (hw _ (List.mem_of_getElem? (i := 26) rfl)) (hw _ (List.mem_of_getElem? (i := 25) rfl)) (by decide) (by decide)) q44a q44c (g := (mkF m 1 #[.val (.ref (A 4)), .val (.int (1 : Int32))] [(.ref (A 4))])) rfl (by rw [hml]; rfl) (Steps.refl _) (argsL := []) (rest := []) (lenOf own_pd4 rfl) rfl (by show 2 * 0 + _ ≤ _; exact Nat.le_of_eq rfl) (hb hby own_d_prog_3_method_6_code_1) (fun _ _ => ⟨rfl, e0, (by decide : 0 + 0 ≤ _), (by decide : 0 + 0 ≤ _)⟩)
  dsimp only [Pt.U, Pt.locs, Pt.cells, Pt.slots] at X44 l44 y44 z44 st44 hQ44
  subst l44 y44 z44
  obtain ⟨rfl, N44q, e44⟩ := hQ44
  have N44 := Fr.app N0 N44q
  obtain ⟨fs, hr, hrun, hended, hW, hsame⟩ := X44.leave (v := some (.int (1 : Int32))) (fun h => by rw [Bd.returns] at h; cases h)
  refine ⟨_, _, pre0 _ ?_, hrun, hended, _, _, rfl, ?_, ⟨_, rfl⟩, hW, hsame.mono (by decide) (by decide)⟩
  · show Steps p.tables e below (s₁.setTop (mkF m 0 #[.val (.ref (A 4)), .val (.int (1 : Int32))] [])) _
    refine XS.aloadN X0.here hx rfl (hb hby own_d_prog_3_method_6_code_0) rfl rfl ?_
    show Steps p.tables e below (s₁.setTop (mkF m 1 #[.val (.ref (A 4)), .val (.int (1 : Int32))] [(.ref (A 4))])) _
    refine st44.trans ?_
    show Steps p.tables e below (T44.setTop (mkF m 4 #[.val (.ref (A 4)), .val (.int (1 : Int32))] [(.int (4 : Int32))])) _
    refine XS.tswIn X44.here hx rfl (pc0 := 4) (pc' := 98) rfl (hb hby own_d_prog_3_method_6_code_4) rfl (by decide) (o := 94) (by decide) (by decide) (by decide) ?_
    show Steps p.tables e below (T44.setTop (mkF m 98 #[.val (.ref (A 4)), .val (.int (1 : Int32))] [])) _
    refine XS.iloadN X44.here hx rfl (hb hby own_d_prog_3_method_6_code_98) rfl ?_
    show Steps p.tables e below (T44.setTop (mkF m 99 #[.val (.ref (A 4)), .val (.int (1 : Int32))] [(.int (1 : Int32))])) _
    refine XS.ifNo X44.here hx rfl (hb hby own_d_prog_3_method_6_code_99) rfl ((if0 _ _).trans (tlt (by decide : (0 : Int32) < (1 : Int32))).2.2.2) ?_
    show Steps p.tables e below (T44.setTop (mkF m 102 #[.val (.ref (A 4)), .val (.int (1 : Int32))] [])) _
    refine XS.iconst X44.here hx rfl (hb hby own_d_prog_3_method_6_code_102) ?_
    show Steps p.tables e below (T44.setTop (mkF m 103 #[.val (.ref (A 4)), .val (.int (1 : Int32))] [(.int (1 : Int32))])) _
    refine XS.goto X44.here hx rfl (pc0 := 103) (pc' := 107) rfl (hb hby own_d_prog_3_method_6_code_103) (by decide) (by decide) ?_
    show Steps p.tables e below (T44.setTop (mkF m 107 #[.val (.ref (A 4)), .val (.int (1 : Int32))] [(.int (1 : Int32))])) _
    exact retN X44 hx (t := .boolean) Bd.returns (by simp) (hb hby own_d_prog_3_method_6_code_107) hr
  · show PQ (some (.int (1 : Int32))) h0 n0 _ T44.heap _
    rw [e44]
    exact ⟨rfl, N44, rfl⟩
theorem own_ef_rm11 (m : MethodId) (p1 : Int32) (p2 : Int32) (p3 : Int32) (A : Nat → Addr) (K : Nat → ClassId)  (r20 : Addr) (r21 : Addr) : entryFrame m #[(.ref (A 4)), (.ref r21), (.ref r20)] 3 = mkF m 0 #[.val (.ref (A 4)), .val (.ref r21), .val (.ref r20)] [] := by first | (simp [entryFrame, mkF, argsToLocals, Value.category, maxLocals]; done) | rfl
set_option maxRecDepth 65536 in
set_option maxHeartbeats 40000000 in
theorem rm11 (l : Launch) (Z : State) (a0 : Array Value) (hw : ∀ d ∈ tables_1, d.before a0 Z = true) (ws : List Jvm.Cond) (h0 : Heap) (n0 : Nat) (p1 : Int32) (p2 : Int32) (p3 : Int32) (A : Nat → Addr) (K : Nat → ClassId)  (r20 : Addr) (r21 : Addr) (EN : own_St Z A K) (OL0 : Old Z n0 h0) (G_E_r21 : Exa Z h0 r21 "java/lang/Integer") (G_E_r20 : Exa Z h0 r20 "java/lang/Integer") (G_F_r21_java_lang_Integer_value : Fld Z h0 r21 "java/lang/Integer" "value" "I" (.int p3)) (G_F_r20_java_lang_Integer_value : Fld Z h0 r20 "java/lang/Integer" "value" "I" (.int p2)) (hp_17 : p2 < p3) :
    MetFree l own_m0 (head1 (Jvm.Cond.code own_m0 prog_3_method_5_code 3 (some .boolean) :: ws) ({ frames := 3, cells := 0, slots := 0, locals := 40 } : Room)) (fun a U => a = #[(.ref (A 4)), (.ref r21), (.ref r20)] ∧ Z.Warmed39 U.vm ∧ U.heap = h0) (fun _ _ _ _ _ => True) (fun _ U o U' => ∃ v L, o = .returned v ∧ (PQ (some (.int (1 : Int32))) h0 n0) v U'.heap L ∧ FrameEnd U o U' L ({ frames := 3, cells := 0, slots := 0, locals := 40 } : Room).cells ({ frames := 3, cells := 0, slots := 0, locals := 40 } : Room).slots) := by
  refine MetFree.of_bodySF (plainFor_of_name own_pn4) hisR ?_
  intro p e s m args below meth c s₁ Bd hml0 hP hK
  obtain ⟨rfl, hZ, hh⟩ := hP
  have hx := Bd.exec
  have hby := Bd.bytes
  have hml : c.maxLocals = 3 := hml0
  have hown : s.vm.findClass "com/example/measurewright/measurewright/Comparison" = some m.cls := findClass_of_methodNamed Bd.named
  have hnm := (name_of_methodNamed Bd.named Bd.method).1
  have X0 : Stand p l e ({ frames := 3, cells := 0, slots := 0, locals := 40 } : Room) s m #[(.ref (A 4)), (.ref r21), (.ref r20)] below meth c s₁ [] 0 0 := Stand.of_body Bd
  have e0 : s₁.heap = h0 := by rw [← hh, Bd.state]; rfl
  have N0 := Fr.nil n0
  have pre0 : ∀ t, Steps p.tables e below (s₁.setTop (mkF m 0 #[.val (.ref (A 4)), .val (.ref r21), .val (.ref r20)] [])) t → Steps p.tables e below (s₁.setTop (entryFrame m #[(.ref (A 4)), (.ref r21), (.ref r20)] 3)) t := fun t k => castTop (own_ef_rm11 m p1 p2 p3 A K r20 r21) k
  have KK0 : Keep h0 h0 [] := Keep.refl _ _
  obtain ⟨cq42, kq42, q42a, q42b, q42c⟩ := isOf hZ e0 G_E_r21
  obtain ⟨_, _, ⟨T42, L42, k42, n42⟩, -, X42, ⟨Lc42, hQ42, l42, y42, z42⟩, st42⟩ := X0.interfaceBack hx (xi := own_m6) (y := own_m3) hown (mvT hZ (hw _ (List.mem_of_getElem? (i := 36) rfl))) (mvT hZ (hw _ (List.mem_of_getElem? (i := 37) rfl))) (mvT hZ (hw _ (List.mem_of_getElem? (i := 38) rfl))) (mvT hZ (hw _ (List.mem_of_getElem? (i := 39) rfl))) (mvT hZ (hw _ (List.mem_of_getElem? (i := 40) rfl))) (mvT hZ (hw _ (List.mem_of_getElem? (i := 41) rfl))) (mvT hZ (hw _ (List.mem_of_getElem? (i := 42) rfl))) (mvT hZ (hw _ (List.mem_of_getElem? (i := 43) rfl))) (by decide) (backOf (W := 1) (rm12 l Z a0 hw [] h0 n0 p1 p2 p3 A K r20 r21 EN OL0 G_E_r20 G_E_r21 G_F_r21_java_lang_Integer_value G_F_r20_java_lang_Integer_value hp_17) hZ (hw _ (List.mem_of_getElem? (i := 44) rfl)) (hw _ (List.mem_of_getElem? (i := 10) rfl)) (by decide) (by decide)) q42a q42b q42c (g := (mkF m 3 #[.val (.ref (A 4)), .val (.ref r21), .val (.ref r20)] [(.ref r20), (.ref r21), (.ref (A 4))])) rfl (by rw [hml]; rfl) (Steps.refl _) (argsL := [(.ref r20)]) (rest := [(.ref (A 4))]) (lenOf own_pd8 rfl) rfl (by show 2 * 0 + _ ≤ _; exact Nat.le_of_eq rfl) (hb hby own_d_prog_3_method_5_code_3) (fun _ _ => ⟨rfl, e0, (by decide : 0 + 0 ≤ _), (by decide : 0 + 0 ≤ _)⟩)
  dsimp only [Pt.U, Pt.locs, Pt.cells, Pt.slots] at X42 l42 y42 z42 st42 hQ42
  subst l42 y42 z42
  obtain ⟨rfl, N42q, e42⟩ := hQ42
  have N42 := Fr.app N0 N42q
  obtain ⟨cq45, q45, q45'⟩ := (EN.2.1.2.1.ext OL0.2).cell
  obtain ⟨_, _, ⟨T45, L45, k45, n45⟩, -, X45, ⟨Lc45, hQ45, l45, y45, z45⟩, st45⟩ := X42.privateBack hx (y := own_m1) hown (mvT hZ (hw _ (List.mem_of_getElem? (i := 57) rfl))) (mvT hZ (hw _ (List.mem_of_getElem? (i := 58) rfl))) (own_selpS (y := own_m1) (mvT hZ (hw _ (List.mem_of_getElem? (i := 18) rfl))) rfl (mvP (args := #[]) hZ (hw _ (List.mem_of_getElem? (i := 59) rfl))) (mvT hZ (hw _ (List.mem_of_getElem? (i := 58) rfl))) (by decide)) (Cond.privateMethod_at (mvP hZ (hw _ (List.mem_of_getElem? (i := 59) rfl)) (args := #[]))) (mvT hZ (hw _ (List.mem_of_getElem? (i := 60) rfl))) (by decide) (backOf (W := 0) (rm15 l Z a0 hw [] h0 n0 p1 p2 p3 A K EN OL0) hZ (hw _ (List.mem_of_getElem? (i := 60) rfl)) (hw _ (List.mem_of_getElem? (i := 6) rfl)) (by decide) (by decide)) (g := (mkF m 8 #[.val (.ref (A 4)), .val (.ref r21), .val (.ref r20)] [(.int (1 : Int32)), (.ref (A 4))])) rfl (by rw [hml]; rfl) (Steps.refl _) (a := (A 4)) (by rw [e42]; exact q45) q45' (argsL := [(.int (1 : Int32))]) (rest := []) (lenOf own_pd9 rfl) rfl (by show 2 * 0 + _ ≤ _; exact Nat.le_of_eq rfl) (hb hby own_d_prog_3_method_5_code_8) (fun _ _ => ⟨rfl, e42, (by decide : 0 + 0 ≤ _), (by decide : 0 + 0 ≤ _)⟩)
  dsimp only [Pt.U, Pt.locs, Pt.cells, Pt.slots] at X45 l45 y45 z45 st45 hQ45
  subst l45 y45 z45
  obtain ⟨rfl, N45q, e45⟩ := hQ45
  have N45 := Fr.app N42 N45q
  obtain ⟨fs, hr, hrun, hended, hW, hsame⟩ := X45.leave (v := some (.int (1 : Int32))) (fun h => by rw [Bd.returns] at h; cases h)
  refine ⟨_, _, pre0 _ ?_, hrun, hended, _, _, rfl, ?_, ⟨_, rfl⟩, hW, hsame.mono (by decide) (by decide)⟩
  · show Steps p.tables e below (s₁.setTop (mkF m 0 #[.val (.ref (A 4)), .val (.ref r21), .val (.ref r20)] [])) _
    refine XS.aloadN X0.here hx rfl (hb hby own_d_prog_3_method_5_code_0) rfl rfl ?_
    show Steps p.tables e below (s₁.setTop (mkF m 1 #[.val (.ref (A 4)), .val (.ref r21), .val (.ref r20)] [(.ref (A 4))])) _
    refine XS.aloadN X0.here hx rfl (hb hby own_d_prog_3_method_5_code_1) rfl rfl ?_
    show Steps p.tables e below (s₁.setTop (mkF m 2 #[.val (.ref (A 4)), .val (.ref r21), .val (.ref r20)] [(.ref r21), (.ref (A 4))])) _
    refine XS.aloadN X0.here hx rfl (hb hby own_d_prog_3_method_5_code_2) rfl rfl ?_
    show Steps p.tables e below (s₁.setTop (mkF m 3 #[.val (.ref (A 4)), .val (.ref r21), .val (.ref r20)] [(.ref r20), (.ref r21), (.ref (A 4))])) _
    refine st42.trans ?_
    show Steps p.tables e below (T42.setTop (mkF m 8 #[.val (.ref (A 4)), .val (.ref r21), .val (.ref r20)] [(.int (1 : Int32)), (.ref (A 4))])) _
    refine st45.trans ?_
    show Steps p.tables e below (T45.setTop (mkF m 11 #[.val (.ref (A 4)), .val (.ref r21), .val (.ref r20)] [(.int (1 : Int32))])) _
    exact retN X45 hx (t := .boolean) Bd.returns (by simp) (hb hby own_d_prog_3_method_5_code_11) hr
  · show PQ (some (.int (1 : Int32))) h0 n0 _ T45.heap _
    rw [e45]
    exact ⟨rfl, N45, rfl⟩
theorem own_d_prog_3_method_7_code_74 : decode prog_3_method_7_code 74 = .ok (.getstatic 3, 3) := by decide +kernel
theorem own_ef_rm17 (m : MethodId) (p1 : Int32) (p2 : Int32) (p3 : Int32) (A : Nat → Addr) (K : Nat → ClassId)  : entryFrame m #[(.ref (A 4))] 1 = mkF m 0 #[.val (.ref (A 4))] [] := by first | (simp [entryFrame, mkF, argsToLocals, Value.category, maxLocals]; done) | rfl
set_option maxRecDepth 65536 in
set_option maxHeartbeats 40000000 in
theorem rm17 (l : Launch) (Z : State) (a0 : Array Value) (hw : ∀ d ∈ tables_1, d.before a0 Z = true) (ws : List Jvm.Cond) (h0 : Heap) (n0 : Nat) (p1 : Int32) (p2 : Int32) (p3 : Int32) (A : Nat → Addr) (K : Nat → ClassId)  (EN : own_St Z A K) (OL0 : Old Z n0 h0) :
    MetFree l own_m2 (head1 (Jvm.Cond.code own_m2 prog_3_method_7_code 1 (some (.object "com/example/measurewright/measurewright/Comparison")) :: ws) ({ frames := 1, cells := 0, slots := 0, locals := 12 } : Room)) (fun a U => a = #[(.ref (A 4))] ∧ Z.Warmed39 U.vm ∧ U.heap = h0) (fun _ _ _ _ _ => True) (fun _ U o U' => ∃ v L, o = .returned v ∧ (PQ (some (.ref (A 0))) h0 n0) v U'.heap L ∧ FrameEnd U o U' L ({ frames := 1, cells := 0, slots := 0, locals := 12 } : Room).cells ({ frames := 1, cells := 0, slots := 0, locals := 12 } : Room).slots) := by
  refine MetFree.of_bodySF (plainFor_of_name own_pn4) hisR ?_
  intro p e s m args below meth c s₁ Bd hml0 hP hK
  obtain ⟨rfl, hZ, hh⟩ := hP
  have hx := Bd.exec
  have hby := Bd.bytes
  have hml : c.maxLocals = 1 := hml0
  have hown : s.vm.findClass "com/example/measurewright/measurewright/Comparison" = some m.cls := findClass_of_methodNamed Bd.named
  have hnm := (name_of_methodNamed Bd.named Bd.method).1
  have X0 : Stand p l e ({ frames := 1, cells := 0, slots := 0, locals := 12 } : Room) s m #[(.ref (A 4))] below meth c s₁ [] 0 0 := Stand.of_body Bd
  have e0 : s₁.heap = h0 := by rw [← hh, Bd.state]; rfl
  have N0 := Fr.nil n0
  have pre0 : ∀ t, Steps p.tables e below (s₁.setTop (mkF m 0 #[.val (.ref (A 4))] [])) t → Steps p.tables e below (s₁.setTop (entryFrame m #[(.ref (A 4))] 1)) t := fun t k => castTop (own_ef_rm17 m p1 p2 p3 A K ) k
  have KK0 : Keep h0 h0 [] := Keep.refl _ _
  obtain ⟨cq47, kq47, q47a, q47b, q47c⟩ := isOf hZ e0 (EN.2.1.2.1.ext OL0.2)
  obtain ⟨_, _, ⟨T47, L47, k47, n47⟩, -, X47, ⟨Lc47, hQ47, l47, y47, z47⟩, st47⟩ := X0.virtualBackUp hx (x := own_m9) (y := own_m5) (owner := "java/lang/Enum") hown (mvT hZ (hw _ (List.mem_of_getElem? (i := 20) rfl))) (mvT hZ (hw _ (List.mem_of_getElem? (i := 21) rfl))) (mvT hZ (hw _ (List.mem_of_getElem? (i := 22) rfl))) (by decide) (mvT hZ (hw _ (List.mem_of_getElem? (i := 24) rfl))) (mvT hZ (hw _ (List.mem_of_getElem? (i := 23) rfl))) (backOf (W := 0) (rm16 l Z a0 hw [] h0 n0 p1 p2 p3 A K EN OL0) hZ (hw _ (List.mem_of_getElem? (i := 26) rfl)) (hw _ (List.mem_of_getElem? (i := 25) rfl)) (by decide) (by decide)) q47a q47c (g := (mkF m 1 #[.val (.ref (A 4))] [(.ref (A 4))])) rfl (by rw [hml]; rfl) (Steps.refl _) (argsL := []) (rest := []) (lenOf own_pd4 rfl) rfl (by show 2 * 0 + _ ≤ _; exact Nat.le_of_eq rfl) (hb hby own_d_prog_3_method_7_code_1) (fun _ _ => ⟨rfl, e0, (by decide : 0 + 0 ≤ _), (by decide : 0 + 0 ≤ _)⟩)
  dsimp only [Pt.U, Pt.locs, Pt.cells, Pt.slots] at X47 l47 y47 z47 st47 hQ47
  subst l47 y47 z47
  obtain ⟨rfl, N47q, e47⟩ := hQ47
  have N47 := Fr.app N0 N47q
  obtain ⟨T48, X48, e48, st48⟩ := getS2 X47 hx hZ hown (host := "") (Or.inl (hw _ (List.mem_of_getElem? (i := 61) rfl))) Via.refl e47 (EN.1.1.ext OL0.2) (g := (mkF m 74 #[.val (.ref (A 4))] [])) rfl (hb hby own_d_prog_3_method_7_code_74)
  obtain ⟨fs, hr, hrun, hended, hW, hsame⟩ := X48.leave (v := some (.ref (A 0))) (fun h => by rw [Bd.returns] at h; cases h)
  refine ⟨_, _, pre0 _ ?_, hrun, hended, _, _, rfl, ?_, ⟨_, rfl⟩, hW, hsame.mono (by decide) (by decide)⟩
  · show Steps p.tables e below (s₁.setTop (mkF m 0 #[.val (.ref (A 4))] [])) _
    refine XS.aloadN X0.here hx rfl (hb hby own_d_prog_3_method_7_code_0) rfl rfl ?_
    show Steps p.tables e below (s₁.setTop (mkF m 1 #[.val (.ref (A 4))] [(.ref (A 4))])) _
    refine st47.trans ?_
    show Steps p.tables e below (T47.setTop (mkF m 4 #[.val (.ref (A 4))] [(.int (4 : Int32))])) _
    refine XS.tswIn X47.here hx rfl (pc0 := 4) (pc' := 74) rfl (hb hby own_d_prog_3_method_7_code_4) rfl (by decide) (o := 70) (by decide) (by decide) (by decide) ?_
    show Steps p.tables e below (T47.setTop (mkF m 74 #[.val (.ref (A 4))] [])) _
    refine st48 _ ?_
    show Steps p.tables e below (T48.setTop (mkF m 77 #[.val (.ref (A 4))] [(.ref (A 0))])) _
    exact retOut X48 hx Bd.returns rfl (Or.inr (Or.inr (Or.inr (Or.inr ⟨rfl, rfl, rfl⟩)))) (hb hby own_d_prog_3_method_7_code_77) hr
  · show PQ (some (.ref (A 0))) h0 n0 _ T48.heap _
    rw [e48]
    exact ⟨rfl, N47, rfl⟩
theorem own_d_jdk_33_method_40_code_14 : decode jdk_33_method_40_code 14 = .ok (.iconst 0, 1) := by decide +kernel
theorem own_d_jdk_33_method_40_code_15 : decode jdk_33_method_40_code 15 = .ok (.goto 4, 3) := by decide +kernel
theorem own_ef_rm21 (m : MethodId) (p1 : Int32) (p2 : Int32) (p3 : Int32) (A : Nat → Addr) (K : Nat → ClassId)  : entryFrame m #[(.int p2), (.int p3)] 2 = mkF m 0 #[.val (.int p2), .val (.int p3)] [] := by first | (simp [entryFrame, mkF, argsToLocals, Value.category, maxLocals]; done) | rfl
set_option maxRecDepth 65536 in
set_option maxHeartbeats 40000000 in
theorem rm21 (l : Launch) (Z : State) (a0 : Array Value) (hw : ∀ d ∈ tables_1, d.before a0 Z = true) (ws : List Jvm.Cond) (h0 : Heap) (n0 : Nat) (p1 : Int32) (p2 : Int32) (p3 : Int32) (A : Nat → Addr) (K : Nat → ClassId)  (EN : own_St Z A K) (OL0 : Old Z n0 h0) (hp_17 : ¬ (p2 < p3)) (hp_50 : p2 = p3) :
    MetFree l own_m10 (head1 (Jvm.Cond.code own_m10 jdk_33_method_40_code 2 (some .int) :: ws) ({ frames := 0, cells := 0, slots := 0, locals := 0 } : Room)) (fun a U => a = #[(.int p2), (.int p3)] ∧ Z.Warmed39 U.vm ∧ U.heap = h0) (fun _ _ _ _ _ => True) (fun _ U o U' => ∃ v L, o = .returned v ∧ (PQ (some (.int (0 : Int32))) h0 n0) v U'.heap L ∧ FrameEnd U o U' L ({ frames := 0, cells := 0, slots := 0, locals := 0 } : Room).cells ({ frames := 0, cells := 0, slots := 0, locals := 0 } : Room).slots) := by
  refine MetFree.of_bodySF (plainFor_of_name own_pn1) hisR ?_
  intro p e s m args below meth c s₁ Bd hml0 hP hK
  obtain ⟨rfl, hZ, hh⟩ := hP
  have hx := Bd.exec
  have hby := Bd.bytes
  have hml : c.maxLocals = 2 := hml0
  have hown : s.vm.findClass "java/lang/Integer" = some m.cls := findClass_of_methodNamed Bd.named
  have hnm := (name_of_methodNamed Bd.named Bd.method).1
  have X0 : Stand p l e ({ frames := 0, cells := 0, slots := 0, locals := 0 } : Room) s m #[(.int p2), (.int p3)] below meth c s₁ [] 0 0 := Stand.of_body Bd
  have e0 : s₁.heap = h0 := by rw [← hh, Bd.state]; rfl
  have N0 := Fr.nil n0
  have pre0 : ∀ t, Steps p.tables e below (s₁.setTop (mkF m 0 #[.val (.int p2), .val (.int p3)] [])) t → Steps p.tables e below (s₁.setTop (entryFrame m #[(.int p2), (.int p3)] 2)) t := fun t k => castTop (own_ef_rm21 m p1 p2 p3 A K ) k
  have KK0 : Keep h0 h0 [] := Keep.refl _ _
  obtain ⟨fs, hr, hrun, hended, hW, hsame⟩ := X0.leave (v := some (.int (0 : Int32))) (fun h => by rw [Bd.returns] at h; cases h)
  refine ⟨_, _, pre0 _ ?_, hrun, hended, _, _, rfl, ?_, ⟨_, rfl⟩, hW, hsame.mono (by decide) (by decide)⟩
  · show Steps p.tables e below (s₁.setTop (mkF m 0 #[.val (.int p2), .val (.int p3)] [])) _
    refine XS.iloadN X0.here hx rfl (hb hby own_d_jdk_33_method_40_code_0) rfl ?_
    show Steps p.tables e below (s₁.setTop (mkF m 1 #[.val (.int p2), .val (.int p3)] [(.int p2)])) _
    refine XS.iloadN X0.here hx rfl (hb hby own_d_jdk_33_method_40_code_1) rfl ?_
    show Steps p.tables e below (s₁.setTop (mkF m 2 #[.val (.int p2), .val (.int p3)] [(.int p3), (.int p2)])) _
    refine XS.icmpYes X0.here hx rfl (pc0 := 2) (pc' := 9) rfl (hb hby own_d_jdk_33_method_40_code_2) rfl (flt hp_17).2.1 (by decide) (by decide) ?_
    show Steps p.tables e below (s₁.setTop (mkF m 9 #[.val (.int p2), .val (.int p3)] [])) _
    refine XS.iloadN X0.here hx rfl (hb hby own_d_jdk_33_method_40_code_9) rfl ?_
    show Steps p.tables e below (s₁.setTop (mkF m 10 #[.val (.int p2), .val (.int p3)] [(.int p2)])) _
    refine XS.iloadN X0.here hx rfl (hb hby own_d_jdk_33_method_40_code_10) rfl ?_
    show Steps p.tables e below (s₁.setTop (mkF m 11 #[.val (.int p2), .val (.int p3)] [(.int p3), (.int p2)])) _
    refine XS.icmpNo X0.here hx rfl (hb hby own_d_jdk_33_method_40_code_11) rfl (teq hp_50).2 ?_
    show Steps p.tables e below (s₁.setTop (mkF m 14 #[.val (.int p2), .val (.int p3)] [])) _
    refine XS.iconst X0.here hx rfl (hb hby own_d_jdk_33_method_40_code_14) ?_
    show Steps p.tables e below (s₁.setTop (mkF m 15 #[.val (.int p2), .val (.int p3)] [(.int (0 : Int32))])) _
    refine XS.goto X0.here hx rfl (pc0 := 15) (pc' := 19) rfl (hb hby own_d_jdk_33_method_40_code_15) (by decide) (by decide) ?_
    show Steps p.tables e below (s₁.setTop (mkF m 19 #[.val (.int p2), .val (.int p3)] [(.int (0 : Int32))])) _
    exact retI X0 hx Bd.returns (hb hby own_d_jdk_33_method_40_code_19) hr
  · show PQ (some (.int (0 : Int32))) h0 n0 _ s₁.heap _
    rw [e0]
    exact ⟨rfl, N0, rfl⟩
theorem own_ef_rm20 (m : MethodId) (p1 : Int32) (p2 : Int32) (p3 : Int32) (A : Nat → Addr) (K : Nat → ClassId)  (r52 : Addr) (r53 : Addr) : entryFrame m #[(.ref r52), (.ref r53)] 2 = mkF m 0 #[.val (.ref r52), .val (.ref r53)] [] := by first | (simp [entryFrame, mkF, argsToLocals, Value.category, maxLocals]; done) | rfl
set_option maxRecDepth 65536 in
set_option maxHeartbeats 40000000 in
theorem rm20 (l : Launch) (Z : State) (a0 : Array Value) (hw : ∀ d ∈ tables_1, d.before a0 Z = true) (ws : List Jvm.Cond) (h0 : Heap) (n0 : Nat) (p1 : Int32) (p2 : Int32) (p3 : Int32) (A : Nat → Addr) (K : Nat → ClassId)  (r52 : Addr) (r53 : Addr) (EN : own_St Z A K) (OL0 : Old Z n0 h0) (G_F_r52_java_lang_Integer_value : Fld Z h0 r52 "java/lang/Integer" "value" "I" (.int p2)) (G_F_r53_java_lang_Integer_value : Fld Z h0 r53 "java/lang/Integer" "value" "I" (.int p3)) (hp_17 : ¬ (p2 < p3)) (hp_50 : p2 = p3) :
    MetFree l own_m8 (head1 (Jvm.Cond.code own_m8 jdk_33_method_39_code 2 (some .int) :: ws) ({ frames := 1, cells := 0, slots := 0, locals := 13 } : Room)) (fun a U => a = #[(.ref r52), (.ref r53)] ∧ Z.Warmed39 U.vm ∧ U.heap = h0) (fun _ _ _ _ _ => True) (fun _ U o U' => ∃ v L, o = .returned v ∧ (PQ (some (.int (0 : Int32))) h0 n0) v U'.heap L ∧ FrameEnd U o U' L ({ frames := 1, cells := 0, slots := 0, locals := 13 } : Room).cells ({ frames := 1, cells := 0, slots := 0, locals := 13 } : Room).slots) := by
  refine MetFree.of_bodySF (plainFor_of_name own_pn1) hisR ?_
  intro p e s m args below meth c s₁ Bd hml0 hP hK
  obtain ⟨rfl, hZ, hh⟩ := hP
  have hx := Bd.exec
  have hby := Bd.bytes
  have hml : c.maxLocals = 2 := hml0
  have hown : s.vm.findClass "java/lang/Integer" = some m.cls := findClass_of_methodNamed Bd.named
  have hnm := (name_of_methodNamed Bd.named Bd.method).1
  have X0 : Stand p l e ({ frames := 1, cells := 0, slots := 0, locals := 13 } : Room) s m #[(.ref r52), (.ref r53)] below meth c s₁ [] 0 0 := Stand.of_body Bd
  have e0 : s₁.heap = h0 := by rw [← hh, Bd.state]; rfl
  have N0 := Fr.nil n0
  have pre0 : ∀ t, Steps p.tables e below (s₁.setTop (mkF m 0 #[.val (.ref r52), .val (.ref r53)] [])) t → Steps p.tables e below (s₁.setTop (entryFrame m #[(.ref r52), (.ref r53)] 2)) t := fun t k => castTop (own_ef_rm20 m p1 p2 p3 A K r52 r53) k
  have KK0 : Keep h0 h0 [] := Keep.refl _ _
  obtain ⟨T56, X56, e56, st56⟩ := getF X0 hx hZ hown (host := "") (Or.inl (hw _ (List.mem_of_getElem? (i := 52) rfl))) Via.refl e0 G_F_r52_java_lang_Integer_value (g := (mkF m 1 #[.val (.ref r52), .val (.ref r53)] [(.ref r52)])) rfl rfl (hb hby own_d_jdk_33_method_39_code_1)
  obtain ⟨T57, X57, e57, st57⟩ := getF X56 hx hZ hown (host := "") (Or.inl (hw _ (List.mem_of_getElem? (i := 52) rfl))) Via.refl e56 G_F_r53_java_lang_Integer_value (g := (mkF m 5 #[.val (.ref r52), .val (.ref r53)] [(.ref r53), (.int p2)])) rfl rfl (hb hby own_d_jdk_33_method_39_code_5)
  obtain ⟨_, _, ⟨T58, L58, k58, n58⟩, -, X58, ⟨Lc58, hQ58, l58, y58, z58⟩, st58⟩ := Jvm.LawKit.callS X57 hx (y := own_m10) hown (mvT hZ (hw _ (List.mem_of_getElem? (i := 54) rfl))) (mvT hZ (hw _ (List.mem_of_getElem? (i := 55) rfl))) (mvT hZ (hw _ (List.mem_of_getElem? (i := 10) rfl))) (mvT hZ (hw _ (List.mem_of_getElem? (i := 56) rfl))) (by decide) (backOf (W := 0) (rm21 l Z a0 hw [] h0 n0 p1 p2 p3 A K EN OL0 hp_17 hp_50) hZ (hw _ (List.mem_of_getElem? (i := 56) rfl)) (hw _ (List.mem_of_getElem? (i := 10) rfl)) (by decide) (by decide)) (g := (mkF m 8 #[.val (.ref r52), .val (.ref r53)] [(.int p3), (.int p2)])) rfl (by rw [hml]; rfl) (argsL := [(.int p2), (.int p3)]) (rest := []) (lenOf own_pd6 rfl) rfl (by show 2 * 0 + _ ≤ _; exact Nat.le_of_eq rfl) (hb hby own_d_jdk_33_method_39_code_8) (fun _ _ => ⟨rfl, e57, (by decide : 0 + 0 ≤ _), (by decide : 0 + 0 ≤ _)⟩)
  dsimp only [Pt.U, Pt.locs, Pt.cells, Pt.slots] at X58 l58 y58 z58 st58 hQ58
  subst l58 y58 z58
  obtain ⟨rfl, N58q, e58⟩ := hQ58
  have N58 := Fr.app N0 N58q
  obtain ⟨fs, hr, hrun, hended, hW, hsame⟩ := X58.leave (v := some (.int (0 : Int32))) (fun h => by rw [Bd.returns] at h; cases h)
  refine ⟨_, _, pre0 _ ?_, hrun, hended, _, _, rfl, ?_, ⟨_, rfl⟩, hW, hsame.mono (by decide) (by decide)⟩
  · show Steps p.tables e below (s₁.setTop (mkF m 0 #[.val (.ref r52), .val (.ref r53)] [])) _
    refine XS.aloadN X0.here hx rfl (hb hby own_d_jdk_33_method_39_code_0) rfl rfl ?_
    show Steps p.tables e below (s₁.setTop (mkF m 1 #[.val (.ref r52), .val (.ref r53)] [(.ref r52)])) _
    refine st56 _ ?_
    show Steps p.tables e below (T56.setTop (mkF m 4 #[.val (.ref r52), .val (.ref r53)] [(.int p2)])) _
    refine XS.aloadN X56.here hx rfl (hb hby own_d_jdk_33_method_39_code_4) rfl rfl ?_
    show Steps p.tables e below (T56.setTop (mkF m 5 #[.val (.ref r52), .val (.ref r53)] [(.ref r53), (.int p2)])) _
    refine st57 _ ?_
    show Steps p.tables e below (T57.setTop (mkF m 8 #[.val (.ref r52), .val (.ref r53)] [(.int p3), (.int p2)])) _
    refine st58 _ ?_
    show Steps p.tables e below (T58.setTop (mkF m 11 #[.val (.ref r52), .val (.ref r53)] [(.int (0 : Int32))])) _
    exact retI X58 hx Bd.returns (hb hby own_d_jdk_33_method_39_code_11) hr
  · show PQ (some (.int (0 : Int32))) h0 n0 _ T58.heap _
    rw [e58]
    exact ⟨rfl, N58, rfl⟩
theorem own_ef_rm19 (m : MethodId) (p1 : Int32) (p2 : Int32) (p3 : Int32) (A : Nat → Addr) (K : Nat → ClassId)  (r52 : Addr) (r53 : Addr) : entryFrame m #[(.ref r52), (.ref r53)] 2 = mkF m 0 #[.val (.ref r52), .val (.ref r53)] [] := by first | (simp [entryFrame, mkF, argsToLocals, Value.category, maxLocals]; done) | rfl
set_option maxRecDepth 65536 in
set_option maxHeartbeats 40000000 in
theorem rm19 (l : Launch) (Z : State) (a0 : Array Value) (hw : ∀ d ∈ tables_1, d.before a0 Z = true) (ws : List Jvm.Cond) (h0 : Heap) (n0 : Nat) (p1 : Int32) (p2 : Int32) (p3 : Int32) (A : Nat → Addr) (K : Nat → ClassId)  (r52 : Addr) (r53 : Addr) (EN : own_St Z A K) (OL0 : Old Z n0 h0) (G_E_r53 : Exa Z h0 r53 "java/lang/Integer") (G_E_r52 : Exa Z h0 r52 "java/lang/Integer") (G_F_r52_java_lang_Integer_value : Fld Z h0 r52 "java/lang/Integer" "value" "I" (.int p2)) (G_F_r53_java_lang_Integer_value : Fld Z h0 r53 "java/lang/Integer" "value" "I" (.int p3)) (hp_17 : ¬ (p2 < p3)) (hp_50 : p2 = p3) :
    MetFree l own_m3 (head1 (Jvm.Cond.code own_m3 jdk_33_method_63_code 2 (some .int) :: ws) ({ frames := 2, cells := 0, slots := 0, locals := 26 } : Room)) (fun a U => a = #[(.ref r52), (.ref r53)] ∧ Z.Warmed39 U.vm ∧ U.heap = h0) (fun _ _ _ _ _ => True) (fun _ U o U' => ∃ v L, o = .returned v ∧ (PQ (some (.int (0 : Int32))) h0 n0) v U'.heap L ∧ FrameEnd U o U' L ({ frames := 2, cells := 0, slots := 0, locals := 26 } : Room).cells ({ frames := 2, cells := 0, slots := 0, locals := 26 } : Room).slots) := by
  refine MetFree.of_bodySF (plainFor_of_name own_pn1) hisR ?_
  intro p e s m args below meth c s₁ Bd hml0 hP hK
  obtain ⟨rfl, hZ, hh⟩ := hP
  have hx := Bd.exec
  have hby := Bd.bytes
  have hml : c.maxLocals = 2 := hml0
  have hown : s.vm.findClass "java/lang/Integer" = some m.cls := findClass_of_methodNamed Bd.named
  have hnm := (name_of_methodNamed Bd.named Bd.method).1
  have X0 : Stand p l e ({ frames := 2, cells := 0, slots := 0, locals := 26 } : Room) s m #[(.ref r52), (.ref r53)] below meth c s₁ [] 0 0 := Stand.of_body Bd
  have e0 : s₁.heap = h0 := by rw [← hh, Bd.state]; rfl
  have N0 := Fr.nil n0
  have pre0 : ∀ t, Steps p.tables e below (s₁.setTop (mkF m 0 #[.val (.ref r52), .val (.ref r53)] [])) t → Steps p.tables e below (s₁.setTop (entryFrame m #[(.ref r52), (.ref r53)] 2)) t := fun t k => castTop (own_ef_rm19 m p1 p2 p3 A K r52 r53) k
  have KK0 : Keep h0 h0 [] := Keep.refl _ _
  obtain ⟨T55, X55, e55, st55⟩ := castY X0 hx hZ hown (hw _ (List.mem_of_getElem? (i := 45) rfl)) e0 (Ins.self G_E_r53) (g := (mkF m 2 #[.val (.ref r52), .val (.ref r53)] [(.ref r53), (.ref r52)])) rfl rfl (hb hby own_d_jdk_33_method_63_code_2)
  obtain ⟨cq59, kq59, q59a, q59b, q59c⟩ := isOf hZ e55 G_E_r52
  obtain ⟨_, _, ⟨T59, L59, k59, n59⟩, -, X59, ⟨Lc59, hQ59, l59, y59, z59⟩, st59⟩ := X55.virtualBack hx (y := own_m8) (z := own_m8) hown (mvT hZ (hw _ (List.mem_of_getElem? (i := 47) rfl))) (mvT hZ (hw _ (List.mem_of_getElem? (i := 48) rfl))) (notFace_of_selects (args := #[]) (mvT hZ (hw _ (List.mem_of_getElem? (i := 50) rfl)))) (mvT hZ (hw _ (List.mem_of_getElem? (i := 50) rfl))) (mvT hZ (hw _ (List.mem_of_getElem? (i := 49) rfl))) (by decide) (backOf (W := 0) (rm20 l Z a0 hw [] h0 n0 p1 p2 p3 A K r52 r53 EN OL0 G_F_r52_java_lang_Integer_value G_F_r53_java_lang_Integer_value hp_17 hp_50) hZ (hw _ (List.mem_of_getElem? (i := 51) rfl)) (hw _ (List.mem_of_getElem? (i := 10) rfl)) (by decide) (by decide)) q59a q59c (g := (mkF m 5 #[.val (.ref r52), .val (.ref r53)] [(.ref r53), (.ref r52)])) rfl (by rw [hml]; rfl) (Steps.refl _) (argsL := [(.ref r53)]) (rest := []) (lenOf own_pd7 rfl) rfl (by show 2 * 0 + _ ≤ _; exact Nat.le_of_eq rfl) (hb hby own_d_jdk_33_method_63_code_5) (fun _ _ => ⟨rfl, e55, (by decide : 0 + 0 ≤ _), (by decide : 0 + 0 ≤ _)⟩)
  dsimp only [Pt.U, Pt.locs, Pt.cells, Pt.slots] at X59 l59 y59 z59 st59 hQ59
  subst l59 y59 z59
  obtain ⟨rfl, N59q, e59⟩ := hQ59
  have N59 := Fr.app N0 N59q
  obtain ⟨fs, hr, hrun, hended, hW, hsame⟩ := X59.leave (v := some (.int (0 : Int32))) (fun h => by rw [Bd.returns] at h; cases h)
  refine ⟨_, _, pre0 _ ?_, hrun, hended, _, _, rfl, ?_, ⟨_, rfl⟩, hW, hsame.mono (by decide) (by decide)⟩
  · show Steps p.tables e below (s₁.setTop (mkF m 0 #[.val (.ref r52), .val (.ref r53)] [])) _
    refine XS.aloadN X0.here hx rfl (hb hby own_d_jdk_33_method_63_code_0) rfl rfl ?_
    show Steps p.tables e below (s₁.setTop (mkF m 1 #[.val (.ref r52), .val (.ref r53)] [(.ref r52)])) _
    refine XS.aloadN X0.here hx rfl (hb hby own_d_jdk_33_method_63_code_1) rfl rfl ?_
    show Steps p.tables e below (s₁.setTop (mkF m 2 #[.val (.ref r52), .val (.ref r53)] [(.ref r53), (.ref r52)])) _
    refine st55 _ ?_
    show Steps p.tables e below (T55.setTop (mkF m 5 #[.val (.ref r52), .val (.ref r53)] [(.ref r53), (.ref r52)])) _
    refine st59.trans ?_
    show Steps p.tables e below (T59.setTop (mkF m 8 #[.val (.ref r52), .val (.ref r53)] [(.int (0 : Int32))])) _
    exact retI X59 hx Bd.returns (hb hby own_d_jdk_33_method_63_code_8) hr
  · show PQ (some (.int (0 : Int32))) h0 n0 _ T59.heap _
    rw [e59]
    exact ⟨rfl, N59, rfl⟩
theorem own_d_prog_3_method_6_code_58 : decode prog_3_method_6_code 58 = .ok (.iconst 0, 1) := by decide +kernel
theorem own_d_prog_3_method_6_code_59 : decode prog_3_method_6_code 59 = .ok (.goto 48, 3) := by decide +kernel
theorem own_ef_rm22 (m : MethodId) (p1 : Int32) (p2 : Int32) (p3 : Int32) (A : Nat → Addr) (K : Nat → ClassId)  : entryFrame m #[(.ref (A 0)), (.int (0 : Int32))] 2 = mkF m 0 #[.val (.ref (A 0)), .val (.int (0 : Int32))] [] := by first | (simp [entryFrame, mkF, argsToLocals, Value.category, maxLocals]; done) | rfl
set_option maxRecDepth 65536 in
set_option maxHeartbeats 40000000 in
theorem rm22 (l : Launch) (Z : State) (a0 : Array Value) (hw : ∀ d ∈ tables_1, d.before a0 Z = true) (ws : List Jvm.Cond) (h0 : Heap) (n0 : Nat) (p1 : Int32) (p2 : Int32) (p3 : Int32) (A : Nat → Addr) (K : Nat → ClassId)  (EN : own_St Z A K) (OL0 : Old Z n0 h0) :
    MetFree l own_m1 (head1 (Jvm.Cond.code own_m1 prog_3_method_6_code 2 (some .boolean) :: ws) ({ frames := 1, cells := 0, slots := 0, locals := 12 } : Room)) (fun a U => a = #[(.ref (A 0)), (.int (0 : Int32))] ∧ Z.Warmed39 U.vm ∧ U.heap = h0) (fun _ _ _ _ _ => True) (fun _ U o U' => ∃ v L, o = .returned v ∧ (PQ (some (.int (0 : Int32))) h0 n0) v U'.heap L ∧ FrameEnd U o U' L ({ frames := 1, cells := 0, slots := 0, locals := 12 } : Room).cells ({ frames := 1, cells := 0, slots := 0, locals := 12 } : Room).slots) := by
  refine MetFree.of_bodySF (plainFor_of_name own_pn4) hisR ?_
  intro p e s m args below meth c s₁ Bd hml0 hP hK
  obtain ⟨rfl, hZ, hh⟩ := hP
  have hx := Bd.exec
  have hby := Bd.bytes
  have hml : c.maxLocals = 2 := hml0
  have hown : s.vm.findClass "com/example/measurewright/measurewright/Comparison" = some m.cls := findClass_of_methodNamed Bd.named
  have hnm := (name_of_methodNamed Bd.named Bd.method).1
  have X0 : Stand p l e ({ frames := 1, cells := 0, slots := 0, locals := 12 } : Room) s m #[(.ref (A 0)), (.int (0 : Int32))] below meth c s₁ [] 0 0 := Stand.of_body Bd
  have e0 : s₁.heap = h0 := by rw [← hh, Bd.state]; rfl
  have N0 := Fr.nil n0
  have pre0 : ∀ t, Steps p.tables e below (s₁.setTop (mkF m 0 #[.val (.ref (A 0)), .val (.int (0 : Int32))] [])) t → Steps p.tables e below (s₁.setTop (entryFrame m #[(.ref (A 0)), (.int (0 : Int32))] 2)) t := fun t k => castTop (own_ef_rm22 m p1 p2 p3 A K ) k
  have KK0 : Keep h0 h0 [] := Keep.refl _ _
  obtain ⟨cq61, kq61, q61a, q61b, q61c⟩ := isOf hZ e0 (EN.1.2.1.ext OL0.2)
  obtain ⟨_, _, ⟨T61, L61, k61, n61⟩, -, X61, ⟨Lc61, hQ61, l61, y61, z61⟩, st61⟩ := X0.virtualBackUp hx (x := own_m9) (y := own_m5) (owner := "java/lang/Enum") hown (mvT hZ (hw _ (List.mem_of_getElem? (i := 20) rfl))) (mvT hZ (hw _ (List.mem_of_getElem? (i := 21) rfl))) (mvT hZ (hw _ (List.mem_of_getElem? (i := 22) rfl))) (by decide) (mvT hZ (hw _ (List.mem_of_getElem? (i := 24) rfl))) (mvT hZ (hw _ (List.mem_of_getElem? (i := 23) rfl))) (backOf (W := 0) (rm5 l Z a0 hw [] h0 n0 p1 p2 p3 A K EN OL0) hZ (hw _ (List.mem_of_getElem? (i := 26) rfl)) (hw _ (List.mem_of_getElem? (i := 25) rfl)) (by decide) (by decide)) q61a q61c (g := (mkF m 1 #[.val (.ref (A 0)), .val (.int (0 : Int32))] [(.ref (A 0))])) rfl (by rw [hml]; rfl) (Steps.refl _) (argsL := []) (rest := []) (lenOf own_pd4 rfl) rfl (by show 2 * 0 + _ ≤ _; exact Nat.le_of_eq rfl) (hb hby own_d_prog_3_method_6_code_1) (fun _ _ => ⟨rfl, e0, (by decide : 0 + 0 ≤ _), (by decide : 0 + 0 ≤ _)⟩)
  dsimp only [Pt.U, Pt.locs, Pt.cells, Pt.slots] at X61 l61 y61 z61 st61 hQ61
  subst l61 y61 z61
  obtain ⟨rfl, N61q, e61⟩ := hQ61
  have N61 := Fr.app N0 N61q
  obtain ⟨fs, hr, hrun, hended, hW, hsame⟩ := X61.leave (v := some (.int (0 : Int32))) (fun h => by rw [Bd.returns] at h; cases h)
  refine ⟨_, _, pre0 _ ?_, hrun, hended, _, _, rfl, ?_, ⟨_, rfl⟩, hW, hsame.mono (by decide) (by decide)⟩
  · show Steps p.tables e below (s₁.setTop (mkF m 0 #[.val (.ref (A 0)), .val (.int (0 : Int32))] [])) _
    refine XS.aloadN X0.here hx rfl (hb hby own_d_prog_3_method_6_code_0) rfl rfl ?_
    show Steps p.tables e below (s₁.setTop (mkF m 1 #[.val (.ref (A 0)), .val (.int (0 : Int32))] [(.ref (A 0))])) _
    refine st61.trans ?_
    show Steps p.tables e below (T61.setTop (mkF m 4 #[.val (.ref (A 0)), .val (.int (0 : Int32))] [(.int (0 : Int32))])) _
    refine XS.tswIn X61.here hx rfl (pc0 := 4) (pc' := 50) rfl (hb hby own_d_prog_3_method_6_code_4) rfl (by decide) (o := 46) (by decide) (by decide) (by decide) ?_
    show Steps p.tables e below (T61.setTop (mkF m 50 #[.val (.ref (A 0)), .val (.int (0 : Int32))] [])) _
    refine XS.iloadN X61.here hx rfl (hb hby own_d_prog_3_method_6_code_50) rfl ?_
    show Steps p.tables e below (T61.setTop (mkF m 51 #[.val (.ref (A 0)), .val (.int (0 : Int32))] [(.int (0 : Int32))])) _
    refine XS.ifYes X61.here hx rfl (pc0 := 51) (pc' := 58) rfl (hb hby own_d_prog_3_method_6_code_51) rfl ((if0 _ _).trans (flt (by decide : ¬ ((0 : Int32) < (0 : Int32)))).2.1) (by decide) (by decide) ?_
    show Steps p.tables e below (T61.setTop (mkF m 58 #[.val (.ref (A 0)), .val (.int (0 : Int32))] [])) _
    refine XS.iconst X61.here hx rfl (hb hby own_d_prog_3_method_6_code_58) ?_
    show Steps p.tables e below (T61.setTop (mkF m 59 #[.val (.ref (A 0)), .val (.int (0 : Int32))] [(.int (0 : Int32))])) _
    refine XS.goto X61.here hx rfl (pc0 := 59) (pc' := 107) rfl (hb hby own_d_prog_3_method_6_code_59) (by decide) (by decide) ?_
    show Steps p.tables e below (T61.setTop (mkF m 107 #[.val (.ref (A 0)), .val (.int (0 : Int32))] [(.int (0 : Int32))])) _
    exact retN X61 hx (t := .boolean) Bd.returns (by simp) (hb hby own_d_prog_3_method_6_code_107) hr
  · show PQ (some (.int (0 : Int32))) h0 n0 _ T61.heap _
    rw [e61]
    exact ⟨rfl, N61, rfl⟩
theorem own_ef_rm18 (m : MethodId) (p1 : Int32) (p2 : Int32) (p3 : Int32) (A : Nat → Addr) (K : Nat → ClassId)  (r52 : Addr) (r53 : Addr) : entryFrame m #[(.ref (A 0)), (.ref r52), (.ref r53)] 3 = mkF m 0 #[.val (.ref (A 0)), .val (.ref r52), .val (.ref r53)] [] := by first | (simp [entryFrame, mkF, argsToLocals, Value.category, maxLocals]; done) | rfl
set_option maxRecDepth 65536 in
set_option maxHeartbeats 40000000 in
theorem rm18 (l : Launch) (Z : State) (a0 : Array Value) (hw : ∀ d ∈ tables_1, d.before a0 Z = true) (ws : List Jvm.Cond) (h0 : Heap) (n0 : Nat) (p1 : Int32) (p2 : Int32) (p3 : Int32) (A : Nat → Addr) (K : Nat → ClassId)  (r52 : Addr) (r53 : Addr) (EN : own_St Z A K) (OL0 : Old Z n0 h0) (G_E_r52 : Exa Z h0 r52 "java/lang/Integer") (G_E_r53 : Exa Z h0 r53 "java/lang/Integer") (G_F_r52_java_lang_Integer_value : Fld Z h0 r52 "java/lang/Integer" "value" "I" (.int p2)) (G_F_r53_java_lang_Integer_value : Fld Z h0 r53 "java/lang/Integer" "value" "I" (.int p3)) (hp_17 : ¬ (p2 < p3)) (hp_50 : p2 = p3) :
    MetFree l own_m0 (head1 (Jvm.Cond.code own_m0 prog_3_method_5_code 3 (some .boolean) :: ws) ({ frames := 3, cells := 0, slots := 0, locals := 40 } : Room)) (fun a U => a = #[(.ref (A 0)), (.ref r52), (.ref r53)] ∧ Z.Warmed39 U.vm ∧ U.heap = h0) (fun _ _ _ _ _ => True) (fun _ U o U' => ∃ v L, o = .returned v ∧ (PQ (some (.int (0 : Int32))) h0 n0) v U'.heap L ∧ FrameEnd U o U' L ({ frames := 3, cells := 0, slots := 0, locals := 40 } : Room).cells ({ frames := 3, cells := 0, slots := 0, locals := 40 } : Room).slots) := by
  refine MetFree.of_bodySF (plainFor_of_name own_pn4) hisR ?_
  intro p e s m args below meth c s₁ Bd hml0 hP hK
  obtain ⟨rfl, hZ, hh⟩ := hP
  have hx := Bd.exec
  have hby := Bd.bytes
  have hml : c.maxLocals = 3 := hml0
  have hown : s.vm.findClass "com/example/measurewright/measurewright/Comparison" = some m.cls := findClass_of_methodNamed Bd.named
  have hnm := (name_of_methodNamed Bd.named Bd.method).1
  have X0 : Stand p l e ({ frames := 3, cells := 0, slots := 0, locals := 40 } : Room) s m #[(.ref (A 0)), (.ref r52), (.ref r53)] below meth c s₁ [] 0 0 := Stand.of_body Bd
  have e0 : s₁.heap = h0 := by rw [← hh, Bd.state]; rfl
  have N0 := Fr.nil n0
  have pre0 : ∀ t, Steps p.tables e below (s₁.setTop (mkF m 0 #[.val (.ref (A 0)), .val (.ref r52), .val (.ref r53)] [])) t → Steps p.tables e below (s₁.setTop (entryFrame m #[(.ref (A 0)), (.ref r52), (.ref r53)] 3)) t := fun t k => castTop (own_ef_rm18 m p1 p2 p3 A K r52 r53) k
  have KK0 : Keep h0 h0 [] := Keep.refl _ _
  obtain ⟨cq60, kq60, q60a, q60b, q60c⟩ := isOf hZ e0 G_E_r52
  obtain ⟨_, _, ⟨T60, L60, k60, n60⟩, -, X60, ⟨Lc60, hQ60, l60, y60, z60⟩, st60⟩ := X0.interfaceBack hx (xi := own_m6) (y := own_m3) hown (mvT hZ (hw _ (List.mem_of_getElem? (i := 36) rfl))) (mvT hZ (hw _ (List.mem_of_getElem? (i := 37) rfl))) (mvT hZ (hw _ (List.mem_of_getElem? (i := 38) rfl))) (mvT hZ (hw _ (List.mem_of_getElem? (i := 39) rfl))) (mvT hZ (hw _ (List.mem_of_getElem? (i := 40) rfl))) (mvT hZ (hw _ (List.mem_of_getElem? (i := 41) rfl))) (mvT hZ (hw _ (List.mem_of_getElem? (i := 42) rfl))) (mvT hZ (hw _ (List.mem_of_getElem? (i := 43) rfl))) (by decide) (backOf (W := 1) (rm19 l Z a0 hw [] h0 n0 p1 p2 p3 A K r52 r53 EN OL0 G_E_r53 G_E_r52 G_F_r52_java_lang_Integer_value G_F_r53_java_lang_Integer_value hp_17 hp_50) hZ (hw _ (List.mem_of_getElem? (i := 44) rfl)) (hw _ (List.mem_of_getElem? (i := 10) rfl)) (by decide) (by decide)) q60a q60b q60c (g := (mkF m 3 #[.val (.ref (A 0)), .val (.ref r52), .val (.ref r53)] [(.ref r53), (.ref r52), (.ref (A 0))])) rfl (by rw [hml]; rfl) (Steps.refl _) (argsL := [(.ref r53)]) (rest := [(.ref (A 0))]) (lenOf own_pd8 rfl) rfl (by show 2 * 0 + _ ≤ _; exact Nat.le_of_eq rfl) (hb hby own_d_prog_3_method_5_code_3) (fun _ _ => ⟨rfl, e0, (by decide : 0 + 0 ≤ _), (by decide : 0 + 0 ≤ _)⟩)
  dsimp only [Pt.U, Pt.locs, Pt.cells, Pt.slots] at X60 l60 y60 z60 st60 hQ60
  subst l60 y60 z60
  obtain ⟨rfl, N60q, e60⟩ := hQ60
  have N60 := Fr.app N0 N60q
  obtain ⟨cq62, q62, q62'⟩ := (EN.1.2.1.ext OL0.2).cell
  obtain ⟨_, _, ⟨T62, L62, k62, n62⟩, -, X62, ⟨Lc62, hQ62, l62, y62, z62⟩, st62⟩ := X60.privateBack hx (y := own_m1) hown (mvT hZ (hw _ (List.mem_of_getElem? (i := 57) rfl))) (mvT hZ (hw _ (List.mem_of_getElem? (i := 58) rfl))) (own_selpS (y := own_m1) (mvT hZ (hw _ (List.mem_of_getElem? (i := 18) rfl))) rfl (mvP (args := #[]) hZ (hw _ (List.mem_of_getElem? (i := 59) rfl))) (mvT hZ (hw _ (List.mem_of_getElem? (i := 58) rfl))) (by decide)) (Cond.privateMethod_at (mvP hZ (hw _ (List.mem_of_getElem? (i := 59) rfl)) (args := #[]))) (mvT hZ (hw _ (List.mem_of_getElem? (i := 60) rfl))) (by decide) (backOf (W := 0) (rm22 l Z a0 hw [] h0 n0 p1 p2 p3 A K EN OL0) hZ (hw _ (List.mem_of_getElem? (i := 60) rfl)) (hw _ (List.mem_of_getElem? (i := 6) rfl)) (by decide) (by decide)) (g := (mkF m 8 #[.val (.ref (A 0)), .val (.ref r52), .val (.ref r53)] [(.int (0 : Int32)), (.ref (A 0))])) rfl (by rw [hml]; rfl) (Steps.refl _) (a := (A 0)) (by rw [e60]; exact q62) q62' (argsL := [(.int (0 : Int32))]) (rest := []) (lenOf own_pd9 rfl) rfl (by show 2 * 0 + _ ≤ _; exact Nat.le_of_eq rfl) (hb hby own_d_prog_3_method_5_code_8) (fun _ _ => ⟨rfl, e60, (by decide : 0 + 0 ≤ _), (by decide : 0 + 0 ≤ _)⟩)
  dsimp only [Pt.U, Pt.locs, Pt.cells, Pt.slots] at X62 l62 y62 z62 st62 hQ62
  subst l62 y62 z62
  obtain ⟨rfl, N62q, e62⟩ := hQ62
  have N62 := Fr.app N60 N62q
  obtain ⟨fs, hr, hrun, hended, hW, hsame⟩ := X62.leave (v := some (.int (0 : Int32))) (fun h => by rw [Bd.returns] at h; cases h)
  refine ⟨_, _, pre0 _ ?_, hrun, hended, _, _, rfl, ?_, ⟨_, rfl⟩, hW, hsame.mono (by decide) (by decide)⟩
  · show Steps p.tables e below (s₁.setTop (mkF m 0 #[.val (.ref (A 0)), .val (.ref r52), .val (.ref r53)] [])) _
    refine XS.aloadN X0.here hx rfl (hb hby own_d_prog_3_method_5_code_0) rfl rfl ?_
    show Steps p.tables e below (s₁.setTop (mkF m 1 #[.val (.ref (A 0)), .val (.ref r52), .val (.ref r53)] [(.ref (A 0))])) _
    refine XS.aloadN X0.here hx rfl (hb hby own_d_prog_3_method_5_code_1) rfl rfl ?_
    show Steps p.tables e below (s₁.setTop (mkF m 2 #[.val (.ref (A 0)), .val (.ref r52), .val (.ref r53)] [(.ref r52), (.ref (A 0))])) _
    refine XS.aloadN X0.here hx rfl (hb hby own_d_prog_3_method_5_code_2) rfl rfl ?_
    show Steps p.tables e below (s₁.setTop (mkF m 3 #[.val (.ref (A 0)), .val (.ref r52), .val (.ref r53)] [(.ref r53), (.ref r52), (.ref (A 0))])) _
    refine st60.trans ?_
    show Steps p.tables e below (T60.setTop (mkF m 8 #[.val (.ref (A 0)), .val (.ref r52), .val (.ref r53)] [(.int (0 : Int32)), (.ref (A 0))])) _
    refine st62.trans ?_
    show Steps p.tables e below (T62.setTop (mkF m 11 #[.val (.ref (A 0)), .val (.ref r52), .val (.ref r53)] [(.int (0 : Int32))])) _
    exact retN X62 hx (t := .boolean) Bd.returns (by simp) (hb hby own_d_prog_3_method_5_code_11) hr
  · show PQ (some (.int (0 : Int32))) h0 n0 _ T62.heap _
    rw [e62]
    exact ⟨rfl, N62, rfl⟩
theorem own_ef_rm26 (m : MethodId) (p1 : Int32) (p2 : Int32) (p3 : Int32) (A : Nat → Addr) (K : Nat → ClassId)  : entryFrame m #[(.int p3), (.int p2)] 2 = mkF m 0 #[.val (.int p3), .val (.int p2)] [] := by first | (simp [entryFrame, mkF, argsToLocals, Value.category, maxLocals]; done) | rfl
set_option maxRecDepth 65536 in
set_option maxHeartbeats 40000000 in
theorem rm26 (l : Launch) (Z : State) (a0 : Array Value) (hw : ∀ d ∈ tables_1, d.before a0 Z = true) (ws : List Jvm.Cond) (h0 : Heap) (n0 : Nat) (p1 : Int32) (p2 : Int32) (p3 : Int32) (A : Nat → Addr) (K : Nat → ClassId)  (EN : own_St Z A K) (OL0 : Old Z n0 h0) (hp_17 : ¬ (p2 < p3)) (hp_50 : p2 = p3) :
    MetFree l own_m10 (head1 (Jvm.Cond.code own_m10 jdk_33_method_40_code 2 (some .int) :: ws) ({ frames := 0, cells := 0, slots := 0, locals := 0 } : Room)) (fun a U => a = #[(.int p3), (.int p2)] ∧ Z.Warmed39 U.vm ∧ U.heap = h0) (fun _ _ _ _ _ => True) (fun _ U o U' => ∃ v L, o = .returned v ∧ (PQ (some (.int (0 : Int32))) h0 n0) v U'.heap L ∧ FrameEnd U o U' L ({ frames := 0, cells := 0, slots := 0, locals := 0 } : Room).cells ({ frames := 0, cells := 0, slots := 0, locals := 0 } : Room).slots) := by
  refine MetFree.of_bodySF (plainFor_of_name own_pn1) hisR ?_
  intro p e s m args below meth c s₁ Bd hml0 hP hK
  obtain ⟨rfl, hZ, hh⟩ := hP
  have hx := Bd.exec
  have hby := Bd.bytes
  have hml : c.maxLocals = 2 := hml0
  have hown : s.vm.findClass "java/lang/Integer" = some m.cls := findClass_of_methodNamed Bd.named
  have hnm := (name_of_methodNamed Bd.named Bd.method).1
  have X0 : Stand p l e ({ frames := 0, cells := 0, slots := 0, locals := 0 } : Room) s m #[(.int p3), (.int p2)] below meth c s₁ [] 0 0 := Stand.of_body Bd
  have e0 : s₁.heap = h0 := by rw [← hh, Bd.state]; rfl
  have N0 := Fr.nil n0
  have pre0 : ∀ t, Steps p.tables e below (s₁.setTop (mkF m 0 #[.val (.int p3), .val (.int p2)] [])) t → Steps p.tables e below (s₁.setTop (entryFrame m #[(.int p3), (.int p2)] 2)) t := fun t k => castTop (own_ef_rm26 m p1 p2 p3 A K ) k
  have KK0 : Keep h0 h0 [] := Keep.refl _ _
  obtain ⟨fs, hr, hrun, hended, hW, hsame⟩ := X0.leave (v := some (.int (0 : Int32))) (fun h => by rw [Bd.returns] at h; cases h)
  refine ⟨_, _, pre0 _ ?_, hrun, hended, _, _, rfl, ?_, ⟨_, rfl⟩, hW, hsame.mono (by decide) (by decide)⟩
  · show Steps p.tables e below (s₁.setTop (mkF m 0 #[.val (.int p3), .val (.int p2)] [])) _
    refine XS.iloadN X0.here hx rfl (hb hby own_d_jdk_33_method_40_code_0) rfl ?_
    show Steps p.tables e below (s₁.setTop (mkF m 1 #[.val (.int p3), .val (.int p2)] [(.int p3)])) _
    refine XS.iloadN X0.here hx rfl (hb hby own_d_jdk_33_method_40_code_1) rfl ?_
    show Steps p.tables e below (s₁.setTop (mkF m 2 #[.val (.int p3), .val (.int p2)] [(.int p2), (.int p3)])) _
    refine XS.icmpYes X0.here hx rfl (pc0 := 2) (pc' := 9) rfl (hb hby own_d_jdk_33_method_40_code_2) rfl (flt (own_n3 hp_50)).2.1 (by decide) (by decide) ?_
    show Steps p.tables e below (s₁.setTop (mkF m 9 #[.val (.int p3), .val (.int p2)] [])) _
    refine XS.iloadN X0.here hx rfl (hb hby own_d_jdk_33_method_40_code_9) rfl ?_
    show Steps p.tables e below (s₁.setTop (mkF m 10 #[.val (.int p3), .val (.int p2)] [(.int p3)])) _
    refine XS.iloadN X0.here hx rfl (hb hby own_d_jdk_33_method_40_code_10) rfl ?_
    show Steps p.tables e below (s₁.setTop (mkF m 11 #[.val (.int p3), .val (.int p2)] [(.int p2), (.int p3)])) _
    refine XS.icmpNo X0.here hx rfl (hb hby own_d_jdk_33_method_40_code_11) rfl (teq (Eq.symm hp_50)).2 ?_
    show Steps p.tables e below (s₁.setTop (mkF m 14 #[.val (.int p3), .val (.int p2)] [])) _
    refine XS.iconst X0.here hx rfl (hb hby own_d_jdk_33_method_40_code_14) ?_
    show Steps p.tables e below (s₁.setTop (mkF m 15 #[.val (.int p3), .val (.int p2)] [(.int (0 : Int32))])) _
    refine XS.goto X0.here hx rfl (pc0 := 15) (pc' := 19) rfl (hb hby own_d_jdk_33_method_40_code_15) (by decide) (by decide) ?_
    show Steps p.tables e below (s₁.setTop (mkF m 19 #[.val (.int p3), .val (.int p2)] [(.int (0 : Int32))])) _
    exact retI X0 hx Bd.returns (hb hby own_d_jdk_33_method_40_code_19) hr
  · show PQ (some (.int (0 : Int32))) h0 n0 _ s₁.heap _
    rw [e0]
    exact ⟨rfl, N0, rfl⟩
theorem own_ef_rm25 (m : MethodId) (p1 : Int32) (p2 : Int32) (p3 : Int32) (A : Nat → Addr) (K : Nat → ClassId)  (r52 : Addr) (r53 : Addr) : entryFrame m #[(.ref r53), (.ref r52)] 2 = mkF m 0 #[.val (.ref r53), .val (.ref r52)] [] := by first | (simp [entryFrame, mkF, argsToLocals, Value.category, maxLocals]; done) | rfl
set_option maxRecDepth 65536 in
set_option maxHeartbeats 40000000 in
theorem rm25 (l : Launch) (Z : State) (a0 : Array Value) (hw : ∀ d ∈ tables_1, d.before a0 Z = true) (ws : List Jvm.Cond) (h0 : Heap) (n0 : Nat) (p1 : Int32) (p2 : Int32) (p3 : Int32) (A : Nat → Addr) (K : Nat → ClassId)  (r52 : Addr) (r53 : Addr) (EN : own_St Z A K) (OL0 : Old Z n0 h0) (G_F_r53_java_lang_Integer_value : Fld Z h0 r53 "java/lang/Integer" "value" "I" (.int p3)) (G_F_r52_java_lang_Integer_value : Fld Z h0 r52 "java/lang/Integer" "value" "I" (.int p2)) (hp_17 : ¬ (p2 < p3)) (hp_50 : p2 = p3) :
    MetFree l own_m8 (head1 (Jvm.Cond.code own_m8 jdk_33_method_39_code 2 (some .int) :: ws) ({ frames := 1, cells := 0, slots := 0, locals := 13 } : Room)) (fun a U => a = #[(.ref r53), (.ref r52)] ∧ Z.Warmed39 U.vm ∧ U.heap = h0) (fun _ _ _ _ _ => True) (fun _ U o U' => ∃ v L, o = .returned v ∧ (PQ (some (.int (0 : Int32))) h0 n0) v U'.heap L ∧ FrameEnd U o U' L ({ frames := 1, cells := 0, slots := 0, locals := 13 } : Room).cells ({ frames := 1, cells := 0, slots := 0, locals := 13 } : Room).slots) := by
  refine MetFree.of_bodySF (plainFor_of_name own_pn1) hisR ?_
  intro p e s m args below meth c s₁ Bd hml0 hP hK
  obtain ⟨rfl, hZ, hh⟩ := hP
  have hx := Bd.exec
  have hby := Bd.bytes
  have hml : c.maxLocals = 2 := hml0
  have hown : s.vm.findClass "java/lang/Integer" = some m.cls := findClass_of_methodNamed Bd.named
  have hnm := (name_of_methodNamed Bd.named Bd.method).1
  have X0 : Stand p l e ({ frames := 1, cells := 0, slots := 0, locals := 13 } : Room) s m #[(.ref r53), (.ref r52)] below meth c s₁ [] 0 0 := Stand.of_body Bd
  have e0 : s₁.heap = h0 := by rw [← hh, Bd.state]; rfl
  have N0 := Fr.nil n0
  have pre0 : ∀ t, Steps p.tables e below (s₁.setTop (mkF m 0 #[.val (.ref r53), .val (.ref r52)] [])) t → Steps p.tables e below (s₁.setTop (entryFrame m #[(.ref r53), (.ref r52)] 2)) t := fun t k => castTop (own_ef_rm25 m p1 p2 p3 A K r52 r53) k
  have KK0 : Keep h0 h0 [] := Keep.refl _ _
  obtain ⟨T67, X67, e67, st67⟩ := getF X0 hx hZ hown (host := "") (Or.inl (hw _ (List.mem_of_getElem? (i := 52) rfl))) Via.refl e0 G_F_r53_java_lang_Integer_value (g := (mkF m 1 #[.val (.ref r53), .val (.ref r52)] [(.ref r53)])) rfl rfl (hb hby own_d_jdk_33_method_39_code_1)
  obtain ⟨T68, X68, e68, st68⟩ := getF X67 hx hZ hown (host := "") (Or.inl (hw _ (List.mem_of_getElem? (i := 52) rfl))) Via.refl e67 G_F_r52_java_lang_Integer_value (g := (mkF m 5 #[.val (.ref r53), .val (.ref r52)] [(.ref r52), (.int p3)])) rfl rfl (hb hby own_d_jdk_33_method_39_code_5)
  obtain ⟨_, _, ⟨T69, L69, k69, n69⟩, -, X69, ⟨Lc69, hQ69, l69, y69, z69⟩, st69⟩ := Jvm.LawKit.callS X68 hx (y := own_m10) hown (mvT hZ (hw _ (List.mem_of_getElem? (i := 54) rfl))) (mvT hZ (hw _ (List.mem_of_getElem? (i := 55) rfl))) (mvT hZ (hw _ (List.mem_of_getElem? (i := 10) rfl))) (mvT hZ (hw _ (List.mem_of_getElem? (i := 56) rfl))) (by decide) (backOf (W := 0) (rm26 l Z a0 hw [] h0 n0 p1 p2 p3 A K EN OL0 hp_17 hp_50) hZ (hw _ (List.mem_of_getElem? (i := 56) rfl)) (hw _ (List.mem_of_getElem? (i := 10) rfl)) (by decide) (by decide)) (g := (mkF m 8 #[.val (.ref r53), .val (.ref r52)] [(.int p2), (.int p3)])) rfl (by rw [hml]; rfl) (argsL := [(.int p3), (.int p2)]) (rest := []) (lenOf own_pd6 rfl) rfl (by show 2 * 0 + _ ≤ _; exact Nat.le_of_eq rfl) (hb hby own_d_jdk_33_method_39_code_8) (fun _ _ => ⟨rfl, e68, (by decide : 0 + 0 ≤ _), (by decide : 0 + 0 ≤ _)⟩)
  dsimp only [Pt.U, Pt.locs, Pt.cells, Pt.slots] at X69 l69 y69 z69 st69 hQ69
  subst l69 y69 z69
  obtain ⟨rfl, N69q, e69⟩ := hQ69
  have N69 := Fr.app N0 N69q
  obtain ⟨fs, hr, hrun, hended, hW, hsame⟩ := X69.leave (v := some (.int (0 : Int32))) (fun h => by rw [Bd.returns] at h; cases h)
  refine ⟨_, _, pre0 _ ?_, hrun, hended, _, _, rfl, ?_, ⟨_, rfl⟩, hW, hsame.mono (by decide) (by decide)⟩
  · show Steps p.tables e below (s₁.setTop (mkF m 0 #[.val (.ref r53), .val (.ref r52)] [])) _
    refine XS.aloadN X0.here hx rfl (hb hby own_d_jdk_33_method_39_code_0) rfl rfl ?_
    show Steps p.tables e below (s₁.setTop (mkF m 1 #[.val (.ref r53), .val (.ref r52)] [(.ref r53)])) _
    refine st67 _ ?_
    show Steps p.tables e below (T67.setTop (mkF m 4 #[.val (.ref r53), .val (.ref r52)] [(.int p3)])) _
    refine XS.aloadN X67.here hx rfl (hb hby own_d_jdk_33_method_39_code_4) rfl rfl ?_
    show Steps p.tables e below (T67.setTop (mkF m 5 #[.val (.ref r53), .val (.ref r52)] [(.ref r52), (.int p3)])) _
    refine st68 _ ?_
    show Steps p.tables e below (T68.setTop (mkF m 8 #[.val (.ref r53), .val (.ref r52)] [(.int p2), (.int p3)])) _
    refine st69 _ ?_
    show Steps p.tables e below (T69.setTop (mkF m 11 #[.val (.ref r53), .val (.ref r52)] [(.int (0 : Int32))])) _
    exact retI X69 hx Bd.returns (hb hby own_d_jdk_33_method_39_code_11) hr
  · show PQ (some (.int (0 : Int32))) h0 n0 _ T69.heap _
    rw [e69]
    exact ⟨rfl, N69, rfl⟩
theorem own_ef_rm24 (m : MethodId) (p1 : Int32) (p2 : Int32) (p3 : Int32) (A : Nat → Addr) (K : Nat → ClassId)  (r52 : Addr) (r53 : Addr) : entryFrame m #[(.ref r53), (.ref r52)] 2 = mkF m 0 #[.val (.ref r53), .val (.ref r52)] [] := by first | (simp [entryFrame, mkF, argsToLocals, Value.category, maxLocals]; done) | rfl
set_option maxRecDepth 65536 in
set_option maxHeartbeats 40000000 in
theorem rm24 (l : Launch) (Z : State) (a0 : Array Value) (hw : ∀ d ∈ tables_1, d.before a0 Z = true) (ws : List Jvm.Cond) (h0 : Heap) (n0 : Nat) (p1 : Int32) (p2 : Int32) (p3 : Int32) (A : Nat → Addr) (K : Nat → ClassId)  (r52 : Addr) (r53 : Addr) (EN : own_St Z A K) (OL0 : Old Z n0 h0) (G_E_r52 : Exa Z h0 r52 "java/lang/Integer") (G_E_r53 : Exa Z h0 r53 "java/lang/Integer") (G_F_r53_java_lang_Integer_value : Fld Z h0 r53 "java/lang/Integer" "value" "I" (.int p3)) (G_F_r52_java_lang_Integer_value : Fld Z h0 r52 "java/lang/Integer" "value" "I" (.int p2)) (hp_17 : ¬ (p2 < p3)) (hp_50 : p2 = p3) :
    MetFree l own_m3 (head1 (Jvm.Cond.code own_m3 jdk_33_method_63_code 2 (some .int) :: ws) ({ frames := 2, cells := 0, slots := 0, locals := 26 } : Room)) (fun a U => a = #[(.ref r53), (.ref r52)] ∧ Z.Warmed39 U.vm ∧ U.heap = h0) (fun _ _ _ _ _ => True) (fun _ U o U' => ∃ v L, o = .returned v ∧ (PQ (some (.int (0 : Int32))) h0 n0) v U'.heap L ∧ FrameEnd U o U' L ({ frames := 2, cells := 0, slots := 0, locals := 26 } : Room).cells ({ frames := 2, cells := 0, slots := 0, locals := 26 } : Room).slots) := by
  refine MetFree.of_bodySF (plainFor_of_name own_pn1) hisR ?_
  intro p e s m args below meth c s₁ Bd hml0 hP hK
  obtain ⟨rfl, hZ, hh⟩ := hP
  have hx := Bd.exec
  have hby := Bd.bytes
  have hml : c.maxLocals = 2 := hml0
  have hown : s.vm.findClass "java/lang/Integer" = some m.cls := findClass_of_methodNamed Bd.named
  have hnm := (name_of_methodNamed Bd.named Bd.method).1
  have X0 : Stand p l e ({ frames := 2, cells := 0, slots := 0, locals := 26 } : Room) s m #[(.ref r53), (.ref r52)] below meth c s₁ [] 0 0 := Stand.of_body Bd
  have e0 : s₁.heap = h0 := by rw [← hh, Bd.state]; rfl
  have N0 := Fr.nil n0
  have pre0 : ∀ t, Steps p.tables e below (s₁.setTop (mkF m 0 #[.val (.ref r53), .val (.ref r52)] [])) t → Steps p.tables e below (s₁.setTop (entryFrame m #[(.ref r53), (.ref r52)] 2)) t := fun t k => castTop (own_ef_rm24 m p1 p2 p3 A K r52 r53) k
  have KK0 : Keep h0 h0 [] := Keep.refl _ _
  obtain ⟨T66, X66, e66, st66⟩ := castY X0 hx hZ hown (hw _ (List.mem_of_getElem? (i := 45) rfl)) e0 (Ins.self G_E_r52) (g := (mkF m 2 #[.val (.ref r53), .val (.ref r52)] [(.ref r52), (.ref r53)])) rfl rfl (hb hby own_d_jdk_33_method_63_code_2)
  obtain ⟨cq70, kq70, q70a, q70b, q70c⟩ := isOf hZ e66 G_E_r53
  obtain ⟨_, _, ⟨T70, L70, k70, n70⟩, -, X70, ⟨Lc70, hQ70, l70, y70, z70⟩, st70⟩ := X66.virtualBack hx (y := own_m8) (z := own_m8) hown (mvT hZ (hw _ (List.mem_of_getElem? (i := 47) rfl))) (mvT hZ (hw _ (List.mem_of_getElem? (i := 48) rfl))) (notFace_of_selects (args := #[]) (mvT hZ (hw _ (List.mem_of_getElem? (i := 50) rfl)))) (mvT hZ (hw _ (List.mem_of_getElem? (i := 50) rfl))) (mvT hZ (hw _ (List.mem_of_getElem? (i := 49) rfl))) (by decide) (backOf (W := 0) (rm25 l Z a0 hw [] h0 n0 p1 p2 p3 A K r52 r53 EN OL0 G_F_r53_java_lang_Integer_value G_F_r52_java_lang_Integer_value hp_17 hp_50) hZ (hw _ (List.mem_of_getElem? (i := 51) rfl)) (hw _ (List.mem_of_getElem? (i := 10) rfl)) (by decide) (by decide)) q70a q70c (g := (mkF m 5 #[.val (.ref r53), .val (.ref r52)] [(.ref r52), (.ref r53)])) rfl (by rw [hml]; rfl) (Steps.refl _) (argsL := [(.ref r52)]) (rest := []) (lenOf own_pd7 rfl) rfl (by show 2 * 0 + _ ≤ _; exact Nat.le_of_eq rfl) (hb hby own_d_jdk_33_method_63_code_5) (fun _ _ => ⟨rfl, e66, (by decide : 0 + 0 ≤ _), (by decide : 0 + 0 ≤ _)⟩)
  dsimp only [Pt.U, Pt.locs, Pt.cells, Pt.slots] at X70 l70 y70 z70 st70 hQ70
  subst l70 y70 z70
  obtain ⟨rfl, N70q, e70⟩ := hQ70
  have N70 := Fr.app N0 N70q
  obtain ⟨fs, hr, hrun, hended, hW, hsame⟩ := X70.leave (v := some (.int (0 : Int32))) (fun h => by rw [Bd.returns] at h; cases h)
  refine ⟨_, _, pre0 _ ?_, hrun, hended, _, _, rfl, ?_, ⟨_, rfl⟩, hW, hsame.mono (by decide) (by decide)⟩
  · show Steps p.tables e below (s₁.setTop (mkF m 0 #[.val (.ref r53), .val (.ref r52)] [])) _
    refine XS.aloadN X0.here hx rfl (hb hby own_d_jdk_33_method_63_code_0) rfl rfl ?_
    show Steps p.tables e below (s₁.setTop (mkF m 1 #[.val (.ref r53), .val (.ref r52)] [(.ref r53)])) _
    refine XS.aloadN X0.here hx rfl (hb hby own_d_jdk_33_method_63_code_1) rfl rfl ?_
    show Steps p.tables e below (s₁.setTop (mkF m 2 #[.val (.ref r53), .val (.ref r52)] [(.ref r52), (.ref r53)])) _
    refine st66 _ ?_
    show Steps p.tables e below (T66.setTop (mkF m 5 #[.val (.ref r53), .val (.ref r52)] [(.ref r52), (.ref r53)])) _
    refine st70.trans ?_
    show Steps p.tables e below (T70.setTop (mkF m 8 #[.val (.ref r53), .val (.ref r52)] [(.int (0 : Int32))])) _
    exact retI X70 hx Bd.returns (hb hby own_d_jdk_33_method_63_code_8) hr
  · show PQ (some (.int (0 : Int32))) h0 n0 _ T70.heap _
    rw [e70]
    exact ⟨rfl, N70, rfl⟩
theorem own_d_prog_3_method_6_code_106 : decode prog_3_method_6_code 106 = .ok (.iconst 0, 1) := by decide +kernel
theorem own_ef_rm27 (m : MethodId) (p1 : Int32) (p2 : Int32) (p3 : Int32) (A : Nat → Addr) (K : Nat → ClassId)  : entryFrame m #[(.ref (A 4)), (.int (0 : Int32))] 2 = mkF m 0 #[.val (.ref (A 4)), .val (.int (0 : Int32))] [] := by first | (simp [entryFrame, mkF, argsToLocals, Value.category, maxLocals]; done) | rfl
set_option maxRecDepth 65536 in
set_option maxHeartbeats 40000000 in
theorem rm27 (l : Launch) (Z : State) (a0 : Array Value) (hw : ∀ d ∈ tables_1, d.before a0 Z = true) (ws : List Jvm.Cond) (h0 : Heap) (n0 : Nat) (p1 : Int32) (p2 : Int32) (p3 : Int32) (A : Nat → Addr) (K : Nat → ClassId)  (EN : own_St Z A K) (OL0 : Old Z n0 h0) :
    MetFree l own_m1 (head1 (Jvm.Cond.code own_m1 prog_3_method_6_code 2 (some .boolean) :: ws) ({ frames := 1, cells := 0, slots := 0, locals := 12 } : Room)) (fun a U => a = #[(.ref (A 4)), (.int (0 : Int32))] ∧ Z.Warmed39 U.vm ∧ U.heap = h0) (fun _ _ _ _ _ => True) (fun _ U o U' => ∃ v L, o = .returned v ∧ (PQ (some (.int (0 : Int32))) h0 n0) v U'.heap L ∧ FrameEnd U o U' L ({ frames := 1, cells := 0, slots := 0, locals := 12 } : Room).cells ({ frames := 1, cells := 0, slots := 0, locals := 12 } : Room).slots) := by
  refine MetFree.of_bodySF (plainFor_of_name own_pn4) hisR ?_
  intro p e s m args below meth c s₁ Bd hml0 hP hK
  obtain ⟨rfl, hZ, hh⟩ := hP
  have hx := Bd.exec
  have hby := Bd.bytes
  have hml : c.maxLocals = 2 := hml0
  have hown : s.vm.findClass "com/example/measurewright/measurewright/Comparison" = some m.cls := findClass_of_methodNamed Bd.named
  have hnm := (name_of_methodNamed Bd.named Bd.method).1
  have X0 : Stand p l e ({ frames := 1, cells := 0, slots := 0, locals := 12 } : Room) s m #[(.ref (A 4)), (.int (0 : Int32))] below meth c s₁ [] 0 0 := Stand.of_body Bd
  have e0 : s₁.heap = h0 := by rw [← hh, Bd.state]; rfl
  have N0 := Fr.nil n0
  have pre0 : ∀ t, Steps p.tables e below (s₁.setTop (mkF m 0 #[.val (.ref (A 4)), .val (.int (0 : Int32))] [])) t → Steps p.tables e below (s₁.setTop (entryFrame m #[(.ref (A 4)), (.int (0 : Int32))] 2)) t := fun t k => castTop (own_ef_rm27 m p1 p2 p3 A K ) k
  have KK0 : Keep h0 h0 [] := Keep.refl _ _
  obtain ⟨cq72, kq72, q72a, q72b, q72c⟩ := isOf hZ e0 (EN.2.1.2.1.ext OL0.2)
  obtain ⟨_, _, ⟨T72, L72, k72, n72⟩, -, X72, ⟨Lc72, hQ72, l72, y72, z72⟩, st72⟩ := X0.virtualBackUp hx (x := own_m9) (y := own_m5) (owner := "java/lang/Enum") hown (mvT hZ (hw _ (List.mem_of_getElem? (i := 20) rfl))) (mvT hZ (hw _ (List.mem_of_getElem? (i := 21) rfl))) (mvT hZ (hw _ (List.mem_of_getElem? (i := 22) rfl))) (by decide) (mvT hZ (hw _ (List.mem_of_getElem? (i := 24) rfl))) (mvT hZ (hw _ (List.mem_of_getElem? (i := 23) rfl))) (backOf (W := 0) (rm16 l Z a0 hw [] h0 n0 p1 p2 p3 A K EN OL0) hZ (hw _ (List.mem_of_getElem? (i := 26) rfl)) (hw _ (List.mem_of_getElem? (i := 25) rfl)) (by decide) (by decide)) q72a q72c (g := (mkF m 1 #[.val (.ref (A 4)), .val (.int (0 : Int32))] [(.ref (A 4))])) rfl (by rw [hml]; rfl) (Steps.refl _) (argsL := []) (rest := []) (lenOf own_pd4 rfl) rfl (by show 2 * 0 + _ ≤ _; exact Nat.le_of_eq rfl) (hb hby own_d_prog_3_method_6_code_1) (fun _ _ => ⟨rfl, e0, (by decide : 0 + 0 ≤ _), (by decide : 0 + 0 ≤ _)⟩)
  dsimp only [Pt.U, Pt.locs, Pt.cells, Pt.slots] at X72 l72 y72 z72 st72 hQ72
  subst l72 y72 z72
  obtain ⟨rfl, N72q, e72⟩ := hQ72
  have N72 := Fr.app N0 N72q
  obtain ⟨fs, hr, hrun, hended, hW, hsame⟩ := X72.leave (v := some (.int (0 : Int32))) (fun h => by rw [Bd.returns] at h; cases h)
  refine ⟨_, _, pre0 _ ?_, hrun, hended, _, _, rfl, ?_, ⟨_, rfl⟩, hW, hsame.mono (by decide) (by decide)⟩
  · show Steps p.tables e below (s₁.setTop (mkF m 0 #[.val (.ref (A 4)), .val (.int (0 : Int32))] [])) _
    refine XS.aloadN X0.here hx rfl (hb hby own_d_prog_3_method_6_code_0) rfl rfl ?_
    show Steps p.tables e below (s₁.setTop (mkF m 1 #[.val (.ref (A 4)), .val (.int (0 : Int32))] [(.ref (A 4))])) _
    refine st72.trans ?_
    show Steps p.tables e below (T72.setTop (mkF m 4 #[.val (.ref (A 4)), .val (.int (0 : Int32))] [(.int (4 : Int32))])) _
    refine XS.tswIn X72.here hx rfl (pc0 := 4) (pc' := 98) rfl (hb hby own_d_prog_3_method_6_code_4) rfl (by decide) (o := 94) (by decide) (by decide) (by decide) ?_
    show Steps p.tables e below (T72.setTop (mkF m 98 #[.val (.ref (A 4)), .val (.int (0 : Int32))] [])) _
    refine XS.iloadN X72.here hx rfl (hb hby own_d_prog_3_method_6_code_98) rfl ?_
    show Steps p.tables e below (T72.setTop (mkF m 99 #[.val (.ref (A 4)), .val (.int (0 : Int32))] [(.int (0 : Int32))])) _
    refine XS.ifYes X72.here hx rfl (pc0 := 99) (pc' := 106) rfl (hb hby own_d_prog_3_method_6_code_99) rfl ((if0 _ _).trans (flt (by decide : ¬ ((0 : Int32) < (0 : Int32)))).2.2.2) (by decide) (by decide) ?_
    show Steps p.tables e below (T72.setTop (mkF m 106 #[.val (.ref (A 4)), .val (.int (0 : Int32))] [])) _
    refine XS.iconst X72.here hx rfl (hb hby own_d_prog_3_method_6_code_106) ?_
    show Steps p.tables e below (T72.setTop (mkF m 107 #[.val (.ref (A 4)), .val (.int (0 : Int32))] [(.int (0 : Int32))])) _
    exact retN X72 hx (t := .boolean) Bd.returns (by simp) (hb hby own_d_prog_3_method_6_code_107) hr
  · show PQ (some (.int (0 : Int32))) h0 n0 _ T72.heap _
    rw [e72]
    exact ⟨rfl, N72, rfl⟩
theorem own_ef_rm23 (m : MethodId) (p1 : Int32) (p2 : Int32) (p3 : Int32) (A : Nat → Addr) (K : Nat → ClassId)  (r52 : Addr) (r53 : Addr) : entryFrame m #[(.ref (A 4)), (.ref r53), (.ref r52)] 3 = mkF m 0 #[.val (.ref (A 4)), .val (.ref r53), .val (.ref r52)] [] := by first | (simp [entryFrame, mkF, argsToLocals, Value.category, maxLocals]; done) | rfl
set_option maxRecDepth 65536 in
set_option maxHeartbeats 40000000 in
theorem rm23 (l : Launch) (Z : State) (a0 : Array Value) (hw : ∀ d ∈ tables_1, d.before a0 Z = true) (ws : List Jvm.Cond) (h0 : Heap) (n0 : Nat) (p1 : Int32) (p2 : Int32) (p3 : Int32) (A : Nat → Addr) (K : Nat → ClassId)  (r52 : Addr) (r53 : Addr) (EN : own_St Z A K) (OL0 : Old Z n0 h0) (G_E_r53 : Exa Z h0 r53 "java/lang/Integer") (G_E_r52 : Exa Z h0 r52 "java/lang/Integer") (G_F_r53_java_lang_Integer_value : Fld Z h0 r53 "java/lang/Integer" "value" "I" (.int p3)) (G_F_r52_java_lang_Integer_value : Fld Z h0 r52 "java/lang/Integer" "value" "I" (.int p2)) (hp_17 : ¬ (p2 < p3)) (hp_50 : p2 = p3) :
    MetFree l own_m0 (head1 (Jvm.Cond.code own_m0 prog_3_method_5_code 3 (some .boolean) :: ws) ({ frames := 3, cells := 0, slots := 0, locals := 40 } : Room)) (fun a U => a = #[(.ref (A 4)), (.ref r53), (.ref r52)] ∧ Z.Warmed39 U.vm ∧ U.heap = h0) (fun _ _ _ _ _ => True) (fun _ U o U' => ∃ v L, o = .returned v ∧ (PQ (some (.int (0 : Int32))) h0 n0) v U'.heap L ∧ FrameEnd U o U' L ({ frames := 3, cells := 0, slots := 0, locals := 40 } : Room).cells ({ frames := 3, cells := 0, slots := 0, locals := 40 } : Room).slots) := by
  refine MetFree.of_bodySF (plainFor_of_name own_pn4) hisR ?_
  intro p e s m args below meth c s₁ Bd hml0 hP hK
  obtain ⟨rfl, hZ, hh⟩ := hP
  have hx := Bd.exec
  have hby := Bd.bytes
  have hml : c.maxLocals = 3 := hml0
  have hown : s.vm.findClass "com/example/measurewright/measurewright/Comparison" = some m.cls := findClass_of_methodNamed Bd.named
  have hnm := (name_of_methodNamed Bd.named Bd.method).1
  have X0 : Stand p l e ({ frames := 3, cells := 0, slots := 0, locals := 40 } : Room) s m #[(.ref (A 4)), (.ref r53), (.ref r52)] below meth c s₁ [] 0 0 := Stand.of_body Bd
  have e0 : s₁.heap = h0 := by rw [← hh, Bd.state]; rfl
  have N0 := Fr.nil n0
  have pre0 : ∀ t, Steps p.tables e below (s₁.setTop (mkF m 0 #[.val (.ref (A 4)), .val (.ref r53), .val (.ref r52)] [])) t → Steps p.tables e below (s₁.setTop (entryFrame m #[(.ref (A 4)), (.ref r53), (.ref r52)] 3)) t := fun t k => castTop (own_ef_rm23 m p1 p2 p3 A K r52 r53) k
  have KK0 : Keep h0 h0 [] := Keep.refl _ _
  obtain ⟨cq71, kq71, q71a, q71b, q71c⟩ := isOf hZ e0 G_E_r53
  obtain ⟨_, _, ⟨T71, L71, k71, n71⟩, -, X71, ⟨Lc71, hQ71, l71, y71, z71⟩, st71⟩ := X0.interfaceBack hx (xi := own_m6) (y := own_m3) hown (mvT hZ (hw _ (List.mem_of_getElem? (i := 36) rfl))) (mvT hZ (hw _ (List.mem_of_getElem? (i := 37) rfl))) (mvT hZ (hw _ (List.mem_of_getElem? (i := 38) rfl))) (mvT hZ (hw _ (List.mem_of_getElem? (i := 39) rfl))) (mvT hZ (hw _ (List.mem_of_getElem? (i := 40) rfl))) (mvT hZ (hw _ (List.mem_of_getElem? (i := 41) rfl))) (mvT hZ (hw _ (List.mem_of_getElem? (i := 42) rfl))) (mvT hZ (hw _ (List.mem_of_getElem? (i := 43) rfl))) (by decide) (backOf (W := 1) (rm24 l Z a0 hw [] h0 n0 p1 p2 p3 A K r52 r53 EN OL0 G_E_r52 G_E_r53 G_F_r53_java_lang_Integer_value G_F_r52_java_lang_Integer_value hp_17 hp_50) hZ (hw _ (List.mem_of_getElem? (i := 44) rfl)) (hw _ (List.mem_of_getElem? (i := 10) rfl)) (by decide) (by decide)) q71a q71b q71c (g := (mkF m 3 #[.val (.ref (A 4)), .val (.ref r53), .val (.ref r52)] [(.ref r52), (.ref r53), (.ref (A 4))])) rfl (by rw [hml]; rfl) (Steps.refl _) (argsL := [(.ref r52)]) (rest := [(.ref (A 4))]) (lenOf own_pd8 rfl) rfl (by show 2 * 0 + _ ≤ _; exact Nat.le_of_eq rfl) (hb hby own_d_prog_3_method_5_code_3) (fun _ _ => ⟨rfl, e0, (by decide : 0 + 0 ≤ _), (by decide : 0 + 0 ≤ _)⟩)
  dsimp only [Pt.U, Pt.locs, Pt.cells, Pt.slots] at X71 l71 y71 z71 st71 hQ71
  subst l71 y71 z71
  obtain ⟨rfl, N71q, e71⟩ := hQ71
  have N71 := Fr.app N0 N71q
  obtain ⟨cq73, q73, q73'⟩ := (EN.2.1.2.1.ext OL0.2).cell
  obtain ⟨_, _, ⟨T73, L73, k73, n73⟩, -, X73, ⟨Lc73, hQ73, l73, y73, z73⟩, st73⟩ := X71.privateBack hx (y := own_m1) hown (mvT hZ (hw _ (List.mem_of_getElem? (i := 57) rfl))) (mvT hZ (hw _ (List.mem_of_getElem? (i := 58) rfl))) (own_selpS (y := own_m1) (mvT hZ (hw _ (List.mem_of_getElem? (i := 18) rfl))) rfl (mvP (args := #[]) hZ (hw _ (List.mem_of_getElem? (i := 59) rfl))) (mvT hZ (hw _ (List.mem_of_getElem? (i := 58) rfl))) (by decide)) (Cond.privateMethod_at (mvP hZ (hw _ (List.mem_of_getElem? (i := 59) rfl)) (args := #[]))) (mvT hZ (hw _ (List.mem_of_getElem? (i := 60) rfl))) (by decide) (backOf (W := 0) (rm27 l Z a0 hw [] h0 n0 p1 p2 p3 A K EN OL0) hZ (hw _ (List.mem_of_getElem? (i := 60) rfl)) (hw _ (List.mem_of_getElem? (i := 6) rfl)) (by decide) (by decide)) (g := (mkF m 8 #[.val (.ref (A 4)), .val (.ref r53), .val (.ref r52)] [(.int (0 : Int32)), (.ref (A 4))])) rfl (by rw [hml]; rfl) (Steps.refl _) (a := (A 4)) (by rw [e71]; exact q73) q73' (argsL := [(.int (0 : Int32))]) (rest := []) (lenOf own_pd9 rfl) rfl (by show 2 * 0 + _ ≤ _; exact Nat.le_of_eq rfl) (hb hby own_d_prog_3_method_5_code_8) (fun _ _ => ⟨rfl, e71, (by decide : 0 + 0 ≤ _), (by decide : 0 + 0 ≤ _)⟩)
  dsimp only [Pt.U, Pt.locs, Pt.cells, Pt.slots] at X73 l73 y73 z73 st73 hQ73
  subst l73 y73 z73
  obtain ⟨rfl, N73q, e73⟩ := hQ73
  have N73 := Fr.app N71 N73q
  obtain ⟨fs, hr, hrun, hended, hW, hsame⟩ := X73.leave (v := some (.int (0 : Int32))) (fun h => by rw [Bd.returns] at h; cases h)
  refine ⟨_, _, pre0 _ ?_, hrun, hended, _, _, rfl, ?_, ⟨_, rfl⟩, hW, hsame.mono (by decide) (by decide)⟩
  · show Steps p.tables e below (s₁.setTop (mkF m 0 #[.val (.ref (A 4)), .val (.ref r53), .val (.ref r52)] [])) _
    refine XS.aloadN X0.here hx rfl (hb hby own_d_prog_3_method_5_code_0) rfl rfl ?_
    show Steps p.tables e below (s₁.setTop (mkF m 1 #[.val (.ref (A 4)), .val (.ref r53), .val (.ref r52)] [(.ref (A 4))])) _
    refine XS.aloadN X0.here hx rfl (hb hby own_d_prog_3_method_5_code_1) rfl rfl ?_
    show Steps p.tables e below (s₁.setTop (mkF m 2 #[.val (.ref (A 4)), .val (.ref r53), .val (.ref r52)] [(.ref r53), (.ref (A 4))])) _
    refine XS.aloadN X0.here hx rfl (hb hby own_d_prog_3_method_5_code_2) rfl rfl ?_
    show Steps p.tables e below (s₁.setTop (mkF m 3 #[.val (.ref (A 4)), .val (.ref r53), .val (.ref r52)] [(.ref r52), (.ref r53), (.ref (A 4))])) _
    refine st71.trans ?_
    show Steps p.tables e below (T71.setTop (mkF m 8 #[.val (.ref (A 4)), .val (.ref r53), .val (.ref r52)] [(.int (0 : Int32)), (.ref (A 4))])) _
    refine st73.trans ?_
    show Steps p.tables e below (T73.setTop (mkF m 11 #[.val (.ref (A 4)), .val (.ref r53), .val (.ref r52)] [(.int (0 : Int32))])) _
    exact retN X73 hx (t := .boolean) Bd.returns (by simp) (hb hby own_d_prog_3_method_5_code_11) hr
  · show PQ (some (.int (0 : Int32))) h0 n0 _ T73.heap _
    rw [e73]
    exact ⟨rfl, N73, rfl⟩
theorem own_ef_rm31 (m : MethodId) (p1 : Int32) (p2 : Int32) (p3 : Int32) (A : Nat → Addr) (K : Nat → ClassId)  : entryFrame m #[(.int p2), (.int p3)] 2 = mkF m 0 #[.val (.int p2), .val (.int p3)] [] := by first | (simp [entryFrame, mkF, argsToLocals, Value.category, maxLocals]; done) | rfl
set_option maxRecDepth 65536 in
set_option maxHeartbeats 40000000 in
theorem rm31 (l : Launch) (Z : State) (a0 : Array Value) (hw : ∀ d ∈ tables_1, d.before a0 Z = true) (ws : List Jvm.Cond) (h0 : Heap) (n0 : Nat) (p1 : Int32) (p2 : Int32) (p3 : Int32) (A : Nat → Addr) (K : Nat → ClassId)  (EN : own_St Z A K) (OL0 : Old Z n0 h0) (hp_17 : ¬ (p2 < p3)) (hp_50 : ¬ (p2 = p3)) :
    MetFree l own_m10 (head1 (Jvm.Cond.code own_m10 jdk_33_method_40_code 2 (some .int) :: ws) ({ frames := 0, cells := 0, slots := 0, locals := 0 } : Room)) (fun a U => a = #[(.int p2), (.int p3)] ∧ Z.Warmed39 U.vm ∧ U.heap = h0) (fun _ _ _ _ _ => True) (fun _ U o U' => ∃ v L, o = .returned v ∧ (PQ (some (.int (1 : Int32))) h0 n0) v U'.heap L ∧ FrameEnd U o U' L ({ frames := 0, cells := 0, slots := 0, locals := 0 } : Room).cells ({ frames := 0, cells := 0, slots := 0, locals := 0 } : Room).slots) := by
  refine MetFree.of_bodySF (plainFor_of_name own_pn1) hisR ?_
  intro p e s m args below meth c s₁ Bd hml0 hP hK
  obtain ⟨rfl, hZ, hh⟩ := hP
  have hx := Bd.exec
  have hby := Bd.bytes
  have hml : c.maxLocals = 2 := hml0
  have hown : s.vm.findClass "java/lang/Integer" = some m.cls := findClass_of_methodNamed Bd.named
  have hnm := (name_of_methodNamed Bd.named Bd.method).1
  have X0 : Stand p l e ({ frames := 0, cells := 0, slots := 0, locals := 0 } : Room) s m #[(.int p2), (.int p3)] below meth c s₁ [] 0 0 := Stand.of_body Bd
  have e0 : s₁.heap = h0 := by rw [← hh, Bd.state]; rfl
  have N0 := Fr.nil n0
  have pre0 : ∀ t, Steps p.tables e below (s₁.setTop (mkF m 0 #[.val (.int p2), .val (.int p3)] [])) t → Steps p.tables e below (s₁.setTop (entryFrame m #[(.int p2), (.int p3)] 2)) t := fun t k => castTop (own_ef_rm31 m p1 p2 p3 A K ) k
  have KK0 : Keep h0 h0 [] := Keep.refl _ _
  obtain ⟨fs, hr, hrun, hended, hW, hsame⟩ := X0.leave (v := some (.int (1 : Int32))) (fun h => by rw [Bd.returns] at h; cases h)
  refine ⟨_, _, pre0 _ ?_, hrun, hended, _, _, rfl, ?_, ⟨_, rfl⟩, hW, hsame.mono (by decide) (by decide)⟩
  · show Steps p.tables e below (s₁.setTop (mkF m 0 #[.val (.int p2), .val (.int p3)] [])) _
    refine XS.iloadN X0.here hx rfl (hb hby own_d_jdk_33_method_40_code_0) rfl ?_
    show Steps p.tables e below (s₁.setTop (mkF m 1 #[.val (.int p2), .val (.int p3)] [(.int p2)])) _
    refine XS.iloadN X0.here hx rfl (hb hby own_d_jdk_33_method_40_code_1) rfl ?_
    show Steps p.tables e below (s₁.setTop (mkF m 2 #[.val (.int p2), .val (.int p3)] [(.int p3), (.int p2)])) _
    refine XS.icmpYes X0.here hx rfl (pc0 := 2) (pc' := 9) rfl (hb hby own_d_jdk_33_method_40_code_2) rfl (flt hp_17).2.1 (by decide) (by decide) ?_
    show Steps p.tables e below (s₁.setTop (mkF m 9 #[.val (.int p2), .val (.int p3)] [])) _
    refine XS.iloadN X0.here hx rfl (hb hby own_d_jdk_33_method_40_code_9) rfl ?_
    show Steps p.tables e below (s₁.setTop (mkF m 10 #[.val (.int p2), .val (.int p3)] [(.int p2)])) _
    refine XS.iloadN X0.here hx rfl (hb hby own_d_jdk_33_method_40_code_10) rfl ?_
    show Steps p.tables e below (s₁.setTop (mkF m 11 #[.val (.int p2), .val (.int p3)] [(.int p3), (.int p2)])) _
    refine XS.icmpYes X0.here hx rfl (pc0 := 11) (pc' := 18) rfl (hb hby own_d_jdk_33_method_40_code_11) rfl (feq hp_50).2 (by decide) (by decide) ?_
    show Steps p.tables e below (s₁.setTop (mkF m 18 #[.val (.int p2), .val (.int p3)] [])) _
    refine XS.iconst X0.here hx rfl (hb hby own_d_jdk_33_method_40_code_18) ?_
    show Steps p.tables e below (s₁.setTop (mkF m 19 #[.val (.int p2), .val (.int p3)] [(.int (1 : Int32))])) _
    exact retI X0 hx Bd.returns (hb hby own_d_jdk_33_method_40_code_19) hr
  · show PQ (some (.int (1 : Int32))) h0 n0 _ s₁.heap _
    rw [e0]
    exact ⟨rfl, N0, rfl⟩
theorem own_ef_rm30 (m : MethodId) (p1 : Int32) (p2 : Int32) (p3 : Int32) (A : Nat → Addr) (K : Nat → ClassId)  (r77 : Addr) (r78 : Addr) : entryFrame m #[(.ref r77), (.ref r78)] 2 = mkF m 0 #[.val (.ref r77), .val (.ref r78)] [] := by first | (simp [entryFrame, mkF, argsToLocals, Value.category, maxLocals]; done) | rfl
set_option maxRecDepth 65536 in
set_option maxHeartbeats 40000000 in
theorem rm30 (l : Launch) (Z : State) (a0 : Array Value) (hw : ∀ d ∈ tables_1, d.before a0 Z = true) (ws : List Jvm.Cond) (h0 : Heap) (n0 : Nat) (p1 : Int32) (p2 : Int32) (p3 : Int32) (A : Nat → Addr) (K : Nat → ClassId)  (r77 : Addr) (r78 : Addr) (EN : own_St Z A K) (OL0 : Old Z n0 h0) (G_F_r77_java_lang_Integer_value : Fld Z h0 r77 "java/lang/Integer" "value" "I" (.int p2)) (G_F_r78_java_lang_Integer_value : Fld Z h0 r78 "java/lang/Integer" "value" "I" (.int p3)) (hp_17 : ¬ (p2 < p3)) (hp_50 : ¬ (p2 = p3)) :
    MetFree l own_m8 (head1 (Jvm.Cond.code own_m8 jdk_33_method_39_code 2 (some .int) :: ws) ({ frames := 1, cells := 0, slots := 0, locals := 13 } : Room)) (fun a U => a = #[(.ref r77), (.ref r78)] ∧ Z.Warmed39 U.vm ∧ U.heap = h0) (fun _ _ _ _ _ => True) (fun _ U o U' => ∃ v L, o = .returned v ∧ (PQ (some (.int (1 : Int32))) h0 n0) v U'.heap L ∧ FrameEnd U o U' L ({ frames := 1, cells := 0, slots := 0, locals := 13 } : Room).cells ({ frames := 1, cells := 0, slots := 0, locals := 13 } : Room).slots) := by
  refine MetFree.of_bodySF (plainFor_of_name own_pn1) hisR ?_
  intro p e s m args below meth c s₁ Bd hml0 hP hK
  obtain ⟨rfl, hZ, hh⟩ := hP
  have hx := Bd.exec
  have hby := Bd.bytes
  have hml : c.maxLocals = 2 := hml0
  have hown : s.vm.findClass "java/lang/Integer" = some m.cls := findClass_of_methodNamed Bd.named
  have hnm := (name_of_methodNamed Bd.named Bd.method).1
  have X0 : Stand p l e ({ frames := 1, cells := 0, slots := 0, locals := 13 } : Room) s m #[(.ref r77), (.ref r78)] below meth c s₁ [] 0 0 := Stand.of_body Bd
  have e0 : s₁.heap = h0 := by rw [← hh, Bd.state]; rfl
  have N0 := Fr.nil n0
  have pre0 : ∀ t, Steps p.tables e below (s₁.setTop (mkF m 0 #[.val (.ref r77), .val (.ref r78)] [])) t → Steps p.tables e below (s₁.setTop (entryFrame m #[(.ref r77), (.ref r78)] 2)) t := fun t k => castTop (own_ef_rm30 m p1 p2 p3 A K r77 r78) k
  have KK0 : Keep h0 h0 [] := Keep.refl _ _
  obtain ⟨T81, X81, e81, st81⟩ := getF X0 hx hZ hown (host := "") (Or.inl (hw _ (List.mem_of_getElem? (i := 52) rfl))) Via.refl e0 G_F_r77_java_lang_Integer_value (g := (mkF m 1 #[.val (.ref r77), .val (.ref r78)] [(.ref r77)])) rfl rfl (hb hby own_d_jdk_33_method_39_code_1)
  obtain ⟨T82, X82, e82, st82⟩ := getF X81 hx hZ hown (host := "") (Or.inl (hw _ (List.mem_of_getElem? (i := 52) rfl))) Via.refl e81 G_F_r78_java_lang_Integer_value (g := (mkF m 5 #[.val (.ref r77), .val (.ref r78)] [(.ref r78), (.int p2)])) rfl rfl (hb hby own_d_jdk_33_method_39_code_5)
  obtain ⟨_, _, ⟨T83, L83, k83, n83⟩, -, X83, ⟨Lc83, hQ83, l83, y83, z83⟩, st83⟩ := Jvm.LawKit.callS X82 hx (y := own_m10) hown (mvT hZ (hw _ (List.mem_of_getElem? (i := 54) rfl))) (mvT hZ (hw _ (List.mem_of_getElem? (i := 55) rfl))) (mvT hZ (hw _ (List.mem_of_getElem? (i := 10) rfl))) (mvT hZ (hw _ (List.mem_of_getElem? (i := 56) rfl))) (by decide) (backOf (W := 0) (rm31 l Z a0 hw [] h0 n0 p1 p2 p3 A K EN OL0 hp_17 hp_50) hZ (hw _ (List.mem_of_getElem? (i := 56) rfl)) (hw _ (List.mem_of_getElem? (i := 10) rfl)) (by decide) (by decide)) (g := (mkF m 8 #[.val (.ref r77), .val (.ref r78)] [(.int p3), (.int p2)])) rfl (by rw [hml]; rfl) (argsL := [(.int p2), (.int p3)]) (rest := []) (lenOf own_pd6 rfl) rfl (by show 2 * 0 + _ ≤ _; exact Nat.le_of_eq rfl) (hb hby own_d_jdk_33_method_39_code_8) (fun _ _ => ⟨rfl, e82, (by decide : 0 + 0 ≤ _), (by decide : 0 + 0 ≤ _)⟩)
  dsimp only [Pt.U, Pt.locs, Pt.cells, Pt.slots] at X83 l83 y83 z83 st83 hQ83
  subst l83 y83 z83
  obtain ⟨rfl, N83q, e83⟩ := hQ83
  have N83 := Fr.app N0 N83q
  obtain ⟨fs, hr, hrun, hended, hW, hsame⟩ := X83.leave (v := some (.int (1 : Int32))) (fun h => by rw [Bd.returns] at h; cases h)
  refine ⟨_, _, pre0 _ ?_, hrun, hended, _, _, rfl, ?_, ⟨_, rfl⟩, hW, hsame.mono (by decide) (by decide)⟩
  · show Steps p.tables e below (s₁.setTop (mkF m 0 #[.val (.ref r77), .val (.ref r78)] [])) _
    refine XS.aloadN X0.here hx rfl (hb hby own_d_jdk_33_method_39_code_0) rfl rfl ?_
    show Steps p.tables e below (s₁.setTop (mkF m 1 #[.val (.ref r77), .val (.ref r78)] [(.ref r77)])) _
    refine st81 _ ?_
    show Steps p.tables e below (T81.setTop (mkF m 4 #[.val (.ref r77), .val (.ref r78)] [(.int p2)])) _
    refine XS.aloadN X81.here hx rfl (hb hby own_d_jdk_33_method_39_code_4) rfl rfl ?_
    show Steps p.tables e below (T81.setTop (mkF m 5 #[.val (.ref r77), .val (.ref r78)] [(.ref r78), (.int p2)])) _
    refine st82 _ ?_
    show Steps p.tables e below (T82.setTop (mkF m 8 #[.val (.ref r77), .val (.ref r78)] [(.int p3), (.int p2)])) _
    refine st83 _ ?_
    show Steps p.tables e below (T83.setTop (mkF m 11 #[.val (.ref r77), .val (.ref r78)] [(.int (1 : Int32))])) _
    exact retI X83 hx Bd.returns (hb hby own_d_jdk_33_method_39_code_11) hr
  · show PQ (some (.int (1 : Int32))) h0 n0 _ T83.heap _
    rw [e83]
    exact ⟨rfl, N83, rfl⟩
theorem own_ef_rm29 (m : MethodId) (p1 : Int32) (p2 : Int32) (p3 : Int32) (A : Nat → Addr) (K : Nat → ClassId)  (r77 : Addr) (r78 : Addr) : entryFrame m #[(.ref r77), (.ref r78)] 2 = mkF m 0 #[.val (.ref r77), .val (.ref r78)] [] := by first | (simp [entryFrame, mkF, argsToLocals, Value.category, maxLocals]; done) | rfl
set_option maxRecDepth 65536 in
set_option maxHeartbeats 40000000 in
theorem rm29 (l : Launch) (Z : State) (a0 : Array Value) (hw : ∀ d ∈ tables_1, d.before a0 Z = true) (ws : List Jvm.Cond) (h0 : Heap) (n0 : Nat) (p1 : Int32) (p2 : Int32) (p3 : Int32) (A : Nat → Addr) (K : Nat → ClassId)  (r77 : Addr) (r78 : Addr) (EN : own_St Z A K) (OL0 : Old Z n0 h0) (G_E_r78 : Exa Z h0 r78 "java/lang/Integer") (G_E_r77 : Exa Z h0 r77 "java/lang/Integer") (G_F_r77_java_lang_Integer_value : Fld Z h0 r77 "java/lang/Integer" "value" "I" (.int p2)) (G_F_r78_java_lang_Integer_value : Fld Z h0 r78 "java/lang/Integer" "value" "I" (.int p3)) (hp_17 : ¬ (p2 < p3)) (hp_50 : ¬ (p2 = p3)) :
    MetFree l own_m3 (head1 (Jvm.Cond.code own_m3 jdk_33_method_63_code 2 (some .int) :: ws) ({ frames := 2, cells := 0, slots := 0, locals := 26 } : Room)) (fun a U => a = #[(.ref r77), (.ref r78)] ∧ Z.Warmed39 U.vm ∧ U.heap = h0) (fun _ _ _ _ _ => True) (fun _ U o U' => ∃ v L, o = .returned v ∧ (PQ (some (.int (1 : Int32))) h0 n0) v U'.heap L ∧ FrameEnd U o U' L ({ frames := 2, cells := 0, slots := 0, locals := 26 } : Room).cells ({ frames := 2, cells := 0, slots := 0, locals := 26 } : Room).slots) := by
  refine MetFree.of_bodySF (plainFor_of_name own_pn1) hisR ?_
  intro p e s m args below meth c s₁ Bd hml0 hP hK
  obtain ⟨rfl, hZ, hh⟩ := hP
  have hx := Bd.exec
  have hby := Bd.bytes
  have hml : c.maxLocals = 2 := hml0
  have hown : s.vm.findClass "java/lang/Integer" = some m.cls := findClass_of_methodNamed Bd.named
  have hnm := (name_of_methodNamed Bd.named Bd.method).1
  have X0 : Stand p l e ({ frames := 2, cells := 0, slots := 0, locals := 26 } : Room) s m #[(.ref r77), (.ref r78)] below meth c s₁ [] 0 0 := Stand.of_body Bd
  have e0 : s₁.heap = h0 := by rw [← hh, Bd.state]; rfl
  have N0 := Fr.nil n0
  have pre0 : ∀ t, Steps p.tables e below (s₁.setTop (mkF m 0 #[.val (.ref r77), .val (.ref r78)] [])) t → Steps p.tables e below (s₁.setTop (entryFrame m #[(.ref r77), (.ref r78)] 2)) t := fun t k => castTop (own_ef_rm29 m p1 p2 p3 A K r77 r78) k
  have KK0 : Keep h0 h0 [] := Keep.refl _ _
  obtain ⟨T80, X80, e80, st80⟩ := castY X0 hx hZ hown (hw _ (List.mem_of_getElem? (i := 45) rfl)) e0 (Ins.self G_E_r78) (g := (mkF m 2 #[.val (.ref r77), .val (.ref r78)] [(.ref r78), (.ref r77)])) rfl rfl (hb hby own_d_jdk_33_method_63_code_2)
  obtain ⟨cq84, kq84, q84a, q84b, q84c⟩ := isOf hZ e80 G_E_r77
  obtain ⟨_, _, ⟨T84, L84, k84, n84⟩, -, X84, ⟨Lc84, hQ84, l84, y84, z84⟩, st84⟩ := X80.virtualBack hx (y := own_m8) (z := own_m8) hown (mvT hZ (hw _ (List.mem_of_getElem? (i := 47) rfl))) (mvT hZ (hw _ (List.mem_of_getElem? (i := 48) rfl))) (notFace_of_selects (args := #[]) (mvT hZ (hw _ (List.mem_of_getElem? (i := 50) rfl)))) (mvT hZ (hw _ (List.mem_of_getElem? (i := 50) rfl))) (mvT hZ (hw _ (List.mem_of_getElem? (i := 49) rfl))) (by decide) (backOf (W := 0) (rm30 l Z a0 hw [] h0 n0 p1 p2 p3 A K r77 r78 EN OL0 G_F_r77_java_lang_Integer_value G_F_r78_java_lang_Integer_value hp_17 hp_50) hZ (hw _ (List.mem_of_getElem? (i := 51) rfl)) (hw _ (List.mem_of_getElem? (i := 10) rfl)) (by decide) (by decide)) q84a q84c (g := (mkF m 5 #[.val (.ref r77), .val (.ref r78)] [(.ref r78), (.ref r77)])) rfl (by rw [hml]; rfl) (Steps.refl _) (argsL := [(.ref r78)]) (rest := []) (lenOf own_pd7 rfl) rfl (by show 2 * 0 + _ ≤ _; exact Nat.le_of_eq rfl) (hb hby own_d_jdk_33_method_63_code_5) (fun _ _ => ⟨rfl, e80, (by decide : 0 + 0 ≤ _), (by decide : 0 + 0 ≤ _)⟩)
  dsimp only [Pt.U, Pt.locs, Pt.cells, Pt.slots] at X84 l84 y84 z84 st84 hQ84
  subst l84 y84 z84
  obtain ⟨rfl, N84q, e84⟩ := hQ84
  have N84 := Fr.app N0 N84q
  obtain ⟨fs, hr, hrun, hended, hW, hsame⟩ := X84.leave (v := some (.int (1 : Int32))) (fun h => by rw [Bd.returns] at h; cases h)
  refine ⟨_, _, pre0 _ ?_, hrun, hended, _, _, rfl, ?_, ⟨_, rfl⟩, hW, hsame.mono (by decide) (by decide)⟩
  · show Steps p.tables e below (s₁.setTop (mkF m 0 #[.val (.ref r77), .val (.ref r78)] [])) _
    refine XS.aloadN X0.here hx rfl (hb hby own_d_jdk_33_method_63_code_0) rfl rfl ?_
    show Steps p.tables e below (s₁.setTop (mkF m 1 #[.val (.ref r77), .val (.ref r78)] [(.ref r77)])) _
    refine XS.aloadN X0.here hx rfl (hb hby own_d_jdk_33_method_63_code_1) rfl rfl ?_
    show Steps p.tables e below (s₁.setTop (mkF m 2 #[.val (.ref r77), .val (.ref r78)] [(.ref r78), (.ref r77)])) _
    refine st80 _ ?_
    show Steps p.tables e below (T80.setTop (mkF m 5 #[.val (.ref r77), .val (.ref r78)] [(.ref r78), (.ref r77)])) _
    refine st84.trans ?_
    show Steps p.tables e below (T84.setTop (mkF m 8 #[.val (.ref r77), .val (.ref r78)] [(.int (1 : Int32))])) _
    exact retI X84 hx Bd.returns (hb hby own_d_jdk_33_method_63_code_8) hr
  · show PQ (some (.int (1 : Int32))) h0 n0 _ T84.heap _
    rw [e84]
    exact ⟨rfl, N84, rfl⟩
theorem own_ef_rm32 (m : MethodId) (p1 : Int32) (p2 : Int32) (p3 : Int32) (A : Nat → Addr) (K : Nat → ClassId)  : entryFrame m #[(.ref (A 0)), (.int (1 : Int32))] 2 = mkF m 0 #[.val (.ref (A 0)), .val (.int (1 : Int32))] [] := by first | (simp [entryFrame, mkF, argsToLocals, Value.category, maxLocals]; done) | rfl
set_option maxRecDepth 65536 in
set_option maxHeartbeats 40000000 in
theorem rm32 (l : Launch) (Z : State) (a0 : Array Value) (hw : ∀ d ∈ tables_1, d.before a0 Z = true) (ws : List Jvm.Cond) (h0 : Heap) (n0 : Nat) (p1 : Int32) (p2 : Int32) (p3 : Int32) (A : Nat → Addr) (K : Nat → ClassId)  (EN : own_St Z A K) (OL0 : Old Z n0 h0) :
    MetFree l own_m1 (head1 (Jvm.Cond.code own_m1 prog_3_method_6_code 2 (some .boolean) :: ws) ({ frames := 1, cells := 0, slots := 0, locals := 12 } : Room)) (fun a U => a = #[(.ref (A 0)), (.int (1 : Int32))] ∧ Z.Warmed39 U.vm ∧ U.heap = h0) (fun _ _ _ _ _ => True) (fun _ U o U' => ∃ v L, o = .returned v ∧ (PQ (some (.int (0 : Int32))) h0 n0) v U'.heap L ∧ FrameEnd U o U' L ({ frames := 1, cells := 0, slots := 0, locals := 12 } : Room).cells ({ frames := 1, cells := 0, slots := 0, locals := 12 } : Room).slots) := by
  refine MetFree.of_bodySF (plainFor_of_name own_pn4) hisR ?_
  intro p e s m args below meth c s₁ Bd hml0 hP hK
  obtain ⟨rfl, hZ, hh⟩ := hP
  have hx := Bd.exec
  have hby := Bd.bytes
  have hml : c.maxLocals = 2 := hml0
  have hown : s.vm.findClass "com/example/measurewright/measurewright/Comparison" = some m.cls := findClass_of_methodNamed Bd.named
  have hnm := (name_of_methodNamed Bd.named Bd.method).1
  have X0 : Stand p l e ({ frames := 1, cells := 0, slots := 0, locals := 12 } : Room) s m #[(.ref (A 0)), (.int (1 : Int32))] below meth c s₁ [] 0 0 := Stand.of_body Bd
  have e0 : s₁.heap = h0 := by rw [← hh, Bd.state]; rfl
  have N0 := Fr.nil n0
  have pre0 : ∀ t, Steps p.tables e below (s₁.setTop (mkF m 0 #[.val (.ref (A 0)), .val (.int (1 : Int32))] [])) t → Steps p.tables e below (s₁.setTop (entryFrame m #[(.ref (A 0)), (.int (1 : Int32))] 2)) t := fun t k => castTop (own_ef_rm32 m p1 p2 p3 A K ) k
  have KK0 : Keep h0 h0 [] := Keep.refl _ _
  obtain ⟨cq86, kq86, q86a, q86b, q86c⟩ := isOf hZ e0 (EN.1.2.1.ext OL0.2)
  obtain ⟨_, _, ⟨T86, L86, k86, n86⟩, -, X86, ⟨Lc86, hQ86, l86, y86, z86⟩, st86⟩ := X0.virtualBackUp hx (x := own_m9) (y := own_m5) (owner := "java/lang/Enum") hown (mvT hZ (hw _ (List.mem_of_getElem? (i := 20) rfl))) (mvT hZ (hw _ (List.mem_of_getElem? (i := 21) rfl))) (mvT hZ (hw _ (List.mem_of_getElem? (i := 22) rfl))) (by decide) (mvT hZ (hw _ (List.mem_of_getElem? (i := 24) rfl))) (mvT hZ (hw _ (List.mem_of_getElem? (i := 23) rfl))) (backOf (W := 0) (rm5 l Z a0 hw [] h0 n0 p1 p2 p3 A K EN OL0) hZ (hw _ (List.mem_of_getElem? (i := 26) rfl)) (hw _ (List.mem_of_getElem? (i := 25) rfl)) (by decide) (by decide)) q86a q86c (g := (mkF m 1 #[.val (.ref (A 0)), .val (.int (1 : Int32))] [(.ref (A 0))])) rfl (by rw [hml]; rfl) (Steps.refl _) (argsL := []) (rest := []) (lenOf own_pd4 rfl) rfl (by show 2 * 0 + _ ≤ _; exact Nat.le_of_eq rfl) (hb hby own_d_prog_3_method_6_code_1) (fun _ _ => ⟨rfl, e0, (by decide : 0 + 0 ≤ _), (by decide : 0 + 0 ≤ _)⟩)
  dsimp only [Pt.U, Pt.locs, Pt.cells, Pt.slots] at X86 l86 y86 z86 st86 hQ86
  subst l86 y86 z86
  obtain ⟨rfl, N86q, e86⟩ := hQ86
  have N86 := Fr.app N0 N86q
  obtain ⟨fs, hr, hrun, hended, hW, hsame⟩ := X86.leave (v := some (.int (0 : Int32))) (fun h => by rw [Bd.returns] at h; cases h)
  refine ⟨_, _, pre0 _ ?_, hrun, hended, _, _, rfl, ?_, ⟨_, rfl⟩, hW, hsame.mono (by decide) (by decide)⟩
  · show Steps p.tables e below (s₁.setTop (mkF m 0 #[.val (.ref (A 0)), .val (.int (1 : Int32))] [])) _
    refine XS.aloadN X0.here hx rfl (hb hby own_d_prog_3_method_6_code_0) rfl rfl ?_
    show Steps p.tables e below (s₁.setTop (mkF m 1 #[.val (.ref (A 0)), .val (.int (1 : Int32))] [(.ref (A 0))])) _
    refine st86.trans ?_
    show Steps p.tables e below (T86.setTop (mkF m 4 #[.val (.ref (A 0)), .val (.int (1 : Int32))] [(.int (0 : Int32))])) _
    refine XS.tswIn X86.here hx rfl (pc0 := 4) (pc' := 50) rfl (hb hby own_d_prog_3_method_6_code_4) rfl (by decide) (o := 46) (by decide) (by decide) (by decide) ?_
    show Steps p.tables e below (T86.setTop (mkF m 50 #[.val (.ref (A 0)), .val (.int (1 : Int32))] [])) _
    refine XS.iloadN X86.here hx rfl (hb hby own_d_prog_3_method_6_code_50) rfl ?_
    show Steps p.tables e below (T86.setTop (mkF m 51 #[.val (.ref (A 0)), .val (.int (1 : Int32))] [(.int (1 : Int32))])) _
    refine XS.ifYes X86.here hx rfl (pc0 := 51) (pc' := 58) rfl (hb hby own_d_prog_3_method_6_code_51) rfl ((if0 _ _).trans (flt (by decide : ¬ ((1 : Int32) < (0 : Int32)))).2.1) (by decide) (by decide) ?_
    show Steps p.tables e below (T86.setTop (mkF m 58 #[.val (.ref (A 0)), .val (.int (1 : Int32))] [])) _
    refine XS.iconst X86.here hx rfl (hb hby own_d_prog_3_method_6_code_58) ?_
    show Steps p.tables e below (T86.setTop (mkF m 59 #[.val (.ref (A 0)), .val (.int (1 : Int32))] [(.int (0 : Int32))])) _
    refine XS.goto X86.here hx rfl (pc0 := 59) (pc' := 107) rfl (hb hby own_d_prog_3_method_6_code_59) (by decide) (by decide) ?_
    show Steps p.tables e below (T86.setTop (mkF m 107 #[.val (.ref (A 0)), .val (.int (1 : Int32))] [(.int (0 : Int32))])) _
    exact retN X86 hx (t := .boolean) Bd.returns (by simp) (hb hby own_d_prog_3_method_6_code_107) hr
  · show PQ (some (.int (0 : Int32))) h0 n0 _ T86.heap _
    rw [e86]
    exact ⟨rfl, N86, rfl⟩
theorem own_ef_rm28 (m : MethodId) (p1 : Int32) (p2 : Int32) (p3 : Int32) (A : Nat → Addr) (K : Nat → ClassId)  (r77 : Addr) (r78 : Addr) : entryFrame m #[(.ref (A 0)), (.ref r77), (.ref r78)] 3 = mkF m 0 #[.val (.ref (A 0)), .val (.ref r77), .val (.ref r78)] [] := by first | (simp [entryFrame, mkF, argsToLocals, Value.category, maxLocals]; done) | rfl
set_option maxRecDepth 65536 in
set_option maxHeartbeats 40000000 in
theorem rm28 (l : Launch) (Z : State) (a0 : Array Value) (hw : ∀ d ∈ tables_1, d.before a0 Z = true) (ws : List Jvm.Cond) (h0 : Heap) (n0 : Nat) (p1 : Int32) (p2 : Int32) (p3 : Int32) (A : Nat → Addr) (K : Nat → ClassId)  (r77 : Addr) (r78 : Addr) (EN : own_St Z A K) (OL0 : Old Z n0 h0) (G_E_r77 : Exa Z h0 r77 "java/lang/Integer") (G_E_r78 : Exa Z h0 r78 "java/lang/Integer") (G_F_r77_java_lang_Integer_value : Fld Z h0 r77 "java/lang/Integer" "value" "I" (.int p2)) (G_F_r78_java_lang_Integer_value : Fld Z h0 r78 "java/lang/Integer" "value" "I" (.int p3)) (hp_17 : ¬ (p2 < p3)) (hp_50 : ¬ (p2 = p3)) :
    MetFree l own_m0 (head1 (Jvm.Cond.code own_m0 prog_3_method_5_code 3 (some .boolean) :: ws) ({ frames := 3, cells := 0, slots := 0, locals := 40 } : Room)) (fun a U => a = #[(.ref (A 0)), (.ref r77), (.ref r78)] ∧ Z.Warmed39 U.vm ∧ U.heap = h0) (fun _ _ _ _ _ => True) (fun _ U o U' => ∃ v L, o = .returned v ∧ (PQ (some (.int (0 : Int32))) h0 n0) v U'.heap L ∧ FrameEnd U o U' L ({ frames := 3, cells := 0, slots := 0, locals := 40 } : Room).cells ({ frames := 3, cells := 0, slots := 0, locals := 40 } : Room).slots) := by
  refine MetFree.of_bodySF (plainFor_of_name own_pn4) hisR ?_
  intro p e s m args below meth c s₁ Bd hml0 hP hK
  obtain ⟨rfl, hZ, hh⟩ := hP
  have hx := Bd.exec
  have hby := Bd.bytes
  have hml : c.maxLocals = 3 := hml0
  have hown : s.vm.findClass "com/example/measurewright/measurewright/Comparison" = some m.cls := findClass_of_methodNamed Bd.named
  have hnm := (name_of_methodNamed Bd.named Bd.method).1
  have X0 : Stand p l e ({ frames := 3, cells := 0, slots := 0, locals := 40 } : Room) s m #[(.ref (A 0)), (.ref r77), (.ref r78)] below meth c s₁ [] 0 0 := Stand.of_body Bd
  have e0 : s₁.heap = h0 := by rw [← hh, Bd.state]; rfl
  have N0 := Fr.nil n0
  have pre0 : ∀ t, Steps p.tables e below (s₁.setTop (mkF m 0 #[.val (.ref (A 0)), .val (.ref r77), .val (.ref r78)] [])) t → Steps p.tables e below (s₁.setTop (entryFrame m #[(.ref (A 0)), (.ref r77), (.ref r78)] 3)) t := fun t k => castTop (own_ef_rm28 m p1 p2 p3 A K r77 r78) k
  have KK0 : Keep h0 h0 [] := Keep.refl _ _
  obtain ⟨cq85, kq85, q85a, q85b, q85c⟩ := isOf hZ e0 G_E_r77
  obtain ⟨_, _, ⟨T85, L85, k85, n85⟩, -, X85, ⟨Lc85, hQ85, l85, y85, z85⟩, st85⟩ := X0.interfaceBack hx (xi := own_m6) (y := own_m3) hown (mvT hZ (hw _ (List.mem_of_getElem? (i := 36) rfl))) (mvT hZ (hw _ (List.mem_of_getElem? (i := 37) rfl))) (mvT hZ (hw _ (List.mem_of_getElem? (i := 38) rfl))) (mvT hZ (hw _ (List.mem_of_getElem? (i := 39) rfl))) (mvT hZ (hw _ (List.mem_of_getElem? (i := 40) rfl))) (mvT hZ (hw _ (List.mem_of_getElem? (i := 41) rfl))) (mvT hZ (hw _ (List.mem_of_getElem? (i := 42) rfl))) (mvT hZ (hw _ (List.mem_of_getElem? (i := 43) rfl))) (by decide) (backOf (W := 1) (rm29 l Z a0 hw [] h0 n0 p1 p2 p3 A K r77 r78 EN OL0 G_E_r78 G_E_r77 G_F_r77_java_lang_Integer_value G_F_r78_java_lang_Integer_value hp_17 hp_50) hZ (hw _ (List.mem_of_getElem? (i := 44) rfl)) (hw _ (List.mem_of_getElem? (i := 10) rfl)) (by decide) (by decide)) q85a q85b q85c (g := (mkF m 3 #[.val (.ref (A 0)), .val (.ref r77), .val (.ref r78)] [(.ref r78), (.ref r77), (.ref (A 0))])) rfl (by rw [hml]; rfl) (Steps.refl _) (argsL := [(.ref r78)]) (rest := [(.ref (A 0))]) (lenOf own_pd8 rfl) rfl (by show 2 * 0 + _ ≤ _; exact Nat.le_of_eq rfl) (hb hby own_d_prog_3_method_5_code_3) (fun _ _ => ⟨rfl, e0, (by decide : 0 + 0 ≤ _), (by decide : 0 + 0 ≤ _)⟩)
  dsimp only [Pt.U, Pt.locs, Pt.cells, Pt.slots] at X85 l85 y85 z85 st85 hQ85
  subst l85 y85 z85
  obtain ⟨rfl, N85q, e85⟩ := hQ85
  have N85 := Fr.app N0 N85q
  obtain ⟨cq87, q87, q87'⟩ := (EN.1.2.1.ext OL0.2).cell
  obtain ⟨_, _, ⟨T87, L87, k87, n87⟩, -, X87, ⟨Lc87, hQ87, l87, y87, z87⟩, st87⟩ := X85.privateBack hx (y := own_m1) hown (mvT hZ (hw _ (List.mem_of_getElem? (i := 57) rfl))) (mvT hZ (hw _ (List.mem_of_getElem? (i := 58) rfl))) (own_selpS (y := own_m1) (mvT hZ (hw _ (List.mem_of_getElem? (i := 18) rfl))) rfl (mvP (args := #[]) hZ (hw _ (List.mem_of_getElem? (i := 59) rfl))) (mvT hZ (hw _ (List.mem_of_getElem? (i := 58) rfl))) (by decide)) (Cond.privateMethod_at (mvP hZ (hw _ (List.mem_of_getElem? (i := 59) rfl)) (args := #[]))) (mvT hZ (hw _ (List.mem_of_getElem? (i := 60) rfl))) (by decide) (backOf (W := 0) (rm32 l Z a0 hw [] h0 n0 p1 p2 p3 A K EN OL0) hZ (hw _ (List.mem_of_getElem? (i := 60) rfl)) (hw _ (List.mem_of_getElem? (i := 6) rfl)) (by decide) (by decide)) (g := (mkF m 8 #[.val (.ref (A 0)), .val (.ref r77), .val (.ref r78)] [(.int (1 : Int32)), (.ref (A 0))])) rfl (by rw [hml]; rfl) (Steps.refl _) (a := (A 0)) (by rw [e85]; exact q87) q87' (argsL := [(.int (1 : Int32))]) (rest := []) (lenOf own_pd9 rfl) rfl (by show 2 * 0 + _ ≤ _; exact Nat.le_of_eq rfl) (hb hby own_d_prog_3_method_5_code_8) (fun _ _ => ⟨rfl, e85, (by decide : 0 + 0 ≤ _), (by decide : 0 + 0 ≤ _)⟩)
  dsimp only [Pt.U, Pt.locs, Pt.cells, Pt.slots] at X87 l87 y87 z87 st87 hQ87
  subst l87 y87 z87
  obtain ⟨rfl, N87q, e87⟩ := hQ87
  have N87 := Fr.app N85 N87q
  obtain ⟨fs, hr, hrun, hended, hW, hsame⟩ := X87.leave (v := some (.int (0 : Int32))) (fun h => by rw [Bd.returns] at h; cases h)
  refine ⟨_, _, pre0 _ ?_, hrun, hended, _, _, rfl, ?_, ⟨_, rfl⟩, hW, hsame.mono (by decide) (by decide)⟩
  · show Steps p.tables e below (s₁.setTop (mkF m 0 #[.val (.ref (A 0)), .val (.ref r77), .val (.ref r78)] [])) _
    refine XS.aloadN X0.here hx rfl (hb hby own_d_prog_3_method_5_code_0) rfl rfl ?_
    show Steps p.tables e below (s₁.setTop (mkF m 1 #[.val (.ref (A 0)), .val (.ref r77), .val (.ref r78)] [(.ref (A 0))])) _
    refine XS.aloadN X0.here hx rfl (hb hby own_d_prog_3_method_5_code_1) rfl rfl ?_
    show Steps p.tables e below (s₁.setTop (mkF m 2 #[.val (.ref (A 0)), .val (.ref r77), .val (.ref r78)] [(.ref r77), (.ref (A 0))])) _
    refine XS.aloadN X0.here hx rfl (hb hby own_d_prog_3_method_5_code_2) rfl rfl ?_
    show Steps p.tables e below (s₁.setTop (mkF m 3 #[.val (.ref (A 0)), .val (.ref r77), .val (.ref r78)] [(.ref r78), (.ref r77), (.ref (A 0))])) _
    refine st85.trans ?_
    show Steps p.tables e below (T85.setTop (mkF m 8 #[.val (.ref (A 0)), .val (.ref r77), .val (.ref r78)] [(.int (1 : Int32)), (.ref (A 0))])) _
    refine st87.trans ?_
    show Steps p.tables e below (T87.setTop (mkF m 11 #[.val (.ref (A 0)), .val (.ref r77), .val (.ref r78)] [(.int (0 : Int32))])) _
    exact retN X87 hx (t := .boolean) Bd.returns (by simp) (hb hby own_d_prog_3_method_5_code_11) hr
  · show PQ (some (.int (0 : Int32))) h0 n0 _ T87.heap _
    rw [e87]
    exact ⟨rfl, N87, rfl⟩
theorem own_ef_rm36 (m : MethodId) (p1 : Int32) (p2 : Int32) (p3 : Int32) (A : Nat → Addr) (K : Nat → ClassId)  : entryFrame m #[(.int p3), (.int p2)] 2 = mkF m 0 #[.val (.int p3), .val (.int p2)] [] := by first | (simp [entryFrame, mkF, argsToLocals, Value.category, maxLocals]; done) | rfl
set_option maxRecDepth 65536 in
set_option maxHeartbeats 40000000 in
theorem rm36 (l : Launch) (Z : State) (a0 : Array Value) (hw : ∀ d ∈ tables_1, d.before a0 Z = true) (ws : List Jvm.Cond) (h0 : Heap) (n0 : Nat) (p1 : Int32) (p2 : Int32) (p3 : Int32) (A : Nat → Addr) (K : Nat → ClassId)  (EN : own_St Z A K) (OL0 : Old Z n0 h0) (hp_17 : ¬ (p2 < p3)) (hp_50 : ¬ (p2 = p3)) :
    MetFree l own_m10 (head1 (Jvm.Cond.code own_m10 jdk_33_method_40_code 2 (some .int) :: ws) ({ frames := 0, cells := 0, slots := 0, locals := 0 } : Room)) (fun a U => a = #[(.int p3), (.int p2)] ∧ Z.Warmed39 U.vm ∧ U.heap = h0) (fun _ _ _ _ _ => True) (fun _ U o U' => ∃ v L, o = .returned v ∧ (PQ (some (.int (-1 : Int32))) h0 n0) v U'.heap L ∧ FrameEnd U o U' L ({ frames := 0, cells := 0, slots := 0, locals := 0 } : Room).cells ({ frames := 0, cells := 0, slots := 0, locals := 0 } : Room).slots) := by
  refine MetFree.of_bodySF (plainFor_of_name own_pn1) hisR ?_
  intro p e s m args below meth c s₁ Bd hml0 hP hK
  obtain ⟨rfl, hZ, hh⟩ := hP
  have hx := Bd.exec
  have hby := Bd.bytes
  have hml : c.maxLocals = 2 := hml0
  have hown : s.vm.findClass "java/lang/Integer" = some m.cls := findClass_of_methodNamed Bd.named
  have hnm := (name_of_methodNamed Bd.named Bd.method).1
  have X0 : Stand p l e ({ frames := 0, cells := 0, slots := 0, locals := 0 } : Room) s m #[(.int p3), (.int p2)] below meth c s₁ [] 0 0 := Stand.of_body Bd
  have e0 : s₁.heap = h0 := by rw [← hh, Bd.state]; rfl
  have N0 := Fr.nil n0
  have pre0 : ∀ t, Steps p.tables e below (s₁.setTop (mkF m 0 #[.val (.int p3), .val (.int p2)] [])) t → Steps p.tables e below (s₁.setTop (entryFrame m #[(.int p3), (.int p2)] 2)) t := fun t k => castTop (own_ef_rm36 m p1 p2 p3 A K ) k
  have KK0 : Keep h0 h0 [] := Keep.refl _ _
  obtain ⟨fs, hr, hrun, hended, hW, hsame⟩ := X0.leave (v := some (.int (-1 : Int32))) (fun h => by rw [Bd.returns] at h; cases h)
  refine ⟨_, _, pre0 _ ?_, hrun, hended, _, _, rfl, ?_, ⟨_, rfl⟩, hW, hsame.mono (by decide) (by decide)⟩
  · show Steps p.tables e below (s₁.setTop (mkF m 0 #[.val (.int p3), .val (.int p2)] [])) _
    refine XS.iloadN X0.here hx rfl (hb hby own_d_jdk_33_method_40_code_0) rfl ?_
    show Steps p.tables e below (s₁.setTop (mkF m 1 #[.val (.int p3), .val (.int p2)] [(.int p3)])) _
    refine XS.iloadN X0.here hx rfl (hb hby own_d_jdk_33_method_40_code_1) rfl ?_
    show Steps p.tables e below (s₁.setTop (mkF m 2 #[.val (.int p3), .val (.int p2)] [(.int p2), (.int p3)])) _
    refine XS.icmpNo X0.here hx rfl (hb hby own_d_jdk_33_method_40_code_2) rfl (tlt (own_n4 hp_17 hp_50)).2.1 ?_
    show Steps p.tables e below (s₁.setTop (mkF m 5 #[.val (.int p3), .val (.int p2)] [])) _
    refine XS.iconst X0.here hx rfl (hb hby own_d_jdk_33_method_40_code_5) ?_
    show Steps p.tables e below (s₁.setTop (mkF m 6 #[.val (.int p3), .val (.int p2)] [(.int (-1 : Int32))])) _
    refine XS.goto X0.here hx rfl (pc0 := 6) (pc' := 19) rfl (hb hby own_d_jdk_33_method_40_code_6) (by decide) (by decide) ?_
    show Steps p.tables e below (s₁.setTop (mkF m 19 #[.val (.int p3), .val (.int p2)] [(.int (-1 : Int32))])) _
    exact retI X0 hx Bd.returns (hb hby own_d_jdk_33_method_40_code_19) hr
  · show PQ (some (.int (-1 : Int32))) h0 n0 _ s₁.heap _
    rw [e0]
    exact ⟨rfl, N0, rfl⟩
theorem own_ef_rm35 (m : MethodId) (p1 : Int32) (p2 : Int32) (p3 : Int32) (A : Nat → Addr) (K : Nat → ClassId)  (r77 : Addr) (r78 : Addr) : entryFrame m #[(.ref r78), (.ref r77)] 2 = mkF m 0 #[.val (.ref r78), .val (.ref r77)] [] := by first | (simp [entryFrame, mkF, argsToLocals, Value.category, maxLocals]; done) | rfl
set_option maxRecDepth 65536 in
set_option maxHeartbeats 40000000 in
theorem rm35 (l : Launch) (Z : State) (a0 : Array Value) (hw : ∀ d ∈ tables_1, d.before a0 Z = true) (ws : List Jvm.Cond) (h0 : Heap) (n0 : Nat) (p1 : Int32) (p2 : Int32) (p3 : Int32) (A : Nat → Addr) (K : Nat → ClassId)  (r77 : Addr) (r78 : Addr) (EN : own_St Z A K) (OL0 : Old Z n0 h0) (G_F_r78_java_lang_Integer_value : Fld Z h0 r78 "java/lang/Integer" "value" "I" (.int p3)) (G_F_r77_java_lang_Integer_value : Fld Z h0 r77 "java/lang/Integer" "value" "I" (.int p2)) (hp_17 : ¬ (p2 < p3)) (hp_50 : ¬ (p2 = p3)) :
    MetFree l own_m8 (head1 (Jvm.Cond.code own_m8 jdk_33_method_39_code 2 (some .int) :: ws) ({ frames := 1, cells := 0, slots := 0, locals := 13 } : Room)) (fun a U => a = #[(.ref r78), (.ref r77)] ∧ Z.Warmed39 U.vm ∧ U.heap = h0) (fun _ _ _ _ _ => True) (fun _ U o U' => ∃ v L, o = .returned v ∧ (PQ (some (.int (-1 : Int32))) h0 n0) v U'.heap L ∧ FrameEnd U o U' L ({ frames := 1, cells := 0, slots := 0, locals := 13 } : Room).cells ({ frames := 1, cells := 0, slots := 0, locals := 13 } : Room).slots) := by
  refine MetFree.of_bodySF (plainFor_of_name own_pn1) hisR ?_
  intro p e s m args below meth c s₁ Bd hml0 hP hK
  obtain ⟨rfl, hZ, hh⟩ := hP
  have hx := Bd.exec
  have hby := Bd.bytes
  have hml : c.maxLocals = 2 := hml0
  have hown : s.vm.findClass "java/lang/Integer" = some m.cls := findClass_of_methodNamed Bd.named
  have hnm := (name_of_methodNamed Bd.named Bd.method).1
  have X0 : Stand p l e ({ frames := 1, cells := 0, slots := 0, locals := 13 } : Room) s m #[(.ref r78), (.ref r77)] below meth c s₁ [] 0 0 := Stand.of_body Bd
  have e0 : s₁.heap = h0 := by rw [← hh, Bd.state]; rfl
  have N0 := Fr.nil n0
  have pre0 : ∀ t, Steps p.tables e below (s₁.setTop (mkF m 0 #[.val (.ref r78), .val (.ref r77)] [])) t → Steps p.tables e below (s₁.setTop (entryFrame m #[(.ref r78), (.ref r77)] 2)) t := fun t k => castTop (own_ef_rm35 m p1 p2 p3 A K r77 r78) k
  have KK0 : Keep h0 h0 [] := Keep.refl _ _
  obtain ⟨T92, X92, e92, st92⟩ := getF X0 hx hZ hown (host := "") (Or.inl (hw _ (List.mem_of_getElem? (i := 52) rfl))) Via.refl e0 G_F_r78_java_lang_Integer_value (g := (mkF m 1 #[.val (.ref r78), .val (.ref r77)] [(.ref r78)])) rfl rfl (hb hby own_d_jdk_33_method_39_code_1)
  obtain ⟨T93, X93, e93, st93⟩ := getF X92 hx hZ hown (host := "") (Or.inl (hw _ (List.mem_of_getElem? (i := 52) rfl))) Via.refl e92 G_F_r77_java_lang_Integer_value (g := (mkF m 5 #[.val (.ref r78), .val (.ref r77)] [(.ref r77), (.int p3)])) rfl rfl (hb hby own_d_jdk_33_method_39_code_5)
  obtain ⟨_, _, ⟨T94, L94, k94, n94⟩, -, X94, ⟨Lc94, hQ94, l94, y94, z94⟩, st94⟩ := Jvm.LawKit.callS X93 hx (y := own_m10) hown (mvT hZ (hw _ (List.mem_of_getElem? (i := 54) rfl))) (mvT hZ (hw _ (List.mem_of_getElem? (i := 55) rfl))) (mvT hZ (hw _ (List.mem_of_getElem? (i := 10) rfl))) (mvT hZ (hw _ (List.mem_of_getElem? (i := 56) rfl))) (by decide) (backOf (W := 0) (rm36 l Z a0 hw [] h0 n0 p1 p2 p3 A K EN OL0 hp_17 hp_50) hZ (hw _ (List.mem_of_getElem? (i := 56) rfl)) (hw _ (List.mem_of_getElem? (i := 10) rfl)) (by decide) (by decide)) (g := (mkF m 8 #[.val (.ref r78), .val (.ref r77)] [(.int p2), (.int p3)])) rfl (by rw [hml]; rfl) (argsL := [(.int p3), (.int p2)]) (rest := []) (lenOf own_pd6 rfl) rfl (by show 2 * 0 + _ ≤ _; exact Nat.le_of_eq rfl) (hb hby own_d_jdk_33_method_39_code_8) (fun _ _ => ⟨rfl, e93, (by decide : 0 + 0 ≤ _), (by decide : 0 + 0 ≤ _)⟩)
  dsimp only [Pt.U, Pt.locs, Pt.cells, Pt.slots] at X94 l94 y94 z94 st94 hQ94
  subst l94 y94 z94
  obtain ⟨rfl, N94q, e94⟩ := hQ94
  have N94 := Fr.app N0 N94q
  obtain ⟨fs, hr, hrun, hended, hW, hsame⟩ := X94.leave (v := some (.int (-1 : Int32))) (fun h => by rw [Bd.returns] at h; cases h)
  refine ⟨_, _, pre0 _ ?_, hrun, hended, _, _, rfl, ?_, ⟨_, rfl⟩, hW, hsame.mono (by decide) (by decide)⟩
  · show Steps p.tables e below (s₁.setTop (mkF m 0 #[.val (.ref r78), .val (.ref r77)] [])) _
    refine XS.aloadN X0.here hx rfl (hb hby own_d_jdk_33_method_39_code_0) rfl rfl ?_
    show Steps p.tables e below (s₁.setTop (mkF m 1 #[.val (.ref r78), .val (.ref r77)] [(.ref r78)])) _
    refine st92 _ ?_
    show Steps p.tables e below (T92.setTop (mkF m 4 #[.val (.ref r78), .val (.ref r77)] [(.int p3)])) _
    refine XS.aloadN X92.here hx rfl (hb hby own_d_jdk_33_method_39_code_4) rfl rfl ?_
    show Steps p.tables e below (T92.setTop (mkF m 5 #[.val (.ref r78), .val (.ref r77)] [(.ref r77), (.int p3)])) _
    refine st93 _ ?_
    show Steps p.tables e below (T93.setTop (mkF m 8 #[.val (.ref r78), .val (.ref r77)] [(.int p2), (.int p3)])) _
    refine st94 _ ?_
    show Steps p.tables e below (T94.setTop (mkF m 11 #[.val (.ref r78), .val (.ref r77)] [(.int (-1 : Int32))])) _
    exact retI X94 hx Bd.returns (hb hby own_d_jdk_33_method_39_code_11) hr
  · show PQ (some (.int (-1 : Int32))) h0 n0 _ T94.heap _
    rw [e94]
    exact ⟨rfl, N94, rfl⟩
theorem own_ef_rm34 (m : MethodId) (p1 : Int32) (p2 : Int32) (p3 : Int32) (A : Nat → Addr) (K : Nat → ClassId)  (r77 : Addr) (r78 : Addr) : entryFrame m #[(.ref r78), (.ref r77)] 2 = mkF m 0 #[.val (.ref r78), .val (.ref r77)] [] := by first | (simp [entryFrame, mkF, argsToLocals, Value.category, maxLocals]; done) | rfl
set_option maxRecDepth 65536 in
set_option maxHeartbeats 40000000 in
theorem rm34 (l : Launch) (Z : State) (a0 : Array Value) (hw : ∀ d ∈ tables_1, d.before a0 Z = true) (ws : List Jvm.Cond) (h0 : Heap) (n0 : Nat) (p1 : Int32) (p2 : Int32) (p3 : Int32) (A : Nat → Addr) (K : Nat → ClassId)  (r77 : Addr) (r78 : Addr) (EN : own_St Z A K) (OL0 : Old Z n0 h0) (G_E_r77 : Exa Z h0 r77 "java/lang/Integer") (G_E_r78 : Exa Z h0 r78 "java/lang/Integer") (G_F_r78_java_lang_Integer_value : Fld Z h0 r78 "java/lang/Integer" "value" "I" (.int p3)) (G_F_r77_java_lang_Integer_value : Fld Z h0 r77 "java/lang/Integer" "value" "I" (.int p2)) (hp_17 : ¬ (p2 < p3)) (hp_50 : ¬ (p2 = p3)) :
    MetFree l own_m3 (head1 (Jvm.Cond.code own_m3 jdk_33_method_63_code 2 (some .int) :: ws) ({ frames := 2, cells := 0, slots := 0, locals := 26 } : Room)) (fun a U => a = #[(.ref r78), (.ref r77)] ∧ Z.Warmed39 U.vm ∧ U.heap = h0) (fun _ _ _ _ _ => True) (fun _ U o U' => ∃ v L, o = .returned v ∧ (PQ (some (.int (-1 : Int32))) h0 n0) v U'.heap L ∧ FrameEnd U o U' L ({ frames := 2, cells := 0, slots := 0, locals := 26 } : Room).cells ({ frames := 2, cells := 0, slots := 0, locals := 26 } : Room).slots) := by
  refine MetFree.of_bodySF (plainFor_of_name own_pn1) hisR ?_
  intro p e s m args below meth c s₁ Bd hml0 hP hK
  obtain ⟨rfl, hZ, hh⟩ := hP
  have hx := Bd.exec
  have hby := Bd.bytes
  have hml : c.maxLocals = 2 := hml0
  have hown : s.vm.findClass "java/lang/Integer" = some m.cls := findClass_of_methodNamed Bd.named
  have hnm := (name_of_methodNamed Bd.named Bd.method).1
  have X0 : Stand p l e ({ frames := 2, cells := 0, slots := 0, locals := 26 } : Room) s m #[(.ref r78), (.ref r77)] below meth c s₁ [] 0 0 := Stand.of_body Bd
  have e0 : s₁.heap = h0 := by rw [← hh, Bd.state]; rfl
  have N0 := Fr.nil n0
  have pre0 : ∀ t, Steps p.tables e below (s₁.setTop (mkF m 0 #[.val (.ref r78), .val (.ref r77)] [])) t → Steps p.tables e below (s₁.setTop (entryFrame m #[(.ref r78), (.ref r77)] 2)) t := fun t k => castTop (own_ef_rm34 m p1 p2 p3 A K r77 r78) k
  have KK0 : Keep h0 h0 [] := Keep.refl _ _
  obtain ⟨T91, X91, e91, st91⟩ := castY X0 hx hZ hown (hw _ (List.mem_of_getElem? (i := 45) rfl)) e0 (Ins.self G_E_r77) (g := (mkF m 2 #[.val (.ref r78), .val (.ref r77)] [(.ref r77), (.ref r78)])) rfl rfl (hb hby own_d_jdk_33_method_63_code_2)
  obtain ⟨cq95, kq95, q95a, q95b, q95c⟩ := isOf hZ e91 G_E_r78
  obtain ⟨_, _, ⟨T95, L95, k95, n95⟩, -, X95, ⟨Lc95, hQ95, l95, y95, z95⟩, st95⟩ := X91.virtualBack hx (y := own_m8) (z := own_m8) hown (mvT hZ (hw _ (List.mem_of_getElem? (i := 47) rfl))) (mvT hZ (hw _ (List.mem_of_getElem? (i := 48) rfl))) (notFace_of_selects (args := #[]) (mvT hZ (hw _ (List.mem_of_getElem? (i := 50) rfl)))) (mvT hZ (hw _ (List.mem_of_getElem? (i := 50) rfl))) (mvT hZ (hw _ (List.mem_of_getElem? (i := 49) rfl))) (by decide) (backOf (W := 0) (rm35 l Z a0 hw [] h0 n0 p1 p2 p3 A K r77 r78 EN OL0 G_F_r78_java_lang_Integer_value G_F_r77_java_lang_Integer_value hp_17 hp_50) hZ (hw _ (List.mem_of_getElem? (i := 51) rfl)) (hw _ (List.mem_of_getElem? (i := 10) rfl)) (by decide) (by decide)) q95a q95c (g := (mkF m 5 #[.val (.ref r78), .val (.ref r77)] [(.ref r77), (.ref r78)])) rfl (by rw [hml]; rfl) (Steps.refl _) (argsL := [(.ref r77)]) (rest := []) (lenOf own_pd7 rfl) rfl (by show 2 * 0 + _ ≤ _; exact Nat.le_of_eq rfl) (hb hby own_d_jdk_33_method_63_code_5) (fun _ _ => ⟨rfl, e91, (by decide : 0 + 0 ≤ _), (by decide : 0 + 0 ≤ _)⟩)
  dsimp only [Pt.U, Pt.locs, Pt.cells, Pt.slots] at X95 l95 y95 z95 st95 hQ95
  subst l95 y95 z95
  obtain ⟨rfl, N95q, e95⟩ := hQ95
  have N95 := Fr.app N0 N95q
  obtain ⟨fs, hr, hrun, hended, hW, hsame⟩ := X95.leave (v := some (.int (-1 : Int32))) (fun h => by rw [Bd.returns] at h; cases h)
  refine ⟨_, _, pre0 _ ?_, hrun, hended, _, _, rfl, ?_, ⟨_, rfl⟩, hW, hsame.mono (by decide) (by decide)⟩
  · show Steps p.tables e below (s₁.setTop (mkF m 0 #[.val (.ref r78), .val (.ref r77)] [])) _
    refine XS.aloadN X0.here hx rfl (hb hby own_d_jdk_33_method_63_code_0) rfl rfl ?_
    show Steps p.tables e below (s₁.setTop (mkF m 1 #[.val (.ref r78), .val (.ref r77)] [(.ref r78)])) _
    refine XS.aloadN X0.here hx rfl (hb hby own_d_jdk_33_method_63_code_1) rfl rfl ?_
    show Steps p.tables e below (s₁.setTop (mkF m 2 #[.val (.ref r78), .val (.ref r77)] [(.ref r77), (.ref r78)])) _
    refine st91 _ ?_
    show Steps p.tables e below (T91.setTop (mkF m 5 #[.val (.ref r78), .val (.ref r77)] [(.ref r77), (.ref r78)])) _
    refine st95.trans ?_
    show Steps p.tables e below (T95.setTop (mkF m 8 #[.val (.ref r78), .val (.ref r77)] [(.int (-1 : Int32))])) _
    exact retI X95 hx Bd.returns (hb hby own_d_jdk_33_method_63_code_8) hr
  · show PQ (some (.int (-1 : Int32))) h0 n0 _ T95.heap _
    rw [e95]
    exact ⟨rfl, N95, rfl⟩
theorem own_ef_rm37 (m : MethodId) (p1 : Int32) (p2 : Int32) (p3 : Int32) (A : Nat → Addr) (K : Nat → ClassId)  : entryFrame m #[(.ref (A 4)), (.int (-1 : Int32))] 2 = mkF m 0 #[.val (.ref (A 4)), .val (.int (-1 : Int32))] [] := by first | (simp [entryFrame, mkF, argsToLocals, Value.category, maxLocals]; done) | rfl
set_option maxRecDepth 65536 in
set_option maxHeartbeats 40000000 in
theorem rm37 (l : Launch) (Z : State) (a0 : Array Value) (hw : ∀ d ∈ tables_1, d.before a0 Z = true) (ws : List Jvm.Cond) (h0 : Heap) (n0 : Nat) (p1 : Int32) (p2 : Int32) (p3 : Int32) (A : Nat → Addr) (K : Nat → ClassId)  (EN : own_St Z A K) (OL0 : Old Z n0 h0) :
    MetFree l own_m1 (head1 (Jvm.Cond.code own_m1 prog_3_method_6_code 2 (some .boolean) :: ws) ({ frames := 1, cells := 0, slots := 0, locals := 12 } : Room)) (fun a U => a = #[(.ref (A 4)), (.int (-1 : Int32))] ∧ Z.Warmed39 U.vm ∧ U.heap = h0) (fun _ _ _ _ _ => True) (fun _ U o U' => ∃ v L, o = .returned v ∧ (PQ (some (.int (0 : Int32))) h0 n0) v U'.heap L ∧ FrameEnd U o U' L ({ frames := 1, cells := 0, slots := 0, locals := 12 } : Room).cells ({ frames := 1, cells := 0, slots := 0, locals := 12 } : Room).slots) := by
  refine MetFree.of_bodySF (plainFor_of_name own_pn4) hisR ?_
  intro p e s m args below meth c s₁ Bd hml0 hP hK
  obtain ⟨rfl, hZ, hh⟩ := hP
  have hx := Bd.exec
  have hby := Bd.bytes
  have hml : c.maxLocals = 2 := hml0
  have hown : s.vm.findClass "com/example/measurewright/measurewright/Comparison" = some m.cls := findClass_of_methodNamed Bd.named
  have hnm := (name_of_methodNamed Bd.named Bd.method).1
  have X0 : Stand p l e ({ frames := 1, cells := 0, slots := 0, locals := 12 } : Room) s m #[(.ref (A 4)), (.int (-1 : Int32))] below meth c s₁ [] 0 0 := Stand.of_body Bd
  have e0 : s₁.heap = h0 := by rw [← hh, Bd.state]; rfl
  have N0 := Fr.nil n0
  have pre0 : ∀ t, Steps p.tables e below (s₁.setTop (mkF m 0 #[.val (.ref (A 4)), .val (.int (-1 : Int32))] [])) t → Steps p.tables e below (s₁.setTop (entryFrame m #[(.ref (A 4)), (.int (-1 : Int32))] 2)) t := fun t k => castTop (own_ef_rm37 m p1 p2 p3 A K ) k
  have KK0 : Keep h0 h0 [] := Keep.refl _ _
  obtain ⟨cq97, kq97, q97a, q97b, q97c⟩ := isOf hZ e0 (EN.2.1.2.1.ext OL0.2)
  obtain ⟨_, _, ⟨T97, L97, k97, n97⟩, -, X97, ⟨Lc97, hQ97, l97, y97, z97⟩, st97⟩ := X0.virtualBackUp hx (x := own_m9) (y := own_m5) (owner := "java/lang/Enum") hown (mvT hZ (hw _ (List.mem_of_getElem? (i := 20) rfl))) (mvT hZ (hw _ (List.mem_of_getElem? (i := 21) rfl))) (mvT hZ (hw _ (List.mem_of_getElem? (i := 22) rfl))) (by decide) (mvT hZ (hw _ (List.mem_of_getElem? (i := 24) rfl))) (mvT hZ (hw _ (List.mem_of_getElem? (i := 23) rfl))) (backOf (W := 0) (rm16 l Z a0 hw [] h0 n0 p1 p2 p3 A K EN OL0) hZ (hw _ (List.mem_of_getElem? (i := 26) rfl)) (hw _ (List.mem_of_getElem? (i := 25) rfl)) (by decide) (by decide)) q97a q97c (g := (mkF m 1 #[.val (.ref (A 4)), .val (.int (-1 : Int32))] [(.ref (A 4))])) rfl (by rw [hml]; rfl) (Steps.refl _) (argsL := []) (rest := []) (lenOf own_pd4 rfl) rfl (by show 2 * 0 + _ ≤ _; exact Nat.le_of_eq rfl) (hb hby own_d_prog_3_method_6_code_1) (fun _ _ => ⟨rfl, e0, (by decide : 0 + 0 ≤ _), (by decide : 0 + 0 ≤ _)⟩)
  dsimp only [Pt.U, Pt.locs, Pt.cells, Pt.slots] at X97 l97 y97 z97 st97 hQ97
  subst l97 y97 z97
  obtain ⟨rfl, N97q, e97⟩ := hQ97
  have N97 := Fr.app N0 N97q
  obtain ⟨fs, hr, hrun, hended, hW, hsame⟩ := X97.leave (v := some (.int (0 : Int32))) (fun h => by rw [Bd.returns] at h; cases h)
  refine ⟨_, _, pre0 _ ?_, hrun, hended, _, _, rfl, ?_, ⟨_, rfl⟩, hW, hsame.mono (by decide) (by decide)⟩
  · show Steps p.tables e below (s₁.setTop (mkF m 0 #[.val (.ref (A 4)), .val (.int (-1 : Int32))] [])) _
    refine XS.aloadN X0.here hx rfl (hb hby own_d_prog_3_method_6_code_0) rfl rfl ?_
    show Steps p.tables e below (s₁.setTop (mkF m 1 #[.val (.ref (A 4)), .val (.int (-1 : Int32))] [(.ref (A 4))])) _
    refine st97.trans ?_
    show Steps p.tables e below (T97.setTop (mkF m 4 #[.val (.ref (A 4)), .val (.int (-1 : Int32))] [(.int (4 : Int32))])) _
    refine XS.tswIn X97.here hx rfl (pc0 := 4) (pc' := 98) rfl (hb hby own_d_prog_3_method_6_code_4) rfl (by decide) (o := 94) (by decide) (by decide) (by decide) ?_
    show Steps p.tables e below (T97.setTop (mkF m 98 #[.val (.ref (A 4)), .val (.int (-1 : Int32))] [])) _
    refine XS.iloadN X97.here hx rfl (hb hby own_d_prog_3_method_6_code_98) rfl ?_
    show Steps p.tables e below (T97.setTop (mkF m 99 #[.val (.ref (A 4)), .val (.int (-1 : Int32))] [(.int (-1 : Int32))])) _
    refine XS.ifYes X97.here hx rfl (pc0 := 99) (pc' := 106) rfl (hb hby own_d_prog_3_method_6_code_99) rfl ((if0 _ _).trans (flt (by decide : ¬ ((0 : Int32) < (-1 : Int32)))).2.2.2) (by decide) (by decide) ?_
    show Steps p.tables e below (T97.setTop (mkF m 106 #[.val (.ref (A 4)), .val (.int (-1 : Int32))] [])) _
    refine XS.iconst X97.here hx rfl (hb hby own_d_prog_3_method_6_code_106) ?_
    show Steps p.tables e below (T97.setTop (mkF m 107 #[.val (.ref (A 4)), .val (.int (-1 : Int32))] [(.int (0 : Int32))])) _
    exact retN X97 hx (t := .boolean) Bd.returns (by simp) (hb hby own_d_prog_3_method_6_code_107) hr
  · show PQ (some (.int (0 : Int32))) h0 n0 _ T97.heap _
    rw [e97]
    exact ⟨rfl, N97, rfl⟩
theorem own_ef_rm33 (m : MethodId) (p1 : Int32) (p2 : Int32) (p3 : Int32) (A : Nat → Addr) (K : Nat → ClassId)  (r77 : Addr) (r78 : Addr) : entryFrame m #[(.ref (A 4)), (.ref r78), (.ref r77)] 3 = mkF m 0 #[.val (.ref (A 4)), .val (.ref r78), .val (.ref r77)] [] := by first | (simp [entryFrame, mkF, argsToLocals, Value.category, maxLocals]; done) | rfl
set_option maxRecDepth 65536 in
set_option maxHeartbeats 40000000 in
theorem rm33 (l : Launch) (Z : State) (a0 : Array Value) (hw : ∀ d ∈ tables_1, d.before a0 Z = true) (ws : List Jvm.Cond) (h0 : Heap) (n0 : Nat) (p1 : Int32) (p2 : Int32) (p3 : Int32) (A : Nat → Addr) (K : Nat → ClassId)  (r77 : Addr) (r78 : Addr) (EN : own_St Z A K) (OL0 : Old Z n0 h0) (G_E_r78 : Exa Z h0 r78 "java/lang/Integer") (G_E_r77 : Exa Z h0 r77 "java/lang/Integer") (G_F_r78_java_lang_Integer_value : Fld Z h0 r78 "java/lang/Integer" "value" "I" (.int p3)) (G_F_r77_java_lang_Integer_value : Fld Z h0 r77 "java/lang/Integer" "value" "I" (.int p2)) (hp_17 : ¬ (p2 < p3)) (hp_50 : ¬ (p2 = p3)) :
    MetFree l own_m0 (head1 (Jvm.Cond.code own_m0 prog_3_method_5_code 3 (some .boolean) :: ws) ({ frames := 3, cells := 0, slots := 0, locals := 40 } : Room)) (fun a U => a = #[(.ref (A 4)), (.ref r78), (.ref r77)] ∧ Z.Warmed39 U.vm ∧ U.heap = h0) (fun _ _ _ _ _ => True) (fun _ U o U' => ∃ v L, o = .returned v ∧ (PQ (some (.int (0 : Int32))) h0 n0) v U'.heap L ∧ FrameEnd U o U' L ({ frames := 3, cells := 0, slots := 0, locals := 40 } : Room).cells ({ frames := 3, cells := 0, slots := 0, locals := 40 } : Room).slots) := by
  refine MetFree.of_bodySF (plainFor_of_name own_pn4) hisR ?_
  intro p e s m args below meth c s₁ Bd hml0 hP hK
  obtain ⟨rfl, hZ, hh⟩ := hP
  have hx := Bd.exec
  have hby := Bd.bytes
  have hml : c.maxLocals = 3 := hml0
  have hown : s.vm.findClass "com/example/measurewright/measurewright/Comparison" = some m.cls := findClass_of_methodNamed Bd.named
  have hnm := (name_of_methodNamed Bd.named Bd.method).1
  have X0 : Stand p l e ({ frames := 3, cells := 0, slots := 0, locals := 40 } : Room) s m #[(.ref (A 4)), (.ref r78), (.ref r77)] below meth c s₁ [] 0 0 := Stand.of_body Bd
  have e0 : s₁.heap = h0 := by rw [← hh, Bd.state]; rfl
  have N0 := Fr.nil n0
  have pre0 : ∀ t, Steps p.tables e below (s₁.setTop (mkF m 0 #[.val (.ref (A 4)), .val (.ref r78), .val (.ref r77)] [])) t → Steps p.tables e below (s₁.setTop (entryFrame m #[(.ref (A 4)), (.ref r78), (.ref r77)] 3)) t := fun t k => castTop (own_ef_rm33 m p1 p2 p3 A K r77 r78) k
  have KK0 : Keep h0 h0 [] := Keep.refl _ _
  obtain ⟨cq96, kq96, q96a, q96b, q96c⟩ := isOf hZ e0 G_E_r78
  obtain ⟨_, _, ⟨T96, L96, k96, n96⟩, -, X96, ⟨Lc96, hQ96, l96, y96, z96⟩, st96⟩ := X0.interfaceBack hx (xi := own_m6) (y := own_m3) hown (mvT hZ (hw _ (List.mem_of_getElem? (i := 36) rfl))) (mvT hZ (hw _ (List.mem_of_getElem? (i := 37) rfl))) (mvT hZ (hw _ (List.mem_of_getElem? (i := 38) rfl))) (mvT hZ (hw _ (List.mem_of_getElem? (i := 39) rfl))) (mvT hZ (hw _ (List.mem_of_getElem? (i := 40) rfl))) (mvT hZ (hw _ (List.mem_of_getElem? (i := 41) rfl))) (mvT hZ (hw _ (List.mem_of_getElem? (i := 42) rfl))) (mvT hZ (hw _ (List.mem_of_getElem? (i := 43) rfl))) (by decide) (backOf (W := 1) (rm34 l Z a0 hw [] h0 n0 p1 p2 p3 A K r77 r78 EN OL0 G_E_r77 G_E_r78 G_F_r78_java_lang_Integer_value G_F_r77_java_lang_Integer_value hp_17 hp_50) hZ (hw _ (List.mem_of_getElem? (i := 44) rfl)) (hw _ (List.mem_of_getElem? (i := 10) rfl)) (by decide) (by decide)) q96a q96b q96c (g := (mkF m 3 #[.val (.ref (A 4)), .val (.ref r78), .val (.ref r77)] [(.ref r77), (.ref r78), (.ref (A 4))])) rfl (by rw [hml]; rfl) (Steps.refl _) (argsL := [(.ref r77)]) (rest := [(.ref (A 4))]) (lenOf own_pd8 rfl) rfl (by show 2 * 0 + _ ≤ _; exact Nat.le_of_eq rfl) (hb hby own_d_prog_3_method_5_code_3) (fun _ _ => ⟨rfl, e0, (by decide : 0 + 0 ≤ _), (by decide : 0 + 0 ≤ _)⟩)
  dsimp only [Pt.U, Pt.locs, Pt.cells, Pt.slots] at X96 l96 y96 z96 st96 hQ96
  subst l96 y96 z96
  obtain ⟨rfl, N96q, e96⟩ := hQ96
  have N96 := Fr.app N0 N96q
  obtain ⟨cq98, q98, q98'⟩ := (EN.2.1.2.1.ext OL0.2).cell
  obtain ⟨_, _, ⟨T98, L98, k98, n98⟩, -, X98, ⟨Lc98, hQ98, l98, y98, z98⟩, st98⟩ := X96.privateBack hx (y := own_m1) hown (mvT hZ (hw _ (List.mem_of_getElem? (i := 57) rfl))) (mvT hZ (hw _ (List.mem_of_getElem? (i := 58) rfl))) (own_selpS (y := own_m1) (mvT hZ (hw _ (List.mem_of_getElem? (i := 18) rfl))) rfl (mvP (args := #[]) hZ (hw _ (List.mem_of_getElem? (i := 59) rfl))) (mvT hZ (hw _ (List.mem_of_getElem? (i := 58) rfl))) (by decide)) (Cond.privateMethod_at (mvP hZ (hw _ (List.mem_of_getElem? (i := 59) rfl)) (args := #[]))) (mvT hZ (hw _ (List.mem_of_getElem? (i := 60) rfl))) (by decide) (backOf (W := 0) (rm37 l Z a0 hw [] h0 n0 p1 p2 p3 A K EN OL0) hZ (hw _ (List.mem_of_getElem? (i := 60) rfl)) (hw _ (List.mem_of_getElem? (i := 6) rfl)) (by decide) (by decide)) (g := (mkF m 8 #[.val (.ref (A 4)), .val (.ref r78), .val (.ref r77)] [(.int (-1 : Int32)), (.ref (A 4))])) rfl (by rw [hml]; rfl) (Steps.refl _) (a := (A 4)) (by rw [e96]; exact q98) q98' (argsL := [(.int (-1 : Int32))]) (rest := []) (lenOf own_pd9 rfl) rfl (by show 2 * 0 + _ ≤ _; exact Nat.le_of_eq rfl) (hb hby own_d_prog_3_method_5_code_8) (fun _ _ => ⟨rfl, e96, (by decide : 0 + 0 ≤ _), (by decide : 0 + 0 ≤ _)⟩)
  dsimp only [Pt.U, Pt.locs, Pt.cells, Pt.slots] at X98 l98 y98 z98 st98 hQ98
  subst l98 y98 z98
  obtain ⟨rfl, N98q, e98⟩ := hQ98
  have N98 := Fr.app N96 N98q
  obtain ⟨fs, hr, hrun, hended, hW, hsame⟩ := X98.leave (v := some (.int (0 : Int32))) (fun h => by rw [Bd.returns] at h; cases h)
  refine ⟨_, _, pre0 _ ?_, hrun, hended, _, _, rfl, ?_, ⟨_, rfl⟩, hW, hsame.mono (by decide) (by decide)⟩
  · show Steps p.tables e below (s₁.setTop (mkF m 0 #[.val (.ref (A 4)), .val (.ref r78), .val (.ref r77)] [])) _
    refine XS.aloadN X0.here hx rfl (hb hby own_d_prog_3_method_5_code_0) rfl rfl ?_
    show Steps p.tables e below (s₁.setTop (mkF m 1 #[.val (.ref (A 4)), .val (.ref r78), .val (.ref r77)] [(.ref (A 4))])) _
    refine XS.aloadN X0.here hx rfl (hb hby own_d_prog_3_method_5_code_1) rfl rfl ?_
    show Steps p.tables e below (s₁.setTop (mkF m 2 #[.val (.ref (A 4)), .val (.ref r78), .val (.ref r77)] [(.ref r78), (.ref (A 4))])) _
    refine XS.aloadN X0.here hx rfl (hb hby own_d_prog_3_method_5_code_2) rfl rfl ?_
    show Steps p.tables e below (s₁.setTop (mkF m 3 #[.val (.ref (A 4)), .val (.ref r78), .val (.ref r77)] [(.ref r77), (.ref r78), (.ref (A 4))])) _
    refine st96.trans ?_
    show Steps p.tables e below (T96.setTop (mkF m 8 #[.val (.ref (A 4)), .val (.ref r78), .val (.ref r77)] [(.int (-1 : Int32)), (.ref (A 4))])) _
    refine st98.trans ?_
    show Steps p.tables e below (T98.setTop (mkF m 11 #[.val (.ref (A 4)), .val (.ref r78), .val (.ref r77)] [(.int (0 : Int32))])) _
    exact retN X98 hx (t := .boolean) Bd.returns (by simp) (hb hby own_d_prog_3_method_5_code_11) hr
  · show PQ (some (.int (0 : Int32))) h0 n0 _ T98.heap _
    rw [e98]
    exact ⟨rfl, N98, rfl⟩
theorem own_d_method_2_code_15 : decode method_2_code 15 = .ok (.iload_n 1, 1) := by decide +kernel
theorem own_d_method_2_code_16 : decode method_2_code 16 = .ok (.iconst 1, 1) := by decide +kernel
theorem own_d_method_2_code_17 : decode method_2_code 17 = .ok (.if_icmp .ne 7, 3) := by decide +kernel
theorem own_d_method_2_code_20 : decode method_2_code 20 = .ok (.getstatic 14, 3) := by decide +kernel
theorem own_d_method_2_code_23 : decode method_2_code 23 = .ok (.areturn, 1) := by decide +kernel
theorem own_ef_rm38 (m : MethodId) (p1 : Int32) (p2 : Int32) (p3 : Int32) (A : Nat → Addr) (K : Nat → ClassId)  : entryFrame m #[(.int p1)] 2 = mkF m 0 #[.val (.int p1), .unset] [] := by first | (simp [entryFrame, mkF, argsToLocals, Value.category, maxLocals]; done) | rfl
set_option maxRecDepth 65536 in
set_option maxHeartbeats 40000000 in
theorem rm38 (l : Launch) (Z : State) (a0 : Array Value) (hw : ∀ d ∈ tables_1, d.before a0 Z = true) (ws : List Jvm.Cond) (h0 : Heap) (n0 : Nat) (p1 : Int32) (p2 : Int32) (p3 : Int32) (A : Nat → Addr) (K : Nat → ClassId)  (EN : own_St Z A K) (OL0 : Old Z n0 h0) (hk16 : ((p1 &&& (2147483647 : Int32)) % (5 : Int32)) = (1 : Int32)) :
    MetFree l own_m7 (head1 (Jvm.Cond.code own_m7 method_2_code 2 (some (.object "com/example/measurewright/measurewright/Comparison")) :: ws) ({ frames := 0, cells := 0, slots := 0, locals := 0 } : Room)) (fun a U => a = #[(.int p1)] ∧ Z.Warmed39 U.vm ∧ U.heap = h0) (fun _ _ _ _ _ => True) (fun _ U o U' => ∃ v L, o = .returned v ∧ (PQ (some (.ref (A 1))) h0 n0) v U'.heap L ∧ FrameEnd U o U' L ({ frames := 0, cells := 0, slots := 0, locals := 0 } : Room).cells ({ frames := 0, cells := 0, slots := 0, locals := 0 } : Room).slots) := by
  refine MetFree.of_bodySF (plainFor_of_name own_pn2) hisR ?_
  intro p e s m args below meth c s₁ Bd hml0 hP hK
  obtain ⟨rfl, hZ, hh⟩ := hP
  have hx := Bd.exec
  have hby := Bd.bytes
  have hml : c.maxLocals = 2 := hml0
  have hown : s.vm.findClass "com/example/measurewright/measurewright/ComparisonConversePinLaw" = some m.cls := findClass_of_methodNamed Bd.named
  have hnm := (name_of_methodNamed Bd.named Bd.method).1
  have X0 : Stand p l e ({ frames := 0, cells := 0, slots := 0, locals := 0 } : Room) s m #[(.int p1)] below meth c s₁ [] 0 0 := Stand.of_body Bd
  have e0 : s₁.heap = h0 := by rw [← hh, Bd.state]; rfl
  have N0 := Fr.nil n0
  have pre0 : ∀ t, Steps p.tables e below (s₁.setTop (mkF m 0 #[.val (.int p1), .unset] [])) t → Steps p.tables e below (s₁.setTop (entryFrame m #[(.int p1)] 2)) t := fun t k => castTop (own_ef_rm38 m p1 p2 p3 A K ) k
  have KK0 : Keep h0 h0 [] := Keep.refl _ _
  obtain ⟨T102, X102, e102, st102⟩ := getS2 X0 hx hZ hown (host := "") (Or.inl (hw _ (List.mem_of_getElem? (i := 62) rfl))) Via.refl e0 (EN.1.2.2.1.ext OL0.2) (g := (mkF m 20 #[.val (.int p1), .val (.int (1 : Int32))] [])) rfl (hb hby own_d_method_2_code_20)
  obtain ⟨fs, hr, hrun, hended, hW, hsame⟩ := X102.leave (v := some (.ref (A 1))) (fun h => by rw [Bd.returns] at h; cases h)
  refine ⟨_, _, pre0 _ ?_, hrun, hended, _, _, rfl, ?_, ⟨_, rfl⟩, hW, hsame.mono (by decide) (by decide)⟩
  · show Steps p.tables e below (s₁.setTop (mkF m 0 #[.val (.int p1), .unset] [])) _
    refine XS.iloadN X0.here hx rfl (hb hby own_d_method_2_code_0) rfl ?_
    show Steps p.tables e below (s₁.setTop (mkF m 1 #[.val (.int p1), .unset] [(.int p1)])) _
    refine X0.ldcInt hx hown (mvT hZ (hw _ (List.mem_of_getElem? (i := 4) rfl))) (g := (mkF m 1 #[.val (.int p1), .unset] [(.int p1)])) rfl (hb hby own_d_method_2_code_1) _ ?_
    show Steps p.tables e below (s₁.setTop (mkF m 3 #[.val (.int p1), .unset] [(.int (2147483647 : Int32)), (.int p1)])) _
    refine XS.iand X0.here hx rfl (hb hby own_d_method_2_code_3) rfl ?_
    show Steps p.tables e below (s₁.setTop (mkF m 4 #[.val (.int p1), .unset] [(.int (p1 &&& (2147483647 : Int32)))])) _
    refine XS.iconst X0.here hx rfl (hb hby own_d_method_2_code_4) ?_
    show Steps p.tables e below (s₁.setTop (mkF m 5 #[.val (.int p1), .unset] [(.int (5 : Int32)), (.int (p1 &&& (2147483647 : Int32)))])) _
    refine iremM X0 hx rfl (hb hby own_d_method_2_code_5) rfl (by decide) ?_
    show Steps p.tables e below (s₁.setTop (mkF m 6 #[.val (.int p1), .unset] [(.int ((p1 &&& (2147483647 : Int32)) % (5 : Int32)))])) _
    rw [hk16]
    show Steps p.tables e below (s₁.setTop (mkF m 6 #[.val (.int p1), .unset] [(.int (1 : Int32))])) _
    refine XS.istoreN X0.here hx rfl (hb hby own_d_method_2_code_6) rfl (l' := #[.val (.int p1), .val (.int (1 : Int32))]) rfl ?_
    show Steps p.tables e below (s₁.setTop (mkF m 7 #[.val (.int p1), .val (.int (1 : Int32))] [])) _
    refine XS.iloadN X0.here hx rfl (hb hby own_d_method_2_code_7) rfl ?_
    show Steps p.tables e below (s₁.setTop (mkF m 8 #[.val (.int p1), .val (.int (1 : Int32))] [(.int (1 : Int32))])) _
    refine XS.ifYes X0.here hx rfl (pc0 := 8) (pc' := 15) rfl (hb hby own_d_method_2_code_8) rfl ((if0 _ _).trans (feq (by decide : ¬ ((1 : Int32) = (0 : Int32)))).2) (by decide) (by decide) ?_
    show Steps p.tables e below (s₁.setTop (mkF m 15 #[.val (.int p1), .val (.int (1 : Int32))] [])) _
    refine XS.iloadN X0.here hx rfl (hb hby own_d_method_2_code_15) rfl ?_
    show Steps p.tables e below (s₁.setTop (mkF m 16 #[.val (.int p1), .val (.int (1 : Int32))] [(.int (1 : Int32))])) _
    refine XS.iconst X0.here hx rfl (hb hby own_d_method_2_code_16) ?_
    show Steps p.tables e below (s₁.setTop (mkF m 17 #[.val (.int p1), .val (.int (1 : Int32))] [(.int (1 : Int32)), (.int (1 : Int32))])) _
    refine XS.icmpNo X0.here hx rfl (hb hby own_d_method_2_code_17) rfl (teq (by decide : (1 : Int32) = (1 : Int32))).2 ?_
    show Steps p.tables e below (s₁.setTop (mkF m 20 #[.val (.int p1), .val (.int (1 : Int32))] [])) _
    refine st102 _ ?_
    show Steps p.tables e below (T102.setTop (mkF m 23 #[.val (.int p1), .val (.int (1 : Int32))] [(.ref (A 1))])) _
    exact retOut X102 hx Bd.returns rfl (Or.inr (Or.inr (Or.inr (Or.inr ⟨rfl, rfl, rfl⟩)))) (hb hby own_d_method_2_code_23) hr
  · show PQ (some (.ref (A 1))) h0 n0 _ T102.heap _
    rw [e102]
    exact ⟨rfl, N0, rfl⟩
theorem own_ef_rm40 (m : MethodId) (p1 : Int32) (p2 : Int32) (p3 : Int32) (A : Nat → Addr) (K : Nat → ClassId)  : entryFrame m #[(.ref (A 1))] 1 = mkF m 0 #[.val (.ref (A 1))] [] := by first | (simp [entryFrame, mkF, argsToLocals, Value.category, maxLocals]; done) | rfl
set_option maxRecDepth 65536 in
set_option maxHeartbeats 40000000 in
theorem rm40 (l : Launch) (Z : State) (a0 : Array Value) (hw : ∀ d ∈ tables_1, d.before a0 Z = true) (ws : List Jvm.Cond) (h0 : Heap) (n0 : Nat) (p1 : Int32) (p2 : Int32) (p3 : Int32) (A : Nat → Addr) (K : Nat → ClassId)  (EN : own_St Z A K) (OL0 : Old Z n0 h0) :
    MetFree l own_m5 (head1 (Jvm.Cond.code own_m5 jdk_37_method_2_code 1 (some .int) :: ws) ({ frames := 0, cells := 0, slots := 0, locals := 0 } : Room)) (fun a U => a = #[(.ref (A 1))] ∧ Z.Warmed39 U.vm ∧ U.heap = h0) (fun _ _ _ _ _ => True) (fun _ U o U' => ∃ v L, o = .returned v ∧ (PQ (some (.int (1 : Int32))) h0 n0) v U'.heap L ∧ FrameEnd U o U' L ({ frames := 0, cells := 0, slots := 0, locals := 0 } : Room).cells ({ frames := 0, cells := 0, slots := 0, locals := 0 } : Room).slots) := by
  refine MetFree.of_bodySF (plainFor_of_name own_pn3) hisR ?_
  intro p e s m args below meth c s₁ Bd hml0 hP hK
  obtain ⟨rfl, hZ, hh⟩ := hP
  have hx := Bd.exec
  have hby := Bd.bytes
  have hml : c.maxLocals = 1 := hml0
  have hown : s.vm.findClass "java/lang/Enum" = some m.cls := findClass_of_methodNamed Bd.named
  have hnm := (name_of_methodNamed Bd.named Bd.method).1
  have X0 : Stand p l e ({ frames := 0, cells := 0, slots := 0, locals := 0 } : Room) s m #[(.ref (A 1))] below meth c s₁ [] 0 0 := Stand.of_body Bd
  have e0 : s₁.heap = h0 := by rw [← hh, Bd.state]; rfl
  have N0 := Fr.nil n0
  have pre0 : ∀ t, Steps p.tables e below (s₁.setTop (mkF m 0 #[.val (.ref (A 1))] [])) t → Steps p.tables e below (s₁.setTop (entryFrame m #[(.ref (A 1))] 1)) t := fun t k => castTop (own_ef_rm40 m p1 p2 p3 A K ) k
  have KK0 : Keep h0 h0 [] := Keep.refl _ _
  obtain ⟨T106, X106, e106, st106⟩ := getF X0 hx hZ hown (host := "") (Or.inl (hw _ (List.mem_of_getElem? (i := 27) rfl))) Via.refl e0 (EN.2.1.2.2.2.2.2.2.1.ext OL0.2) (g := (mkF m 1 #[.val (.ref (A 1))] [(.ref (A 1))])) rfl rfl (hb hby own_d_jdk_37_method_2_code_1)
  obtain ⟨fs, hr, hrun, hended, hW, hsame⟩ := X106.leave (v := some (.int (1 : Int32))) (fun h => by rw [Bd.returns] at h; cases h)
  refine ⟨_, _, pre0 _ ?_, hrun, hended, _, _, rfl, ?_, ⟨_, rfl⟩, hW, hsame.mono (by decide) (by decide)⟩
  · show Steps p.tables e below (s₁.setTop (mkF m 0 #[.val (.ref (A 1))] [])) _
    refine XS.aloadN X0.here hx rfl (hb hby own_d_jdk_37_method_2_code_0) rfl rfl ?_
    show Steps p.tables e below (s₁.setTop (mkF m 1 #[.val (.ref (A 1))] [(.ref (A 1))])) _
    refine st106 _ ?_
    show Steps p.tables e below (T106.setTop (mkF m 4 #[.val (.ref (A 1))] [(.int (1 : Int32))])) _
    exact retI X106 hx Bd.returns (hb hby own_d_jdk_37_method_2_code_4) hr
  · show PQ (some (.int (1 : Int32))) h0 n0 _ T106.heap _
    rw [e106]
    exact ⟨rfl, N0, rfl⟩
theorem own_d_prog_3_method_7_code_56 : decode prog_3_method_7_code 56 = .ok (.getstatic 13, 3) := by decide +kernel
theorem own_d_prog_3_method_7_code_59 : decode prog_3_method_7_code 59 = .ok (.goto 18, 3) := by decide +kernel
theorem own_ef_rm39 (m : MethodId) (p1 : Int32) (p2 : Int32) (p3 : Int32) (A : Nat → Addr) (K : Nat → ClassId)  : entryFrame m #[(.ref (A 1))] 1 = mkF m 0 #[.val (.ref (A 1))] [] := by first | (simp [entryFrame, mkF, argsToLocals, Value.category, maxLocals]; done) | rfl
set_option maxRecDepth 65536 in
set_option maxHeartbeats 40000000 in
theorem rm39 (l : Launch) (Z : State) (a0 : Array Value) (hw : ∀ d ∈ tables_1, d.before a0 Z = true) (ws : List Jvm.Cond) (h0 : Heap) (n0 : Nat) (p1 : Int32) (p2 : Int32) (p3 : Int32) (A : Nat → Addr) (K : Nat → ClassId)  (EN : own_St Z A K) (OL0 : Old Z n0 h0) :
    MetFree l own_m2 (head1 (Jvm.Cond.code own_m2 prog_3_method_7_code 1 (some (.object "com/example/measurewright/measurewright/Comparison")) :: ws) ({ frames := 1, cells := 0, slots := 0, locals := 12 } : Room)) (fun a U => a = #[(.ref (A 1))] ∧ Z.Warmed39 U.vm ∧ U.heap = h0) (fun _ _ _ _ _ => True) (fun _ U o U' => ∃ v L, o = .returned v ∧ (PQ (some (.ref (A 3))) h0 n0) v U'.heap L ∧ FrameEnd U o U' L ({ frames := 1, cells := 0, slots := 0, locals := 12 } : Room).cells ({ frames := 1, cells := 0, slots := 0, locals := 12 } : Room).slots) := by
  refine MetFree.of_bodySF (plainFor_of_name own_pn4) hisR ?_
  intro p e s m args below meth c s₁ Bd hml0 hP hK
  obtain ⟨rfl, hZ, hh⟩ := hP
  have hx := Bd.exec
  have hby := Bd.bytes
  have hml : c.maxLocals = 1 := hml0
  have hown : s.vm.findClass "com/example/measurewright/measurewright/Comparison" = some m.cls := findClass_of_methodNamed Bd.named
  have hnm := (name_of_methodNamed Bd.named Bd.method).1
  have X0 : Stand p l e ({ frames := 1, cells := 0, slots := 0, locals := 12 } : Room) s m #[(.ref (A 1))] below meth c s₁ [] 0 0 := Stand.of_body Bd
  have e0 : s₁.heap = h0 := by rw [← hh, Bd.state]; rfl
  have N0 := Fr.nil n0
  have pre0 : ∀ t, Steps p.tables e below (s₁.setTop (mkF m 0 #[.val (.ref (A 1))] [])) t → Steps p.tables e below (s₁.setTop (entryFrame m #[(.ref (A 1))] 1)) t := fun t k => castTop (own_ef_rm39 m p1 p2 p3 A K ) k
  have KK0 : Keep h0 h0 [] := Keep.refl _ _
  obtain ⟨cq107, kq107, q107a, q107b, q107c⟩ := isOf hZ e0 (EN.1.2.2.2.1.ext OL0.2)
  obtain ⟨_, _, ⟨T107, L107, k107, n107⟩, -, X107, ⟨Lc107, hQ107, l107, y107, z107⟩, st107⟩ := X0.virtualBackUp hx (x := own_m9) (y := own_m5) (owner := "java/lang/Enum") hown (mvT hZ (hw _ (List.mem_of_getElem? (i := 20) rfl))) (mvT hZ (hw _ (List.mem_of_getElem? (i := 21) rfl))) (mvT hZ (hw _ (List.mem_of_getElem? (i := 22) rfl))) (by decide) (mvT hZ (hw _ (List.mem_of_getElem? (i := 24) rfl))) (mvT hZ (hw _ (List.mem_of_getElem? (i := 23) rfl))) (backOf (W := 0) (rm40 l Z a0 hw [] h0 n0 p1 p2 p3 A K EN OL0) hZ (hw _ (List.mem_of_getElem? (i := 26) rfl)) (hw _ (List.mem_of_getElem? (i := 25) rfl)) (by decide) (by decide)) q107a q107c (g := (mkF m 1 #[.val (.ref (A 1))] [(.ref (A 1))])) rfl (by rw [hml]; rfl) (Steps.refl _) (argsL := []) (rest := []) (lenOf own_pd4 rfl) rfl (by show 2 * 0 + _ ≤ _; exact Nat.le_of_eq rfl) (hb hby own_d_prog_3_method_7_code_1) (fun _ _ => ⟨rfl, e0, (by decide : 0 + 0 ≤ _), (by decide : 0 + 0 ≤ _)⟩)
  dsimp only [Pt.U, Pt.locs, Pt.cells, Pt.slots] at X107 l107 y107 z107 st107 hQ107
  subst l107 y107 z107
  obtain ⟨rfl, N107q, e107⟩ := hQ107
  have N107 := Fr.app N0 N107q
  obtain ⟨T108, X108, e108, st108⟩ := getS2 X107 hx hZ hown (host := "") (Or.inl (hw _ (List.mem_of_getElem? (i := 64) rfl))) Via.refl e107 (EN.1.2.2.2.2.2.2.1.ext OL0.2) (g := (mkF m 56 #[.val (.ref (A 1))] [])) rfl (hb hby own_d_prog_3_method_7_code_56)
  obtain ⟨fs, hr, hrun, hended, hW, hsame⟩ := X108.leave (v := some (.ref (A 3))) (fun h => by rw [Bd.returns] at h; cases h)
  refine ⟨_, _, pre0 _ ?_, hrun, hended, _, _, rfl, ?_, ⟨_, rfl⟩, hW, hsame.mono (by decide) (by decide)⟩
  · show Steps p.tables e below (s₁.setTop (mkF m 0 #[.val (.ref (A 1))] [])) _
    refine XS.aloadN X0.here hx rfl (hb hby own_d_prog_3_method_7_code_0) rfl rfl ?_
    show Steps p.tables e below (s₁.setTop (mkF m 1 #[.val (.ref (A 1))] [(.ref (A 1))])) _
    refine st107.trans ?_
    show Steps p.tables e below (T107.setTop (mkF m 4 #[.val (.ref (A 1))] [(.int (1 : Int32))])) _
    refine XS.tswIn X107.here hx rfl (pc0 := 4) (pc' := 56) rfl (hb hby own_d_prog_3_method_7_code_4) rfl (by decide) (o := 52) (by decide) (by decide) (by decide) ?_
    show Steps p.tables e below (T107.setTop (mkF m 56 #[.val (.ref (A 1))] [])) _
    refine st108 _ ?_
    show Steps p.tables e below (T108.setTop (mkF m 59 #[.val (.ref (A 1))] [(.ref (A 3))])) _
    refine XS.goto X108.here hx rfl (pc0 := 59) (pc' := 77) rfl (hb hby own_d_prog_3_method_7_code_59) (by decide) (by decide) ?_
    show Steps p.tables e below (T108.setTop (mkF m 77 #[.val (.ref (A 1))] [(.ref (A 3))])) _
    exact retOut X108 hx Bd.returns rfl (Or.inr (Or.inr (Or.inr (Or.inr ⟨rfl, rfl, rfl⟩)))) (hb hby own_d_prog_3_method_7_code_77) hr
  · show PQ (some (.ref (A 3))) h0 n0 _ T108.heap _
    rw [e108]
    exact ⟨rfl, N107, rfl⟩
theorem own_d_prog_3_method_6_code_62 : decode prog_3_method_6_code 62 = .ok (.iload_n 1, 1) := by decide +kernel
theorem own_d_prog_3_method_6_code_63 : decode prog_3_method_6_code 63 = .ok (.ifCond .gt 7, 3) := by decide +kernel
theorem own_d_prog_3_method_6_code_66 : decode prog_3_method_6_code 66 = .ok (.iconst 1, 1) := by decide +kernel
theorem own_d_prog_3_method_6_code_67 : decode prog_3_method_6_code 67 = .ok (.goto 40, 3) := by decide +kernel
theorem own_ef_rm42 (m : MethodId) (p1 : Int32) (p2 : Int32) (p3 : Int32) (A : Nat → Addr) (K : Nat → ClassId)  : entryFrame m #[(.ref (A 1)), (.int (-1 : Int32))] 2 = mkF m 0 #[.val (.ref (A 1)), .val (.int (-1 : Int32))] [] := by first | (simp [entryFrame, mkF, argsToLocals, Value.category, maxLocals]; done) | rfl
set_option maxRecDepth 65536 in
set_option maxHeartbeats 40000000 in
theorem rm42 (l : Launch) (Z : State) (a0 : Array Value) (hw : ∀ d ∈ tables_1, d.before a0 Z = true) (ws : List Jvm.Cond) (h0 : Heap) (n0 : Nat) (p1 : Int32) (p2 : Int32) (p3 : Int32) (A : Nat → Addr) (K : Nat → ClassId)  (EN : own_St Z A K) (OL0 : Old Z n0 h0) :
    MetFree l own_m1 (head1 (Jvm.Cond.code own_m1 prog_3_method_6_code 2 (some .boolean) :: ws) ({ frames := 1, cells := 0, slots := 0, locals := 12 } : Room)) (fun a U => a = #[(.ref (A 1)), (.int (-1 : Int32))] ∧ Z.Warmed39 U.vm ∧ U.heap = h0) (fun _ _ _ _ _ => True) (fun _ U o U' => ∃ v L, o = .returned v ∧ (PQ (some (.int (1 : Int32))) h0 n0) v U'.heap L ∧ FrameEnd U o U' L ({ frames := 1, cells := 0, slots := 0, locals := 12 } : Room).cells ({ frames := 1, cells := 0, slots := 0, locals := 12 } : Room).slots) := by
  refine MetFree.of_bodySF (plainFor_of_name own_pn4) hisR ?_
  intro p e s m args below meth c s₁ Bd hml0 hP hK
  obtain ⟨rfl, hZ, hh⟩ := hP
  have hx := Bd.exec
  have hby := Bd.bytes
  have hml : c.maxLocals = 2 := hml0
  have hown : s.vm.findClass "com/example/measurewright/measurewright/Comparison" = some m.cls := findClass_of_methodNamed Bd.named
  have hnm := (name_of_methodNamed Bd.named Bd.method).1
  have X0 : Stand p l e ({ frames := 1, cells := 0, slots := 0, locals := 12 } : Room) s m #[(.ref (A 1)), (.int (-1 : Int32))] below meth c s₁ [] 0 0 := Stand.of_body Bd
  have e0 : s₁.heap = h0 := by rw [← hh, Bd.state]; rfl
  have N0 := Fr.nil n0
  have pre0 : ∀ t, Steps p.tables e below (s₁.setTop (mkF m 0 #[.val (.ref (A 1)), .val (.int (-1 : Int32))] [])) t → Steps p.tables e below (s₁.setTop (entryFrame m #[(.ref (A 1)), (.int (-1 : Int32))] 2)) t := fun t k => castTop (own_ef_rm42 m p1 p2 p3 A K ) k
  have KK0 : Keep h0 h0 [] := Keep.refl _ _
  obtain ⟨cq111, kq111, q111a, q111b, q111c⟩ := isOf hZ e0 (EN.1.2.2.2.1.ext OL0.2)
  obtain ⟨_, _, ⟨T111, L111, k111, n111⟩, -, X111, ⟨Lc111, hQ111, l111, y111, z111⟩, st111⟩ := X0.virtualBackUp hx (x := own_m9) (y := own_m5) (owner := "java/lang/Enum") hown (mvT hZ (hw _ (List.mem_of_getElem? (i := 20) rfl))) (mvT hZ (hw _ (List.mem_of_getElem? (i := 21) rfl))) (mvT hZ (hw _ (List.mem_of_getElem? (i := 22) rfl))) (by decide) (mvT hZ (hw _ (List.mem_of_getElem? (i := 24) rfl))) (mvT hZ (hw _ (List.mem_of_getElem? (i := 23) rfl))) (backOf (W := 0) (rm40 l Z a0 hw [] h0 n0 p1 p2 p3 A K EN OL0) hZ (hw _ (List.mem_of_getElem? (i := 26) rfl)) (hw _ (List.mem_of_getElem? (i := 25) rfl)) (by decide) (by decide)) q111a q111c (g := (mkF m 1 #[.val (.ref (A 1)), .val (.int (-1 : Int32))] [(.ref (A 1))])) rfl (by rw [hml]; rfl) (Steps.refl _) (argsL := []) (rest := []) (lenOf own_pd4 rfl) rfl (by show 2 * 0 + _ ≤ _; exact Nat.le_of_eq rfl) (hb hby own_d_prog_3_method_6_code_1) (fun _ _ => ⟨rfl, e0, (by decide : 0 + 0 ≤ _), (by decide : 0 + 0 ≤ _)⟩)
  dsimp only [Pt.U, Pt.locs, Pt.cells, Pt.slots] at X111 l111 y111 z111 st111 hQ111
  subst l111 y111 z111
  obtain ⟨rfl, N111q, e111⟩ := hQ111
  have N111 := Fr.app N0 N111q
  obtain ⟨fs, hr, hrun, hended, hW, hsame⟩ := X111.leave (v := some (.int (1 : Int32))) (fun h => by rw [Bd.returns] at h; cases h)
  refine ⟨_, _, pre0 _ ?_, hrun, hended, _, _, rfl, ?_, ⟨_, rfl⟩, hW, hsame.mono (by decide) (by decide)⟩
  · show Steps p.tables e below (s₁.setTop (mkF m 0 #[.val (.ref (A 1)), .val (.int (-1 : Int32))] [])) _
    refine XS.aloadN X0.here hx rfl (hb hby own_d_prog_3_method_6_code_0) rfl rfl ?_
    show Steps p.tables e below (s₁.setTop (mkF m 1 #[.val (.ref (A 1)), .val (.int (-1 : Int32))] [(.ref (A 1))])) _
    refine st111.trans ?_
    show Steps p.tables e below (T111.setTop (mkF m 4 #[.val (.ref (A 1)), .val (.int (-1 : Int32))] [(.int (1 : Int32))])) _
    refine XS.tswIn X111.here hx rfl (pc0 := 4) (pc' := 62) rfl (hb hby own_d_prog_3_method_6_code_4) rfl (by decide) (o := 58) (by decide) (by decide) (by decide) ?_
    show Steps p.tables e below (T111.setTop (mkF m 62 #[.val (.ref (A 1)), .val (.int (-1 : Int32))] [])) _
    refine XS.iloadN X111.here hx rfl (hb hby own_d_prog_3_method_6_code_62) rfl ?_
    show Steps p.tables e below (T111.setTop (mkF m 63 #[.val (.ref (A 1)), .val (.int (-1 : Int32))] [(.int (-1 : Int32))])) _
    refine XS.ifNo X111.here hx rfl (hb hby own_d_prog_3_method_6_code_63) rfl ((if0 _ _).trans (flt (by decide : ¬ ((0 : Int32) < (-1 : Int32)))).2.2.1) ?_
    show Steps p.tables e below (T111.setTop (mkF m 66 #[.val (.ref (A 1)), .val (.int (-1 : Int32))] [])) _
    refine XS.iconst X111.here hx rfl (hb hby own_d_prog_3_method_6_code_66) ?_
    show Steps p.tables e below (T111.setTop (mkF m 67 #[.val (.ref (A 1)), .val (.int (-1 : Int32))] [(.int (1 : Int32))])) _
    refine XS.goto X111.here hx rfl (pc0 := 67) (pc' := 107) rfl (hb hby own_d_prog_3_method_6_code_67) (by decide) (by decide) ?_
    show Steps p.tables e below (T111.setTop (mkF m 107 #[.val (.ref (A 1)), .val (.int (-1 : Int32))] [(.int (1 : Int32))])) _
    exact retN X111 hx (t := .boolean) Bd.returns (by simp) (hb hby own_d_prog_3_method_6_code_107) hr
  · show PQ (some (.int (1 : Int32))) h0 n0 _ T111.heap _
    rw [e111]
    exact ⟨rfl, N111, rfl⟩
theorem own_ef_rm41 (m : MethodId) (p1 : Int32) (p2 : Int32) (p3 : Int32) (A : Nat → Addr) (K : Nat → ClassId)  (r104 : Addr) (r105 : Addr) : entryFrame m #[(.ref (A 1)), (.ref r104), (.ref r105)] 3 = mkF m 0 #[.val (.ref (A 1)), .val (.ref r104), .val (.ref r105)] [] := by first | (simp [entryFrame, mkF, argsToLocals, Value.category, maxLocals]; done) | rfl
set_option maxRecDepth 65536 in
set_option maxHeartbeats 40000000 in
theorem rm41 (l : Launch) (Z : State) (a0 : Array Value) (hw : ∀ d ∈ tables_1, d.before a0 Z = true) (ws : List Jvm.Cond) (h0 : Heap) (n0 : Nat) (p1 : Int32) (p2 : Int32) (p3 : Int32) (A : Nat → Addr) (K : Nat → ClassId)  (r104 : Addr) (r105 : Addr) (EN : own_St Z A K) (OL0 : Old Z n0 h0) (G_E_r104 : Exa Z h0 r104 "java/lang/Integer") (G_E_r105 : Exa Z h0 r105 "java/lang/Integer") (G_F_r104_java_lang_Integer_value : Fld Z h0 r104 "java/lang/Integer" "value" "I" (.int p2)) (G_F_r105_java_lang_Integer_value : Fld Z h0 r105 "java/lang/Integer" "value" "I" (.int p3)) (hp_101 : p2 < p3) :
    MetFree l own_m0 (head1 (Jvm.Cond.code own_m0 prog_3_method_5_code 3 (some .boolean) :: ws) ({ frames := 3, cells := 0, slots := 0, locals := 40 } : Room)) (fun a U => a = #[(.ref (A 1)), (.ref r104), (.ref r105)] ∧ Z.Warmed39 U.vm ∧ U.heap = h0) (fun _ _ _ _ _ => True) (fun _ U o U' => ∃ v L, o = .returned v ∧ (PQ (some (.int (1 : Int32))) h0 n0) v U'.heap L ∧ FrameEnd U o U' L ({ frames := 3, cells := 0, slots := 0, locals := 40 } : Room).cells ({ frames := 3, cells := 0, slots := 0, locals := 40 } : Room).slots) := by
  refine MetFree.of_bodySF (plainFor_of_name own_pn4) hisR ?_
  intro p e s m args below meth c s₁ Bd hml0 hP hK
  obtain ⟨rfl, hZ, hh⟩ := hP
  have hx := Bd.exec
  have hby := Bd.bytes
  have hml : c.maxLocals = 3 := hml0
  have hown : s.vm.findClass "com/example/measurewright/measurewright/Comparison" = some m.cls := findClass_of_methodNamed Bd.named
  have hnm := (name_of_methodNamed Bd.named Bd.method).1
  have X0 : Stand p l e ({ frames := 3, cells := 0, slots := 0, locals := 40 } : Room) s m #[(.ref (A 1)), (.ref r104), (.ref r105)] below meth c s₁ [] 0 0 := Stand.of_body Bd
  have e0 : s₁.heap = h0 := by rw [← hh, Bd.state]; rfl
  have N0 := Fr.nil n0
  have pre0 : ∀ t, Steps p.tables e below (s₁.setTop (mkF m 0 #[.val (.ref (A 1)), .val (.ref r104), .val (.ref r105)] [])) t → Steps p.tables e below (s₁.setTop (entryFrame m #[(.ref (A 1)), (.ref r104), (.ref r105)] 3)) t := fun t k => castTop (own_ef_rm41 m p1 p2 p3 A K r104 r105) k
  have KK0 : Keep h0 h0 [] := Keep.refl _ _
  obtain ⟨cq110, kq110, q110a, q110b, q110c⟩ := isOf hZ e0 G_E_r104
  obtain ⟨_, _, ⟨T110, L110, k110, n110⟩, -, X110, ⟨Lc110, hQ110, l110, y110, z110⟩, st110⟩ := X0.interfaceBack hx (xi := own_m6) (y := own_m3) hown (mvT hZ (hw _ (List.mem_of_getElem? (i := 36) rfl))) (mvT hZ (hw _ (List.mem_of_getElem? (i := 37) rfl))) (mvT hZ (hw _ (List.mem_of_getElem? (i := 38) rfl))) (mvT hZ (hw _ (List.mem_of_getElem? (i := 39) rfl))) (mvT hZ (hw _ (List.mem_of_getElem? (i := 40) rfl))) (mvT hZ (hw _ (List.mem_of_getElem? (i := 41) rfl))) (mvT hZ (hw _ (List.mem_of_getElem? (i := 42) rfl))) (mvT hZ (hw _ (List.mem_of_getElem? (i := 43) rfl))) (by decide) (backOf (W := 1) (rm7 l Z a0 hw [] h0 n0 p1 p2 p3 A K r104 r105 EN OL0 G_E_r105 G_E_r104 G_F_r104_java_lang_Integer_value G_F_r105_java_lang_Integer_value hp_101) hZ (hw _ (List.mem_of_getElem? (i := 44) rfl)) (hw _ (List.mem_of_getElem? (i := 10) rfl)) (by decide) (by decide)) q110a q110b q110c (g := (mkF m 3 #[.val (.ref (A 1)), .val (.ref r104), .val (.ref r105)] [(.ref r105), (.ref r104), (.ref (A 1))])) rfl (by rw [hml]; rfl) (Steps.refl _) (argsL := [(.ref r105)]) (rest := [(.ref (A 1))]) (lenOf own_pd8 rfl) rfl (by show 2 * 0 + _ ≤ _; exact Nat.le_of_eq rfl) (hb hby own_d_prog_3_method_5_code_3) (fun _ _ => ⟨rfl, e0, (by decide : 0 + 0 ≤ _), (by decide : 0 + 0 ≤ _)⟩)
  dsimp only [Pt.U, Pt.locs, Pt.cells, Pt.slots] at X110 l110 y110 z110 st110 hQ110
  subst l110 y110 z110
  obtain ⟨rfl, N110q, e110⟩ := hQ110
  have N110 := Fr.app N0 N110q
  obtain ⟨cq112, q112, q112'⟩ := (EN.1.2.2.2.1.ext OL0.2).cell
  obtain ⟨_, _, ⟨T112, L112, k112, n112⟩, -, X112, ⟨Lc112, hQ112, l112, y112, z112⟩, st112⟩ := X110.privateBack hx (y := own_m1) hown (mvT hZ (hw _ (List.mem_of_getElem? (i := 57) rfl))) (mvT hZ (hw _ (List.mem_of_getElem? (i := 58) rfl))) (own_selpS (y := own_m1) (mvT hZ (hw _ (List.mem_of_getElem? (i := 18) rfl))) rfl (mvP (args := #[]) hZ (hw _ (List.mem_of_getElem? (i := 59) rfl))) (mvT hZ (hw _ (List.mem_of_getElem? (i := 58) rfl))) (by decide)) (Cond.privateMethod_at (mvP hZ (hw _ (List.mem_of_getElem? (i := 59) rfl)) (args := #[]))) (mvT hZ (hw _ (List.mem_of_getElem? (i := 60) rfl))) (by decide) (backOf (W := 0) (rm42 l Z a0 hw [] h0 n0 p1 p2 p3 A K EN OL0) hZ (hw _ (List.mem_of_getElem? (i := 60) rfl)) (hw _ (List.mem_of_getElem? (i := 6) rfl)) (by decide) (by decide)) (g := (mkF m 8 #[.val (.ref (A 1)), .val (.ref r104), .val (.ref r105)] [(.int (-1 : Int32)), (.ref (A 1))])) rfl (by rw [hml]; rfl) (Steps.refl _) (a := (A 1)) (by rw [e110]; exact q112) q112' (argsL := [(.int (-1 : Int32))]) (rest := []) (lenOf own_pd9 rfl) rfl (by show 2 * 0 + _ ≤ _; exact Nat.le_of_eq rfl) (hb hby own_d_prog_3_method_5_code_8) (fun _ _ => ⟨rfl, e110, (by decide : 0 + 0 ≤ _), (by decide : 0 + 0 ≤ _)⟩)
  dsimp only [Pt.U, Pt.locs, Pt.cells, Pt.slots] at X112 l112 y112 z112 st112 hQ112
  subst l112 y112 z112
  obtain ⟨rfl, N112q, e112⟩ := hQ112
  have N112 := Fr.app N110 N112q
  obtain ⟨fs, hr, hrun, hended, hW, hsame⟩ := X112.leave (v := some (.int (1 : Int32))) (fun h => by rw [Bd.returns] at h; cases h)
  refine ⟨_, _, pre0 _ ?_, hrun, hended, _, _, rfl, ?_, ⟨_, rfl⟩, hW, hsame.mono (by decide) (by decide)⟩
  · show Steps p.tables e below (s₁.setTop (mkF m 0 #[.val (.ref (A 1)), .val (.ref r104), .val (.ref r105)] [])) _
    refine XS.aloadN X0.here hx rfl (hb hby own_d_prog_3_method_5_code_0) rfl rfl ?_
    show Steps p.tables e below (s₁.setTop (mkF m 1 #[.val (.ref (A 1)), .val (.ref r104), .val (.ref r105)] [(.ref (A 1))])) _
    refine XS.aloadN X0.here hx rfl (hb hby own_d_prog_3_method_5_code_1) rfl rfl ?_
    show Steps p.tables e below (s₁.setTop (mkF m 2 #[.val (.ref (A 1)), .val (.ref r104), .val (.ref r105)] [(.ref r104), (.ref (A 1))])) _
    refine XS.aloadN X0.here hx rfl (hb hby own_d_prog_3_method_5_code_2) rfl rfl ?_
    show Steps p.tables e below (s₁.setTop (mkF m 3 #[.val (.ref (A 1)), .val (.ref r104), .val (.ref r105)] [(.ref r105), (.ref r104), (.ref (A 1))])) _
    refine st110.trans ?_
    show Steps p.tables e below (T110.setTop (mkF m 8 #[.val (.ref (A 1)), .val (.ref r104), .val (.ref r105)] [(.int (-1 : Int32)), (.ref (A 1))])) _
    refine st112.trans ?_
    show Steps p.tables e below (T112.setTop (mkF m 11 #[.val (.ref (A 1)), .val (.ref r104), .val (.ref r105)] [(.int (1 : Int32))])) _
    exact retN X112 hx (t := .boolean) Bd.returns (by simp) (hb hby own_d_prog_3_method_5_code_11) hr
  · show PQ (some (.int (1 : Int32))) h0 n0 _ T112.heap _
    rw [e112]
    exact ⟨rfl, N112, rfl⟩
theorem own_ef_rm45 (m : MethodId) (p1 : Int32) (p2 : Int32) (p3 : Int32) (A : Nat → Addr) (K : Nat → ClassId)  : entryFrame m #[(.ref (A 3))] 1 = mkF m 0 #[.val (.ref (A 3))] [] := by first | (simp [entryFrame, mkF, argsToLocals, Value.category, maxLocals]; done) | rfl
set_option maxRecDepth 65536 in
set_option maxHeartbeats 40000000 in
theorem rm45 (l : Launch) (Z : State) (a0 : Array Value) (hw : ∀ d ∈ tables_1, d.before a0 Z = true) (ws : List Jvm.Cond) (h0 : Heap) (n0 : Nat) (p1 : Int32) (p2 : Int32) (p3 : Int32) (A : Nat → Addr) (K : Nat → ClassId)  (EN : own_St Z A K) (OL0 : Old Z n0 h0) :
    MetFree l own_m5 (head1 (Jvm.Cond.code own_m5 jdk_37_method_2_code 1 (some .int) :: ws) ({ frames := 0, cells := 0, slots := 0, locals := 0 } : Room)) (fun a U => a = #[(.ref (A 3))] ∧ Z.Warmed39 U.vm ∧ U.heap = h0) (fun _ _ _ _ _ => True) (fun _ U o U' => ∃ v L, o = .returned v ∧ (PQ (some (.int (3 : Int32))) h0 n0) v U'.heap L ∧ FrameEnd U o U' L ({ frames := 0, cells := 0, slots := 0, locals := 0 } : Room).cells ({ frames := 0, cells := 0, slots := 0, locals := 0 } : Room).slots) := by
  refine MetFree.of_bodySF (plainFor_of_name own_pn3) hisR ?_
  intro p e s m args below meth c s₁ Bd hml0 hP hK
  obtain ⟨rfl, hZ, hh⟩ := hP
  have hx := Bd.exec
  have hby := Bd.bytes
  have hml : c.maxLocals = 1 := hml0
  have hown : s.vm.findClass "java/lang/Enum" = some m.cls := findClass_of_methodNamed Bd.named
  have hnm := (name_of_methodNamed Bd.named Bd.method).1
  have X0 : Stand p l e ({ frames := 0, cells := 0, slots := 0, locals := 0 } : Room) s m #[(.ref (A 3))] below meth c s₁ [] 0 0 := Stand.of_body Bd
  have e0 : s₁.heap = h0 := by rw [← hh, Bd.state]; rfl
  have N0 := Fr.nil n0
  have pre0 : ∀ t, Steps p.tables e below (s₁.setTop (mkF m 0 #[.val (.ref (A 3))] [])) t → Steps p.tables e below (s₁.setTop (entryFrame m #[(.ref (A 3))] 1)) t := fun t k => castTop (own_ef_rm45 m p1 p2 p3 A K ) k
  have KK0 : Keep h0 h0 [] := Keep.refl _ _
  obtain ⟨T117, X117, e117, st117⟩ := getF X0 hx hZ hown (host := "") (Or.inl (hw _ (List.mem_of_getElem? (i := 27) rfl))) Via.refl e0 (EN.2.1.2.2.2.2.2.2.2.1.ext OL0.2) (g := (mkF m 1 #[.val (.ref (A 3))] [(.ref (A 3))])) rfl rfl (hb hby own_d_jdk_37_method_2_code_1)
  obtain ⟨fs, hr, hrun, hended, hW, hsame⟩ := X117.leave (v := some (.int (3 : Int32))) (fun h => by rw [Bd.returns] at h; cases h)
  refine ⟨_, _, pre0 _ ?_, hrun, hended, _, _, rfl, ?_, ⟨_, rfl⟩, hW, hsame.mono (by decide) (by decide)⟩
  · show Steps p.tables e below (s₁.setTop (mkF m 0 #[.val (.ref (A 3))] [])) _
    refine XS.aloadN X0.here hx rfl (hb hby own_d_jdk_37_method_2_code_0) rfl rfl ?_
    show Steps p.tables e below (s₁.setTop (mkF m 1 #[.val (.ref (A 3))] [(.ref (A 3))])) _
    refine st117 _ ?_
    show Steps p.tables e below (T117.setTop (mkF m 4 #[.val (.ref (A 3))] [(.int (3 : Int32))])) _
    exact retI X117 hx Bd.returns (hb hby own_d_jdk_37_method_2_code_4) hr
  · show PQ (some (.int (3 : Int32))) h0 n0 _ T117.heap _
    rw [e117]
    exact ⟨rfl, N0, rfl⟩
theorem own_d_prog_3_method_6_code_86 : decode prog_3_method_6_code 86 = .ok (.iload_n 1, 1) := by decide +kernel
theorem own_d_prog_3_method_6_code_87 : decode prog_3_method_6_code 87 = .ok (.ifCond .lt 7, 3) := by decide +kernel
theorem own_d_prog_3_method_6_code_90 : decode prog_3_method_6_code 90 = .ok (.iconst 1, 1) := by decide +kernel
theorem own_d_prog_3_method_6_code_91 : decode prog_3_method_6_code 91 = .ok (.goto 16, 3) := by decide +kernel
theorem own_ef_rm44 (m : MethodId) (p1 : Int32) (p2 : Int32) (p3 : Int32) (A : Nat → Addr) (K : Nat → ClassId)  : entryFrame m #[(.ref (A 3)), (.int (1 : Int32))] 2 = mkF m 0 #[.val (.ref (A 3)), .val (.int (1 : Int32))] [] := by first | (simp [entryFrame, mkF, argsToLocals, Value.category, maxLocals]; done) | rfl
set_option maxRecDepth 65536 in
set_option maxHeartbeats 40000000 in
theorem rm44 (l : Launch) (Z : State) (a0 : Array Value) (hw : ∀ d ∈ tables_1, d.before a0 Z = true) (ws : List Jvm.Cond) (h0 : Heap) (n0 : Nat) (p1 : Int32) (p2 : Int32) (p3 : Int32) (A : Nat → Addr) (K : Nat → ClassId)  (EN : own_St Z A K) (OL0 : Old Z n0 h0) :
    MetFree l own_m1 (head1 (Jvm.Cond.code own_m1 prog_3_method_6_code 2 (some .boolean) :: ws) ({ frames := 1, cells := 0, slots := 0, locals := 12 } : Room)) (fun a U => a = #[(.ref (A 3)), (.int (1 : Int32))] ∧ Z.Warmed39 U.vm ∧ U.heap = h0) (fun _ _ _ _ _ => True) (fun _ U o U' => ∃ v L, o = .returned v ∧ (PQ (some (.int (1 : Int32))) h0 n0) v U'.heap L ∧ FrameEnd U o U' L ({ frames := 1, cells := 0, slots := 0, locals := 12 } : Room).cells ({ frames := 1, cells := 0, slots := 0, locals := 12 } : Room).slots) := by
  refine MetFree.of_bodySF (plainFor_of_name own_pn4) hisR ?_
  intro p e s m args below meth c s₁ Bd hml0 hP hK
  obtain ⟨rfl, hZ, hh⟩ := hP
  have hx := Bd.exec
  have hby := Bd.bytes
  have hml : c.maxLocals = 2 := hml0
  have hown : s.vm.findClass "com/example/measurewright/measurewright/Comparison" = some m.cls := findClass_of_methodNamed Bd.named
  have hnm := (name_of_methodNamed Bd.named Bd.method).1
  have X0 : Stand p l e ({ frames := 1, cells := 0, slots := 0, locals := 12 } : Room) s m #[(.ref (A 3)), (.int (1 : Int32))] below meth c s₁ [] 0 0 := Stand.of_body Bd
  have e0 : s₁.heap = h0 := by rw [← hh, Bd.state]; rfl
  have N0 := Fr.nil n0
  have pre0 : ∀ t, Steps p.tables e below (s₁.setTop (mkF m 0 #[.val (.ref (A 3)), .val (.int (1 : Int32))] [])) t → Steps p.tables e below (s₁.setTop (entryFrame m #[(.ref (A 3)), (.int (1 : Int32))] 2)) t := fun t k => castTop (own_ef_rm44 m p1 p2 p3 A K ) k
  have KK0 : Keep h0 h0 [] := Keep.refl _ _
  obtain ⟨cq118, kq118, q118a, q118b, q118c⟩ := isOf hZ e0 (EN.1.2.2.2.2.2.2.2.1.ext OL0.2)
  obtain ⟨_, _, ⟨T118, L118, k118, n118⟩, -, X118, ⟨Lc118, hQ118, l118, y118, z118⟩, st118⟩ := X0.virtualBackUp hx (x := own_m9) (y := own_m5) (owner := "java/lang/Enum") hown (mvT hZ (hw _ (List.mem_of_getElem? (i := 20) rfl))) (mvT hZ (hw _ (List.mem_of_getElem? (i := 21) rfl))) (mvT hZ (hw _ (List.mem_of_getElem? (i := 22) rfl))) (by decide) (mvT hZ (hw _ (List.mem_of_getElem? (i := 24) rfl))) (mvT hZ (hw _ (List.mem_of_getElem? (i := 23) rfl))) (backOf (W := 0) (rm45 l Z a0 hw [] h0 n0 p1 p2 p3 A K EN OL0) hZ (hw _ (List.mem_of_getElem? (i := 26) rfl)) (hw _ (List.mem_of_getElem? (i := 25) rfl)) (by decide) (by decide)) q118a q118c (g := (mkF m 1 #[.val (.ref (A 3)), .val (.int (1 : Int32))] [(.ref (A 3))])) rfl (by rw [hml]; rfl) (Steps.refl _) (argsL := []) (rest := []) (lenOf own_pd4 rfl) rfl (by show 2 * 0 + _ ≤ _; exact Nat.le_of_eq rfl) (hb hby own_d_prog_3_method_6_code_1) (fun _ _ => ⟨rfl, e0, (by decide : 0 + 0 ≤ _), (by decide : 0 + 0 ≤ _)⟩)
  dsimp only [Pt.U, Pt.locs, Pt.cells, Pt.slots] at X118 l118 y118 z118 st118 hQ118
  subst l118 y118 z118
  obtain ⟨rfl, N118q, e118⟩ := hQ118
  have N118 := Fr.app N0 N118q
  obtain ⟨fs, hr, hrun, hended, hW, hsame⟩ := X118.leave (v := some (.int (1 : Int32))) (fun h => by rw [Bd.returns] at h; cases h)
  refine ⟨_, _, pre0 _ ?_, hrun, hended, _, _, rfl, ?_, ⟨_, rfl⟩, hW, hsame.mono (by decide) (by decide)⟩
  · show Steps p.tables e below (s₁.setTop (mkF m 0 #[.val (.ref (A 3)), .val (.int (1 : Int32))] [])) _
    refine XS.aloadN X0.here hx rfl (hb hby own_d_prog_3_method_6_code_0) rfl rfl ?_
    show Steps p.tables e below (s₁.setTop (mkF m 1 #[.val (.ref (A 3)), .val (.int (1 : Int32))] [(.ref (A 3))])) _
    refine st118.trans ?_
    show Steps p.tables e below (T118.setTop (mkF m 4 #[.val (.ref (A 3)), .val (.int (1 : Int32))] [(.int (3 : Int32))])) _
    refine XS.tswIn X118.here hx rfl (pc0 := 4) (pc' := 86) rfl (hb hby own_d_prog_3_method_6_code_4) rfl (by decide) (o := 82) (by decide) (by decide) (by decide) ?_
    show Steps p.tables e below (T118.setTop (mkF m 86 #[.val (.ref (A 3)), .val (.int (1 : Int32))] [])) _
    refine XS.iloadN X118.here hx rfl (hb hby own_d_prog_3_method_6_code_86) rfl ?_
    show Steps p.tables e below (T118.setTop (mkF m 87 #[.val (.ref (A 3)), .val (.int (1 : Int32))] [(.int (1 : Int32))])) _
    refine XS.ifNo X118.here hx rfl (hb hby own_d_prog_3_method_6_code_87) rfl ((if0 _ _).trans (flt (by decide : ¬ ((1 : Int32) < (0 : Int32)))).1) ?_
    show Steps p.tables e below (T118.setTop (mkF m 90 #[.val (.ref (A 3)), .val (.int (1 : Int32))] [])) _
    refine XS.iconst X118.here hx rfl (hb hby own_d_prog_3_method_6_code_90) ?_
    show Steps p.tables e below (T118.setTop (mkF m 91 #[.val (.ref (A 3)), .val (.int (1 : Int32))] [(.int (1 : Int32))])) _
    refine XS.goto X118.here hx rfl (pc0 := 91) (pc' := 107) rfl (hb hby own_d_prog_3_method_6_code_91) (by decide) (by decide) ?_
    show Steps p.tables e below (T118.setTop (mkF m 107 #[.val (.ref (A 3)), .val (.int (1 : Int32))] [(.int (1 : Int32))])) _
    exact retN X118 hx (t := .boolean) Bd.returns (by simp) (hb hby own_d_prog_3_method_6_code_107) hr
  · show PQ (some (.int (1 : Int32))) h0 n0 _ T118.heap _
    rw [e118]
    exact ⟨rfl, N118, rfl⟩
theorem own_ef_rm43 (m : MethodId) (p1 : Int32) (p2 : Int32) (p3 : Int32) (A : Nat → Addr) (K : Nat → ClassId)  (r104 : Addr) (r105 : Addr) : entryFrame m #[(.ref (A 3)), (.ref r105), (.ref r104)] 3 = mkF m 0 #[.val (.ref (A 3)), .val (.ref r105), .val (.ref r104)] [] := by first | (simp [entryFrame, mkF, argsToLocals, Value.category, maxLocals]; done) | rfl
set_option maxRecDepth 65536 in
set_option maxHeartbeats 40000000 in
theorem rm43 (l : Launch) (Z : State) (a0 : Array Value) (hw : ∀ d ∈ tables_1, d.before a0 Z = true) (ws : List Jvm.Cond) (h0 : Heap) (n0 : Nat) (p1 : Int32) (p2 : Int32) (p3 : Int32) (A : Nat → Addr) (K : Nat → ClassId)  (r104 : Addr) (r105 : Addr) (EN : own_St Z A K) (OL0 : Old Z n0 h0) (G_E_r105 : Exa Z h0 r105 "java/lang/Integer") (G_E_r104 : Exa Z h0 r104 "java/lang/Integer") (G_F_r105_java_lang_Integer_value : Fld Z h0 r105 "java/lang/Integer" "value" "I" (.int p3)) (G_F_r104_java_lang_Integer_value : Fld Z h0 r104 "java/lang/Integer" "value" "I" (.int p2)) (hp_101 : p2 < p3) :
    MetFree l own_m0 (head1 (Jvm.Cond.code own_m0 prog_3_method_5_code 3 (some .boolean) :: ws) ({ frames := 3, cells := 0, slots := 0, locals := 40 } : Room)) (fun a U => a = #[(.ref (A 3)), (.ref r105), (.ref r104)] ∧ Z.Warmed39 U.vm ∧ U.heap = h0) (fun _ _ _ _ _ => True) (fun _ U o U' => ∃ v L, o = .returned v ∧ (PQ (some (.int (1 : Int32))) h0 n0) v U'.heap L ∧ FrameEnd U o U' L ({ frames := 3, cells := 0, slots := 0, locals := 40 } : Room).cells ({ frames := 3, cells := 0, slots := 0, locals := 40 } : Room).slots) := by
  refine MetFree.of_bodySF (plainFor_of_name own_pn4) hisR ?_
  intro p e s m args below meth c s₁ Bd hml0 hP hK
  obtain ⟨rfl, hZ, hh⟩ := hP
  have hx := Bd.exec
  have hby := Bd.bytes
  have hml : c.maxLocals = 3 := hml0
  have hown : s.vm.findClass "com/example/measurewright/measurewright/Comparison" = some m.cls := findClass_of_methodNamed Bd.named
  have hnm := (name_of_methodNamed Bd.named Bd.method).1
  have X0 : Stand p l e ({ frames := 3, cells := 0, slots := 0, locals := 40 } : Room) s m #[(.ref (A 3)), (.ref r105), (.ref r104)] below meth c s₁ [] 0 0 := Stand.of_body Bd
  have e0 : s₁.heap = h0 := by rw [← hh, Bd.state]; rfl
  have N0 := Fr.nil n0
  have pre0 : ∀ t, Steps p.tables e below (s₁.setTop (mkF m 0 #[.val (.ref (A 3)), .val (.ref r105), .val (.ref r104)] [])) t → Steps p.tables e below (s₁.setTop (entryFrame m #[(.ref (A 3)), (.ref r105), (.ref r104)] 3)) t := fun t k => castTop (own_ef_rm43 m p1 p2 p3 A K r104 r105) k
  have KK0 : Keep h0 h0 [] := Keep.refl _ _
  obtain ⟨cq116, kq116, q116a, q116b, q116c⟩ := isOf hZ e0 G_E_r105
  obtain ⟨_, _, ⟨T116, L116, k116, n116⟩, -, X116, ⟨Lc116, hQ116, l116, y116, z116⟩, st116⟩ := X0.interfaceBack hx (xi := own_m6) (y := own_m3) hown (mvT hZ (hw _ (List.mem_of_getElem? (i := 36) rfl))) (mvT hZ (hw _ (List.mem_of_getElem? (i := 37) rfl))) (mvT hZ (hw _ (List.mem_of_getElem? (i := 38) rfl))) (mvT hZ (hw _ (List.mem_of_getElem? (i := 39) rfl))) (mvT hZ (hw _ (List.mem_of_getElem? (i := 40) rfl))) (mvT hZ (hw _ (List.mem_of_getElem? (i := 41) rfl))) (mvT hZ (hw _ (List.mem_of_getElem? (i := 42) rfl))) (mvT hZ (hw _ (List.mem_of_getElem? (i := 43) rfl))) (by decide) (backOf (W := 1) (rm12 l Z a0 hw [] h0 n0 p1 p2 p3 A K r104 r105 EN OL0 G_E_r104 G_E_r105 G_F_r105_java_lang_Integer_value G_F_r104_java_lang_Integer_value hp_101) hZ (hw _ (List.mem_of_getElem? (i := 44) rfl)) (hw _ (List.mem_of_getElem? (i := 10) rfl)) (by decide) (by decide)) q116a q116b q116c (g := (mkF m 3 #[.val (.ref (A 3)), .val (.ref r105), .val (.ref r104)] [(.ref r104), (.ref r105), (.ref (A 3))])) rfl (by rw [hml]; rfl) (Steps.refl _) (argsL := [(.ref r104)]) (rest := [(.ref (A 3))]) (lenOf own_pd8 rfl) rfl (by show 2 * 0 + _ ≤ _; exact Nat.le_of_eq rfl) (hb hby own_d_prog_3_method_5_code_3) (fun _ _ => ⟨rfl, e0, (by decide : 0 + 0 ≤ _), (by decide : 0 + 0 ≤ _)⟩)
  dsimp only [Pt.U, Pt.locs, Pt.cells, Pt.slots] at X116 l116 y116 z116 st116 hQ116
  subst l116 y116 z116
  obtain ⟨rfl, N116q, e116⟩ := hQ116
  have N116 := Fr.app N0 N116q
  obtain ⟨cq119, q119, q119'⟩ := (EN.1.2.2.2.2.2.2.2.1.ext OL0.2).cell
  obtain ⟨_, _, ⟨T119, L119, k119, n119⟩, -, X119, ⟨Lc119, hQ119, l119, y119, z119⟩, st119⟩ := X116.privateBack hx (y := own_m1) hown (mvT hZ (hw _ (List.mem_of_getElem? (i := 57) rfl))) (mvT hZ (hw _ (List.mem_of_getElem? (i := 58) rfl))) (own_selpS (y := own_m1) (mvT hZ (hw _ (List.mem_of_getElem? (i := 18) rfl))) rfl (mvP (args := #[]) hZ (hw _ (List.mem_of_getElem? (i := 59) rfl))) (mvT hZ (hw _ (List.mem_of_getElem? (i := 58) rfl))) (by decide)) (Cond.privateMethod_at (mvP hZ (hw _ (List.mem_of_getElem? (i := 59) rfl)) (args := #[]))) (mvT hZ (hw _ (List.mem_of_getElem? (i := 60) rfl))) (by decide) (backOf (W := 0) (rm44 l Z a0 hw [] h0 n0 p1 p2 p3 A K EN OL0) hZ (hw _ (List.mem_of_getElem? (i := 60) rfl)) (hw _ (List.mem_of_getElem? (i := 6) rfl)) (by decide) (by decide)) (g := (mkF m 8 #[.val (.ref (A 3)), .val (.ref r105), .val (.ref r104)] [(.int (1 : Int32)), (.ref (A 3))])) rfl (by rw [hml]; rfl) (Steps.refl _) (a := (A 3)) (by rw [e116]; exact q119) q119' (argsL := [(.int (1 : Int32))]) (rest := []) (lenOf own_pd9 rfl) rfl (by show 2 * 0 + _ ≤ _; exact Nat.le_of_eq rfl) (hb hby own_d_prog_3_method_5_code_8) (fun _ _ => ⟨rfl, e116, (by decide : 0 + 0 ≤ _), (by decide : 0 + 0 ≤ _)⟩)
  dsimp only [Pt.U, Pt.locs, Pt.cells, Pt.slots] at X119 l119 y119 z119 st119 hQ119
  subst l119 y119 z119
  obtain ⟨rfl, N119q, e119⟩ := hQ119
  have N119 := Fr.app N116 N119q
  obtain ⟨fs, hr, hrun, hended, hW, hsame⟩ := X119.leave (v := some (.int (1 : Int32))) (fun h => by rw [Bd.returns] at h; cases h)
  refine ⟨_, _, pre0 _ ?_, hrun, hended, _, _, rfl, ?_, ⟨_, rfl⟩, hW, hsame.mono (by decide) (by decide)⟩
  · show Steps p.tables e below (s₁.setTop (mkF m 0 #[.val (.ref (A 3)), .val (.ref r105), .val (.ref r104)] [])) _
    refine XS.aloadN X0.here hx rfl (hb hby own_d_prog_3_method_5_code_0) rfl rfl ?_
    show Steps p.tables e below (s₁.setTop (mkF m 1 #[.val (.ref (A 3)), .val (.ref r105), .val (.ref r104)] [(.ref (A 3))])) _
    refine XS.aloadN X0.here hx rfl (hb hby own_d_prog_3_method_5_code_1) rfl rfl ?_
    show Steps p.tables e below (s₁.setTop (mkF m 2 #[.val (.ref (A 3)), .val (.ref r105), .val (.ref r104)] [(.ref r105), (.ref (A 3))])) _
    refine XS.aloadN X0.here hx rfl (hb hby own_d_prog_3_method_5_code_2) rfl rfl ?_
    show Steps p.tables e below (s₁.setTop (mkF m 3 #[.val (.ref (A 3)), .val (.ref r105), .val (.ref r104)] [(.ref r104), (.ref r105), (.ref (A 3))])) _
    refine st116.trans ?_
    show Steps p.tables e below (T116.setTop (mkF m 8 #[.val (.ref (A 3)), .val (.ref r105), .val (.ref r104)] [(.int (1 : Int32)), (.ref (A 3))])) _
    refine st119.trans ?_
    show Steps p.tables e below (T119.setTop (mkF m 11 #[.val (.ref (A 3)), .val (.ref r105), .val (.ref r104)] [(.int (1 : Int32))])) _
    exact retN X119 hx (t := .boolean) Bd.returns (by simp) (hb hby own_d_prog_3_method_5_code_11) hr
  · show PQ (some (.int (1 : Int32))) h0 n0 _ T119.heap _
    rw [e119]
    exact ⟨rfl, N119, rfl⟩
theorem own_d_prog_3_method_7_code_68 : decode prog_3_method_7_code 68 = .ok (.getstatic 7, 3) := by decide +kernel
theorem own_d_prog_3_method_7_code_71 : decode prog_3_method_7_code 71 = .ok (.goto 6, 3) := by decide +kernel
theorem own_ef_rm46 (m : MethodId) (p1 : Int32) (p2 : Int32) (p3 : Int32) (A : Nat → Addr) (K : Nat → ClassId)  : entryFrame m #[(.ref (A 3))] 1 = mkF m 0 #[.val (.ref (A 3))] [] := by first | (simp [entryFrame, mkF, argsToLocals, Value.category, maxLocals]; done) | rfl
set_option maxRecDepth 65536 in
set_option maxHeartbeats 40000000 in
theorem rm46 (l : Launch) (Z : State) (a0 : Array Value) (hw : ∀ d ∈ tables_1, d.before a0 Z = true) (ws : List Jvm.Cond) (h0 : Heap) (n0 : Nat) (p1 : Int32) (p2 : Int32) (p3 : Int32) (A : Nat → Addr) (K : Nat → ClassId)  (EN : own_St Z A K) (OL0 : Old Z n0 h0) :
    MetFree l own_m2 (head1 (Jvm.Cond.code own_m2 prog_3_method_7_code 1 (some (.object "com/example/measurewright/measurewright/Comparison")) :: ws) ({ frames := 1, cells := 0, slots := 0, locals := 12 } : Room)) (fun a U => a = #[(.ref (A 3))] ∧ Z.Warmed39 U.vm ∧ U.heap = h0) (fun _ _ _ _ _ => True) (fun _ U o U' => ∃ v L, o = .returned v ∧ (PQ (some (.ref (A 1))) h0 n0) v U'.heap L ∧ FrameEnd U o U' L ({ frames := 1, cells := 0, slots := 0, locals := 12 } : Room).cells ({ frames := 1, cells := 0, slots := 0, locals := 12 } : Room).slots) := by
  refine MetFree.of_bodySF (plainFor_of_name own_pn4) hisR ?_
  intro p e s m args below meth c s₁ Bd hml0 hP hK
  obtain ⟨rfl, hZ, hh⟩ := hP
  have hx := Bd.exec
  have hby := Bd.bytes
  have hml : c.maxLocals = 1 := hml0
  have hown : s.vm.findClass "com/example/measurewright/measurewright/Comparison" = some m.cls := findClass_of_methodNamed Bd.named
  have hnm := (name_of_methodNamed Bd.named Bd.method).1
  have X0 : Stand p l e ({ frames := 1, cells := 0, slots := 0, locals := 12 } : Room) s m #[(.ref (A 3))] below meth c s₁ [] 0 0 := Stand.of_body Bd
  have e0 : s₁.heap = h0 := by rw [← hh, Bd.state]; rfl
  have N0 := Fr.nil n0
  have pre0 : ∀ t, Steps p.tables e below (s₁.setTop (mkF m 0 #[.val (.ref (A 3))] [])) t → Steps p.tables e below (s₁.setTop (entryFrame m #[(.ref (A 3))] 1)) t := fun t k => castTop (own_ef_rm46 m p1 p2 p3 A K ) k
  have KK0 : Keep h0 h0 [] := Keep.refl _ _
  obtain ⟨cq121, kq121, q121a, q121b, q121c⟩ := isOf hZ e0 (EN.1.2.2.2.2.2.2.2.1.ext OL0.2)
  obtain ⟨_, _, ⟨T121, L121, k121, n121⟩, -, X121, ⟨Lc121, hQ121, l121, y121, z121⟩, st121⟩ := X0.virtualBackUp hx (x := own_m9) (y := own_m5) (owner := "java/lang/Enum") hown (mvT hZ (hw _ (List.mem_of_getElem? (i := 20) rfl))) (mvT hZ (hw _ (List.mem_of_getElem? (i := 21) rfl))) (mvT hZ (hw _ (List.mem_of_getElem? (i := 22) rfl))) (by decide) (mvT hZ (hw _ (List.mem_of_getElem? (i := 24) rfl))) (mvT hZ (hw _ (List.mem_of_getElem? (i := 23) rfl))) (backOf (W := 0) (rm45 l Z a0 hw [] h0 n0 p1 p2 p3 A K EN OL0) hZ (hw _ (List.mem_of_getElem? (i := 26) rfl)) (hw _ (List.mem_of_getElem? (i := 25) rfl)) (by decide) (by decide)) q121a q121c (g := (mkF m 1 #[.val (.ref (A 3))] [(.ref (A 3))])) rfl (by rw [hml]; rfl) (Steps.refl _) (argsL := []) (rest := []) (lenOf own_pd4 rfl) rfl (by show 2 * 0 + _ ≤ _; exact Nat.le_of_eq rfl) (hb hby own_d_prog_3_method_7_code_1) (fun _ _ => ⟨rfl, e0, (by decide : 0 + 0 ≤ _), (by decide : 0 + 0 ≤ _)⟩)
  dsimp only [Pt.U, Pt.locs, Pt.cells, Pt.slots] at X121 l121 y121 z121 st121 hQ121
  subst l121 y121 z121
  obtain ⟨rfl, N121q, e121⟩ := hQ121
  have N121 := Fr.app N0 N121q
  obtain ⟨T122, X122, e122, st122⟩ := getS2 X121 hx hZ hown (host := "") (Or.inl (hw _ (List.mem_of_getElem? (i := 66) rfl))) Via.refl e121 (EN.1.2.2.1.ext OL0.2) (g := (mkF m 68 #[.val (.ref (A 3))] [])) rfl (hb hby own_d_prog_3_method_7_code_68)
  obtain ⟨fs, hr, hrun, hended, hW, hsame⟩ := X122.leave (v := some (.ref (A 1))) (fun h => by rw [Bd.returns] at h; cases h)
  refine ⟨_, _, pre0 _ ?_, hrun, hended, _, _, rfl, ?_, ⟨_, rfl⟩, hW, hsame.mono (by decide) (by decide)⟩
  · show Steps p.tables e below (s₁.setTop (mkF m 0 #[.val (.ref (A 3))] [])) _
    refine XS.aloadN X0.here hx rfl (hb hby own_d_prog_3_method_7_code_0) rfl rfl ?_
    show Steps p.tables e below (s₁.setTop (mkF m 1 #[.val (.ref (A 3))] [(.ref (A 3))])) _
    refine st121.trans ?_
    show Steps p.tables e below (T121.setTop (mkF m 4 #[.val (.ref (A 3))] [(.int (3 : Int32))])) _
    refine XS.tswIn X121.here hx rfl (pc0 := 4) (pc' := 68) rfl (hb hby own_d_prog_3_method_7_code_4) rfl (by decide) (o := 64) (by decide) (by decide) (by decide) ?_
    show Steps p.tables e below (T121.setTop (mkF m 68 #[.val (.ref (A 3))] [])) _
    refine st122 _ ?_
    show Steps p.tables e below (T122.setTop (mkF m 71 #[.val (.ref (A 3))] [(.ref (A 1))])) _
    refine XS.goto X122.here hx rfl (pc0 := 71) (pc' := 77) rfl (hb hby own_d_prog_3_method_7_code_71) (by decide) (by decide) ?_
    show Steps p.tables e below (T122.setTop (mkF m 77 #[.val (.ref (A 3))] [(.ref (A 1))])) _
    exact retOut X122 hx Bd.returns rfl (Or.inr (Or.inr (Or.inr (Or.inr ⟨rfl, rfl, rfl⟩)))) (hb hby own_d_prog_3_method_7_code_77) hr
  · show PQ (some (.ref (A 1))) h0 n0 _ T122.heap _
    rw [e122]
    exact ⟨rfl, N121, rfl⟩
theorem own_ef_rm48 (m : MethodId) (p1 : Int32) (p2 : Int32) (p3 : Int32) (A : Nat → Addr) (K : Nat → ClassId)  : entryFrame m #[(.ref (A 1)), (.int (0 : Int32))] 2 = mkF m 0 #[.val (.ref (A 1)), .val (.int (0 : Int32))] [] := by first | (simp [entryFrame, mkF, argsToLocals, Value.category, maxLocals]; done) | rfl
set_option maxRecDepth 65536 in
set_option maxHeartbeats 40000000 in
theorem rm48 (l : Launch) (Z : State) (a0 : Array Value) (hw : ∀ d ∈ tables_1, d.before a0 Z = true) (ws : List Jvm.Cond) (h0 : Heap) (n0 : Nat) (p1 : Int32) (p2 : Int32) (p3 : Int32) (A : Nat → Addr) (K : Nat → ClassId)  (EN : own_St Z A K) (OL0 : Old Z n0 h0) :
    MetFree l own_m1 (head1 (Jvm.Cond.code own_m1 prog_3_method_6_code 2 (some .boolean) :: ws) ({ frames := 1, cells := 0, slots := 0, locals := 12 } : Room)) (fun a U => a = #[(.ref (A 1)), (.int (0 : Int32))] ∧ Z.Warmed39 U.vm ∧ U.heap = h0) (fun _ _ _ _ _ => True) (fun _ U o U' => ∃ v L, o = .returned v ∧ (PQ (some (.int (1 : Int32))) h0 n0) v U'.heap L ∧ FrameEnd U o U' L ({ frames := 1, cells := 0, slots := 0, locals := 12 } : Room).cells ({ frames := 1, cells := 0, slots := 0, locals := 12 } : Room).slots) := by
  refine MetFree.of_bodySF (plainFor_of_name own_pn4) hisR ?_
  intro p e s m args below meth c s₁ Bd hml0 hP hK
  obtain ⟨rfl, hZ, hh⟩ := hP
  have hx := Bd.exec
  have hby := Bd.bytes
  have hml : c.maxLocals = 2 := hml0
  have hown : s.vm.findClass "com/example/measurewright/measurewright/Comparison" = some m.cls := findClass_of_methodNamed Bd.named
  have hnm := (name_of_methodNamed Bd.named Bd.method).1
  have X0 : Stand p l e ({ frames := 1, cells := 0, slots := 0, locals := 12 } : Room) s m #[(.ref (A 1)), (.int (0 : Int32))] below meth c s₁ [] 0 0 := Stand.of_body Bd
  have e0 : s₁.heap = h0 := by rw [← hh, Bd.state]; rfl
  have N0 := Fr.nil n0
  have pre0 : ∀ t, Steps p.tables e below (s₁.setTop (mkF m 0 #[.val (.ref (A 1)), .val (.int (0 : Int32))] [])) t → Steps p.tables e below (s₁.setTop (entryFrame m #[(.ref (A 1)), (.int (0 : Int32))] 2)) t := fun t k => castTop (own_ef_rm48 m p1 p2 p3 A K ) k
  have KK0 : Keep h0 h0 [] := Keep.refl _ _
  obtain ⟨cq130, kq130, q130a, q130b, q130c⟩ := isOf hZ e0 (EN.1.2.2.2.1.ext OL0.2)
  obtain ⟨_, _, ⟨T130, L130, k130, n130⟩, -, X130, ⟨Lc130, hQ130, l130, y130, z130⟩, st130⟩ := X0.virtualBackUp hx (x := own_m9) (y := own_m5) (owner := "java/lang/Enum") hown (mvT hZ (hw _ (List.mem_of_getElem? (i := 20) rfl))) (mvT hZ (hw _ (List.mem_of_getElem? (i := 21) rfl))) (mvT hZ (hw _ (List.mem_of_getElem? (i := 22) rfl))) (by decide) (mvT hZ (hw _ (List.mem_of_getElem? (i := 24) rfl))) (mvT hZ (hw _ (List.mem_of_getElem? (i := 23) rfl))) (backOf (W := 0) (rm40 l Z a0 hw [] h0 n0 p1 p2 p3 A K EN OL0) hZ (hw _ (List.mem_of_getElem? (i := 26) rfl)) (hw _ (List.mem_of_getElem? (i := 25) rfl)) (by decide) (by decide)) q130a q130c (g := (mkF m 1 #[.val (.ref (A 1)), .val (.int (0 : Int32))] [(.ref (A 1))])) rfl (by rw [hml]; rfl) (Steps.refl _) (argsL := []) (rest := []) (lenOf own_pd4 rfl) rfl (by show 2 * 0 + _ ≤ _; exact Nat.le_of_eq rfl) (hb hby own_d_prog_3_method_6_code_1) (fun _ _ => ⟨rfl, e0, (by decide : 0 + 0 ≤ _), (by decide : 0 + 0 ≤ _)⟩)
  dsimp only [Pt.U, Pt.locs, Pt.cells, Pt.slots] at X130 l130 y130 z130 st130 hQ130
  subst l130 y130 z130
  obtain ⟨rfl, N130q, e130⟩ := hQ130
  have N130 := Fr.app N0 N130q
  obtain ⟨fs, hr, hrun, hended, hW, hsame⟩ := X130.leave (v := some (.int (1 : Int32))) (fun h => by rw [Bd.returns] at h; cases h)
  refine ⟨_, _, pre0 _ ?_, hrun, hended, _, _, rfl, ?_, ⟨_, rfl⟩, hW, hsame.mono (by decide) (by decide)⟩
  · show Steps p.tables e below (s₁.setTop (mkF m 0 #[.val (.ref (A 1)), .val (.int (0 : Int32))] [])) _
    refine XS.aloadN X0.here hx rfl (hb hby own_d_prog_3_method_6_code_0) rfl rfl ?_
    show Steps p.tables e below (s₁.setTop (mkF m 1 #[.val (.ref (A 1)), .val (.int (0 : Int32))] [(.ref (A 1))])) _
    refine st130.trans ?_
    show Steps p.tables e below (T130.setTop (mkF m 4 #[.val (.ref (A 1)), .val (.int (0 : Int32))] [(.int (1 : Int32))])) _
    refine XS.tswIn X130.here hx rfl (pc0 := 4) (pc' := 62) rfl (hb hby own_d_prog_3_method_6_code_4) rfl (by decide) (o := 58) (by decide) (by decide) (by decide) ?_
    show Steps p.tables e below (T130.setTop (mkF m 62 #[.val (.ref (A 1)), .val (.int (0 : Int32))] [])) _
    refine XS.iloadN X130.here hx rfl (hb hby own_d_prog_3_method_6_code_62) rfl ?_
    show Steps p.tables e below (T130.setTop (mkF m 63 #[.val (.ref (A 1)), .val (.int (0 : Int32))] [(.int (0 : Int32))])) _
    refine XS.ifNo X130.here hx rfl (hb hby own_d_prog_3_method_6_code_63) rfl ((if0 _ _).trans (flt (by decide : ¬ ((0 : Int32) < (0 : Int32)))).2.2.1) ?_
    show Steps p.tables e below (T130.setTop (mkF m 66 #[.val (.ref (A 1)), .val (.int (0 : Int32))] [])) _
    refine XS.iconst X130.here hx rfl (hb hby own_d_prog_3_method_6_code_66) ?_
    show Steps p.tables e below (T130.setTop (mkF m 67 #[.val (.ref (A 1)), .val (.int (0 : Int32))] [(.int (1 : Int32))])) _
    refine XS.goto X130.here hx rfl (pc0 := 67) (pc' := 107) rfl (hb hby own_d_prog_3_method_6_code_67) (by decide) (by decide) ?_
    show Steps p.tables e below (T130.setTop (mkF m 107 #[.val (.ref (A 1)), .val (.int (0 : Int32))] [(.int (1 : Int32))])) _
    exact retN X130 hx (t := .boolean) Bd.returns (by simp) (hb hby own_d_prog_3_method_6_code_107) hr
  · show PQ (some (.int (1 : Int32))) h0 n0 _ T130.heap _
    rw [e130]
    exact ⟨rfl, N130, rfl⟩
theorem own_ef_rm47 (m : MethodId) (p1 : Int32) (p2 : Int32) (p3 : Int32) (A : Nat → Addr) (K : Nat → ClassId)  (r126 : Addr) (r127 : Addr) : entryFrame m #[(.ref (A 1)), (.ref r126), (.ref r127)] 3 = mkF m 0 #[.val (.ref (A 1)), .val (.ref r126), .val (.ref r127)] [] := by first | (simp [entryFrame, mkF, argsToLocals, Value.category, maxLocals]; done) | rfl
set_option maxRecDepth 65536 in
set_option maxHeartbeats 40000000 in
theorem rm47 (l : Launch) (Z : State) (a0 : Array Value) (hw : ∀ d ∈ tables_1, d.before a0 Z = true) (ws : List Jvm.Cond) (h0 : Heap) (n0 : Nat) (p1 : Int32) (p2 : Int32) (p3 : Int32) (A : Nat → Addr) (K : Nat → ClassId)  (r126 : Addr) (r127 : Addr) (EN : own_St Z A K) (OL0 : Old Z n0 h0) (G_E_r126 : Exa Z h0 r126 "java/lang/Integer") (G_E_r127 : Exa Z h0 r127 "java/lang/Integer") (G_F_r126_java_lang_Integer_value : Fld Z h0 r126 "java/lang/Integer" "value" "I" (.int p2)) (G_F_r127_java_lang_Integer_value : Fld Z h0 r127 "java/lang/Integer" "value" "I" (.int p3)) (hp_101 : ¬ (p2 < p3)) (hp_124 : p2 = p3) :
    MetFree l own_m0 (head1 (Jvm.Cond.code own_m0 prog_3_method_5_code 3 (some .boolean) :: ws) ({ frames := 3, cells := 0, slots := 0, locals := 40 } : Room)) (fun a U => a = #[(.ref (A 1)), (.ref r126), (.ref r127)] ∧ Z.Warmed39 U.vm ∧ U.heap = h0) (fun _ _ _ _ _ => True) (fun _ U o U' => ∃ v L, o = .returned v ∧ (PQ (some (.int (1 : Int32))) h0 n0) v U'.heap L ∧ FrameEnd U o U' L ({ frames := 3, cells := 0, slots := 0, locals := 40 } : Room).cells ({ frames := 3, cells := 0, slots := 0, locals := 40 } : Room).slots) := by
  refine MetFree.of_bodySF (plainFor_of_name own_pn4) hisR ?_
  intro p e s m args below meth c s₁ Bd hml0 hP hK
  obtain ⟨rfl, hZ, hh⟩ := hP
  have hx := Bd.exec
  have hby := Bd.bytes
  have hml : c.maxLocals = 3 := hml0
  have hown : s.vm.findClass "com/example/measurewright/measurewright/Comparison" = some m.cls := findClass_of_methodNamed Bd.named
  have hnm := (name_of_methodNamed Bd.named Bd.method).1
  have X0 : Stand p l e ({ frames := 3, cells := 0, slots := 0, locals := 40 } : Room) s m #[(.ref (A 1)), (.ref r126), (.ref r127)] below meth c s₁ [] 0 0 := Stand.of_body Bd
  have e0 : s₁.heap = h0 := by rw [← hh, Bd.state]; rfl
  have N0 := Fr.nil n0
  have pre0 : ∀ t, Steps p.tables e below (s₁.setTop (mkF m 0 #[.val (.ref (A 1)), .val (.ref r126), .val (.ref r127)] [])) t → Steps p.tables e below (s₁.setTop (entryFrame m #[(.ref (A 1)), (.ref r126), (.ref r127)] 3)) t := fun t k => castTop (own_ef_rm47 m p1 p2 p3 A K r126 r127) k
  have KK0 : Keep h0 h0 [] := Keep.refl _ _
  obtain ⟨cq129, kq129, q129a, q129b, q129c⟩ := isOf hZ e0 G_E_r126
  obtain ⟨_, _, ⟨T129, L129, k129, n129⟩, -, X129, ⟨Lc129, hQ129, l129, y129, z129⟩, st129⟩ := X0.interfaceBack hx (xi := own_m6) (y := own_m3) hown (mvT hZ (hw _ (List.mem_of_getElem? (i := 36) rfl))) (mvT hZ (hw _ (List.mem_of_getElem? (i := 37) rfl))) (mvT hZ (hw _ (List.mem_of_getElem? (i := 38) rfl))) (mvT hZ (hw _ (List.mem_of_getElem? (i := 39) rfl))) (mvT hZ (hw _ (List.mem_of_getElem? (i := 40) rfl))) (mvT hZ (hw _ (List.mem_of_getElem? (i := 41) rfl))) (mvT hZ (hw _ (List.mem_of_getElem? (i := 42) rfl))) (mvT hZ (hw _ (List.mem_of_getElem? (i := 43) rfl))) (by decide) (backOf (W := 1) (rm19 l Z a0 hw [] h0 n0 p1 p2 p3 A K r126 r127 EN OL0 G_E_r127 G_E_r126 G_F_r126_java_lang_Integer_value G_F_r127_java_lang_Integer_value hp_101 hp_124) hZ (hw _ (List.mem_of_getElem? (i := 44) rfl)) (hw _ (List.mem_of_getElem? (i := 10) rfl)) (by decide) (by decide)) q129a q129b q129c (g := (mkF m 3 #[.val (.ref (A 1)), .val (.ref r126), .val (.ref r127)] [(.ref r127), (.ref r126), (.ref (A 1))])) rfl (by rw [hml]; rfl) (Steps.refl _) (argsL := [(.ref r127)]) (rest := [(.ref (A 1))]) (lenOf own_pd8 rfl) rfl (by show 2 * 0 + _ ≤ _; exact Nat.le_of_eq rfl) (hb hby own_d_prog_3_method_5_code_3) (fun _ _ => ⟨rfl, e0, (by decide : 0 + 0 ≤ _), (by decide : 0 + 0 ≤ _)⟩)
  dsimp only [Pt.U, Pt.locs, Pt.cells, Pt.slots] at X129 l129 y129 z129 st129 hQ129
  subst l129 y129 z129
  obtain ⟨rfl, N129q, e129⟩ := hQ129
  have N129 := Fr.app N0 N129q
  obtain ⟨cq131, q131, q131'⟩ := (EN.1.2.2.2.1.ext OL0.2).cell
  obtain ⟨_, _, ⟨T131, L131, k131, n131⟩, -, X131, ⟨Lc131, hQ131, l131, y131, z131⟩, st131⟩ := X129.privateBack hx (y := own_m1) hown (mvT hZ (hw _ (List.mem_of_getElem? (i := 57) rfl))) (mvT hZ (hw _ (List.mem_of_getElem? (i := 58) rfl))) (own_selpS (y := own_m1) (mvT hZ (hw _ (List.mem_of_getElem? (i := 18) rfl))) rfl (mvP (args := #[]) hZ (hw _ (List.mem_of_getElem? (i := 59) rfl))) (mvT hZ (hw _ (List.mem_of_getElem? (i := 58) rfl))) (by decide)) (Cond.privateMethod_at (mvP hZ (hw _ (List.mem_of_getElem? (i := 59) rfl)) (args := #[]))) (mvT hZ (hw _ (List.mem_of_getElem? (i := 60) rfl))) (by decide) (backOf (W := 0) (rm48 l Z a0 hw [] h0 n0 p1 p2 p3 A K EN OL0) hZ (hw _ (List.mem_of_getElem? (i := 60) rfl)) (hw _ (List.mem_of_getElem? (i := 6) rfl)) (by decide) (by decide)) (g := (mkF m 8 #[.val (.ref (A 1)), .val (.ref r126), .val (.ref r127)] [(.int (0 : Int32)), (.ref (A 1))])) rfl (by rw [hml]; rfl) (Steps.refl _) (a := (A 1)) (by rw [e129]; exact q131) q131' (argsL := [(.int (0 : Int32))]) (rest := []) (lenOf own_pd9 rfl) rfl (by show 2 * 0 + _ ≤ _; exact Nat.le_of_eq rfl) (hb hby own_d_prog_3_method_5_code_8) (fun _ _ => ⟨rfl, e129, (by decide : 0 + 0 ≤ _), (by decide : 0 + 0 ≤ _)⟩)
  dsimp only [Pt.U, Pt.locs, Pt.cells, Pt.slots] at X131 l131 y131 z131 st131 hQ131
  subst l131 y131 z131
  obtain ⟨rfl, N131q, e131⟩ := hQ131
  have N131 := Fr.app N129 N131q
  obtain ⟨fs, hr, hrun, hended, hW, hsame⟩ := X131.leave (v := some (.int (1 : Int32))) (fun h => by rw [Bd.returns] at h; cases h)
  refine ⟨_, _, pre0 _ ?_, hrun, hended, _, _, rfl, ?_, ⟨_, rfl⟩, hW, hsame.mono (by decide) (by decide)⟩
  · show Steps p.tables e below (s₁.setTop (mkF m 0 #[.val (.ref (A 1)), .val (.ref r126), .val (.ref r127)] [])) _
    refine XS.aloadN X0.here hx rfl (hb hby own_d_prog_3_method_5_code_0) rfl rfl ?_
    show Steps p.tables e below (s₁.setTop (mkF m 1 #[.val (.ref (A 1)), .val (.ref r126), .val (.ref r127)] [(.ref (A 1))])) _
    refine XS.aloadN X0.here hx rfl (hb hby own_d_prog_3_method_5_code_1) rfl rfl ?_
    show Steps p.tables e below (s₁.setTop (mkF m 2 #[.val (.ref (A 1)), .val (.ref r126), .val (.ref r127)] [(.ref r126), (.ref (A 1))])) _
    refine XS.aloadN X0.here hx rfl (hb hby own_d_prog_3_method_5_code_2) rfl rfl ?_
    show Steps p.tables e below (s₁.setTop (mkF m 3 #[.val (.ref (A 1)), .val (.ref r126), .val (.ref r127)] [(.ref r127), (.ref r126), (.ref (A 1))])) _
    refine st129.trans ?_
    show Steps p.tables e below (T129.setTop (mkF m 8 #[.val (.ref (A 1)), .val (.ref r126), .val (.ref r127)] [(.int (0 : Int32)), (.ref (A 1))])) _
    refine st131.trans ?_
    show Steps p.tables e below (T131.setTop (mkF m 11 #[.val (.ref (A 1)), .val (.ref r126), .val (.ref r127)] [(.int (1 : Int32))])) _
    exact retN X131 hx (t := .boolean) Bd.returns (by simp) (hb hby own_d_prog_3_method_5_code_11) hr
  · show PQ (some (.int (1 : Int32))) h0 n0 _ T131.heap _
    rw [e131]
    exact ⟨rfl, N131, rfl⟩
theorem own_ef_rm50 (m : MethodId) (p1 : Int32) (p2 : Int32) (p3 : Int32) (A : Nat → Addr) (K : Nat → ClassId)  : entryFrame m #[(.ref (A 3)), (.int (0 : Int32))] 2 = mkF m 0 #[.val (.ref (A 3)), .val (.int (0 : Int32))] [] := by first | (simp [entryFrame, mkF, argsToLocals, Value.category, maxLocals]; done) | rfl
set_option maxRecDepth 65536 in
set_option maxHeartbeats 40000000 in
theorem rm50 (l : Launch) (Z : State) (a0 : Array Value) (hw : ∀ d ∈ tables_1, d.before a0 Z = true) (ws : List Jvm.Cond) (h0 : Heap) (n0 : Nat) (p1 : Int32) (p2 : Int32) (p3 : Int32) (A : Nat → Addr) (K : Nat → ClassId)  (EN : own_St Z A K) (OL0 : Old Z n0 h0) :
    MetFree l own_m1 (head1 (Jvm.Cond.code own_m1 prog_3_method_6_code 2 (some .boolean) :: ws) ({ frames := 1, cells := 0, slots := 0, locals := 12 } : Room)) (fun a U => a = #[(.ref (A 3)), (.int (0 : Int32))] ∧ Z.Warmed39 U.vm ∧ U.heap = h0) (fun _ _ _ _ _ => True) (fun _ U o U' => ∃ v L, o = .returned v ∧ (PQ (some (.int (1 : Int32))) h0 n0) v U'.heap L ∧ FrameEnd U o U' L ({ frames := 1, cells := 0, slots := 0, locals := 12 } : Room).cells ({ frames := 1, cells := 0, slots := 0, locals := 12 } : Room).slots) := by
  refine MetFree.of_bodySF (plainFor_of_name own_pn4) hisR ?_
  intro p e s m args below meth c s₁ Bd hml0 hP hK
  obtain ⟨rfl, hZ, hh⟩ := hP
  have hx := Bd.exec
  have hby := Bd.bytes
  have hml : c.maxLocals = 2 := hml0
  have hown : s.vm.findClass "com/example/measurewright/measurewright/Comparison" = some m.cls := findClass_of_methodNamed Bd.named
  have hnm := (name_of_methodNamed Bd.named Bd.method).1
  have X0 : Stand p l e ({ frames := 1, cells := 0, slots := 0, locals := 12 } : Room) s m #[(.ref (A 3)), (.int (0 : Int32))] below meth c s₁ [] 0 0 := Stand.of_body Bd
  have e0 : s₁.heap = h0 := by rw [← hh, Bd.state]; rfl
  have N0 := Fr.nil n0
  have pre0 : ∀ t, Steps p.tables e below (s₁.setTop (mkF m 0 #[.val (.ref (A 3)), .val (.int (0 : Int32))] [])) t → Steps p.tables e below (s₁.setTop (entryFrame m #[(.ref (A 3)), (.int (0 : Int32))] 2)) t := fun t k => castTop (own_ef_rm50 m p1 p2 p3 A K ) k
  have KK0 : Keep h0 h0 [] := Keep.refl _ _
  obtain ⟨cq136, kq136, q136a, q136b, q136c⟩ := isOf hZ e0 (EN.1.2.2.2.2.2.2.2.1.ext OL0.2)
  obtain ⟨_, _, ⟨T136, L136, k136, n136⟩, -, X136, ⟨Lc136, hQ136, l136, y136, z136⟩, st136⟩ := X0.virtualBackUp hx (x := own_m9) (y := own_m5) (owner := "java/lang/Enum") hown (mvT hZ (hw _ (List.mem_of_getElem? (i := 20) rfl))) (mvT hZ (hw _ (List.mem_of_getElem? (i := 21) rfl))) (mvT hZ (hw _ (List.mem_of_getElem? (i := 22) rfl))) (by decide) (mvT hZ (hw _ (List.mem_of_getElem? (i := 24) rfl))) (mvT hZ (hw _ (List.mem_of_getElem? (i := 23) rfl))) (backOf (W := 0) (rm45 l Z a0 hw [] h0 n0 p1 p2 p3 A K EN OL0) hZ (hw _ (List.mem_of_getElem? (i := 26) rfl)) (hw _ (List.mem_of_getElem? (i := 25) rfl)) (by decide) (by decide)) q136a q136c (g := (mkF m 1 #[.val (.ref (A 3)), .val (.int (0 : Int32))] [(.ref (A 3))])) rfl (by rw [hml]; rfl) (Steps.refl _) (argsL := []) (rest := []) (lenOf own_pd4 rfl) rfl (by show 2 * 0 + _ ≤ _; exact Nat.le_of_eq rfl) (hb hby own_d_prog_3_method_6_code_1) (fun _ _ => ⟨rfl, e0, (by decide : 0 + 0 ≤ _), (by decide : 0 + 0 ≤ _)⟩)
  dsimp only [Pt.U, Pt.locs, Pt.cells, Pt.slots] at X136 l136 y136 z136 st136 hQ136
  subst l136 y136 z136
  obtain ⟨rfl, N136q, e136⟩ := hQ136
  have N136 := Fr.app N0 N136q
  obtain ⟨fs, hr, hrun, hended, hW, hsame⟩ := X136.leave (v := some (.int (1 : Int32))) (fun h => by rw [Bd.returns] at h; cases h)
  refine ⟨_, _, pre0 _ ?_, hrun, hended, _, _, rfl, ?_, ⟨_, rfl⟩, hW, hsame.mono (by decide) (by decide)⟩
  · show Steps p.tables e below (s₁.setTop (mkF m 0 #[.val (.ref (A 3)), .val (.int (0 : Int32))] [])) _
    refine XS.aloadN X0.here hx rfl (hb hby own_d_prog_3_method_6_code_0) rfl rfl ?_
    show Steps p.tables e below (s₁.setTop (mkF m 1 #[.val (.ref (A 3)), .val (.int (0 : Int32))] [(.ref (A 3))])) _
    refine st136.trans ?_
    show Steps p.tables e below (T136.setTop (mkF m 4 #[.val (.ref (A 3)), .val (.int (0 : Int32))] [(.int (3 : Int32))])) _
    refine XS.tswIn X136.here hx rfl (pc0 := 4) (pc' := 86) rfl (hb hby own_d_prog_3_method_6_code_4) rfl (by decide) (o := 82) (by decide) (by decide) (by decide) ?_
    show Steps p.tables e below (T136.setTop (mkF m 86 #[.val (.ref (A 3)), .val (.int (0 : Int32))] [])) _
    refine XS.iloadN X136.here hx rfl (hb hby own_d_prog_3_method_6_code_86) rfl ?_
    show Steps p.tables e below (T136.setTop (mkF m 87 #[.val (.ref (A 3)), .val (.int (0 : Int32))] [(.int (0 : Int32))])) _
    refine XS.ifNo X136.here hx rfl (hb hby own_d_prog_3_method_6_code_87) rfl ((if0 _ _).trans (flt (by decide : ¬ ((0 : Int32) < (0 : Int32)))).1) ?_
    show Steps p.tables e below (T136.setTop (mkF m 90 #[.val (.ref (A 3)), .val (.int (0 : Int32))] [])) _
    refine XS.iconst X136.here hx rfl (hb hby own_d_prog_3_method_6_code_90) ?_
    show Steps p.tables e below (T136.setTop (mkF m 91 #[.val (.ref (A 3)), .val (.int (0 : Int32))] [(.int (1 : Int32))])) _
    refine XS.goto X136.here hx rfl (pc0 := 91) (pc' := 107) rfl (hb hby own_d_prog_3_method_6_code_91) (by decide) (by decide) ?_
    show Steps p.tables e below (T136.setTop (mkF m 107 #[.val (.ref (A 3)), .val (.int (0 : Int32))] [(.int (1 : Int32))])) _
    exact retN X136 hx (t := .boolean) Bd.returns (by simp) (hb hby own_d_prog_3_method_6_code_107) hr
  · show PQ (some (.int (1 : Int32))) h0 n0 _ T136.heap _
    rw [e136]
    exact ⟨rfl, N136, rfl⟩
theorem own_ef_rm49 (m : MethodId) (p1 : Int32) (p2 : Int32) (p3 : Int32) (A : Nat → Addr) (K : Nat → ClassId)  (r126 : Addr) (r127 : Addr) : entryFrame m #[(.ref (A 3)), (.ref r127), (.ref r126)] 3 = mkF m 0 #[.val (.ref (A 3)), .val (.ref r127), .val (.ref r126)] [] := by first | (simp [entryFrame, mkF, argsToLocals, Value.category, maxLocals]; done) | rfl
set_option maxRecDepth 65536 in
set_option maxHeartbeats 40000000 in
theorem rm49 (l : Launch) (Z : State) (a0 : Array Value) (hw : ∀ d ∈ tables_1, d.before a0 Z = true) (ws : List Jvm.Cond) (h0 : Heap) (n0 : Nat) (p1 : Int32) (p2 : Int32) (p3 : Int32) (A : Nat → Addr) (K : Nat → ClassId)  (r126 : Addr) (r127 : Addr) (EN : own_St Z A K) (OL0 : Old Z n0 h0) (G_E_r127 : Exa Z h0 r127 "java/lang/Integer") (G_E_r126 : Exa Z h0 r126 "java/lang/Integer") (G_F_r127_java_lang_Integer_value : Fld Z h0 r127 "java/lang/Integer" "value" "I" (.int p3)) (G_F_r126_java_lang_Integer_value : Fld Z h0 r126 "java/lang/Integer" "value" "I" (.int p2)) (hp_101 : ¬ (p2 < p3)) (hp_124 : p2 = p3) :
    MetFree l own_m0 (head1 (Jvm.Cond.code own_m0 prog_3_method_5_code 3 (some .boolean) :: ws) ({ frames := 3, cells := 0, slots := 0, locals := 40 } : Room)) (fun a U => a = #[(.ref (A 3)), (.ref r127), (.ref r126)] ∧ Z.Warmed39 U.vm ∧ U.heap = h0) (fun _ _ _ _ _ => True) (fun _ U o U' => ∃ v L, o = .returned v ∧ (PQ (some (.int (1 : Int32))) h0 n0) v U'.heap L ∧ FrameEnd U o U' L ({ frames := 3, cells := 0, slots := 0, locals := 40 } : Room).cells ({ frames := 3, cells := 0, slots := 0, locals := 40 } : Room).slots) := by
  refine MetFree.of_bodySF (plainFor_of_name own_pn4) hisR ?_
  intro p e s m args below meth c s₁ Bd hml0 hP hK
  obtain ⟨rfl, hZ, hh⟩ := hP
  have hx := Bd.exec
  have hby := Bd.bytes
  have hml : c.maxLocals = 3 := hml0
  have hown : s.vm.findClass "com/example/measurewright/measurewright/Comparison" = some m.cls := findClass_of_methodNamed Bd.named
  have hnm := (name_of_methodNamed Bd.named Bd.method).1
  have X0 : Stand p l e ({ frames := 3, cells := 0, slots := 0, locals := 40 } : Room) s m #[(.ref (A 3)), (.ref r127), (.ref r126)] below meth c s₁ [] 0 0 := Stand.of_body Bd
  have e0 : s₁.heap = h0 := by rw [← hh, Bd.state]; rfl
  have N0 := Fr.nil n0
  have pre0 : ∀ t, Steps p.tables e below (s₁.setTop (mkF m 0 #[.val (.ref (A 3)), .val (.ref r127), .val (.ref r126)] [])) t → Steps p.tables e below (s₁.setTop (entryFrame m #[(.ref (A 3)), (.ref r127), (.ref r126)] 3)) t := fun t k => castTop (own_ef_rm49 m p1 p2 p3 A K r126 r127) k
  have KK0 : Keep h0 h0 [] := Keep.refl _ _
  obtain ⟨cq135, kq135, q135a, q135b, q135c⟩ := isOf hZ e0 G_E_r127
  obtain ⟨_, _, ⟨T135, L135, k135, n135⟩, -, X135, ⟨Lc135, hQ135, l135, y135, z135⟩, st135⟩ := X0.interfaceBack hx (xi := own_m6) (y := own_m3) hown (mvT hZ (hw _ (List.mem_of_getElem? (i := 36) rfl))) (mvT hZ (hw _ (List.mem_of_getElem? (i := 37) rfl))) (mvT hZ (hw _ (List.mem_of_getElem? (i := 38) rfl))) (mvT hZ (hw _ (List.mem_of_getElem? (i := 39) rfl))) (mvT hZ (hw _ (List.mem_of_getElem? (i := 40) rfl))) (mvT hZ (hw _ (List.mem_of_getElem? (i := 41) rfl))) (mvT hZ (hw _ (List.mem_of_getElem? (i := 42) rfl))) (mvT hZ (hw _ (List.mem_of_getElem? (i := 43) rfl))) (by decide) (backOf (W := 1) (rm24 l Z a0 hw [] h0 n0 p1 p2 p3 A K r126 r127 EN OL0 G_E_r126 G_E_r127 G_F_r127_java_lang_Integer_value G_F_r126_java_lang_Integer_value hp_101 hp_124) hZ (hw _ (List.mem_of_getElem? (i := 44) rfl)) (hw _ (List.mem_of_getElem? (i := 10) rfl)) (by decide) (by decide)) q135a q135b q135c (g := (mkF m 3 #[.val (.ref (A 3)), .val (.ref r127), .val (.ref r126)] [(.ref r126), (.ref r127), (.ref (A 3))])) rfl (by rw [hml]; rfl) (Steps.refl _) (argsL := [(.ref r126)]) (rest := [(.ref (A 3))]) (lenOf own_pd8 rfl) rfl (by show 2 * 0 + _ ≤ _; exact Nat.le_of_eq rfl) (hb hby own_d_prog_3_method_5_code_3) (fun _ _ => ⟨rfl, e0, (by decide : 0 + 0 ≤ _), (by decide : 0 + 0 ≤ _)⟩)
  dsimp only [Pt.U, Pt.locs, Pt.cells, Pt.slots] at X135 l135 y135 z135 st135 hQ135
  subst l135 y135 z135
  obtain ⟨rfl, N135q, e135⟩ := hQ135
  have N135 := Fr.app N0 N135q
  obtain ⟨cq137, q137, q137'⟩ := (EN.1.2.2.2.2.2.2.2.1.ext OL0.2).cell
  obtain ⟨_, _, ⟨T137, L137, k137, n137⟩, -, X137, ⟨Lc137, hQ137, l137, y137, z137⟩, st137⟩ := X135.privateBack hx (y := own_m1) hown (mvT hZ (hw _ (List.mem_of_getElem? (i := 57) rfl))) (mvT hZ (hw _ (List.mem_of_getElem? (i := 58) rfl))) (own_selpS (y := own_m1) (mvT hZ (hw _ (List.mem_of_getElem? (i := 18) rfl))) rfl (mvP (args := #[]) hZ (hw _ (List.mem_of_getElem? (i := 59) rfl))) (mvT hZ (hw _ (List.mem_of_getElem? (i := 58) rfl))) (by decide)) (Cond.privateMethod_at (mvP hZ (hw _ (List.mem_of_getElem? (i := 59) rfl)) (args := #[]))) (mvT hZ (hw _ (List.mem_of_getElem? (i := 60) rfl))) (by decide) (backOf (W := 0) (rm50 l Z a0 hw [] h0 n0 p1 p2 p3 A K EN OL0) hZ (hw _ (List.mem_of_getElem? (i := 60) rfl)) (hw _ (List.mem_of_getElem? (i := 6) rfl)) (by decide) (by decide)) (g := (mkF m 8 #[.val (.ref (A 3)), .val (.ref r127), .val (.ref r126)] [(.int (0 : Int32)), (.ref (A 3))])) rfl (by rw [hml]; rfl) (Steps.refl _) (a := (A 3)) (by rw [e135]; exact q137) q137' (argsL := [(.int (0 : Int32))]) (rest := []) (lenOf own_pd9 rfl) rfl (by show 2 * 0 + _ ≤ _; exact Nat.le_of_eq rfl) (hb hby own_d_prog_3_method_5_code_8) (fun _ _ => ⟨rfl, e135, (by decide : 0 + 0 ≤ _), (by decide : 0 + 0 ≤ _)⟩)
  dsimp only [Pt.U, Pt.locs, Pt.cells, Pt.slots] at X137 l137 y137 z137 st137 hQ137
  subst l137 y137 z137
  obtain ⟨rfl, N137q, e137⟩ := hQ137
  have N137 := Fr.app N135 N137q
  obtain ⟨fs, hr, hrun, hended, hW, hsame⟩ := X137.leave (v := some (.int (1 : Int32))) (fun h => by rw [Bd.returns] at h; cases h)
  refine ⟨_, _, pre0 _ ?_, hrun, hended, _, _, rfl, ?_, ⟨_, rfl⟩, hW, hsame.mono (by decide) (by decide)⟩
  · show Steps p.tables e below (s₁.setTop (mkF m 0 #[.val (.ref (A 3)), .val (.ref r127), .val (.ref r126)] [])) _
    refine XS.aloadN X0.here hx rfl (hb hby own_d_prog_3_method_5_code_0) rfl rfl ?_
    show Steps p.tables e below (s₁.setTop (mkF m 1 #[.val (.ref (A 3)), .val (.ref r127), .val (.ref r126)] [(.ref (A 3))])) _
    refine XS.aloadN X0.here hx rfl (hb hby own_d_prog_3_method_5_code_1) rfl rfl ?_
    show Steps p.tables e below (s₁.setTop (mkF m 2 #[.val (.ref (A 3)), .val (.ref r127), .val (.ref r126)] [(.ref r127), (.ref (A 3))])) _
    refine XS.aloadN X0.here hx rfl (hb hby own_d_prog_3_method_5_code_2) rfl rfl ?_
    show Steps p.tables e below (s₁.setTop (mkF m 3 #[.val (.ref (A 3)), .val (.ref r127), .val (.ref r126)] [(.ref r126), (.ref r127), (.ref (A 3))])) _
    refine st135.trans ?_
    show Steps p.tables e below (T135.setTop (mkF m 8 #[.val (.ref (A 3)), .val (.ref r127), .val (.ref r126)] [(.int (0 : Int32)), (.ref (A 3))])) _
    refine st137.trans ?_
    show Steps p.tables e below (T137.setTop (mkF m 11 #[.val (.ref (A 3)), .val (.ref r127), .val (.ref r126)] [(.int (1 : Int32))])) _
    exact retN X137 hx (t := .boolean) Bd.returns (by simp) (hb hby own_d_prog_3_method_5_code_11) hr
  · show PQ (some (.int (1 : Int32))) h0 n0 _ T137.heap _
    rw [e137]
    exact ⟨rfl, N137, rfl⟩
theorem own_d_prog_3_method_6_code_70 : decode prog_3_method_6_code 70 = .ok (.iconst 0, 1) := by decide +kernel
theorem own_d_prog_3_method_6_code_71 : decode prog_3_method_6_code 71 = .ok (.goto 36, 3) := by decide +kernel
theorem own_ef_rm52 (m : MethodId) (p1 : Int32) (p2 : Int32) (p3 : Int32) (A : Nat → Addr) (K : Nat → ClassId)  : entryFrame m #[(.ref (A 1)), (.int (1 : Int32))] 2 = mkF m 0 #[.val (.ref (A 1)), .val (.int (1 : Int32))] [] := by first | (simp [entryFrame, mkF, argsToLocals, Value.category, maxLocals]; done) | rfl
set_option maxRecDepth 65536 in
set_option maxHeartbeats 40000000 in
theorem rm52 (l : Launch) (Z : State) (a0 : Array Value) (hw : ∀ d ∈ tables_1, d.before a0 Z = true) (ws : List Jvm.Cond) (h0 : Heap) (n0 : Nat) (p1 : Int32) (p2 : Int32) (p3 : Int32) (A : Nat → Addr) (K : Nat → ClassId)  (EN : own_St Z A K) (OL0 : Old Z n0 h0) :
    MetFree l own_m1 (head1 (Jvm.Cond.code own_m1 prog_3_method_6_code 2 (some .boolean) :: ws) ({ frames := 1, cells := 0, slots := 0, locals := 12 } : Room)) (fun a U => a = #[(.ref (A 1)), (.int (1 : Int32))] ∧ Z.Warmed39 U.vm ∧ U.heap = h0) (fun _ _ _ _ _ => True) (fun _ U o U' => ∃ v L, o = .returned v ∧ (PQ (some (.int (0 : Int32))) h0 n0) v U'.heap L ∧ FrameEnd U o U' L ({ frames := 1, cells := 0, slots := 0, locals := 12 } : Room).cells ({ frames := 1, cells := 0, slots := 0, locals := 12 } : Room).slots) := by
  refine MetFree.of_bodySF (plainFor_of_name own_pn4) hisR ?_
  intro p e s m args below meth c s₁ Bd hml0 hP hK
  obtain ⟨rfl, hZ, hh⟩ := hP
  have hx := Bd.exec
  have hby := Bd.bytes
  have hml : c.maxLocals = 2 := hml0
  have hown : s.vm.findClass "com/example/measurewright/measurewright/Comparison" = some m.cls := findClass_of_methodNamed Bd.named
  have hnm := (name_of_methodNamed Bd.named Bd.method).1
  have X0 : Stand p l e ({ frames := 1, cells := 0, slots := 0, locals := 12 } : Room) s m #[(.ref (A 1)), (.int (1 : Int32))] below meth c s₁ [] 0 0 := Stand.of_body Bd
  have e0 : s₁.heap = h0 := by rw [← hh, Bd.state]; rfl
  have N0 := Fr.nil n0
  have pre0 : ∀ t, Steps p.tables e below (s₁.setTop (mkF m 0 #[.val (.ref (A 1)), .val (.int (1 : Int32))] [])) t → Steps p.tables e below (s₁.setTop (entryFrame m #[(.ref (A 1)), (.int (1 : Int32))] 2)) t := fun t k => castTop (own_ef_rm52 m p1 p2 p3 A K ) k
  have KK0 : Keep h0 h0 [] := Keep.refl _ _
  obtain ⟨cq145, kq145, q145a, q145b, q145c⟩ := isOf hZ e0 (EN.1.2.2.2.1.ext OL0.2)
  obtain ⟨_, _, ⟨T145, L145, k145, n145⟩, -, X145, ⟨Lc145, hQ145, l145, y145, z145⟩, st145⟩ := X0.virtualBackUp hx (x := own_m9) (y := own_m5) (owner := "java/lang/Enum") hown (mvT hZ (hw _ (List.mem_of_getElem? (i := 20) rfl))) (mvT hZ (hw _ (List.mem_of_getElem? (i := 21) rfl))) (mvT hZ (hw _ (List.mem_of_getElem? (i := 22) rfl))) (by decide) (mvT hZ (hw _ (List.mem_of_getElem? (i := 24) rfl))) (mvT hZ (hw _ (List.mem_of_getElem? (i := 23) rfl))) (backOf (W := 0) (rm40 l Z a0 hw [] h0 n0 p1 p2 p3 A K EN OL0) hZ (hw _ (List.mem_of_getElem? (i := 26) rfl)) (hw _ (List.mem_of_getElem? (i := 25) rfl)) (by decide) (by decide)) q145a q145c (g := (mkF m 1 #[.val (.ref (A 1)), .val (.int (1 : Int32))] [(.ref (A 1))])) rfl (by rw [hml]; rfl) (Steps.refl _) (argsL := []) (rest := []) (lenOf own_pd4 rfl) rfl (by show 2 * 0 + _ ≤ _; exact Nat.le_of_eq rfl) (hb hby own_d_prog_3_method_6_code_1) (fun _ _ => ⟨rfl, e0, (by decide : 0 + 0 ≤ _), (by decide : 0 + 0 ≤ _)⟩)
  dsimp only [Pt.U, Pt.locs, Pt.cells, Pt.slots] at X145 l145 y145 z145 st145 hQ145
  subst l145 y145 z145
  obtain ⟨rfl, N145q, e145⟩ := hQ145
  have N145 := Fr.app N0 N145q
  obtain ⟨fs, hr, hrun, hended, hW, hsame⟩ := X145.leave (v := some (.int (0 : Int32))) (fun h => by rw [Bd.returns] at h; cases h)
  refine ⟨_, _, pre0 _ ?_, hrun, hended, _, _, rfl, ?_, ⟨_, rfl⟩, hW, hsame.mono (by decide) (by decide)⟩
  · show Steps p.tables e below (s₁.setTop (mkF m 0 #[.val (.ref (A 1)), .val (.int (1 : Int32))] [])) _
    refine XS.aloadN X0.here hx rfl (hb hby own_d_prog_3_method_6_code_0) rfl rfl ?_
    show Steps p.tables e below (s₁.setTop (mkF m 1 #[.val (.ref (A 1)), .val (.int (1 : Int32))] [(.ref (A 1))])) _
    refine st145.trans ?_
    show Steps p.tables e below (T145.setTop (mkF m 4 #[.val (.ref (A 1)), .val (.int (1 : Int32))] [(.int (1 : Int32))])) _
    refine XS.tswIn X145.here hx rfl (pc0 := 4) (pc' := 62) rfl (hb hby own_d_prog_3_method_6_code_4) rfl (by decide) (o := 58) (by decide) (by decide) (by decide) ?_
    show Steps p.tables e below (T145.setTop (mkF m 62 #[.val (.ref (A 1)), .val (.int (1 : Int32))] [])) _
    refine XS.iloadN X145.here hx rfl (hb hby own_d_prog_3_method_6_code_62) rfl ?_
    show Steps p.tables e below (T145.setTop (mkF m 63 #[.val (.ref (A 1)), .val (.int (1 : Int32))] [(.int (1 : Int32))])) _
    refine XS.ifYes X145.here hx rfl (pc0 := 63) (pc' := 70) rfl (hb hby own_d_prog_3_method_6_code_63) rfl ((if0 _ _).trans (tlt (by decide : (0 : Int32) < (1 : Int32))).2.2.1) (by decide) (by decide) ?_
    show Steps p.tables e below (T145.setTop (mkF m 70 #[.val (.ref (A 1)), .val (.int (1 : Int32))] [])) _
    refine XS.iconst X145.here hx rfl (hb hby own_d_prog_3_method_6_code_70) ?_
    show Steps p.tables e below (T145.setTop (mkF m 71 #[.val (.ref (A 1)), .val (.int (1 : Int32))] [(.int (0 : Int32))])) _
    refine XS.goto X145.here hx rfl (pc0 := 71) (pc' := 107) rfl (hb hby own_d_prog_3_method_6_code_71) (by decide) (by decide) ?_
    show Steps p.tables e below (T145.setTop (mkF m 107 #[.val (.ref (A 1)), .val (.int (1 : Int32))] [(.int (0 : Int32))])) _
    exact retN X145 hx (t := .boolean) Bd.returns (by simp) (hb hby own_d_prog_3_method_6_code_107) hr
  · show PQ (some (.int (0 : Int32))) h0 n0 _ T145.heap _
    rw [e145]
    exact ⟨rfl, N145, rfl⟩
theorem own_ef_rm51 (m : MethodId) (p1 : Int32) (p2 : Int32) (p3 : Int32) (A : Nat → Addr) (K : Nat → ClassId)  (r141 : Addr) (r142 : Addr) : entryFrame m #[(.ref (A 1)), (.ref r141), (.ref r142)] 3 = mkF m 0 #[.val (.ref (A 1)), .val (.ref r141), .val (.ref r142)] [] := by first | (simp [entryFrame, mkF, argsToLocals, Value.category, maxLocals]; done) | rfl
set_option maxRecDepth 65536 in
set_option maxHeartbeats 40000000 in
theorem rm51 (l : Launch) (Z : State) (a0 : Array Value) (hw : ∀ d ∈ tables_1, d.before a0 Z = true) (ws : List Jvm.Cond) (h0 : Heap) (n0 : Nat) (p1 : Int32) (p2 : Int32) (p3 : Int32) (A : Nat → Addr) (K : Nat → ClassId)  (r141 : Addr) (r142 : Addr) (EN : own_St Z A K) (OL0 : Old Z n0 h0) (G_E_r141 : Exa Z h0 r141 "java/lang/Integer") (G_E_r142 : Exa Z h0 r142 "java/lang/Integer") (G_F_r141_java_lang_Integer_value : Fld Z h0 r141 "java/lang/Integer" "value" "I" (.int p2)) (G_F_r142_java_lang_Integer_value : Fld Z h0 r142 "java/lang/Integer" "value" "I" (.int p3)) (hp_101 : ¬ (p2 < p3)) (hp_124 : ¬ (p2 = p3)) :
    MetFree l own_m0 (head1 (Jvm.Cond.code own_m0 prog_3_method_5_code 3 (some .boolean) :: ws) ({ frames := 3, cells := 0, slots := 0, locals := 40 } : Room)) (fun a U => a = #[(.ref (A 1)), (.ref r141), (.ref r142)] ∧ Z.Warmed39 U.vm ∧ U.heap = h0) (fun _ _ _ _ _ => True) (fun _ U o U' => ∃ v L, o = .returned v ∧ (PQ (some (.int (0 : Int32))) h0 n0) v U'.heap L ∧ FrameEnd U o U' L ({ frames := 3, cells := 0, slots := 0, locals := 40 } : Room).cells ({ frames := 3, cells := 0, slots := 0, locals := 40 } : Room).slots) := by
  refine MetFree.of_bodySF (plainFor_of_name own_pn4) hisR ?_
  intro p e s m args below meth c s₁ Bd hml0 hP hK
  obtain ⟨rfl, hZ, hh⟩ := hP
  have hx := Bd.exec
  have hby := Bd.bytes
  have hml : c.maxLocals = 3 := hml0
  have hown : s.vm.findClass "com/example/measurewright/measurewright/Comparison" = some m.cls := findClass_of_methodNamed Bd.named
  have hnm := (name_of_methodNamed Bd.named Bd.method).1
  have X0 : Stand p l e ({ frames := 3, cells := 0, slots := 0, locals := 40 } : Room) s m #[(.ref (A 1)), (.ref r141), (.ref r142)] below meth c s₁ [] 0 0 := Stand.of_body Bd
  have e0 : s₁.heap = h0 := by rw [← hh, Bd.state]; rfl
  have N0 := Fr.nil n0
  have pre0 : ∀ t, Steps p.tables e below (s₁.setTop (mkF m 0 #[.val (.ref (A 1)), .val (.ref r141), .val (.ref r142)] [])) t → Steps p.tables e below (s₁.setTop (entryFrame m #[(.ref (A 1)), (.ref r141), (.ref r142)] 3)) t := fun t k => castTop (own_ef_rm51 m p1 p2 p3 A K r141 r142) k
  have KK0 : Keep h0 h0 [] := Keep.refl _ _
  obtain ⟨cq144, kq144, q144a, q144b, q144c⟩ := isOf hZ e0 G_E_r141
  obtain ⟨_, _, ⟨T144, L144, k144, n144⟩, -, X144, ⟨Lc144, hQ144, l144, y144, z144⟩, st144⟩ := X0.interfaceBack hx (xi := own_m6) (y := own_m3) hown (mvT hZ (hw _ (List.mem_of_getElem? (i := 36) rfl))) (mvT hZ (hw _ (List.mem_of_getElem? (i := 37) rfl))) (mvT hZ (hw _ (List.mem_of_getElem? (i := 38) rfl))) (mvT hZ (hw _ (List.mem_of_getElem? (i := 39) rfl))) (mvT hZ (hw _ (List.mem_of_getElem? (i := 40) rfl))) (mvT hZ (hw _ (List.mem_of_getElem? (i := 41) rfl))) (mvT hZ (hw _ (List.mem_of_getElem? (i := 42) rfl))) (mvT hZ (hw _ (List.mem_of_getElem? (i := 43) rfl))) (by decide) (backOf (W := 1) (rm29 l Z a0 hw [] h0 n0 p1 p2 p3 A K r141 r142 EN OL0 G_E_r142 G_E_r141 G_F_r141_java_lang_Integer_value G_F_r142_java_lang_Integer_value hp_101 hp_124) hZ (hw _ (List.mem_of_getElem? (i := 44) rfl)) (hw _ (List.mem_of_getElem? (i := 10) rfl)) (by decide) (by decide)) q144a q144b q144c (g := (mkF m 3 #[.val (.ref (A 1)), .val (.ref r141), .val (.ref r142)] [(.ref r142), (.ref r141), (.ref (A 1))])) rfl (by rw [hml]; rfl) (Steps.refl _) (argsL := [(.ref r142)]) (rest := [(.ref (A 1))]) (lenOf own_pd8 rfl) rfl (by show 2 * 0 + _ ≤ _; exact Nat.le_of_eq rfl) (hb hby own_d_prog_3_method_5_code_3) (fun _ _ => ⟨rfl, e0, (by decide : 0 + 0 ≤ _), (by decide : 0 + 0 ≤ _)⟩)
  dsimp only [Pt.U, Pt.locs, Pt.cells, Pt.slots] at X144 l144 y144 z144 st144 hQ144
  subst l144 y144 z144
  obtain ⟨rfl, N144q, e144⟩ := hQ144
  have N144 := Fr.app N0 N144q
  obtain ⟨cq146, q146, q146'⟩ := (EN.1.2.2.2.1.ext OL0.2).cell
  obtain ⟨_, _, ⟨T146, L146, k146, n146⟩, -, X146, ⟨Lc146, hQ146, l146, y146, z146⟩, st146⟩ := X144.privateBack hx (y := own_m1) hown (mvT hZ (hw _ (List.mem_of_getElem? (i := 57) rfl))) (mvT hZ (hw _ (List.mem_of_getElem? (i := 58) rfl))) (own_selpS (y := own_m1) (mvT hZ (hw _ (List.mem_of_getElem? (i := 18) rfl))) rfl (mvP (args := #[]) hZ (hw _ (List.mem_of_getElem? (i := 59) rfl))) (mvT hZ (hw _ (List.mem_of_getElem? (i := 58) rfl))) (by decide)) (Cond.privateMethod_at (mvP hZ (hw _ (List.mem_of_getElem? (i := 59) rfl)) (args := #[]))) (mvT hZ (hw _ (List.mem_of_getElem? (i := 60) rfl))) (by decide) (backOf (W := 0) (rm52 l Z a0 hw [] h0 n0 p1 p2 p3 A K EN OL0) hZ (hw _ (List.mem_of_getElem? (i := 60) rfl)) (hw _ (List.mem_of_getElem? (i := 6) rfl)) (by decide) (by decide)) (g := (mkF m 8 #[.val (.ref (A 1)), .val (.ref r141), .val (.ref r142)] [(.int (1 : Int32)), (.ref (A 1))])) rfl (by rw [hml]; rfl) (Steps.refl _) (a := (A 1)) (by rw [e144]; exact q146) q146' (argsL := [(.int (1 : Int32))]) (rest := []) (lenOf own_pd9 rfl) rfl (by show 2 * 0 + _ ≤ _; exact Nat.le_of_eq rfl) (hb hby own_d_prog_3_method_5_code_8) (fun _ _ => ⟨rfl, e144, (by decide : 0 + 0 ≤ _), (by decide : 0 + 0 ≤ _)⟩)
  dsimp only [Pt.U, Pt.locs, Pt.cells, Pt.slots] at X146 l146 y146 z146 st146 hQ146
  subst l146 y146 z146
  obtain ⟨rfl, N146q, e146⟩ := hQ146
  have N146 := Fr.app N144 N146q
  obtain ⟨fs, hr, hrun, hended, hW, hsame⟩ := X146.leave (v := some (.int (0 : Int32))) (fun h => by rw [Bd.returns] at h; cases h)
  refine ⟨_, _, pre0 _ ?_, hrun, hended, _, _, rfl, ?_, ⟨_, rfl⟩, hW, hsame.mono (by decide) (by decide)⟩
  · show Steps p.tables e below (s₁.setTop (mkF m 0 #[.val (.ref (A 1)), .val (.ref r141), .val (.ref r142)] [])) _
    refine XS.aloadN X0.here hx rfl (hb hby own_d_prog_3_method_5_code_0) rfl rfl ?_
    show Steps p.tables e below (s₁.setTop (mkF m 1 #[.val (.ref (A 1)), .val (.ref r141), .val (.ref r142)] [(.ref (A 1))])) _
    refine XS.aloadN X0.here hx rfl (hb hby own_d_prog_3_method_5_code_1) rfl rfl ?_
    show Steps p.tables e below (s₁.setTop (mkF m 2 #[.val (.ref (A 1)), .val (.ref r141), .val (.ref r142)] [(.ref r141), (.ref (A 1))])) _
    refine XS.aloadN X0.here hx rfl (hb hby own_d_prog_3_method_5_code_2) rfl rfl ?_
    show Steps p.tables e below (s₁.setTop (mkF m 3 #[.val (.ref (A 1)), .val (.ref r141), .val (.ref r142)] [(.ref r142), (.ref r141), (.ref (A 1))])) _
    refine st144.trans ?_
    show Steps p.tables e below (T144.setTop (mkF m 8 #[.val (.ref (A 1)), .val (.ref r141), .val (.ref r142)] [(.int (1 : Int32)), (.ref (A 1))])) _
    refine st146.trans ?_
    show Steps p.tables e below (T146.setTop (mkF m 11 #[.val (.ref (A 1)), .val (.ref r141), .val (.ref r142)] [(.int (0 : Int32))])) _
    exact retN X146 hx (t := .boolean) Bd.returns (by simp) (hb hby own_d_prog_3_method_5_code_11) hr
  · show PQ (some (.int (0 : Int32))) h0 n0 _ T146.heap _
    rw [e146]
    exact ⟨rfl, N146, rfl⟩
theorem own_d_prog_3_method_6_code_94 : decode prog_3_method_6_code 94 = .ok (.iconst 0, 1) := by decide +kernel
theorem own_d_prog_3_method_6_code_95 : decode prog_3_method_6_code 95 = .ok (.goto 12, 3) := by decide +kernel
theorem own_ef_rm54 (m : MethodId) (p1 : Int32) (p2 : Int32) (p3 : Int32) (A : Nat → Addr) (K : Nat → ClassId)  : entryFrame m #[(.ref (A 3)), (.int (-1 : Int32))] 2 = mkF m 0 #[.val (.ref (A 3)), .val (.int (-1 : Int32))] [] := by first | (simp [entryFrame, mkF, argsToLocals, Value.category, maxLocals]; done) | rfl
set_option maxRecDepth 65536 in
set_option maxHeartbeats 40000000 in
theorem rm54 (l : Launch) (Z : State) (a0 : Array Value) (hw : ∀ d ∈ tables_1, d.before a0 Z = true) (ws : List Jvm.Cond) (h0 : Heap) (n0 : Nat) (p1 : Int32) (p2 : Int32) (p3 : Int32) (A : Nat → Addr) (K : Nat → ClassId)  (EN : own_St Z A K) (OL0 : Old Z n0 h0) :
    MetFree l own_m1 (head1 (Jvm.Cond.code own_m1 prog_3_method_6_code 2 (some .boolean) :: ws) ({ frames := 1, cells := 0, slots := 0, locals := 12 } : Room)) (fun a U => a = #[(.ref (A 3)), (.int (-1 : Int32))] ∧ Z.Warmed39 U.vm ∧ U.heap = h0) (fun _ _ _ _ _ => True) (fun _ U o U' => ∃ v L, o = .returned v ∧ (PQ (some (.int (0 : Int32))) h0 n0) v U'.heap L ∧ FrameEnd U o U' L ({ frames := 1, cells := 0, slots := 0, locals := 12 } : Room).cells ({ frames := 1, cells := 0, slots := 0, locals := 12 } : Room).slots) := by
  refine MetFree.of_bodySF (plainFor_of_name own_pn4) hisR ?_
  intro p e s m args below meth c s₁ Bd hml0 hP hK
  obtain ⟨rfl, hZ, hh⟩ := hP
  have hx := Bd.exec
  have hby := Bd.bytes
  have hml : c.maxLocals = 2 := hml0
  have hown : s.vm.findClass "com/example/measurewright/measurewright/Comparison" = some m.cls := findClass_of_methodNamed Bd.named
  have hnm := (name_of_methodNamed Bd.named Bd.method).1
  have X0 : Stand p l e ({ frames := 1, cells := 0, slots := 0, locals := 12 } : Room) s m #[(.ref (A 3)), (.int (-1 : Int32))] below meth c s₁ [] 0 0 := Stand.of_body Bd
  have e0 : s₁.heap = h0 := by rw [← hh, Bd.state]; rfl
  have N0 := Fr.nil n0
  have pre0 : ∀ t, Steps p.tables e below (s₁.setTop (mkF m 0 #[.val (.ref (A 3)), .val (.int (-1 : Int32))] [])) t → Steps p.tables e below (s₁.setTop (entryFrame m #[(.ref (A 3)), (.int (-1 : Int32))] 2)) t := fun t k => castTop (own_ef_rm54 m p1 p2 p3 A K ) k
  have KK0 : Keep h0 h0 [] := Keep.refl _ _
  obtain ⟨cq151, kq151, q151a, q151b, q151c⟩ := isOf hZ e0 (EN.1.2.2.2.2.2.2.2.1.ext OL0.2)
  obtain ⟨_, _, ⟨T151, L151, k151, n151⟩, -, X151, ⟨Lc151, hQ151, l151, y151, z151⟩, st151⟩ := X0.virtualBackUp hx (x := own_m9) (y := own_m5) (owner := "java/lang/Enum") hown (mvT hZ (hw _ (List.mem_of_getElem? (i := 20) rfl))) (mvT hZ (hw _ (List.mem_of_getElem? (i := 21) rfl))) (mvT hZ (hw _ (List.mem_of_getElem? (i := 22) rfl))) (by decide) (mvT hZ (hw _ (List.mem_of_getElem? (i := 24) rfl))) (mvT hZ (hw _ (List.mem_of_getElem? (i := 23) rfl))) (backOf (W := 0) (rm45 l Z a0 hw [] h0 n0 p1 p2 p3 A K EN OL0) hZ (hw _ (List.mem_of_getElem? (i := 26) rfl)) (hw _ (List.mem_of_getElem? (i := 25) rfl)) (by decide) (by decide)) q151a q151c (g := (mkF m 1 #[.val (.ref (A 3)), .val (.int (-1 : Int32))] [(.ref (A 3))])) rfl (by rw [hml]; rfl) (Steps.refl _) (argsL := []) (rest := []) (lenOf own_pd4 rfl) rfl (by show 2 * 0 + _ ≤ _; exact Nat.le_of_eq rfl) (hb hby own_d_prog_3_method_6_code_1) (fun _ _ => ⟨rfl, e0, (by decide : 0 + 0 ≤ _), (by decide : 0 + 0 ≤ _)⟩)
  dsimp only [Pt.U, Pt.locs, Pt.cells, Pt.slots] at X151 l151 y151 z151 st151 hQ151
  subst l151 y151 z151
  obtain ⟨rfl, N151q, e151⟩ := hQ151
  have N151 := Fr.app N0 N151q
  obtain ⟨fs, hr, hrun, hended, hW, hsame⟩ := X151.leave (v := some (.int (0 : Int32))) (fun h => by rw [Bd.returns] at h; cases h)
  refine ⟨_, _, pre0 _ ?_, hrun, hended, _, _, rfl, ?_, ⟨_, rfl⟩, hW, hsame.mono (by decide) (by decide)⟩
  · show Steps p.tables e below (s₁.setTop (mkF m 0 #[.val (.ref (A 3)), .val (.int (-1 : Int32))] [])) _
    refine XS.aloadN X0.here hx rfl (hb hby own_d_prog_3_method_6_code_0) rfl rfl ?_
    show Steps p.tables e below (s₁.setTop (mkF m 1 #[.val (.ref (A 3)), .val (.int (-1 : Int32))] [(.ref (A 3))])) _
    refine st151.trans ?_
    show Steps p.tables e below (T151.setTop (mkF m 4 #[.val (.ref (A 3)), .val (.int (-1 : Int32))] [(.int (3 : Int32))])) _
    refine XS.tswIn X151.here hx rfl (pc0 := 4) (pc' := 86) rfl (hb hby own_d_prog_3_method_6_code_4) rfl (by decide) (o := 82) (by decide) (by decide) (by decide) ?_
    show Steps p.tables e below (T151.setTop (mkF m 86 #[.val (.ref (A 3)), .val (.int (-1 : Int32))] [])) _
    refine XS.iloadN X151.here hx rfl (hb hby own_d_prog_3_method_6_code_86) rfl ?_
    show Steps p.tables e below (T151.setTop (mkF m 87 #[.val (.ref (A 3)), .val (.int (-1 : Int32))] [(.int (-1 : Int32))])) _
    refine XS.ifYes X151.here hx rfl (pc0 := 87) (pc' := 94) rfl (hb hby own_d_prog_3_method_6_code_87) rfl ((if0 _ _).trans (tlt (by decide : (-1 : Int32) < (0 : Int32))).1) (by decide) (by decide) ?_
    show Steps p.tables e below (T151.setTop (mkF m 94 #[.val (.ref (A 3)), .val (.int (-1 : Int32))] [])) _
    refine XS.iconst X151.here hx rfl (hb hby own_d_prog_3_method_6_code_94) ?_
    show Steps p.tables e below (T151.setTop (mkF m 95 #[.val (.ref (A 3)), .val (.int (-1 : Int32))] [(.int (0 : Int32))])) _
    refine XS.goto X151.here hx rfl (pc0 := 95) (pc' := 107) rfl (hb hby own_d_prog_3_method_6_code_95) (by decide) (by decide) ?_
    show Steps p.tables e below (T151.setTop (mkF m 107 #[.val (.ref (A 3)), .val (.int (-1 : Int32))] [(.int (0 : Int32))])) _
    exact retN X151 hx (t := .boolean) Bd.returns (by simp) (hb hby own_d_prog_3_method_6_code_107) hr
  · show PQ (some (.int (0 : Int32))) h0 n0 _ T151.heap _
    rw [e151]
    exact ⟨rfl, N151, rfl⟩
theorem own_ef_rm53 (m : MethodId) (p1 : Int32) (p2 : Int32) (p3 : Int32) (A : Nat → Addr) (K : Nat → ClassId)  (r141 : Addr) (r142 : Addr) : entryFrame m #[(.ref (A 3)), (.ref r142), (.ref r141)] 3 = mkF m 0 #[.val (.ref (A 3)), .val (.ref r142), .val (.ref r141)] [] := by first | (simp [entryFrame, mkF, argsToLocals, Value.category, maxLocals]; done) | rfl
set_option maxRecDepth 65536 in
set_option maxHeartbeats 40000000 in
theorem rm53 (l : Launch) (Z : State) (a0 : Array Value) (hw : ∀ d ∈ tables_1, d.before a0 Z = true) (ws : List Jvm.Cond) (h0 : Heap) (n0 : Nat) (p1 : Int32) (p2 : Int32) (p3 : Int32) (A : Nat → Addr) (K : Nat → ClassId)  (r141 : Addr) (r142 : Addr) (EN : own_St Z A K) (OL0 : Old Z n0 h0) (G_E_r142 : Exa Z h0 r142 "java/lang/Integer") (G_E_r141 : Exa Z h0 r141 "java/lang/Integer") (G_F_r142_java_lang_Integer_value : Fld Z h0 r142 "java/lang/Integer" "value" "I" (.int p3)) (G_F_r141_java_lang_Integer_value : Fld Z h0 r141 "java/lang/Integer" "value" "I" (.int p2)) (hp_101 : ¬ (p2 < p3)) (hp_124 : ¬ (p2 = p3)) :
    MetFree l own_m0 (head1 (Jvm.Cond.code own_m0 prog_3_method_5_code 3 (some .boolean) :: ws) ({ frames := 3, cells := 0, slots := 0, locals := 40 } : Room)) (fun a U => a = #[(.ref (A 3)), (.ref r142), (.ref r141)] ∧ Z.Warmed39 U.vm ∧ U.heap = h0) (fun _ _ _ _ _ => True) (fun _ U o U' => ∃ v L, o = .returned v ∧ (PQ (some (.int (0 : Int32))) h0 n0) v U'.heap L ∧ FrameEnd U o U' L ({ frames := 3, cells := 0, slots := 0, locals := 40 } : Room).cells ({ frames := 3, cells := 0, slots := 0, locals := 40 } : Room).slots) := by
  refine MetFree.of_bodySF (plainFor_of_name own_pn4) hisR ?_
  intro p e s m args below meth c s₁ Bd hml0 hP hK
  obtain ⟨rfl, hZ, hh⟩ := hP
  have hx := Bd.exec
  have hby := Bd.bytes
  have hml : c.maxLocals = 3 := hml0
  have hown : s.vm.findClass "com/example/measurewright/measurewright/Comparison" = some m.cls := findClass_of_methodNamed Bd.named
  have hnm := (name_of_methodNamed Bd.named Bd.method).1
  have X0 : Stand p l e ({ frames := 3, cells := 0, slots := 0, locals := 40 } : Room) s m #[(.ref (A 3)), (.ref r142), (.ref r141)] below meth c s₁ [] 0 0 := Stand.of_body Bd
  have e0 : s₁.heap = h0 := by rw [← hh, Bd.state]; rfl
  have N0 := Fr.nil n0
  have pre0 : ∀ t, Steps p.tables e below (s₁.setTop (mkF m 0 #[.val (.ref (A 3)), .val (.ref r142), .val (.ref r141)] [])) t → Steps p.tables e below (s₁.setTop (entryFrame m #[(.ref (A 3)), (.ref r142), (.ref r141)] 3)) t := fun t k => castTop (own_ef_rm53 m p1 p2 p3 A K r141 r142) k
  have KK0 : Keep h0 h0 [] := Keep.refl _ _
  obtain ⟨cq150, kq150, q150a, q150b, q150c⟩ := isOf hZ e0 G_E_r142
  obtain ⟨_, _, ⟨T150, L150, k150, n150⟩, -, X150, ⟨Lc150, hQ150, l150, y150, z150⟩, st150⟩ := X0.interfaceBack hx (xi := own_m6) (y := own_m3) hown (mvT hZ (hw _ (List.mem_of_getElem? (i := 36) rfl))) (mvT hZ (hw _ (List.mem_of_getElem? (i := 37) rfl))) (mvT hZ (hw _ (List.mem_of_getElem? (i := 38) rfl))) (mvT hZ (hw _ (List.mem_of_getElem? (i := 39) rfl))) (mvT hZ (hw _ (List.mem_of_getElem? (i := 40) rfl))) (mvT hZ (hw _ (List.mem_of_getElem? (i := 41) rfl))) (mvT hZ (hw _ (List.mem_of_getElem? (i := 42) rfl))) (mvT hZ (hw _ (List.mem_of_getElem? (i := 43) rfl))) (by decide) (backOf (W := 1) (rm34 l Z a0 hw [] h0 n0 p1 p2 p3 A K r141 r142 EN OL0 G_E_r141 G_E_r142 G_F_r142_java_lang_Integer_value G_F_r141_java_lang_Integer_value hp_101 hp_124) hZ (hw _ (List.mem_of_getElem? (i := 44) rfl)) (hw _ (List.mem_of_getElem? (i := 10) rfl)) (by decide) (by decide)) q150a q150b q150c (g := (mkF m 3 #[.val (.ref (A 3)), .val (.ref r142), .val (.ref r141)] [(.ref r141), (.ref r142), (.ref (A 3))])) rfl (by rw [hml]; rfl) (Steps.refl _) (argsL := [(.ref r141)]) (rest := [(.ref (A 3))]) (lenOf own_pd8 rfl) rfl (by show 2 * 0 + _ ≤ _; exact Nat.le_of_eq rfl) (hb hby own_d_prog_3_method_5_code_3) (fun _ _ => ⟨rfl, e0, (by decide : 0 + 0 ≤ _), (by decide : 0 + 0 ≤ _)⟩)
  dsimp only [Pt.U, Pt.locs, Pt.cells, Pt.slots] at X150 l150 y150 z150 st150 hQ150
  subst l150 y150 z150
  obtain ⟨rfl, N150q, e150⟩ := hQ150
  have N150 := Fr.app N0 N150q
  obtain ⟨cq152, q152, q152'⟩ := (EN.1.2.2.2.2.2.2.2.1.ext OL0.2).cell
  obtain ⟨_, _, ⟨T152, L152, k152, n152⟩, -, X152, ⟨Lc152, hQ152, l152, y152, z152⟩, st152⟩ := X150.privateBack hx (y := own_m1) hown (mvT hZ (hw _ (List.mem_of_getElem? (i := 57) rfl))) (mvT hZ (hw _ (List.mem_of_getElem? (i := 58) rfl))) (own_selpS (y := own_m1) (mvT hZ (hw _ (List.mem_of_getElem? (i := 18) rfl))) rfl (mvP (args := #[]) hZ (hw _ (List.mem_of_getElem? (i := 59) rfl))) (mvT hZ (hw _ (List.mem_of_getElem? (i := 58) rfl))) (by decide)) (Cond.privateMethod_at (mvP hZ (hw _ (List.mem_of_getElem? (i := 59) rfl)) (args := #[]))) (mvT hZ (hw _ (List.mem_of_getElem? (i := 60) rfl))) (by decide) (backOf (W := 0) (rm54 l Z a0 hw [] h0 n0 p1 p2 p3 A K EN OL0) hZ (hw _ (List.mem_of_getElem? (i := 60) rfl)) (hw _ (List.mem_of_getElem? (i := 6) rfl)) (by decide) (by decide)) (g := (mkF m 8 #[.val (.ref (A 3)), .val (.ref r142), .val (.ref r141)] [(.int (-1 : Int32)), (.ref (A 3))])) rfl (by rw [hml]; rfl) (Steps.refl _) (a := (A 3)) (by rw [e150]; exact q152) q152' (argsL := [(.int (-1 : Int32))]) (rest := []) (lenOf own_pd9 rfl) rfl (by show 2 * 0 + _ ≤ _; exact Nat.le_of_eq rfl) (hb hby own_d_prog_3_method_5_code_8) (fun _ _ => ⟨rfl, e150, (by decide : 0 + 0 ≤ _), (by decide : 0 + 0 ≤ _)⟩)
  dsimp only [Pt.U, Pt.locs, Pt.cells, Pt.slots] at X152 l152 y152 z152 st152 hQ152
  subst l152 y152 z152
  obtain ⟨rfl, N152q, e152⟩ := hQ152
  have N152 := Fr.app N150 N152q
  obtain ⟨fs, hr, hrun, hended, hW, hsame⟩ := X152.leave (v := some (.int (0 : Int32))) (fun h => by rw [Bd.returns] at h; cases h)
  refine ⟨_, _, pre0 _ ?_, hrun, hended, _, _, rfl, ?_, ⟨_, rfl⟩, hW, hsame.mono (by decide) (by decide)⟩
  · show Steps p.tables e below (s₁.setTop (mkF m 0 #[.val (.ref (A 3)), .val (.ref r142), .val (.ref r141)] [])) _
    refine XS.aloadN X0.here hx rfl (hb hby own_d_prog_3_method_5_code_0) rfl rfl ?_
    show Steps p.tables e below (s₁.setTop (mkF m 1 #[.val (.ref (A 3)), .val (.ref r142), .val (.ref r141)] [(.ref (A 3))])) _
    refine XS.aloadN X0.here hx rfl (hb hby own_d_prog_3_method_5_code_1) rfl rfl ?_
    show Steps p.tables e below (s₁.setTop (mkF m 2 #[.val (.ref (A 3)), .val (.ref r142), .val (.ref r141)] [(.ref r142), (.ref (A 3))])) _
    refine XS.aloadN X0.here hx rfl (hb hby own_d_prog_3_method_5_code_2) rfl rfl ?_
    show Steps p.tables e below (s₁.setTop (mkF m 3 #[.val (.ref (A 3)), .val (.ref r142), .val (.ref r141)] [(.ref r141), (.ref r142), (.ref (A 3))])) _
    refine st150.trans ?_
    show Steps p.tables e below (T150.setTop (mkF m 8 #[.val (.ref (A 3)), .val (.ref r142), .val (.ref r141)] [(.int (-1 : Int32)), (.ref (A 3))])) _
    refine st152.trans ?_
    show Steps p.tables e below (T152.setTop (mkF m 11 #[.val (.ref (A 3)), .val (.ref r142), .val (.ref r141)] [(.int (0 : Int32))])) _
    exact retN X152 hx (t := .boolean) Bd.returns (by simp) (hb hby own_d_prog_3_method_5_code_11) hr
  · show PQ (some (.int (0 : Int32))) h0 n0 _ T152.heap _
    rw [e152]
    exact ⟨rfl, N152, rfl⟩
theorem own_d_method_2_code_24 : decode method_2_code 24 = .ok (.iload_n 1, 1) := by decide +kernel
theorem own_d_method_2_code_25 : decode method_2_code 25 = .ok (.iconst 2, 1) := by decide +kernel
theorem own_d_method_2_code_26 : decode method_2_code 26 = .ok (.if_icmp .ne 7, 3) := by decide +kernel
theorem own_d_method_2_code_29 : decode method_2_code 29 = .ok (.getstatic 17, 3) := by decide +kernel
theorem own_d_method_2_code_32 : decode method_2_code 32 = .ok (.areturn, 1) := by decide +kernel
theorem own_ef_rm55 (m : MethodId) (p1 : Int32) (p2 : Int32) (p3 : Int32) (A : Nat → Addr) (K : Nat → ClassId)  : entryFrame m #[(.int p1)] 2 = mkF m 0 #[.val (.int p1), .unset] [] := by first | (simp [entryFrame, mkF, argsToLocals, Value.category, maxLocals]; done) | rfl
set_option maxRecDepth 65536 in
set_option maxHeartbeats 40000000 in
theorem rm55 (l : Launch) (Z : State) (a0 : Array Value) (hw : ∀ d ∈ tables_1, d.before a0 Z = true) (ws : List Jvm.Cond) (h0 : Heap) (n0 : Nat) (p1 : Int32) (p2 : Int32) (p3 : Int32) (A : Nat → Addr) (K : Nat → ClassId)  (EN : own_St Z A K) (OL0 : Old Z n0 h0) (hk16 : ((p1 &&& (2147483647 : Int32)) % (5 : Int32)) = (2 : Int32)) :
    MetFree l own_m7 (head1 (Jvm.Cond.code own_m7 method_2_code 2 (some (.object "com/example/measurewright/measurewright/Comparison")) :: ws) ({ frames := 0, cells := 0, slots := 0, locals := 0 } : Room)) (fun a U => a = #[(.int p1)] ∧ Z.Warmed39 U.vm ∧ U.heap = h0) (fun _ _ _ _ _ => True) (fun _ U o U' => ∃ v L, o = .returned v ∧ (PQ (some (.ref (A 2))) h0 n0) v U'.heap L ∧ FrameEnd U o U' L ({ frames := 0, cells := 0, slots := 0, locals := 0 } : Room).cells ({ frames := 0, cells := 0, slots := 0, locals := 0 } : Room).slots) := by
  refine MetFree.of_bodySF (plainFor_of_name own_pn2) hisR ?_
  intro p e s m args below meth c s₁ Bd hml0 hP hK
  obtain ⟨rfl, hZ, hh⟩ := hP
  have hx := Bd.exec
  have hby := Bd.bytes
  have hml : c.maxLocals = 2 := hml0
  have hown : s.vm.findClass "com/example/measurewright/measurewright/ComparisonConversePinLaw" = some m.cls := findClass_of_methodNamed Bd.named
  have hnm := (name_of_methodNamed Bd.named Bd.method).1
  have X0 : Stand p l e ({ frames := 0, cells := 0, slots := 0, locals := 0 } : Room) s m #[(.int p1)] below meth c s₁ [] 0 0 := Stand.of_body Bd
  have e0 : s₁.heap = h0 := by rw [← hh, Bd.state]; rfl
  have N0 := Fr.nil n0
  have pre0 : ∀ t, Steps p.tables e below (s₁.setTop (mkF m 0 #[.val (.int p1), .unset] [])) t → Steps p.tables e below (s₁.setTop (entryFrame m #[(.int p1)] 2)) t := fun t k => castTop (own_ef_rm55 m p1 p2 p3 A K ) k
  have KK0 : Keep h0 h0 [] := Keep.refl _ _
  obtain ⟨T156, X156, e156, st156⟩ := getS2 X0 hx hZ hown (host := "") (Or.inl (hw _ (List.mem_of_getElem? (i := 82) rfl))) Via.refl e0 (EN.1.2.2.2.2.1.ext OL0.2) (g := (mkF m 29 #[.val (.int p1), .val (.int (2 : Int32))] [])) rfl (hb hby own_d_method_2_code_29)
  obtain ⟨fs, hr, hrun, hended, hW, hsame⟩ := X156.leave (v := some (.ref (A 2))) (fun h => by rw [Bd.returns] at h; cases h)
  refine ⟨_, _, pre0 _ ?_, hrun, hended, _, _, rfl, ?_, ⟨_, rfl⟩, hW, hsame.mono (by decide) (by decide)⟩
  · show Steps p.tables e below (s₁.setTop (mkF m 0 #[.val (.int p1), .unset] [])) _
    refine XS.iloadN X0.here hx rfl (hb hby own_d_method_2_code_0) rfl ?_
    show Steps p.tables e below (s₁.setTop (mkF m 1 #[.val (.int p1), .unset] [(.int p1)])) _
    refine X0.ldcInt hx hown (mvT hZ (hw _ (List.mem_of_getElem? (i := 4) rfl))) (g := (mkF m 1 #[.val (.int p1), .unset] [(.int p1)])) rfl (hb hby own_d_method_2_code_1) _ ?_
    show Steps p.tables e below (s₁.setTop (mkF m 3 #[.val (.int p1), .unset] [(.int (2147483647 : Int32)), (.int p1)])) _
    refine XS.iand X0.here hx rfl (hb hby own_d_method_2_code_3) rfl ?_
    show Steps p.tables e below (s₁.setTop (mkF m 4 #[.val (.int p1), .unset] [(.int (p1 &&& (2147483647 : Int32)))])) _
    refine XS.iconst X0.here hx rfl (hb hby own_d_method_2_code_4) ?_
    show Steps p.tables e below (s₁.setTop (mkF m 5 #[.val (.int p1), .unset] [(.int (5 : Int32)), (.int (p1 &&& (2147483647 : Int32)))])) _
    refine iremM X0 hx rfl (hb hby own_d_method_2_code_5) rfl (by decide) ?_
    show Steps p.tables e below (s₁.setTop (mkF m 6 #[.val (.int p1), .unset] [(.int ((p1 &&& (2147483647 : Int32)) % (5 : Int32)))])) _
    rw [hk16]
    show Steps p.tables e below (s₁.setTop (mkF m 6 #[.val (.int p1), .unset] [(.int (2 : Int32))])) _
    refine XS.istoreN X0.here hx rfl (hb hby own_d_method_2_code_6) rfl (l' := #[.val (.int p1), .val (.int (2 : Int32))]) rfl ?_
    show Steps p.tables e below (s₁.setTop (mkF m 7 #[.val (.int p1), .val (.int (2 : Int32))] [])) _
    refine XS.iloadN X0.here hx rfl (hb hby own_d_method_2_code_7) rfl ?_
    show Steps p.tables e below (s₁.setTop (mkF m 8 #[.val (.int p1), .val (.int (2 : Int32))] [(.int (2 : Int32))])) _
    refine XS.ifYes X0.here hx rfl (pc0 := 8) (pc' := 15) rfl (hb hby own_d_method_2_code_8) rfl ((if0 _ _).trans (feq (by decide : ¬ ((2 : Int32) = (0 : Int32)))).2) (by decide) (by decide) ?_
    show Steps p.tables e below (s₁.setTop (mkF m 15 #[.val (.int p1), .val (.int (2 : Int32))] [])) _
    refine XS.iloadN X0.here hx rfl (hb hby own_d_method_2_code_15) rfl ?_
    show Steps p.tables e below (s₁.setTop (mkF m 16 #[.val (.int p1), .val (.int (2 : Int32))] [(.int (2 : Int32))])) _
    refine XS.iconst X0.here hx rfl (hb hby own_d_method_2_code_16) ?_
    show Steps p.tables e below (s₁.setTop (mkF m 17 #[.val (.int p1), .val (.int (2 : Int32))] [(.int (1 : Int32)), (.int (2 : Int32))])) _
    refine XS.icmpYes X0.here hx rfl (pc0 := 17) (pc' := 24) rfl (hb hby own_d_method_2_code_17) rfl (feq (by decide : ¬ ((2 : Int32) = (1 : Int32)))).2 (by decide) (by decide) ?_
    show Steps p.tables e below (s₁.setTop (mkF m 24 #[.val (.int p1), .val (.int (2 : Int32))] [])) _
    refine XS.iloadN X0.here hx rfl (hb hby own_d_method_2_code_24) rfl ?_
    show Steps p.tables e below (s₁.setTop (mkF m 25 #[.val (.int p1), .val (.int (2 : Int32))] [(.int (2 : Int32))])) _
    refine XS.iconst X0.here hx rfl (hb hby own_d_method_2_code_25) ?_
    show Steps p.tables e below (s₁.setTop (mkF m 26 #[.val (.int p1), .val (.int (2 : Int32))] [(.int (2 : Int32)), (.int (2 : Int32))])) _
    refine XS.icmpNo X0.here hx rfl (hb hby own_d_method_2_code_26) rfl (teq (by decide : (2 : Int32) = (2 : Int32))).2 ?_
    show Steps p.tables e below (s₁.setTop (mkF m 29 #[.val (.int p1), .val (.int (2 : Int32))] [])) _
    refine st156 _ ?_
    show Steps p.tables e below (T156.setTop (mkF m 32 #[.val (.int p1), .val (.int (2 : Int32))] [(.ref (A 2))])) _
    exact retOut X156 hx Bd.returns rfl (Or.inr (Or.inr (Or.inr (Or.inr ⟨rfl, rfl, rfl⟩)))) (hb hby own_d_method_2_code_32) hr
  · show PQ (some (.ref (A 2))) h0 n0 _ T156.heap _
    rw [e156]
    exact ⟨rfl, N0, rfl⟩
theorem own_ef_rm57 (m : MethodId) (p1 : Int32) (p2 : Int32) (p3 : Int32) (A : Nat → Addr) (K : Nat → ClassId)  : entryFrame m #[(.ref (A 2))] 1 = mkF m 0 #[.val (.ref (A 2))] [] := by first | (simp [entryFrame, mkF, argsToLocals, Value.category, maxLocals]; done) | rfl
set_option maxRecDepth 65536 in
set_option maxHeartbeats 40000000 in
theorem rm57 (l : Launch) (Z : State) (a0 : Array Value) (hw : ∀ d ∈ tables_1, d.before a0 Z = true) (ws : List Jvm.Cond) (h0 : Heap) (n0 : Nat) (p1 : Int32) (p2 : Int32) (p3 : Int32) (A : Nat → Addr) (K : Nat → ClassId)  (EN : own_St Z A K) (OL0 : Old Z n0 h0) :
    MetFree l own_m5 (head1 (Jvm.Cond.code own_m5 jdk_37_method_2_code 1 (some .int) :: ws) ({ frames := 0, cells := 0, slots := 0, locals := 0 } : Room)) (fun a U => a = #[(.ref (A 2))] ∧ Z.Warmed39 U.vm ∧ U.heap = h0) (fun _ _ _ _ _ => True) (fun _ U o U' => ∃ v L, o = .returned v ∧ (PQ (some (.int (2 : Int32))) h0 n0) v U'.heap L ∧ FrameEnd U o U' L ({ frames := 0, cells := 0, slots := 0, locals := 0 } : Room).cells ({ frames := 0, cells := 0, slots := 0, locals := 0 } : Room).slots) := by
  refine MetFree.of_bodySF (plainFor_of_name own_pn3) hisR ?_
  intro p e s m args below meth c s₁ Bd hml0 hP hK
  obtain ⟨rfl, hZ, hh⟩ := hP
  have hx := Bd.exec
  have hby := Bd.bytes
  have hml : c.maxLocals = 1 := hml0
  have hown : s.vm.findClass "java/lang/Enum" = some m.cls := findClass_of_methodNamed Bd.named
  have hnm := (name_of_methodNamed Bd.named Bd.method).1
  have X0 : Stand p l e ({ frames := 0, cells := 0, slots := 0, locals := 0 } : Room) s m #[(.ref (A 2))] below meth c s₁ [] 0 0 := Stand.of_body Bd
  have e0 : s₁.heap = h0 := by rw [← hh, Bd.state]; rfl
  have N0 := Fr.nil n0
  have pre0 : ∀ t, Steps p.tables e below (s₁.setTop (mkF m 0 #[.val (.ref (A 2))] [])) t → Steps p.tables e below (s₁.setTop (entryFrame m #[(.ref (A 2))] 1)) t := fun t k => castTop (own_ef_rm57 m p1 p2 p3 A K ) k
  have KK0 : Keep h0 h0 [] := Keep.refl _ _
  obtain ⟨T160, X160, e160, st160⟩ := getF X0 hx hZ hown (host := "") (Or.inl (hw _ (List.mem_of_getElem? (i := 27) rfl))) Via.refl e0 (EN.2.2.1.1.ext OL0.2) (g := (mkF m 1 #[.val (.ref (A 2))] [(.ref (A 2))])) rfl rfl (hb hby own_d_jdk_37_method_2_code_1)
  obtain ⟨fs, hr, hrun, hended, hW, hsame⟩ := X160.leave (v := some (.int (2 : Int32))) (fun h => by rw [Bd.returns] at h; cases h)
  refine ⟨_, _, pre0 _ ?_, hrun, hended, _, _, rfl, ?_, ⟨_, rfl⟩, hW, hsame.mono (by decide) (by decide)⟩
  · show Steps p.tables e below (s₁.setTop (mkF m 0 #[.val (.ref (A 2))] [])) _
    refine XS.aloadN X0.here hx rfl (hb hby own_d_jdk_37_method_2_code_0) rfl rfl ?_
    show Steps p.tables e below (s₁.setTop (mkF m 1 #[.val (.ref (A 2))] [(.ref (A 2))])) _
    refine st160 _ ?_
    show Steps p.tables e below (T160.setTop (mkF m 4 #[.val (.ref (A 2))] [(.int (2 : Int32))])) _
    exact retI X160 hx Bd.returns (hb hby own_d_jdk_37_method_2_code_4) hr
  · show PQ (some (.int (2 : Int32))) h0 n0 _ T160.heap _
    rw [e160]
    exact ⟨rfl, N0, rfl⟩
theorem own_d_prog_3_method_7_code_62 : decode prog_3_method_7_code 62 = .ok (.getstatic 10, 3) := by decide +kernel
theorem own_d_prog_3_method_7_code_65 : decode prog_3_method_7_code 65 = .ok (.goto 12, 3) := by decide +kernel
theorem own_ef_rm56 (m : MethodId) (p1 : Int32) (p2 : Int32) (p3 : Int32) (A : Nat → Addr) (K : Nat → ClassId)  : entryFrame m #[(.ref (A 2))] 1 = mkF m 0 #[.val (.ref (A 2))] [] := by first | (simp [entryFrame, mkF, argsToLocals, Value.category, maxLocals]; done) | rfl
set_option maxRecDepth 65536 in
set_option maxHeartbeats 40000000 in
theorem rm56 (l : Launch) (Z : State) (a0 : Array Value) (hw : ∀ d ∈ tables_1, d.before a0 Z = true) (ws : List Jvm.Cond) (h0 : Heap) (n0 : Nat) (p1 : Int32) (p2 : Int32) (p3 : Int32) (A : Nat → Addr) (K : Nat → ClassId)  (EN : own_St Z A K) (OL0 : Old Z n0 h0) :
    MetFree l own_m2 (head1 (Jvm.Cond.code own_m2 prog_3_method_7_code 1 (some (.object "com/example/measurewright/measurewright/Comparison")) :: ws) ({ frames := 1, cells := 0, slots := 0, locals := 12 } : Room)) (fun a U => a = #[(.ref (A 2))] ∧ Z.Warmed39 U.vm ∧ U.heap = h0) (fun _ _ _ _ _ => True) (fun _ U o U' => ∃ v L, o = .returned v ∧ (PQ (some (.ref (A 2))) h0 n0) v U'.heap L ∧ FrameEnd U o U' L ({ frames := 1, cells := 0, slots := 0, locals := 12 } : Room).cells ({ frames := 1, cells := 0, slots := 0, locals := 12 } : Room).slots) := by
  refine MetFree.of_bodySF (plainFor_of_name own_pn4) hisR ?_
  intro p e s m args below meth c s₁ Bd hml0 hP hK
  obtain ⟨rfl, hZ, hh⟩ := hP
  have hx := Bd.exec
  have hby := Bd.bytes
  have hml : c.maxLocals = 1 := hml0
  have hown : s.vm.findClass "com/example/measurewright/measurewright/Comparison" = some m.cls := findClass_of_methodNamed Bd.named
  have hnm := (name_of_methodNamed Bd.named Bd.method).1
  have X0 : Stand p l e ({ frames := 1, cells := 0, slots := 0, locals := 12 } : Room) s m #[(.ref (A 2))] below meth c s₁ [] 0 0 := Stand.of_body Bd
  have e0 : s₁.heap = h0 := by rw [← hh, Bd.state]; rfl
  have N0 := Fr.nil n0
  have pre0 : ∀ t, Steps p.tables e below (s₁.setTop (mkF m 0 #[.val (.ref (A 2))] [])) t → Steps p.tables e below (s₁.setTop (entryFrame m #[(.ref (A 2))] 1)) t := fun t k => castTop (own_ef_rm56 m p1 p2 p3 A K ) k
  have KK0 : Keep h0 h0 [] := Keep.refl _ _
  obtain ⟨cq161, kq161, q161a, q161b, q161c⟩ := isOf hZ e0 (EN.1.2.2.2.2.2.1.ext OL0.2)
  obtain ⟨_, _, ⟨T161, L161, k161, n161⟩, -, X161, ⟨Lc161, hQ161, l161, y161, z161⟩, st161⟩ := X0.virtualBackUp hx (x := own_m9) (y := own_m5) (owner := "java/lang/Enum") hown (mvT hZ (hw _ (List.mem_of_getElem? (i := 20) rfl))) (mvT hZ (hw _ (List.mem_of_getElem? (i := 21) rfl))) (mvT hZ (hw _ (List.mem_of_getElem? (i := 22) rfl))) (by decide) (mvT hZ (hw _ (List.mem_of_getElem? (i := 24) rfl))) (mvT hZ (hw _ (List.mem_of_getElem? (i := 23) rfl))) (backOf (W := 0) (rm57 l Z a0 hw [] h0 n0 p1 p2 p3 A K EN OL0) hZ (hw _ (List.mem_of_getElem? (i := 26) rfl)) (hw _ (List.mem_of_getElem? (i := 25) rfl)) (by decide) (by decide)) q161a q161c (g := (mkF m 1 #[.val (.ref (A 2))] [(.ref (A 2))])) rfl (by rw [hml]; rfl) (Steps.refl _) (argsL := []) (rest := []) (lenOf own_pd4 rfl) rfl (by show 2 * 0 + _ ≤ _; exact Nat.le_of_eq rfl) (hb hby own_d_prog_3_method_7_code_1) (fun _ _ => ⟨rfl, e0, (by decide : 0 + 0 ≤ _), (by decide : 0 + 0 ≤ _)⟩)
  dsimp only [Pt.U, Pt.locs, Pt.cells, Pt.slots] at X161 l161 y161 z161 st161 hQ161
  subst l161 y161 z161
  obtain ⟨rfl, N161q, e161⟩ := hQ161
  have N161 := Fr.app N0 N161q
  obtain ⟨T162, X162, e162, st162⟩ := getS2 X161 hx hZ hown (host := "") (Or.inl (hw _ (List.mem_of_getElem? (i := 84) rfl))) Via.refl e161 (EN.1.2.2.2.2.1.ext OL0.2) (g := (mkF m 62 #[.val (.ref (A 2))] [])) rfl (hb hby own_d_prog_3_method_7_code_62)
  obtain ⟨fs, hr, hrun, hended, hW, hsame⟩ := X162.leave (v := some (.ref (A 2))) (fun h => by rw [Bd.returns] at h; cases h)
  refine ⟨_, _, pre0 _ ?_, hrun, hended, _, _, rfl, ?_, ⟨_, rfl⟩, hW, hsame.mono (by decide) (by decide)⟩
  · show Steps p.tables e below (s₁.setTop (mkF m 0 #[.val (.ref (A 2))] [])) _
    refine XS.aloadN X0.here hx rfl (hb hby own_d_prog_3_method_7_code_0) rfl rfl ?_
    show Steps p.tables e below (s₁.setTop (mkF m 1 #[.val (.ref (A 2))] [(.ref (A 2))])) _
    refine st161.trans ?_
    show Steps p.tables e below (T161.setTop (mkF m 4 #[.val (.ref (A 2))] [(.int (2 : Int32))])) _
    refine XS.tswIn X161.here hx rfl (pc0 := 4) (pc' := 62) rfl (hb hby own_d_prog_3_method_7_code_4) rfl (by decide) (o := 58) (by decide) (by decide) (by decide) ?_
    show Steps p.tables e below (T161.setTop (mkF m 62 #[.val (.ref (A 2))] [])) _
    refine st162 _ ?_
    show Steps p.tables e below (T162.setTop (mkF m 65 #[.val (.ref (A 2))] [(.ref (A 2))])) _
    refine XS.goto X162.here hx rfl (pc0 := 65) (pc' := 77) rfl (hb hby own_d_prog_3_method_7_code_65) (by decide) (by decide) ?_
    show Steps p.tables e below (T162.setTop (mkF m 77 #[.val (.ref (A 2))] [(.ref (A 2))])) _
    exact retOut X162 hx Bd.returns rfl (Or.inr (Or.inr (Or.inr (Or.inr ⟨rfl, rfl, rfl⟩)))) (hb hby own_d_prog_3_method_7_code_77) hr
  · show PQ (some (.ref (A 2))) h0 n0 _ T162.heap _
    rw [e162]
    exact ⟨rfl, N161, rfl⟩
theorem own_d_prog_3_method_6_code_74 : decode prog_3_method_6_code 74 = .ok (.iload_n 1, 1) := by decide +kernel
theorem own_d_prog_3_method_6_code_75 : decode prog_3_method_6_code 75 = .ok (.ifCond .ne 7, 3) := by decide +kernel
theorem own_d_prog_3_method_6_code_82 : decode prog_3_method_6_code 82 = .ok (.iconst 0, 1) := by decide +kernel
theorem own_d_prog_3_method_6_code_83 : decode prog_3_method_6_code 83 = .ok (.goto 24, 3) := by decide +kernel
theorem own_ef_rm59 (m : MethodId) (p1 : Int32) (p2 : Int32) (p3 : Int32) (A : Nat → Addr) (K : Nat → ClassId)  : entryFrame m #[(.ref (A 2)), (.int (-1 : Int32))] 2 = mkF m 0 #[.val (.ref (A 2)), .val (.int (-1 : Int32))] [] := by first | (simp [entryFrame, mkF, argsToLocals, Value.category, maxLocals]; done) | rfl
set_option maxRecDepth 65536 in
set_option maxHeartbeats 40000000 in
theorem rm59 (l : Launch) (Z : State) (a0 : Array Value) (hw : ∀ d ∈ tables_1, d.before a0 Z = true) (ws : List Jvm.Cond) (h0 : Heap) (n0 : Nat) (p1 : Int32) (p2 : Int32) (p3 : Int32) (A : Nat → Addr) (K : Nat → ClassId)  (EN : own_St Z A K) (OL0 : Old Z n0 h0) :
    MetFree l own_m1 (head1 (Jvm.Cond.code own_m1 prog_3_method_6_code 2 (some .boolean) :: ws) ({ frames := 1, cells := 0, slots := 0, locals := 12 } : Room)) (fun a U => a = #[(.ref (A 2)), (.int (-1 : Int32))] ∧ Z.Warmed39 U.vm ∧ U.heap = h0) (fun _ _ _ _ _ => True) (fun _ U o U' => ∃ v L, o = .returned v ∧ (PQ (some (.int (0 : Int32))) h0 n0) v U'.heap L ∧ FrameEnd U o U' L ({ frames := 1, cells := 0, slots := 0, locals := 12 } : Room).cells ({ frames := 1, cells := 0, slots := 0, locals := 12 } : Room).slots) := by
  refine MetFree.of_bodySF (plainFor_of_name own_pn4) hisR ?_
  intro p e s m args below meth c s₁ Bd hml0 hP hK
  obtain ⟨rfl, hZ, hh⟩ := hP
  have hx := Bd.exec
  have hby := Bd.bytes
  have hml : c.maxLocals = 2 := hml0
  have hown : s.vm.findClass "com/example/measurewright/measurewright/Comparison" = some m.cls := findClass_of_methodNamed Bd.named
  have hnm := (name_of_methodNamed Bd.named Bd.method).1
  have X0 : Stand p l e ({ frames := 1, cells := 0, slots := 0, locals := 12 } : Room) s m #[(.ref (A 2)), (.int (-1 : Int32))] below meth c s₁ [] 0 0 := Stand.of_body Bd
  have e0 : s₁.heap = h0 := by rw [← hh, Bd.state]; rfl
  have N0 := Fr.nil n0
  have pre0 : ∀ t, Steps p.tables e below (s₁.setTop (mkF m 0 #[.val (.ref (A 2)), .val (.int (-1 : Int32))] [])) t → Steps p.tables e below (s₁.setTop (entryFrame m #[(.ref (A 2)), (.int (-1 : Int32))] 2)) t := fun t k => castTop (own_ef_rm59 m p1 p2 p3 A K ) k
  have KK0 : Keep h0 h0 [] := Keep.refl _ _
  obtain ⟨cq165, kq165, q165a, q165b, q165c⟩ := isOf hZ e0 (EN.1.2.2.2.2.2.1.ext OL0.2)
  obtain ⟨_, _, ⟨T165, L165, k165, n165⟩, -, X165, ⟨Lc165, hQ165, l165, y165, z165⟩, st165⟩ := X0.virtualBackUp hx (x := own_m9) (y := own_m5) (owner := "java/lang/Enum") hown (mvT hZ (hw _ (List.mem_of_getElem? (i := 20) rfl))) (mvT hZ (hw _ (List.mem_of_getElem? (i := 21) rfl))) (mvT hZ (hw _ (List.mem_of_getElem? (i := 22) rfl))) (by decide) (mvT hZ (hw _ (List.mem_of_getElem? (i := 24) rfl))) (mvT hZ (hw _ (List.mem_of_getElem? (i := 23) rfl))) (backOf (W := 0) (rm57 l Z a0 hw [] h0 n0 p1 p2 p3 A K EN OL0) hZ (hw _ (List.mem_of_getElem? (i := 26) rfl)) (hw _ (List.mem_of_getElem? (i := 25) rfl)) (by decide) (by decide)) q165a q165c (g := (mkF m 1 #[.val (.ref (A 2)), .val (.int (-1 : Int32))] [(.ref (A 2))])) rfl (by rw [hml]; rfl) (Steps.refl _) (argsL := []) (rest := []) (lenOf own_pd4 rfl) rfl (by show 2 * 0 + _ ≤ _; exact Nat.le_of_eq rfl) (hb hby own_d_prog_3_method_6_code_1) (fun _ _ => ⟨rfl, e0, (by decide : 0 + 0 ≤ _), (by decide : 0 + 0 ≤ _)⟩)
  dsimp only [Pt.U, Pt.locs, Pt.cells, Pt.slots] at X165 l165 y165 z165 st165 hQ165
  subst l165 y165 z165
  obtain ⟨rfl, N165q, e165⟩ := hQ165
  have N165 := Fr.app N0 N165q
  obtain ⟨fs, hr, hrun, hended, hW, hsame⟩ := X165.leave (v := some (.int (0 : Int32))) (fun h => by rw [Bd.returns] at h; cases h)
  refine ⟨_, _, pre0 _ ?_, hrun, hended, _, _, rfl, ?_, ⟨_, rfl⟩, hW, hsame.mono (by decide) (by decide)⟩
  · show Steps p.tables e below (s₁.setTop (mkF m 0 #[.val (.ref (A 2)), .val (.int (-1 : Int32))] [])) _
    refine XS.aloadN X0.here hx rfl (hb hby own_d_prog_3_method_6_code_0) rfl rfl ?_
    show Steps p.tables e below (s₁.setTop (mkF m 1 #[.val (.ref (A 2)), .val (.int (-1 : Int32))] [(.ref (A 2))])) _
    refine st165.trans ?_
    show Steps p.tables e below (T165.setTop (mkF m 4 #[.val (.ref (A 2)), .val (.int (-1 : Int32))] [(.int (2 : Int32))])) _
    refine XS.tswIn X165.here hx rfl (pc0 := 4) (pc' := 74) rfl (hb hby own_d_prog_3_method_6_code_4) rfl (by decide) (o := 70) (by decide) (by decide) (by decide) ?_
    show Steps p.tables e below (T165.setTop (mkF m 74 #[.val (.ref (A 2)), .val (.int (-1 : Int32))] [])) _
    refine XS.iloadN X165.here hx rfl (hb hby own_d_prog_3_method_6_code_74) rfl ?_
    show Steps p.tables e below (T165.setTop (mkF m 75 #[.val (.ref (A 2)), .val (.int (-1 : Int32))] [(.int (-1 : Int32))])) _
    refine XS.ifYes X165.here hx rfl (pc0 := 75) (pc' := 82) rfl (hb hby own_d_prog_3_method_6_code_75) rfl ((if0 _ _).trans (feq (by decide : ¬ ((-1 : Int32) = (0 : Int32)))).2) (by decide) (by decide) ?_
    show Steps p.tables e below (T165.setTop (mkF m 82 #[.val (.ref (A 2)), .val (.int (-1 : Int32))] [])) _
    refine XS.iconst X165.here hx rfl (hb hby own_d_prog_3_method_6_code_82) ?_
    show Steps p.tables e below (T165.setTop (mkF m 83 #[.val (.ref (A 2)), .val (.int (-1 : Int32))] [(.int (0 : Int32))])) _
    refine XS.goto X165.here hx rfl (pc0 := 83) (pc' := 107) rfl (hb hby own_d_prog_3_method_6_code_83) (by decide) (by decide) ?_
    show Steps p.tables e below (T165.setTop (mkF m 107 #[.val (.ref (A 2)), .val (.int (-1 : Int32))] [(.int (0 : Int32))])) _
    exact retN X165 hx (t := .boolean) Bd.returns (by simp) (hb hby own_d_prog_3_method_6_code_107) hr
  · show PQ (some (.int (0 : Int32))) h0 n0 _ T165.heap _
    rw [e165]
    exact ⟨rfl, N165, rfl⟩
theorem own_ef_rm58 (m : MethodId) (p1 : Int32) (p2 : Int32) (p3 : Int32) (A : Nat → Addr) (K : Nat → ClassId)  (r158 : Addr) (r159 : Addr) : entryFrame m #[(.ref (A 2)), (.ref r158), (.ref r159)] 3 = mkF m 0 #[.val (.ref (A 2)), .val (.ref r158), .val (.ref r159)] [] := by first | (simp [entryFrame, mkF, argsToLocals, Value.category, maxLocals]; done) | rfl
set_option maxRecDepth 65536 in
set_option maxHeartbeats 40000000 in
theorem rm58 (l : Launch) (Z : State) (a0 : Array Value) (hw : ∀ d ∈ tables_1, d.before a0 Z = true) (ws : List Jvm.Cond) (h0 : Heap) (n0 : Nat) (p1 : Int32) (p2 : Int32) (p3 : Int32) (A : Nat → Addr) (K : Nat → ClassId)  (r158 : Addr) (r159 : Addr) (EN : own_St Z A K) (OL0 : Old Z n0 h0) (G_E_r158 : Exa Z h0 r158 "java/lang/Integer") (G_E_r159 : Exa Z h0 r159 "java/lang/Integer") (G_F_r158_java_lang_Integer_value : Fld Z h0 r158 "java/lang/Integer" "value" "I" (.int p2)) (G_F_r159_java_lang_Integer_value : Fld Z h0 r159 "java/lang/Integer" "value" "I" (.int p3)) (hp_155 : p2 < p3) :
    MetFree l own_m0 (head1 (Jvm.Cond.code own_m0 prog_3_method_5_code 3 (some .boolean) :: ws) ({ frames := 3, cells := 0, slots := 0, locals := 40 } : Room)) (fun a U => a = #[(.ref (A 2)), (.ref r158), (.ref r159)] ∧ Z.Warmed39 U.vm ∧ U.heap = h0) (fun _ _ _ _ _ => True) (fun _ U o U' => ∃ v L, o = .returned v ∧ (PQ (some (.int (0 : Int32))) h0 n0) v U'.heap L ∧ FrameEnd U o U' L ({ frames := 3, cells := 0, slots := 0, locals := 40 } : Room).cells ({ frames := 3, cells := 0, slots := 0, locals := 40 } : Room).slots) := by
  refine MetFree.of_bodySF (plainFor_of_name own_pn4) hisR ?_
  intro p e s m args below meth c s₁ Bd hml0 hP hK
  obtain ⟨rfl, hZ, hh⟩ := hP
  have hx := Bd.exec
  have hby := Bd.bytes
  have hml : c.maxLocals = 3 := hml0
  have hown : s.vm.findClass "com/example/measurewright/measurewright/Comparison" = some m.cls := findClass_of_methodNamed Bd.named
  have hnm := (name_of_methodNamed Bd.named Bd.method).1
  have X0 : Stand p l e ({ frames := 3, cells := 0, slots := 0, locals := 40 } : Room) s m #[(.ref (A 2)), (.ref r158), (.ref r159)] below meth c s₁ [] 0 0 := Stand.of_body Bd
  have e0 : s₁.heap = h0 := by rw [← hh, Bd.state]; rfl
  have N0 := Fr.nil n0
  have pre0 : ∀ t, Steps p.tables e below (s₁.setTop (mkF m 0 #[.val (.ref (A 2)), .val (.ref r158), .val (.ref r159)] [])) t → Steps p.tables e below (s₁.setTop (entryFrame m #[(.ref (A 2)), (.ref r158), (.ref r159)] 3)) t := fun t k => castTop (own_ef_rm58 m p1 p2 p3 A K r158 r159) k
  have KK0 : Keep h0 h0 [] := Keep.refl _ _
  obtain ⟨cq164, kq164, q164a, q164b, q164c⟩ := isOf hZ e0 G_E_r158
  obtain ⟨_, _, ⟨T164, L164, k164, n164⟩, -, X164, ⟨Lc164, hQ164, l164, y164, z164⟩, st164⟩ := X0.interfaceBack hx (xi := own_m6) (y := own_m3) hown (mvT hZ (hw _ (List.mem_of_getElem? (i := 36) rfl))) (mvT hZ (hw _ (List.mem_of_getElem? (i := 37) rfl))) (mvT hZ (hw _ (List.mem_of_getElem? (i := 38) rfl))) (mvT hZ (hw _ (List.mem_of_getElem? (i := 39) rfl))) (mvT hZ (hw _ (List.mem_of_getElem? (i := 40) rfl))) (mvT hZ (hw _ (List.mem_of_getElem? (i := 41) rfl))) (mvT hZ (hw _ (List.mem_of_getElem? (i := 42) rfl))) (mvT hZ (hw _ (List.mem_of_getElem? (i := 43) rfl))) (by decide) (backOf (W := 1) (rm7 l Z a0 hw [] h0 n0 p1 p2 p3 A K r158 r159 EN OL0 G_E_r159 G_E_r158 G_F_r158_java_lang_Integer_value G_F_r159_java_lang_Integer_value hp_155) hZ (hw _ (List.mem_of_getElem? (i := 44) rfl)) (hw _ (List.mem_of_getElem? (i := 10) rfl)) (by decide) (by decide)) q164a q164b q164c (g := (mkF m 3 #[.val (.ref (A 2)), .val (.ref r158), .val (.ref r159)] [(.ref r159), (.ref r158), (.ref (A 2))])) rfl (by rw [hml]; rfl) (Steps.refl _) (argsL := [(.ref r159)]) (rest := [(.ref (A 2))]) (lenOf own_pd8 rfl) rfl (by show 2 * 0 + _ ≤ _; exact Nat.le_of_eq rfl) (hb hby own_d_prog_3_method_5_code_3) (fun _ _ => ⟨rfl, e0, (by decide : 0 + 0 ≤ _), (by decide : 0 + 0 ≤ _)⟩)
  dsimp only [Pt.U, Pt.locs, Pt.cells, Pt.slots] at X164 l164 y164 z164 st164 hQ164
  subst l164 y164 z164
  obtain ⟨rfl, N164q, e164⟩ := hQ164
  have N164 := Fr.app N0 N164q
  obtain ⟨cq166, q166, q166'⟩ := (EN.1.2.2.2.2.2.1.ext OL0.2).cell
  obtain ⟨_, _, ⟨T166, L166, k166, n166⟩, -, X166, ⟨Lc166, hQ166, l166, y166, z166⟩, st166⟩ := X164.privateBack hx (y := own_m1) hown (mvT hZ (hw _ (List.mem_of_getElem? (i := 57) rfl))) (mvT hZ (hw _ (List.mem_of_getElem? (i := 58) rfl))) (own_selpS (y := own_m1) (mvT hZ (hw _ (List.mem_of_getElem? (i := 18) rfl))) rfl (mvP (args := #[]) hZ (hw _ (List.mem_of_getElem? (i := 59) rfl))) (mvT hZ (hw _ (List.mem_of_getElem? (i := 58) rfl))) (by decide)) (Cond.privateMethod_at (mvP hZ (hw _ (List.mem_of_getElem? (i := 59) rfl)) (args := #[]))) (mvT hZ (hw _ (List.mem_of_getElem? (i := 60) rfl))) (by decide) (backOf (W := 0) (rm59 l Z a0 hw [] h0 n0 p1 p2 p3 A K EN OL0) hZ (hw _ (List.mem_of_getElem? (i := 60) rfl)) (hw _ (List.mem_of_getElem? (i := 6) rfl)) (by decide) (by decide)) (g := (mkF m 8 #[.val (.ref (A 2)), .val (.ref r158), .val (.ref r159)] [(.int (-1 : Int32)), (.ref (A 2))])) rfl (by rw [hml]; rfl) (Steps.refl _) (a := (A 2)) (by rw [e164]; exact q166) q166' (argsL := [(.int (-1 : Int32))]) (rest := []) (lenOf own_pd9 rfl) rfl (by show 2 * 0 + _ ≤ _; exact Nat.le_of_eq rfl) (hb hby own_d_prog_3_method_5_code_8) (fun _ _ => ⟨rfl, e164, (by decide : 0 + 0 ≤ _), (by decide : 0 + 0 ≤ _)⟩)
  dsimp only [Pt.U, Pt.locs, Pt.cells, Pt.slots] at X166 l166 y166 z166 st166 hQ166
  subst l166 y166 z166
  obtain ⟨rfl, N166q, e166⟩ := hQ166
  have N166 := Fr.app N164 N166q
  obtain ⟨fs, hr, hrun, hended, hW, hsame⟩ := X166.leave (v := some (.int (0 : Int32))) (fun h => by rw [Bd.returns] at h; cases h)
  refine ⟨_, _, pre0 _ ?_, hrun, hended, _, _, rfl, ?_, ⟨_, rfl⟩, hW, hsame.mono (by decide) (by decide)⟩
  · show Steps p.tables e below (s₁.setTop (mkF m 0 #[.val (.ref (A 2)), .val (.ref r158), .val (.ref r159)] [])) _
    refine XS.aloadN X0.here hx rfl (hb hby own_d_prog_3_method_5_code_0) rfl rfl ?_
    show Steps p.tables e below (s₁.setTop (mkF m 1 #[.val (.ref (A 2)), .val (.ref r158), .val (.ref r159)] [(.ref (A 2))])) _
    refine XS.aloadN X0.here hx rfl (hb hby own_d_prog_3_method_5_code_1) rfl rfl ?_
    show Steps p.tables e below (s₁.setTop (mkF m 2 #[.val (.ref (A 2)), .val (.ref r158), .val (.ref r159)] [(.ref r158), (.ref (A 2))])) _
    refine XS.aloadN X0.here hx rfl (hb hby own_d_prog_3_method_5_code_2) rfl rfl ?_
    show Steps p.tables e below (s₁.setTop (mkF m 3 #[.val (.ref (A 2)), .val (.ref r158), .val (.ref r159)] [(.ref r159), (.ref r158), (.ref (A 2))])) _
    refine st164.trans ?_
    show Steps p.tables e below (T164.setTop (mkF m 8 #[.val (.ref (A 2)), .val (.ref r158), .val (.ref r159)] [(.int (-1 : Int32)), (.ref (A 2))])) _
    refine st166.trans ?_
    show Steps p.tables e below (T166.setTop (mkF m 11 #[.val (.ref (A 2)), .val (.ref r158), .val (.ref r159)] [(.int (0 : Int32))])) _
    exact retN X166 hx (t := .boolean) Bd.returns (by simp) (hb hby own_d_prog_3_method_5_code_11) hr
  · show PQ (some (.int (0 : Int32))) h0 n0 _ T166.heap _
    rw [e166]
    exact ⟨rfl, N166, rfl⟩
theorem own_ef_rm61 (m : MethodId) (p1 : Int32) (p2 : Int32) (p3 : Int32) (A : Nat → Addr) (K : Nat → ClassId)  : entryFrame m #[(.ref (A 2)), (.int (1 : Int32))] 2 = mkF m 0 #[.val (.ref (A 2)), .val (.int (1 : Int32))] [] := by first | (simp [entryFrame, mkF, argsToLocals, Value.category, maxLocals]; done) | rfl
set_option maxRecDepth 65536 in
set_option maxHeartbeats 40000000 in
theorem rm61 (l : Launch) (Z : State) (a0 : Array Value) (hw : ∀ d ∈ tables_1, d.before a0 Z = true) (ws : List Jvm.Cond) (h0 : Heap) (n0 : Nat) (p1 : Int32) (p2 : Int32) (p3 : Int32) (A : Nat → Addr) (K : Nat → ClassId)  (EN : own_St Z A K) (OL0 : Old Z n0 h0) :
    MetFree l own_m1 (head1 (Jvm.Cond.code own_m1 prog_3_method_6_code 2 (some .boolean) :: ws) ({ frames := 1, cells := 0, slots := 0, locals := 12 } : Room)) (fun a U => a = #[(.ref (A 2)), (.int (1 : Int32))] ∧ Z.Warmed39 U.vm ∧ U.heap = h0) (fun _ _ _ _ _ => True) (fun _ U o U' => ∃ v L, o = .returned v ∧ (PQ (some (.int (0 : Int32))) h0 n0) v U'.heap L ∧ FrameEnd U o U' L ({ frames := 1, cells := 0, slots := 0, locals := 12 } : Room).cells ({ frames := 1, cells := 0, slots := 0, locals := 12 } : Room).slots) := by
  refine MetFree.of_bodySF (plainFor_of_name own_pn4) hisR ?_
  intro p e s m args below meth c s₁ Bd hml0 hP hK
  obtain ⟨rfl, hZ, hh⟩ := hP
  have hx := Bd.exec
  have hby := Bd.bytes
  have hml : c.maxLocals = 2 := hml0
  have hown : s.vm.findClass "com/example/measurewright/measurewright/Comparison" = some m.cls := findClass_of_methodNamed Bd.named
  have hnm := (name_of_methodNamed Bd.named Bd.method).1
  have X0 : Stand p l e ({ frames := 1, cells := 0, slots := 0, locals := 12 } : Room) s m #[(.ref (A 2)), (.int (1 : Int32))] below meth c s₁ [] 0 0 := Stand.of_body Bd
  have e0 : s₁.heap = h0 := by rw [← hh, Bd.state]; rfl
  have N0 := Fr.nil n0
  have pre0 : ∀ t, Steps p.tables e below (s₁.setTop (mkF m 0 #[.val (.ref (A 2)), .val (.int (1 : Int32))] [])) t → Steps p.tables e below (s₁.setTop (entryFrame m #[(.ref (A 2)), (.int (1 : Int32))] 2)) t := fun t k => castTop (own_ef_rm61 m p1 p2 p3 A K ) k
  have KK0 : Keep h0 h0 [] := Keep.refl _ _
  obtain ⟨cq171, kq171, q171a, q171b, q171c⟩ := isOf hZ e0 (EN.1.2.2.2.2.2.1.ext OL0.2)
  obtain ⟨_, _, ⟨T171, L171, k171, n171⟩, -, X171, ⟨Lc171, hQ171, l171, y171, z171⟩, st171⟩ := X0.virtualBackUp hx (x := own_m9) (y := own_m5) (owner := "java/lang/Enum") hown (mvT hZ (hw _ (List.mem_of_getElem? (i := 20) rfl))) (mvT hZ (hw _ (List.mem_of_getElem? (i := 21) rfl))) (mvT hZ (hw _ (List.mem_of_getElem? (i := 22) rfl))) (by decide) (mvT hZ (hw _ (List.mem_of_getElem? (i := 24) rfl))) (mvT hZ (hw _ (List.mem_of_getElem? (i := 23) rfl))) (backOf (W := 0) (rm57 l Z a0 hw [] h0 n0 p1 p2 p3 A K EN OL0) hZ (hw _ (List.mem_of_getElem? (i := 26) rfl)) (hw _ (List.mem_of_getElem? (i := 25) rfl)) (by decide) (by decide)) q171a q171c (g := (mkF m 1 #[.val (.ref (A 2)), .val (.int (1 : Int32))] [(.ref (A 2))])) rfl (by rw [hml]; rfl) (Steps.refl _) (argsL := []) (rest := []) (lenOf own_pd4 rfl) rfl (by show 2 * 0 + _ ≤ _; exact Nat.le_of_eq rfl) (hb hby own_d_prog_3_method_6_code_1) (fun _ _ => ⟨rfl, e0, (by decide : 0 + 0 ≤ _), (by decide : 0 + 0 ≤ _)⟩)
  dsimp only [Pt.U, Pt.locs, Pt.cells, Pt.slots] at X171 l171 y171 z171 st171 hQ171
  subst l171 y171 z171
  obtain ⟨rfl, N171q, e171⟩ := hQ171
  have N171 := Fr.app N0 N171q
  obtain ⟨fs, hr, hrun, hended, hW, hsame⟩ := X171.leave (v := some (.int (0 : Int32))) (fun h => by rw [Bd.returns] at h; cases h)
  refine ⟨_, _, pre0 _ ?_, hrun, hended, _, _, rfl, ?_, ⟨_, rfl⟩, hW, hsame.mono (by decide) (by decide)⟩
  · show Steps p.tables e below (s₁.setTop (mkF m 0 #[.val (.ref (A 2)), .val (.int (1 : Int32))] [])) _
    refine XS.aloadN X0.here hx rfl (hb hby own_d_prog_3_method_6_code_0) rfl rfl ?_
    show Steps p.tables e below (s₁.setTop (mkF m 1 #[.val (.ref (A 2)), .val (.int (1 : Int32))] [(.ref (A 2))])) _
    refine st171.trans ?_
    show Steps p.tables e below (T171.setTop (mkF m 4 #[.val (.ref (A 2)), .val (.int (1 : Int32))] [(.int (2 : Int32))])) _
    refine XS.tswIn X171.here hx rfl (pc0 := 4) (pc' := 74) rfl (hb hby own_d_prog_3_method_6_code_4) rfl (by decide) (o := 70) (by decide) (by decide) (by decide) ?_
    show Steps p.tables e below (T171.setTop (mkF m 74 #[.val (.ref (A 2)), .val (.int (1 : Int32))] [])) _
    refine XS.iloadN X171.here hx rfl (hb hby own_d_prog_3_method_6_code_74) rfl ?_
    show Steps p.tables e below (T171.setTop (mkF m 75 #[.val (.ref (A 2)), .val (.int (1 : Int32))] [(.int (1 : Int32))])) _
    refine XS.ifYes X171.here hx rfl (pc0 := 75) (pc' := 82) rfl (hb hby own_d_prog_3_method_6_code_75) rfl ((if0 _ _).trans (feq (by decide : ¬ ((1 : Int32) = (0 : Int32)))).2) (by decide) (by decide) ?_
    show Steps p.tables e below (T171.setTop (mkF m 82 #[.val (.ref (A 2)), .val (.int (1 : Int32))] [])) _
    refine XS.iconst X171.here hx rfl (hb hby own_d_prog_3_method_6_code_82) ?_
    show Steps p.tables e below (T171.setTop (mkF m 83 #[.val (.ref (A 2)), .val (.int (1 : Int32))] [(.int (0 : Int32))])) _
    refine XS.goto X171.here hx rfl (pc0 := 83) (pc' := 107) rfl (hb hby own_d_prog_3_method_6_code_83) (by decide) (by decide) ?_
    show Steps p.tables e below (T171.setTop (mkF m 107 #[.val (.ref (A 2)), .val (.int (1 : Int32))] [(.int (0 : Int32))])) _
    exact retN X171 hx (t := .boolean) Bd.returns (by simp) (hb hby own_d_prog_3_method_6_code_107) hr
  · show PQ (some (.int (0 : Int32))) h0 n0 _ T171.heap _
    rw [e171]
    exact ⟨rfl, N171, rfl⟩
theorem own_ef_rm60 (m : MethodId) (p1 : Int32) (p2 : Int32) (p3 : Int32) (A : Nat → Addr) (K : Nat → ClassId)  (r158 : Addr) (r159 : Addr) : entryFrame m #[(.ref (A 2)), (.ref r159), (.ref r158)] 3 = mkF m 0 #[.val (.ref (A 2)), .val (.ref r159), .val (.ref r158)] [] := by first | (simp [entryFrame, mkF, argsToLocals, Value.category, maxLocals]; done) | rfl
set_option maxRecDepth 65536 in
set_option maxHeartbeats 40000000 in
theorem rm60 (l : Launch) (Z : State) (a0 : Array Value) (hw : ∀ d ∈ tables_1, d.before a0 Z = true) (ws : List Jvm.Cond) (h0 : Heap) (n0 : Nat) (p1 : Int32) (p2 : Int32) (p3 : Int32) (A : Nat → Addr) (K : Nat → ClassId)  (r158 : Addr) (r159 : Addr) (EN : own_St Z A K) (OL0 : Old Z n0 h0) (G_E_r159 : Exa Z h0 r159 "java/lang/Integer") (G_E_r158 : Exa Z h0 r158 "java/lang/Integer") (G_F_r159_java_lang_Integer_value : Fld Z h0 r159 "java/lang/Integer" "value" "I" (.int p3)) (G_F_r158_java_lang_Integer_value : Fld Z h0 r158 "java/lang/Integer" "value" "I" (.int p2)) (hp_155 : p2 < p3) :
    MetFree l own_m0 (head1 (Jvm.Cond.code own_m0 prog_3_method_5_code 3 (some .boolean) :: ws) ({ frames := 3, cells := 0, slots := 0, locals := 40 } : Room)) (fun a U => a = #[(.ref (A 2)), (.ref r159), (.ref r158)] ∧ Z.Warmed39 U.vm ∧ U.heap = h0) (fun _ _ _ _ _ => True) (fun _ U o U' => ∃ v L, o = .returned v ∧ (PQ (some (.int (0 : Int32))) h0 n0) v U'.heap L ∧ FrameEnd U o U' L ({ frames := 3, cells := 0, slots := 0, locals := 40 } : Room).cells ({ frames := 3, cells := 0, slots := 0, locals := 40 } : Room).slots) := by
  refine MetFree.of_bodySF (plainFor_of_name own_pn4) hisR ?_
  intro p e s m args below meth c s₁ Bd hml0 hP hK
  obtain ⟨rfl, hZ, hh⟩ := hP
  have hx := Bd.exec
  have hby := Bd.bytes
  have hml : c.maxLocals = 3 := hml0
  have hown : s.vm.findClass "com/example/measurewright/measurewright/Comparison" = some m.cls := findClass_of_methodNamed Bd.named
  have hnm := (name_of_methodNamed Bd.named Bd.method).1
  have X0 : Stand p l e ({ frames := 3, cells := 0, slots := 0, locals := 40 } : Room) s m #[(.ref (A 2)), (.ref r159), (.ref r158)] below meth c s₁ [] 0 0 := Stand.of_body Bd
  have e0 : s₁.heap = h0 := by rw [← hh, Bd.state]; rfl
  have N0 := Fr.nil n0
  have pre0 : ∀ t, Steps p.tables e below (s₁.setTop (mkF m 0 #[.val (.ref (A 2)), .val (.ref r159), .val (.ref r158)] [])) t → Steps p.tables e below (s₁.setTop (entryFrame m #[(.ref (A 2)), (.ref r159), (.ref r158)] 3)) t := fun t k => castTop (own_ef_rm60 m p1 p2 p3 A K r158 r159) k
  have KK0 : Keep h0 h0 [] := Keep.refl _ _
  obtain ⟨cq170, kq170, q170a, q170b, q170c⟩ := isOf hZ e0 G_E_r159
  obtain ⟨_, _, ⟨T170, L170, k170, n170⟩, -, X170, ⟨Lc170, hQ170, l170, y170, z170⟩, st170⟩ := X0.interfaceBack hx (xi := own_m6) (y := own_m3) hown (mvT hZ (hw _ (List.mem_of_getElem? (i := 36) rfl))) (mvT hZ (hw _ (List.mem_of_getElem? (i := 37) rfl))) (mvT hZ (hw _ (List.mem_of_getElem? (i := 38) rfl))) (mvT hZ (hw _ (List.mem_of_getElem? (i := 39) rfl))) (mvT hZ (hw _ (List.mem_of_getElem? (i := 40) rfl))) (mvT hZ (hw _ (List.mem_of_getElem? (i := 41) rfl))) (mvT hZ (hw _ (List.mem_of_getElem? (i := 42) rfl))) (mvT hZ (hw _ (List.mem_of_getElem? (i := 43) rfl))) (by decide) (backOf (W := 1) (rm12 l Z a0 hw [] h0 n0 p1 p2 p3 A K r158 r159 EN OL0 G_E_r158 G_E_r159 G_F_r159_java_lang_Integer_value G_F_r158_java_lang_Integer_value hp_155) hZ (hw _ (List.mem_of_getElem? (i := 44) rfl)) (hw _ (List.mem_of_getElem? (i := 10) rfl)) (by decide) (by decide)) q170a q170b q170c (g := (mkF m 3 #[.val (.ref (A 2)), .val (.ref r159), .val (.ref r158)] [(.ref r158), (.ref r159), (.ref (A 2))])) rfl (by rw [hml]; rfl) (Steps.refl _) (argsL := [(.ref r158)]) (rest := [(.ref (A 2))]) (lenOf own_pd8 rfl) rfl (by show 2 * 0 + _ ≤ _; exact Nat.le_of_eq rfl) (hb hby own_d_prog_3_method_5_code_3) (fun _ _ => ⟨rfl, e0, (by decide : 0 + 0 ≤ _), (by decide : 0 + 0 ≤ _)⟩)
  dsimp only [Pt.U, Pt.locs, Pt.cells, Pt.slots] at X170 l170 y170 z170 st170 hQ170
  subst l170 y170 z170
  obtain ⟨rfl, N170q, e170⟩ := hQ170
  have N170 := Fr.app N0 N170q
  obtain ⟨cq172, q172, q172'⟩ := (EN.1.2.2.2.2.2.1.ext OL0.2).cell
  obtain ⟨_, _, ⟨T172, L172, k172, n172⟩, -, X172, ⟨Lc172, hQ172, l172, y172, z172⟩, st172⟩ := X170.privateBack hx (y := own_m1) hown (mvT hZ (hw _ (List.mem_of_getElem? (i := 57) rfl))) (mvT hZ (hw _ (List.mem_of_getElem? (i := 58) rfl))) (own_selpS (y := own_m1) (mvT hZ (hw _ (List.mem_of_getElem? (i := 18) rfl))) rfl (mvP (args := #[]) hZ (hw _ (List.mem_of_getElem? (i := 59) rfl))) (mvT hZ (hw _ (List.mem_of_getElem? (i := 58) rfl))) (by decide)) (Cond.privateMethod_at (mvP hZ (hw _ (List.mem_of_getElem? (i := 59) rfl)) (args := #[]))) (mvT hZ (hw _ (List.mem_of_getElem? (i := 60) rfl))) (by decide) (backOf (W := 0) (rm61 l Z a0 hw [] h0 n0 p1 p2 p3 A K EN OL0) hZ (hw _ (List.mem_of_getElem? (i := 60) rfl)) (hw _ (List.mem_of_getElem? (i := 6) rfl)) (by decide) (by decide)) (g := (mkF m 8 #[.val (.ref (A 2)), .val (.ref r159), .val (.ref r158)] [(.int (1 : Int32)), (.ref (A 2))])) rfl (by rw [hml]; rfl) (Steps.refl _) (a := (A 2)) (by rw [e170]; exact q172) q172' (argsL := [(.int (1 : Int32))]) (rest := []) (lenOf own_pd9 rfl) rfl (by show 2 * 0 + _ ≤ _; exact Nat.le_of_eq rfl) (hb hby own_d_prog_3_method_5_code_8) (fun _ _ => ⟨rfl, e170, (by decide : 0 + 0 ≤ _), (by decide : 0 + 0 ≤ _)⟩)
  dsimp only [Pt.U, Pt.locs, Pt.cells, Pt.slots] at X172 l172 y172 z172 st172 hQ172
  subst l172 y172 z172
  obtain ⟨rfl, N172q, e172⟩ := hQ172
  have N172 := Fr.app N170 N172q
  obtain ⟨fs, hr, hrun, hended, hW, hsame⟩ := X172.leave (v := some (.int (0 : Int32))) (fun h => by rw [Bd.returns] at h; cases h)
  refine ⟨_, _, pre0 _ ?_, hrun, hended, _, _, rfl, ?_, ⟨_, rfl⟩, hW, hsame.mono (by decide) (by decide)⟩
  · show Steps p.tables e below (s₁.setTop (mkF m 0 #[.val (.ref (A 2)), .val (.ref r159), .val (.ref r158)] [])) _
    refine XS.aloadN X0.here hx rfl (hb hby own_d_prog_3_method_5_code_0) rfl rfl ?_
    show Steps p.tables e below (s₁.setTop (mkF m 1 #[.val (.ref (A 2)), .val (.ref r159), .val (.ref r158)] [(.ref (A 2))])) _
    refine XS.aloadN X0.here hx rfl (hb hby own_d_prog_3_method_5_code_1) rfl rfl ?_
    show Steps p.tables e below (s₁.setTop (mkF m 2 #[.val (.ref (A 2)), .val (.ref r159), .val (.ref r158)] [(.ref r159), (.ref (A 2))])) _
    refine XS.aloadN X0.here hx rfl (hb hby own_d_prog_3_method_5_code_2) rfl rfl ?_
    show Steps p.tables e below (s₁.setTop (mkF m 3 #[.val (.ref (A 2)), .val (.ref r159), .val (.ref r158)] [(.ref r158), (.ref r159), (.ref (A 2))])) _
    refine st170.trans ?_
    show Steps p.tables e below (T170.setTop (mkF m 8 #[.val (.ref (A 2)), .val (.ref r159), .val (.ref r158)] [(.int (1 : Int32)), (.ref (A 2))])) _
    refine st172.trans ?_
    show Steps p.tables e below (T172.setTop (mkF m 11 #[.val (.ref (A 2)), .val (.ref r159), .val (.ref r158)] [(.int (0 : Int32))])) _
    exact retN X172 hx (t := .boolean) Bd.returns (by simp) (hb hby own_d_prog_3_method_5_code_11) hr
  · show PQ (some (.int (0 : Int32))) h0 n0 _ T172.heap _
    rw [e172]
    exact ⟨rfl, N172, rfl⟩
theorem own_d_prog_3_method_6_code_78 : decode prog_3_method_6_code 78 = .ok (.iconst 1, 1) := by decide +kernel
theorem own_d_prog_3_method_6_code_79 : decode prog_3_method_6_code 79 = .ok (.goto 28, 3) := by decide +kernel
theorem own_ef_rm63 (m : MethodId) (p1 : Int32) (p2 : Int32) (p3 : Int32) (A : Nat → Addr) (K : Nat → ClassId)  : entryFrame m #[(.ref (A 2)), (.int (0 : Int32))] 2 = mkF m 0 #[.val (.ref (A 2)), .val (.int (0 : Int32))] [] := by first | (simp [entryFrame, mkF, argsToLocals, Value.category, maxLocals]; done) | rfl
set_option maxRecDepth 65536 in
set_option maxHeartbeats 40000000 in
theorem rm63 (l : Launch) (Z : State) (a0 : Array Value) (hw : ∀ d ∈ tables_1, d.before a0 Z = true) (ws : List Jvm.Cond) (h0 : Heap) (n0 : Nat) (p1 : Int32) (p2 : Int32) (p3 : Int32) (A : Nat → Addr) (K : Nat → ClassId)  (EN : own_St Z A K) (OL0 : Old Z n0 h0) :
    MetFree l own_m1 (head1 (Jvm.Cond.code own_m1 prog_3_method_6_code 2 (some .boolean) :: ws) ({ frames := 1, cells := 0, slots := 0, locals := 12 } : Room)) (fun a U => a = #[(.ref (A 2)), (.int (0 : Int32))] ∧ Z.Warmed39 U.vm ∧ U.heap = h0) (fun _ _ _ _ _ => True) (fun _ U o U' => ∃ v L, o = .returned v ∧ (PQ (some (.int (1 : Int32))) h0 n0) v U'.heap L ∧ FrameEnd U o U' L ({ frames := 1, cells := 0, slots := 0, locals := 12 } : Room).cells ({ frames := 1, cells := 0, slots := 0, locals := 12 } : Room).slots) := by
  refine MetFree.of_bodySF (plainFor_of_name own_pn4) hisR ?_
  intro p e s m args below meth c s₁ Bd hml0 hP hK
  obtain ⟨rfl, hZ, hh⟩ := hP
  have hx := Bd.exec
  have hby := Bd.bytes
  have hml : c.maxLocals = 2 := hml0
  have hown : s.vm.findClass "com/example/measurewright/measurewright/Comparison" = some m.cls := findClass_of_methodNamed Bd.named
  have hnm := (name_of_methodNamed Bd.named Bd.method).1
  have X0 : Stand p l e ({ frames := 1, cells := 0, slots := 0, locals := 12 } : Room) s m #[(.ref (A 2)), (.int (0 : Int32))] below meth c s₁ [] 0 0 := Stand.of_body Bd
  have e0 : s₁.heap = h0 := by rw [← hh, Bd.state]; rfl
  have N0 := Fr.nil n0
  have pre0 : ∀ t, Steps p.tables e below (s₁.setTop (mkF m 0 #[.val (.ref (A 2)), .val (.int (0 : Int32))] [])) t → Steps p.tables e below (s₁.setTop (entryFrame m #[(.ref (A 2)), (.int (0 : Int32))] 2)) t := fun t k => castTop (own_ef_rm63 m p1 p2 p3 A K ) k
  have KK0 : Keep h0 h0 [] := Keep.refl _ _
  obtain ⟨cq181, kq181, q181a, q181b, q181c⟩ := isOf hZ e0 (EN.1.2.2.2.2.2.1.ext OL0.2)
  obtain ⟨_, _, ⟨T181, L181, k181, n181⟩, -, X181, ⟨Lc181, hQ181, l181, y181, z181⟩, st181⟩ := X0.virtualBackUp hx (x := own_m9) (y := own_m5) (owner := "java/lang/Enum") hown (mvT hZ (hw _ (List.mem_of_getElem? (i := 20) rfl))) (mvT hZ (hw _ (List.mem_of_getElem? (i := 21) rfl))) (mvT hZ (hw _ (List.mem_of_getElem? (i := 22) rfl))) (by decide) (mvT hZ (hw _ (List.mem_of_getElem? (i := 24) rfl))) (mvT hZ (hw _ (List.mem_of_getElem? (i := 23) rfl))) (backOf (W := 0) (rm57 l Z a0 hw [] h0 n0 p1 p2 p3 A K EN OL0) hZ (hw _ (List.mem_of_getElem? (i := 26) rfl)) (hw _ (List.mem_of_getElem? (i := 25) rfl)) (by decide) (by decide)) q181a q181c (g := (mkF m 1 #[.val (.ref (A 2)), .val (.int (0 : Int32))] [(.ref (A 2))])) rfl (by rw [hml]; rfl) (Steps.refl _) (argsL := []) (rest := []) (lenOf own_pd4 rfl) rfl (by show 2 * 0 + _ ≤ _; exact Nat.le_of_eq rfl) (hb hby own_d_prog_3_method_6_code_1) (fun _ _ => ⟨rfl, e0, (by decide : 0 + 0 ≤ _), (by decide : 0 + 0 ≤ _)⟩)
  dsimp only [Pt.U, Pt.locs, Pt.cells, Pt.slots] at X181 l181 y181 z181 st181 hQ181
  subst l181 y181 z181
  obtain ⟨rfl, N181q, e181⟩ := hQ181
  have N181 := Fr.app N0 N181q
  obtain ⟨fs, hr, hrun, hended, hW, hsame⟩ := X181.leave (v := some (.int (1 : Int32))) (fun h => by rw [Bd.returns] at h; cases h)
  refine ⟨_, _, pre0 _ ?_, hrun, hended, _, _, rfl, ?_, ⟨_, rfl⟩, hW, hsame.mono (by decide) (by decide)⟩
  · show Steps p.tables e below (s₁.setTop (mkF m 0 #[.val (.ref (A 2)), .val (.int (0 : Int32))] [])) _
    refine XS.aloadN X0.here hx rfl (hb hby own_d_prog_3_method_6_code_0) rfl rfl ?_
    show Steps p.tables e below (s₁.setTop (mkF m 1 #[.val (.ref (A 2)), .val (.int (0 : Int32))] [(.ref (A 2))])) _
    refine st181.trans ?_
    show Steps p.tables e below (T181.setTop (mkF m 4 #[.val (.ref (A 2)), .val (.int (0 : Int32))] [(.int (2 : Int32))])) _
    refine XS.tswIn X181.here hx rfl (pc0 := 4) (pc' := 74) rfl (hb hby own_d_prog_3_method_6_code_4) rfl (by decide) (o := 70) (by decide) (by decide) (by decide) ?_
    show Steps p.tables e below (T181.setTop (mkF m 74 #[.val (.ref (A 2)), .val (.int (0 : Int32))] [])) _
    refine XS.iloadN X181.here hx rfl (hb hby own_d_prog_3_method_6_code_74) rfl ?_
    show Steps p.tables e below (T181.setTop (mkF m 75 #[.val (.ref (A 2)), .val (.int (0 : Int32))] [(.int (0 : Int32))])) _
    refine XS.ifNo X181.here hx rfl (hb hby own_d_prog_3_method_6_code_75) rfl ((if0 _ _).trans (teq (by decide : (0 : Int32) = (0 : Int32))).2) ?_
    show Steps p.tables e below (T181.setTop (mkF m 78 #[.val (.ref (A 2)), .val (.int (0 : Int32))] [])) _
    refine XS.iconst X181.here hx rfl (hb hby own_d_prog_3_method_6_code_78) ?_
    show Steps p.tables e below (T181.setTop (mkF m 79 #[.val (.ref (A 2)), .val (.int (0 : Int32))] [(.int (1 : Int32))])) _
    refine XS.goto X181.here hx rfl (pc0 := 79) (pc' := 107) rfl (hb hby own_d_prog_3_method_6_code_79) (by decide) (by decide) ?_
    show Steps p.tables e below (T181.setTop (mkF m 107 #[.val (.ref (A 2)), .val (.int (0 : Int32))] [(.int (1 : Int32))])) _
    exact retN X181 hx (t := .boolean) Bd.returns (by simp) (hb hby own_d_prog_3_method_6_code_107) hr
  · show PQ (some (.int (1 : Int32))) h0 n0 _ T181.heap _
    rw [e181]
    exact ⟨rfl, N181, rfl⟩
theorem own_ef_rm62 (m : MethodId) (p1 : Int32) (p2 : Int32) (p3 : Int32) (A : Nat → Addr) (K : Nat → ClassId)  (r177 : Addr) (r178 : Addr) : entryFrame m #[(.ref (A 2)), (.ref r177), (.ref r178)] 3 = mkF m 0 #[.val (.ref (A 2)), .val (.ref r177), .val (.ref r178)] [] := by first | (simp [entryFrame, mkF, argsToLocals, Value.category, maxLocals]; done) | rfl
set_option maxRecDepth 65536 in
set_option maxHeartbeats 40000000 in
theorem rm62 (l : Launch) (Z : State) (a0 : Array Value) (hw : ∀ d ∈ tables_1, d.before a0 Z = true) (ws : List Jvm.Cond) (h0 : Heap) (n0 : Nat) (p1 : Int32) (p2 : Int32) (p3 : Int32) (A : Nat → Addr) (K : Nat → ClassId)  (r177 : Addr) (r178 : Addr) (EN : own_St Z A K) (OL0 : Old Z n0 h0) (G_E_r177 : Exa Z h0 r177 "java/lang/Integer") (G_E_r178 : Exa Z h0 r178 "java/lang/Integer") (G_F_r177_java_lang_Integer_value : Fld Z h0 r177 "java/lang/Integer" "value" "I" (.int p2)) (G_F_r178_java_lang_Integer_value : Fld Z h0 r178 "java/lang/Integer" "value" "I" (.int p3)) (hp_155 : ¬ (p2 < p3)) (hp_175 : p2 = p3) :
    MetFree l own_m0 (head1 (Jvm.Cond.code own_m0 prog_3_method_5_code 3 (some .boolean) :: ws) ({ frames := 3, cells := 0, slots := 0, locals := 40 } : Room)) (fun a U => a = #[(.ref (A 2)), (.ref r177), (.ref r178)] ∧ Z.Warmed39 U.vm ∧ U.heap = h0) (fun _ _ _ _ _ => True) (fun _ U o U' => ∃ v L, o = .returned v ∧ (PQ (some (.int (1 : Int32))) h0 n0) v U'.heap L ∧ FrameEnd U o U' L ({ frames := 3, cells := 0, slots := 0, locals := 40 } : Room).cells ({ frames := 3, cells := 0, slots := 0, locals := 40 } : Room).slots) := by
  refine MetFree.of_bodySF (plainFor_of_name own_pn4) hisR ?_
  intro p e s m args below meth c s₁ Bd hml0 hP hK
  obtain ⟨rfl, hZ, hh⟩ := hP
  have hx := Bd.exec
  have hby := Bd.bytes
  have hml : c.maxLocals = 3 := hml0
  have hown : s.vm.findClass "com/example/measurewright/measurewright/Comparison" = some m.cls := findClass_of_methodNamed Bd.named
  have hnm := (name_of_methodNamed Bd.named Bd.method).1
  have X0 : Stand p l e ({ frames := 3, cells := 0, slots := 0, locals := 40 } : Room) s m #[(.ref (A 2)), (.ref r177), (.ref r178)] below meth c s₁ [] 0 0 := Stand.of_body Bd
  have e0 : s₁.heap = h0 := by rw [← hh, Bd.state]; rfl
  have N0 := Fr.nil n0
  have pre0 : ∀ t, Steps p.tables e below (s₁.setTop (mkF m 0 #[.val (.ref (A 2)), .val (.ref r177), .val (.ref r178)] [])) t → Steps p.tables e below (s₁.setTop (entryFrame m #[(.ref (A 2)), (.ref r177), (.ref r178)] 3)) t := fun t k => castTop (own_ef_rm62 m p1 p2 p3 A K r177 r178) k
  have KK0 : Keep h0 h0 [] := Keep.refl _ _
  obtain ⟨cq180, kq180, q180a, q180b, q180c⟩ := isOf hZ e0 G_E_r177
  obtain ⟨_, _, ⟨T180, L180, k180, n180⟩, -, X180, ⟨Lc180, hQ180, l180, y180, z180⟩, st180⟩ := X0.interfaceBack hx (xi := own_m6) (y := own_m3) hown (mvT hZ (hw _ (List.mem_of_getElem? (i := 36) rfl))) (mvT hZ (hw _ (List.mem_of_getElem? (i := 37) rfl))) (mvT hZ (hw _ (List.mem_of_getElem? (i := 38) rfl))) (mvT hZ (hw _ (List.mem_of_getElem? (i := 39) rfl))) (mvT hZ (hw _ (List.mem_of_getElem? (i := 40) rfl))) (mvT hZ (hw _ (List.mem_of_getElem? (i := 41) rfl))) (mvT hZ (hw _ (List.mem_of_getElem? (i := 42) rfl))) (mvT hZ (hw _ (List.mem_of_getElem? (i := 43) rfl))) (by decide) (backOf (W := 1) (rm19 l Z a0 hw [] h0 n0 p1 p2 p3 A K r177 r178 EN OL0 G_E_r178 G_E_r177 G_F_r177_java_lang_Integer_value G_F_r178_java_lang_Integer_value hp_155 hp_175) hZ (hw _ (List.mem_of_getElem? (i := 44) rfl)) (hw _ (List.mem_of_getElem? (i := 10) rfl)) (by decide) (by decide)) q180a q180b q180c (g := (mkF m 3 #[.val (.ref (A 2)), .val (.ref r177), .val (.ref r178)] [(.ref r178), (.ref r177), (.ref (A 2))])) rfl (by rw [hml]; rfl) (Steps.refl _) (argsL := [(.ref r178)]) (rest := [(.ref (A 2))]) (lenOf own_pd8 rfl) rfl (by show 2 * 0 + _ ≤ _; exact Nat.le_of_eq rfl) (hb hby own_d_prog_3_method_5_code_3) (fun _ _ => ⟨rfl, e0, (by decide : 0 + 0 ≤ _), (by decide : 0 + 0 ≤ _)⟩)
  dsimp only [Pt.U, Pt.locs, Pt.cells, Pt.slots] at X180 l180 y180 z180 st180 hQ180
  subst l180 y180 z180
  obtain ⟨rfl, N180q, e180⟩ := hQ180
  have N180 := Fr.app N0 N180q
  obtain ⟨cq182, q182, q182'⟩ := (EN.1.2.2.2.2.2.1.ext OL0.2).cell
  obtain ⟨_, _, ⟨T182, L182, k182, n182⟩, -, X182, ⟨Lc182, hQ182, l182, y182, z182⟩, st182⟩ := X180.privateBack hx (y := own_m1) hown (mvT hZ (hw _ (List.mem_of_getElem? (i := 57) rfl))) (mvT hZ (hw _ (List.mem_of_getElem? (i := 58) rfl))) (own_selpS (y := own_m1) (mvT hZ (hw _ (List.mem_of_getElem? (i := 18) rfl))) rfl (mvP (args := #[]) hZ (hw _ (List.mem_of_getElem? (i := 59) rfl))) (mvT hZ (hw _ (List.mem_of_getElem? (i := 58) rfl))) (by decide)) (Cond.privateMethod_at (mvP hZ (hw _ (List.mem_of_getElem? (i := 59) rfl)) (args := #[]))) (mvT hZ (hw _ (List.mem_of_getElem? (i := 60) rfl))) (by decide) (backOf (W := 0) (rm63 l Z a0 hw [] h0 n0 p1 p2 p3 A K EN OL0) hZ (hw _ (List.mem_of_getElem? (i := 60) rfl)) (hw _ (List.mem_of_getElem? (i := 6) rfl)) (by decide) (by decide)) (g := (mkF m 8 #[.val (.ref (A 2)), .val (.ref r177), .val (.ref r178)] [(.int (0 : Int32)), (.ref (A 2))])) rfl (by rw [hml]; rfl) (Steps.refl _) (a := (A 2)) (by rw [e180]; exact q182) q182' (argsL := [(.int (0 : Int32))]) (rest := []) (lenOf own_pd9 rfl) rfl (by show 2 * 0 + _ ≤ _; exact Nat.le_of_eq rfl) (hb hby own_d_prog_3_method_5_code_8) (fun _ _ => ⟨rfl, e180, (by decide : 0 + 0 ≤ _), (by decide : 0 + 0 ≤ _)⟩)
  dsimp only [Pt.U, Pt.locs, Pt.cells, Pt.slots] at X182 l182 y182 z182 st182 hQ182
  subst l182 y182 z182
  obtain ⟨rfl, N182q, e182⟩ := hQ182
  have N182 := Fr.app N180 N182q
  obtain ⟨fs, hr, hrun, hended, hW, hsame⟩ := X182.leave (v := some (.int (1 : Int32))) (fun h => by rw [Bd.returns] at h; cases h)
  refine ⟨_, _, pre0 _ ?_, hrun, hended, _, _, rfl, ?_, ⟨_, rfl⟩, hW, hsame.mono (by decide) (by decide)⟩
  · show Steps p.tables e below (s₁.setTop (mkF m 0 #[.val (.ref (A 2)), .val (.ref r177), .val (.ref r178)] [])) _
    refine XS.aloadN X0.here hx rfl (hb hby own_d_prog_3_method_5_code_0) rfl rfl ?_
    show Steps p.tables e below (s₁.setTop (mkF m 1 #[.val (.ref (A 2)), .val (.ref r177), .val (.ref r178)] [(.ref (A 2))])) _
    refine XS.aloadN X0.here hx rfl (hb hby own_d_prog_3_method_5_code_1) rfl rfl ?_
    show Steps p.tables e below (s₁.setTop (mkF m 2 #[.val (.ref (A 2)), .val (.ref r177), .val (.ref r178)] [(.ref r177), (.ref (A 2))])) _
    refine XS.aloadN X0.here hx rfl (hb hby own_d_prog_3_method_5_code_2) rfl rfl ?_
    show Steps p.tables e below (s₁.setTop (mkF m 3 #[.val (.ref (A 2)), .val (.ref r177), .val (.ref r178)] [(.ref r178), (.ref r177), (.ref (A 2))])) _
    refine st180.trans ?_
    show Steps p.tables e below (T180.setTop (mkF m 8 #[.val (.ref (A 2)), .val (.ref r177), .val (.ref r178)] [(.int (0 : Int32)), (.ref (A 2))])) _
    refine st182.trans ?_
    show Steps p.tables e below (T182.setTop (mkF m 11 #[.val (.ref (A 2)), .val (.ref r177), .val (.ref r178)] [(.int (1 : Int32))])) _
    exact retN X182 hx (t := .boolean) Bd.returns (by simp) (hb hby own_d_prog_3_method_5_code_11) hr
  · show PQ (some (.int (1 : Int32))) h0 n0 _ T182.heap _
    rw [e182]
    exact ⟨rfl, N182, rfl⟩
theorem own_ef_rm64 (m : MethodId) (p1 : Int32) (p2 : Int32) (p3 : Int32) (A : Nat → Addr) (K : Nat → ClassId)  (r177 : Addr) (r178 : Addr) : entryFrame m #[(.ref (A 2)), (.ref r178), (.ref r177)] 3 = mkF m 0 #[.val (.ref (A 2)), .val (.ref r178), .val (.ref r177)] [] := by first | (simp [entryFrame, mkF, argsToLocals, Value.category, maxLocals]; done) | rfl
set_option maxRecDepth 65536 in
set_option maxHeartbeats 40000000 in
theorem rm64 (l : Launch) (Z : State) (a0 : Array Value) (hw : ∀ d ∈ tables_1, d.before a0 Z = true) (ws : List Jvm.Cond) (h0 : Heap) (n0 : Nat) (p1 : Int32) (p2 : Int32) (p3 : Int32) (A : Nat → Addr) (K : Nat → ClassId)  (r177 : Addr) (r178 : Addr) (EN : own_St Z A K) (OL0 : Old Z n0 h0) (G_E_r178 : Exa Z h0 r178 "java/lang/Integer") (G_E_r177 : Exa Z h0 r177 "java/lang/Integer") (G_F_r178_java_lang_Integer_value : Fld Z h0 r178 "java/lang/Integer" "value" "I" (.int p3)) (G_F_r177_java_lang_Integer_value : Fld Z h0 r177 "java/lang/Integer" "value" "I" (.int p2)) (hp_155 : ¬ (p2 < p3)) (hp_175 : p2 = p3) :
    MetFree l own_m0 (head1 (Jvm.Cond.code own_m0 prog_3_method_5_code 3 (some .boolean) :: ws) ({ frames := 3, cells := 0, slots := 0, locals := 40 } : Room)) (fun a U => a = #[(.ref (A 2)), (.ref r178), (.ref r177)] ∧ Z.Warmed39 U.vm ∧ U.heap = h0) (fun _ _ _ _ _ => True) (fun _ U o U' => ∃ v L, o = .returned v ∧ (PQ (some (.int (1 : Int32))) h0 n0) v U'.heap L ∧ FrameEnd U o U' L ({ frames := 3, cells := 0, slots := 0, locals := 40 } : Room).cells ({ frames := 3, cells := 0, slots := 0, locals := 40 } : Room).slots) := by
  refine MetFree.of_bodySF (plainFor_of_name own_pn4) hisR ?_
  intro p e s m args below meth c s₁ Bd hml0 hP hK
  obtain ⟨rfl, hZ, hh⟩ := hP
  have hx := Bd.exec
  have hby := Bd.bytes
  have hml : c.maxLocals = 3 := hml0
  have hown : s.vm.findClass "com/example/measurewright/measurewright/Comparison" = some m.cls := findClass_of_methodNamed Bd.named
  have hnm := (name_of_methodNamed Bd.named Bd.method).1
  have X0 : Stand p l e ({ frames := 3, cells := 0, slots := 0, locals := 40 } : Room) s m #[(.ref (A 2)), (.ref r178), (.ref r177)] below meth c s₁ [] 0 0 := Stand.of_body Bd
  have e0 : s₁.heap = h0 := by rw [← hh, Bd.state]; rfl
  have N0 := Fr.nil n0
  have pre0 : ∀ t, Steps p.tables e below (s₁.setTop (mkF m 0 #[.val (.ref (A 2)), .val (.ref r178), .val (.ref r177)] [])) t → Steps p.tables e below (s₁.setTop (entryFrame m #[(.ref (A 2)), (.ref r178), (.ref r177)] 3)) t := fun t k => castTop (own_ef_rm64 m p1 p2 p3 A K r177 r178) k
  have KK0 : Keep h0 h0 [] := Keep.refl _ _
  obtain ⟨cq186, kq186, q186a, q186b, q186c⟩ := isOf hZ e0 G_E_r178
  obtain ⟨_, _, ⟨T186, L186, k186, n186⟩, -, X186, ⟨Lc186, hQ186, l186, y186, z186⟩, st186⟩ := X0.interfaceBack hx (xi := own_m6) (y := own_m3) hown (mvT hZ (hw _ (List.mem_of_getElem? (i := 36) rfl))) (mvT hZ (hw _ (List.mem_of_getElem? (i := 37) rfl))) (mvT hZ (hw _ (List.mem_of_getElem? (i := 38) rfl))) (mvT hZ (hw _ (List.mem_of_getElem? (i := 39) rfl))) (mvT hZ (hw _ (List.mem_of_getElem? (i := 40) rfl))) (mvT hZ (hw _ (List.mem_of_getElem? (i := 41) rfl))) (mvT hZ (hw _ (List.mem_of_getElem? (i := 42) rfl))) (mvT hZ (hw _ (List.mem_of_getElem? (i := 43) rfl))) (by decide) (backOf (W := 1) (rm24 l Z a0 hw [] h0 n0 p1 p2 p3 A K r177 r178 EN OL0 G_E_r177 G_E_r178 G_F_r178_java_lang_Integer_value G_F_r177_java_lang_Integer_value hp_155 hp_175) hZ (hw _ (List.mem_of_getElem? (i := 44) rfl)) (hw _ (List.mem_of_getElem? (i := 10) rfl)) (by decide) (by decide)) q186a q186b q186c (g := (mkF m 3 #[.val (.ref (A 2)), .val (.ref r178), .val (.ref r177)] [(.ref r177), (.ref r178), (.ref (A 2))])) rfl (by rw [hml]; rfl) (Steps.refl _) (argsL := [(.ref r177)]) (rest := [(.ref (A 2))]) (lenOf own_pd8 rfl) rfl (by show 2 * 0 + _ ≤ _; exact Nat.le_of_eq rfl) (hb hby own_d_prog_3_method_5_code_3) (fun _ _ => ⟨rfl, e0, (by decide : 0 + 0 ≤ _), (by decide : 0 + 0 ≤ _)⟩)
  dsimp only [Pt.U, Pt.locs, Pt.cells, Pt.slots] at X186 l186 y186 z186 st186 hQ186
  subst l186 y186 z186
  obtain ⟨rfl, N186q, e186⟩ := hQ186
  have N186 := Fr.app N0 N186q
  obtain ⟨cq187, q187, q187'⟩ := (EN.1.2.2.2.2.2.1.ext OL0.2).cell
  obtain ⟨_, _, ⟨T187, L187, k187, n187⟩, -, X187, ⟨Lc187, hQ187, l187, y187, z187⟩, st187⟩ := X186.privateBack hx (y := own_m1) hown (mvT hZ (hw _ (List.mem_of_getElem? (i := 57) rfl))) (mvT hZ (hw _ (List.mem_of_getElem? (i := 58) rfl))) (own_selpS (y := own_m1) (mvT hZ (hw _ (List.mem_of_getElem? (i := 18) rfl))) rfl (mvP (args := #[]) hZ (hw _ (List.mem_of_getElem? (i := 59) rfl))) (mvT hZ (hw _ (List.mem_of_getElem? (i := 58) rfl))) (by decide)) (Cond.privateMethod_at (mvP hZ (hw _ (List.mem_of_getElem? (i := 59) rfl)) (args := #[]))) (mvT hZ (hw _ (List.mem_of_getElem? (i := 60) rfl))) (by decide) (backOf (W := 0) (rm63 l Z a0 hw [] h0 n0 p1 p2 p3 A K EN OL0) hZ (hw _ (List.mem_of_getElem? (i := 60) rfl)) (hw _ (List.mem_of_getElem? (i := 6) rfl)) (by decide) (by decide)) (g := (mkF m 8 #[.val (.ref (A 2)), .val (.ref r178), .val (.ref r177)] [(.int (0 : Int32)), (.ref (A 2))])) rfl (by rw [hml]; rfl) (Steps.refl _) (a := (A 2)) (by rw [e186]; exact q187) q187' (argsL := [(.int (0 : Int32))]) (rest := []) (lenOf own_pd9 rfl) rfl (by show 2 * 0 + _ ≤ _; exact Nat.le_of_eq rfl) (hb hby own_d_prog_3_method_5_code_8) (fun _ _ => ⟨rfl, e186, (by decide : 0 + 0 ≤ _), (by decide : 0 + 0 ≤ _)⟩)
  dsimp only [Pt.U, Pt.locs, Pt.cells, Pt.slots] at X187 l187 y187 z187 st187 hQ187
  subst l187 y187 z187
  obtain ⟨rfl, N187q, e187⟩ := hQ187
  have N187 := Fr.app N186 N187q
  obtain ⟨fs, hr, hrun, hended, hW, hsame⟩ := X187.leave (v := some (.int (1 : Int32))) (fun h => by rw [Bd.returns] at h; cases h)
  refine ⟨_, _, pre0 _ ?_, hrun, hended, _, _, rfl, ?_, ⟨_, rfl⟩, hW, hsame.mono (by decide) (by decide)⟩
  · show Steps p.tables e below (s₁.setTop (mkF m 0 #[.val (.ref (A 2)), .val (.ref r178), .val (.ref r177)] [])) _
    refine XS.aloadN X0.here hx rfl (hb hby own_d_prog_3_method_5_code_0) rfl rfl ?_
    show Steps p.tables e below (s₁.setTop (mkF m 1 #[.val (.ref (A 2)), .val (.ref r178), .val (.ref r177)] [(.ref (A 2))])) _
    refine XS.aloadN X0.here hx rfl (hb hby own_d_prog_3_method_5_code_1) rfl rfl ?_
    show Steps p.tables e below (s₁.setTop (mkF m 2 #[.val (.ref (A 2)), .val (.ref r178), .val (.ref r177)] [(.ref r178), (.ref (A 2))])) _
    refine XS.aloadN X0.here hx rfl (hb hby own_d_prog_3_method_5_code_2) rfl rfl ?_
    show Steps p.tables e below (s₁.setTop (mkF m 3 #[.val (.ref (A 2)), .val (.ref r178), .val (.ref r177)] [(.ref r177), (.ref r178), (.ref (A 2))])) _
    refine st186.trans ?_
    show Steps p.tables e below (T186.setTop (mkF m 8 #[.val (.ref (A 2)), .val (.ref r178), .val (.ref r177)] [(.int (0 : Int32)), (.ref (A 2))])) _
    refine st187.trans ?_
    show Steps p.tables e below (T187.setTop (mkF m 11 #[.val (.ref (A 2)), .val (.ref r178), .val (.ref r177)] [(.int (1 : Int32))])) _
    exact retN X187 hx (t := .boolean) Bd.returns (by simp) (hb hby own_d_prog_3_method_5_code_11) hr
  · show PQ (some (.int (1 : Int32))) h0 n0 _ T187.heap _
    rw [e187]
    exact ⟨rfl, N187, rfl⟩
theorem own_ef_rm65 (m : MethodId) (p1 : Int32) (p2 : Int32) (p3 : Int32) (A : Nat → Addr) (K : Nat → ClassId)  (r191 : Addr) (r192 : Addr) : entryFrame m #[(.ref (A 2)), (.ref r191), (.ref r192)] 3 = mkF m 0 #[.val (.ref (A 2)), .val (.ref r191), .val (.ref r192)] [] := by first | (simp [entryFrame, mkF, argsToLocals, Value.category, maxLocals]; done) | rfl
set_option maxRecDepth 65536 in
set_option maxHeartbeats 40000000 in
theorem rm65 (l : Launch) (Z : State) (a0 : Array Value) (hw : ∀ d ∈ tables_1, d.before a0 Z = true) (ws : List Jvm.Cond) (h0 : Heap) (n0 : Nat) (p1 : Int32) (p2 : Int32) (p3 : Int32) (A : Nat → Addr) (K : Nat → ClassId)  (r191 : Addr) (r192 : Addr) (EN : own_St Z A K) (OL0 : Old Z n0 h0) (G_E_r191 : Exa Z h0 r191 "java/lang/Integer") (G_E_r192 : Exa Z h0 r192 "java/lang/Integer") (G_F_r191_java_lang_Integer_value : Fld Z h0 r191 "java/lang/Integer" "value" "I" (.int p2)) (G_F_r192_java_lang_Integer_value : Fld Z h0 r192 "java/lang/Integer" "value" "I" (.int p3)) (hp_155 : ¬ (p2 < p3)) (hp_175 : ¬ (p2 = p3)) :
    MetFree l own_m0 (head1 (Jvm.Cond.code own_m0 prog_3_method_5_code 3 (some .boolean) :: ws) ({ frames := 3, cells := 0, slots := 0, locals := 40 } : Room)) (fun a U => a = #[(.ref (A 2)), (.ref r191), (.ref r192)] ∧ Z.Warmed39 U.vm ∧ U.heap = h0) (fun _ _ _ _ _ => True) (fun _ U o U' => ∃ v L, o = .returned v ∧ (PQ (some (.int (0 : Int32))) h0 n0) v U'.heap L ∧ FrameEnd U o U' L ({ frames := 3, cells := 0, slots := 0, locals := 40 } : Room).cells ({ frames := 3, cells := 0, slots := 0, locals := 40 } : Room).slots) := by
  refine MetFree.of_bodySF (plainFor_of_name own_pn4) hisR ?_
  intro p e s m args below meth c s₁ Bd hml0 hP hK
  obtain ⟨rfl, hZ, hh⟩ := hP
  have hx := Bd.exec
  have hby := Bd.bytes
  have hml : c.maxLocals = 3 := hml0
  have hown : s.vm.findClass "com/example/measurewright/measurewright/Comparison" = some m.cls := findClass_of_methodNamed Bd.named
  have hnm := (name_of_methodNamed Bd.named Bd.method).1
  have X0 : Stand p l e ({ frames := 3, cells := 0, slots := 0, locals := 40 } : Room) s m #[(.ref (A 2)), (.ref r191), (.ref r192)] below meth c s₁ [] 0 0 := Stand.of_body Bd
  have e0 : s₁.heap = h0 := by rw [← hh, Bd.state]; rfl
  have N0 := Fr.nil n0
  have pre0 : ∀ t, Steps p.tables e below (s₁.setTop (mkF m 0 #[.val (.ref (A 2)), .val (.ref r191), .val (.ref r192)] [])) t → Steps p.tables e below (s₁.setTop (entryFrame m #[(.ref (A 2)), (.ref r191), (.ref r192)] 3)) t := fun t k => castTop (own_ef_rm65 m p1 p2 p3 A K r191 r192) k
  have KK0 : Keep h0 h0 [] := Keep.refl _ _
  obtain ⟨cq194, kq194, q194a, q194b, q194c⟩ := isOf hZ e0 G_E_r191
  obtain ⟨_, _, ⟨T194, L194, k194, n194⟩, -, X194, ⟨Lc194, hQ194, l194, y194, z194⟩, st194⟩ := X0.interfaceBack hx (xi := own_m6) (y := own_m3) hown (mvT hZ (hw _ (List.mem_of_getElem? (i := 36) rfl))) (mvT hZ (hw _ (List.mem_of_getElem? (i := 37) rfl))) (mvT hZ (hw _ (List.mem_of_getElem? (i := 38) rfl))) (mvT hZ (hw _ (List.mem_of_getElem? (i := 39) rfl))) (mvT hZ (hw _ (List.mem_of_getElem? (i := 40) rfl))) (mvT hZ (hw _ (List.mem_of_getElem? (i := 41) rfl))) (mvT hZ (hw _ (List.mem_of_getElem? (i := 42) rfl))) (mvT hZ (hw _ (List.mem_of_getElem? (i := 43) rfl))) (by decide) (backOf (W := 1) (rm29 l Z a0 hw [] h0 n0 p1 p2 p3 A K r191 r192 EN OL0 G_E_r192 G_E_r191 G_F_r191_java_lang_Integer_value G_F_r192_java_lang_Integer_value hp_155 hp_175) hZ (hw _ (List.mem_of_getElem? (i := 44) rfl)) (hw _ (List.mem_of_getElem? (i := 10) rfl)) (by decide) (by decide)) q194a q194b q194c (g := (mkF m 3 #[.val (.ref (A 2)), .val (.ref r191), .val (.ref r192)] [(.ref r192), (.ref r191), (.ref (A 2))])) rfl (by rw [hml]; rfl) (Steps.refl _) (argsL := [(.ref r192)]) (rest := [(.ref (A 2))]) (lenOf own_pd8 rfl) rfl (by show 2 * 0 + _ ≤ _; exact Nat.le_of_eq rfl) (hb hby own_d_prog_3_method_5_code_3) (fun _ _ => ⟨rfl, e0, (by decide : 0 + 0 ≤ _), (by decide : 0 + 0 ≤ _)⟩)
  dsimp only [Pt.U, Pt.locs, Pt.cells, Pt.slots] at X194 l194 y194 z194 st194 hQ194
  subst l194 y194 z194
  obtain ⟨rfl, N194q, e194⟩ := hQ194
  have N194 := Fr.app N0 N194q
  obtain ⟨cq195, q195, q195'⟩ := (EN.1.2.2.2.2.2.1.ext OL0.2).cell
  obtain ⟨_, _, ⟨T195, L195, k195, n195⟩, -, X195, ⟨Lc195, hQ195, l195, y195, z195⟩, st195⟩ := X194.privateBack hx (y := own_m1) hown (mvT hZ (hw _ (List.mem_of_getElem? (i := 57) rfl))) (mvT hZ (hw _ (List.mem_of_getElem? (i := 58) rfl))) (own_selpS (y := own_m1) (mvT hZ (hw _ (List.mem_of_getElem? (i := 18) rfl))) rfl (mvP (args := #[]) hZ (hw _ (List.mem_of_getElem? (i := 59) rfl))) (mvT hZ (hw _ (List.mem_of_getElem? (i := 58) rfl))) (by decide)) (Cond.privateMethod_at (mvP hZ (hw _ (List.mem_of_getElem? (i := 59) rfl)) (args := #[]))) (mvT hZ (hw _ (List.mem_of_getElem? (i := 60) rfl))) (by decide) (backOf (W := 0) (rm61 l Z a0 hw [] h0 n0 p1 p2 p3 A K EN OL0) hZ (hw _ (List.mem_of_getElem? (i := 60) rfl)) (hw _ (List.mem_of_getElem? (i := 6) rfl)) (by decide) (by decide)) (g := (mkF m 8 #[.val (.ref (A 2)), .val (.ref r191), .val (.ref r192)] [(.int (1 : Int32)), (.ref (A 2))])) rfl (by rw [hml]; rfl) (Steps.refl _) (a := (A 2)) (by rw [e194]; exact q195) q195' (argsL := [(.int (1 : Int32))]) (rest := []) (lenOf own_pd9 rfl) rfl (by show 2 * 0 + _ ≤ _; exact Nat.le_of_eq rfl) (hb hby own_d_prog_3_method_5_code_8) (fun _ _ => ⟨rfl, e194, (by decide : 0 + 0 ≤ _), (by decide : 0 + 0 ≤ _)⟩)
  dsimp only [Pt.U, Pt.locs, Pt.cells, Pt.slots] at X195 l195 y195 z195 st195 hQ195
  subst l195 y195 z195
  obtain ⟨rfl, N195q, e195⟩ := hQ195
  have N195 := Fr.app N194 N195q
  obtain ⟨fs, hr, hrun, hended, hW, hsame⟩ := X195.leave (v := some (.int (0 : Int32))) (fun h => by rw [Bd.returns] at h; cases h)
  refine ⟨_, _, pre0 _ ?_, hrun, hended, _, _, rfl, ?_, ⟨_, rfl⟩, hW, hsame.mono (by decide) (by decide)⟩
  · show Steps p.tables e below (s₁.setTop (mkF m 0 #[.val (.ref (A 2)), .val (.ref r191), .val (.ref r192)] [])) _
    refine XS.aloadN X0.here hx rfl (hb hby own_d_prog_3_method_5_code_0) rfl rfl ?_
    show Steps p.tables e below (s₁.setTop (mkF m 1 #[.val (.ref (A 2)), .val (.ref r191), .val (.ref r192)] [(.ref (A 2))])) _
    refine XS.aloadN X0.here hx rfl (hb hby own_d_prog_3_method_5_code_1) rfl rfl ?_
    show Steps p.tables e below (s₁.setTop (mkF m 2 #[.val (.ref (A 2)), .val (.ref r191), .val (.ref r192)] [(.ref r191), (.ref (A 2))])) _
    refine XS.aloadN X0.here hx rfl (hb hby own_d_prog_3_method_5_code_2) rfl rfl ?_
    show Steps p.tables e below (s₁.setTop (mkF m 3 #[.val (.ref (A 2)), .val (.ref r191), .val (.ref r192)] [(.ref r192), (.ref r191), (.ref (A 2))])) _
    refine st194.trans ?_
    show Steps p.tables e below (T194.setTop (mkF m 8 #[.val (.ref (A 2)), .val (.ref r191), .val (.ref r192)] [(.int (1 : Int32)), (.ref (A 2))])) _
    refine st195.trans ?_
    show Steps p.tables e below (T195.setTop (mkF m 11 #[.val (.ref (A 2)), .val (.ref r191), .val (.ref r192)] [(.int (0 : Int32))])) _
    exact retN X195 hx (t := .boolean) Bd.returns (by simp) (hb hby own_d_prog_3_method_5_code_11) hr
  · show PQ (some (.int (0 : Int32))) h0 n0 _ T195.heap _
    rw [e195]
    exact ⟨rfl, N195, rfl⟩
theorem own_ef_rm66 (m : MethodId) (p1 : Int32) (p2 : Int32) (p3 : Int32) (A : Nat → Addr) (K : Nat → ClassId)  (r191 : Addr) (r192 : Addr) : entryFrame m #[(.ref (A 2)), (.ref r192), (.ref r191)] 3 = mkF m 0 #[.val (.ref (A 2)), .val (.ref r192), .val (.ref r191)] [] := by first | (simp [entryFrame, mkF, argsToLocals, Value.category, maxLocals]; done) | rfl
set_option maxRecDepth 65536 in
set_option maxHeartbeats 40000000 in
theorem rm66 (l : Launch) (Z : State) (a0 : Array Value) (hw : ∀ d ∈ tables_1, d.before a0 Z = true) (ws : List Jvm.Cond) (h0 : Heap) (n0 : Nat) (p1 : Int32) (p2 : Int32) (p3 : Int32) (A : Nat → Addr) (K : Nat → ClassId)  (r191 : Addr) (r192 : Addr) (EN : own_St Z A K) (OL0 : Old Z n0 h0) (G_E_r192 : Exa Z h0 r192 "java/lang/Integer") (G_E_r191 : Exa Z h0 r191 "java/lang/Integer") (G_F_r192_java_lang_Integer_value : Fld Z h0 r192 "java/lang/Integer" "value" "I" (.int p3)) (G_F_r191_java_lang_Integer_value : Fld Z h0 r191 "java/lang/Integer" "value" "I" (.int p2)) (hp_155 : ¬ (p2 < p3)) (hp_175 : ¬ (p2 = p3)) :
    MetFree l own_m0 (head1 (Jvm.Cond.code own_m0 prog_3_method_5_code 3 (some .boolean) :: ws) ({ frames := 3, cells := 0, slots := 0, locals := 40 } : Room)) (fun a U => a = #[(.ref (A 2)), (.ref r192), (.ref r191)] ∧ Z.Warmed39 U.vm ∧ U.heap = h0) (fun _ _ _ _ _ => True) (fun _ U o U' => ∃ v L, o = .returned v ∧ (PQ (some (.int (0 : Int32))) h0 n0) v U'.heap L ∧ FrameEnd U o U' L ({ frames := 3, cells := 0, slots := 0, locals := 40 } : Room).cells ({ frames := 3, cells := 0, slots := 0, locals := 40 } : Room).slots) := by
  refine MetFree.of_bodySF (plainFor_of_name own_pn4) hisR ?_
  intro p e s m args below meth c s₁ Bd hml0 hP hK
  obtain ⟨rfl, hZ, hh⟩ := hP
  have hx := Bd.exec
  have hby := Bd.bytes
  have hml : c.maxLocals = 3 := hml0
  have hown : s.vm.findClass "com/example/measurewright/measurewright/Comparison" = some m.cls := findClass_of_methodNamed Bd.named
  have hnm := (name_of_methodNamed Bd.named Bd.method).1
  have X0 : Stand p l e ({ frames := 3, cells := 0, slots := 0, locals := 40 } : Room) s m #[(.ref (A 2)), (.ref r192), (.ref r191)] below meth c s₁ [] 0 0 := Stand.of_body Bd
  have e0 : s₁.heap = h0 := by rw [← hh, Bd.state]; rfl
  have N0 := Fr.nil n0
  have pre0 : ∀ t, Steps p.tables e below (s₁.setTop (mkF m 0 #[.val (.ref (A 2)), .val (.ref r192), .val (.ref r191)] [])) t → Steps p.tables e below (s₁.setTop (entryFrame m #[(.ref (A 2)), (.ref r192), (.ref r191)] 3)) t := fun t k => castTop (own_ef_rm66 m p1 p2 p3 A K r191 r192) k
  have KK0 : Keep h0 h0 [] := Keep.refl _ _
  obtain ⟨cq199, kq199, q199a, q199b, q199c⟩ := isOf hZ e0 G_E_r192
  obtain ⟨_, _, ⟨T199, L199, k199, n199⟩, -, X199, ⟨Lc199, hQ199, l199, y199, z199⟩, st199⟩ := X0.interfaceBack hx (xi := own_m6) (y := own_m3) hown (mvT hZ (hw _ (List.mem_of_getElem? (i := 36) rfl))) (mvT hZ (hw _ (List.mem_of_getElem? (i := 37) rfl))) (mvT hZ (hw _ (List.mem_of_getElem? (i := 38) rfl))) (mvT hZ (hw _ (List.mem_of_getElem? (i := 39) rfl))) (mvT hZ (hw _ (List.mem_of_getElem? (i := 40) rfl))) (mvT hZ (hw _ (List.mem_of_getElem? (i := 41) rfl))) (mvT hZ (hw _ (List.mem_of_getElem? (i := 42) rfl))) (mvT hZ (hw _ (List.mem_of_getElem? (i := 43) rfl))) (by decide) (backOf (W := 1) (rm34 l Z a0 hw [] h0 n0 p1 p2 p3 A K r191 r192 EN OL0 G_E_r191 G_E_r192 G_F_r192_java_lang_Integer_value G_F_r191_java_lang_Integer_value hp_155 hp_175) hZ (hw _ (List.mem_of_getElem? (i := 44) rfl)) (hw _ (List.mem_of_getElem? (i := 10) rfl)) (by decide) (by decide)) q199a q199b q199c (g := (mkF m 3 #[.val (.ref (A 2)), .val (.ref r192), .val (.ref r191)] [(.ref r191), (.ref r192), (.ref (A 2))])) rfl (by rw [hml]; rfl) (Steps.refl _) (argsL := [(.ref r191)]) (rest := [(.ref (A 2))]) (lenOf own_pd8 rfl) rfl (by show 2 * 0 + _ ≤ _; exact Nat.le_of_eq rfl) (hb hby own_d_prog_3_method_5_code_3) (fun _ _ => ⟨rfl, e0, (by decide : 0 + 0 ≤ _), (by decide : 0 + 0 ≤ _)⟩)
  dsimp only [Pt.U, Pt.locs, Pt.cells, Pt.slots] at X199 l199 y199 z199 st199 hQ199
  subst l199 y199 z199
  obtain ⟨rfl, N199q, e199⟩ := hQ199
  have N199 := Fr.app N0 N199q
  obtain ⟨cq200, q200, q200'⟩ := (EN.1.2.2.2.2.2.1.ext OL0.2).cell
  obtain ⟨_, _, ⟨T200, L200, k200, n200⟩, -, X200, ⟨Lc200, hQ200, l200, y200, z200⟩, st200⟩ := X199.privateBack hx (y := own_m1) hown (mvT hZ (hw _ (List.mem_of_getElem? (i := 57) rfl))) (mvT hZ (hw _ (List.mem_of_getElem? (i := 58) rfl))) (own_selpS (y := own_m1) (mvT hZ (hw _ (List.mem_of_getElem? (i := 18) rfl))) rfl (mvP (args := #[]) hZ (hw _ (List.mem_of_getElem? (i := 59) rfl))) (mvT hZ (hw _ (List.mem_of_getElem? (i := 58) rfl))) (by decide)) (Cond.privateMethod_at (mvP hZ (hw _ (List.mem_of_getElem? (i := 59) rfl)) (args := #[]))) (mvT hZ (hw _ (List.mem_of_getElem? (i := 60) rfl))) (by decide) (backOf (W := 0) (rm59 l Z a0 hw [] h0 n0 p1 p2 p3 A K EN OL0) hZ (hw _ (List.mem_of_getElem? (i := 60) rfl)) (hw _ (List.mem_of_getElem? (i := 6) rfl)) (by decide) (by decide)) (g := (mkF m 8 #[.val (.ref (A 2)), .val (.ref r192), .val (.ref r191)] [(.int (-1 : Int32)), (.ref (A 2))])) rfl (by rw [hml]; rfl) (Steps.refl _) (a := (A 2)) (by rw [e199]; exact q200) q200' (argsL := [(.int (-1 : Int32))]) (rest := []) (lenOf own_pd9 rfl) rfl (by show 2 * 0 + _ ≤ _; exact Nat.le_of_eq rfl) (hb hby own_d_prog_3_method_5_code_8) (fun _ _ => ⟨rfl, e199, (by decide : 0 + 0 ≤ _), (by decide : 0 + 0 ≤ _)⟩)
  dsimp only [Pt.U, Pt.locs, Pt.cells, Pt.slots] at X200 l200 y200 z200 st200 hQ200
  subst l200 y200 z200
  obtain ⟨rfl, N200q, e200⟩ := hQ200
  have N200 := Fr.app N199 N200q
  obtain ⟨fs, hr, hrun, hended, hW, hsame⟩ := X200.leave (v := some (.int (0 : Int32))) (fun h => by rw [Bd.returns] at h; cases h)
  refine ⟨_, _, pre0 _ ?_, hrun, hended, _, _, rfl, ?_, ⟨_, rfl⟩, hW, hsame.mono (by decide) (by decide)⟩
  · show Steps p.tables e below (s₁.setTop (mkF m 0 #[.val (.ref (A 2)), .val (.ref r192), .val (.ref r191)] [])) _
    refine XS.aloadN X0.here hx rfl (hb hby own_d_prog_3_method_5_code_0) rfl rfl ?_
    show Steps p.tables e below (s₁.setTop (mkF m 1 #[.val (.ref (A 2)), .val (.ref r192), .val (.ref r191)] [(.ref (A 2))])) _
    refine XS.aloadN X0.here hx rfl (hb hby own_d_prog_3_method_5_code_1) rfl rfl ?_
    show Steps p.tables e below (s₁.setTop (mkF m 2 #[.val (.ref (A 2)), .val (.ref r192), .val (.ref r191)] [(.ref r192), (.ref (A 2))])) _
    refine XS.aloadN X0.here hx rfl (hb hby own_d_prog_3_method_5_code_2) rfl rfl ?_
    show Steps p.tables e below (s₁.setTop (mkF m 3 #[.val (.ref (A 2)), .val (.ref r192), .val (.ref r191)] [(.ref r191), (.ref r192), (.ref (A 2))])) _
    refine st199.trans ?_
    show Steps p.tables e below (T199.setTop (mkF m 8 #[.val (.ref (A 2)), .val (.ref r192), .val (.ref r191)] [(.int (-1 : Int32)), (.ref (A 2))])) _
    refine st200.trans ?_
    show Steps p.tables e below (T200.setTop (mkF m 11 #[.val (.ref (A 2)), .val (.ref r192), .val (.ref r191)] [(.int (0 : Int32))])) _
    exact retN X200 hx (t := .boolean) Bd.returns (by simp) (hb hby own_d_prog_3_method_5_code_11) hr
  · show PQ (some (.int (0 : Int32))) h0 n0 _ T200.heap _
    rw [e200]
    exact ⟨rfl, N200, rfl⟩
theorem own_d_method_2_code_33 : decode method_2_code 33 = .ok (.iload_n 1, 1) := by decide +kernel
theorem own_d_method_2_code_34 : decode method_2_code 34 = .ok (.iconst 3, 1) := by decide +kernel
theorem own_d_method_2_code_35 : decode method_2_code 35 = .ok (.if_icmp .ne 7, 3) := by decide +kernel
theorem own_d_method_2_code_38 : decode method_2_code 38 = .ok (.getstatic 20, 3) := by decide +kernel
theorem own_d_method_2_code_41 : decode method_2_code 41 = .ok (.areturn, 1) := by decide +kernel
theorem own_ef_rm67 (m : MethodId) (p1 : Int32) (p2 : Int32) (p3 : Int32) (A : Nat → Addr) (K : Nat → ClassId)  : entryFrame m #[(.int p1)] 2 = mkF m 0 #[.val (.int p1), .unset] [] := by first | (simp [entryFrame, mkF, argsToLocals, Value.category, maxLocals]; done) | rfl
set_option maxRecDepth 65536 in
set_option maxHeartbeats 40000000 in
theorem rm67 (l : Launch) (Z : State) (a0 : Array Value) (hw : ∀ d ∈ tables_1, d.before a0 Z = true) (ws : List Jvm.Cond) (h0 : Heap) (n0 : Nat) (p1 : Int32) (p2 : Int32) (p3 : Int32) (A : Nat → Addr) (K : Nat → ClassId)  (EN : own_St Z A K) (OL0 : Old Z n0 h0) (hk16 : ((p1 &&& (2147483647 : Int32)) % (5 : Int32)) = (3 : Int32)) :
    MetFree l own_m7 (head1 (Jvm.Cond.code own_m7 method_2_code 2 (some (.object "com/example/measurewright/measurewright/Comparison")) :: ws) ({ frames := 0, cells := 0, slots := 0, locals := 0 } : Room)) (fun a U => a = #[(.int p1)] ∧ Z.Warmed39 U.vm ∧ U.heap = h0) (fun _ _ _ _ _ => True) (fun _ U o U' => ∃ v L, o = .returned v ∧ (PQ (some (.ref (A 3))) h0 n0) v U'.heap L ∧ FrameEnd U o U' L ({ frames := 0, cells := 0, slots := 0, locals := 0 } : Room).cells ({ frames := 0, cells := 0, slots := 0, locals := 0 } : Room).slots) := by
  refine MetFree.of_bodySF (plainFor_of_name own_pn2) hisR ?_
  intro p e s m args below meth c s₁ Bd hml0 hP hK
  obtain ⟨rfl, hZ, hh⟩ := hP
  have hx := Bd.exec
  have hby := Bd.bytes
  have hml : c.maxLocals = 2 := hml0
  have hown : s.vm.findClass "com/example/measurewright/measurewright/ComparisonConversePinLaw" = some m.cls := findClass_of_methodNamed Bd.named
  have hnm := (name_of_methodNamed Bd.named Bd.method).1
  have X0 : Stand p l e ({ frames := 0, cells := 0, slots := 0, locals := 0 } : Room) s m #[(.int p1)] below meth c s₁ [] 0 0 := Stand.of_body Bd
  have e0 : s₁.heap = h0 := by rw [← hh, Bd.state]; rfl
  have N0 := Fr.nil n0
  have pre0 : ∀ t, Steps p.tables e below (s₁.setTop (mkF m 0 #[.val (.int p1), .unset] [])) t → Steps p.tables e below (s₁.setTop (entryFrame m #[(.int p1)] 2)) t := fun t k => castTop (own_ef_rm67 m p1 p2 p3 A K ) k
  have KK0 : Keep h0 h0 [] := Keep.refl _ _
  obtain ⟨T204, X204, e204, st204⟩ := getS2 X0 hx hZ hown (host := "") (Or.inl (hw _ (List.mem_of_getElem? (i := 81) rfl))) Via.refl e0 (EN.1.2.2.2.2.2.2.1.ext OL0.2) (g := (mkF m 38 #[.val (.int p1), .val (.int (3 : Int32))] [])) rfl (hb hby own_d_method_2_code_38)
  obtain ⟨fs, hr, hrun, hended, hW, hsame⟩ := X204.leave (v := some (.ref (A 3))) (fun h => by rw [Bd.returns] at h; cases h)
  refine ⟨_, _, pre0 _ ?_, hrun, hended, _, _, rfl, ?_, ⟨_, rfl⟩, hW, hsame.mono (by decide) (by decide)⟩
  · show Steps p.tables e below (s₁.setTop (mkF m 0 #[.val (.int p1), .unset] [])) _
    refine XS.iloadN X0.here hx rfl (hb hby own_d_method_2_code_0) rfl ?_
    show Steps p.tables e below (s₁.setTop (mkF m 1 #[.val (.int p1), .unset] [(.int p1)])) _
    refine X0.ldcInt hx hown (mvT hZ (hw _ (List.mem_of_getElem? (i := 4) rfl))) (g := (mkF m 1 #[.val (.int p1), .unset] [(.int p1)])) rfl (hb hby own_d_method_2_code_1) _ ?_
    show Steps p.tables e below (s₁.setTop (mkF m 3 #[.val (.int p1), .unset] [(.int (2147483647 : Int32)), (.int p1)])) _
    refine XS.iand X0.here hx rfl (hb hby own_d_method_2_code_3) rfl ?_
    show Steps p.tables e below (s₁.setTop (mkF m 4 #[.val (.int p1), .unset] [(.int (p1 &&& (2147483647 : Int32)))])) _
    refine XS.iconst X0.here hx rfl (hb hby own_d_method_2_code_4) ?_
    show Steps p.tables e below (s₁.setTop (mkF m 5 #[.val (.int p1), .unset] [(.int (5 : Int32)), (.int (p1 &&& (2147483647 : Int32)))])) _
    refine iremM X0 hx rfl (hb hby own_d_method_2_code_5) rfl (by decide) ?_
    show Steps p.tables e below (s₁.setTop (mkF m 6 #[.val (.int p1), .unset] [(.int ((p1 &&& (2147483647 : Int32)) % (5 : Int32)))])) _
    rw [hk16]
    show Steps p.tables e below (s₁.setTop (mkF m 6 #[.val (.int p1), .unset] [(.int (3 : Int32))])) _
    refine XS.istoreN X0.here hx rfl (hb hby own_d_method_2_code_6) rfl (l' := #[.val (.int p1), .val (.int (3 : Int32))]) rfl ?_
    show Steps p.tables e below (s₁.setTop (mkF m 7 #[.val (.int p1), .val (.int (3 : Int32))] [])) _
    refine XS.iloadN X0.here hx rfl (hb hby own_d_method_2_code_7) rfl ?_
    show Steps p.tables e below (s₁.setTop (mkF m 8 #[.val (.int p1), .val (.int (3 : Int32))] [(.int (3 : Int32))])) _
    refine XS.ifYes X0.here hx rfl (pc0 := 8) (pc' := 15) rfl (hb hby own_d_method_2_code_8) rfl ((if0 _ _).trans (feq (by decide : ¬ ((3 : Int32) = (0 : Int32)))).2) (by decide) (by decide) ?_
    show Steps p.tables e below (s₁.setTop (mkF m 15 #[.val (.int p1), .val (.int (3 : Int32))] [])) _
    refine XS.iloadN X0.here hx rfl (hb hby own_d_method_2_code_15) rfl ?_
    show Steps p.tables e below (s₁.setTop (mkF m 16 #[.val (.int p1), .val (.int (3 : Int32))] [(.int (3 : Int32))])) _
    refine XS.iconst X0.here hx rfl (hb hby own_d_method_2_code_16) ?_
    show Steps p.tables e below (s₁.setTop (mkF m 17 #[.val (.int p1), .val (.int (3 : Int32))] [(.int (1 : Int32)), (.int (3 : Int32))])) _
    refine XS.icmpYes X0.here hx rfl (pc0 := 17) (pc' := 24) rfl (hb hby own_d_method_2_code_17) rfl (feq (by decide : ¬ ((3 : Int32) = (1 : Int32)))).2 (by decide) (by decide) ?_
    show Steps p.tables e below (s₁.setTop (mkF m 24 #[.val (.int p1), .val (.int (3 : Int32))] [])) _
    refine XS.iloadN X0.here hx rfl (hb hby own_d_method_2_code_24) rfl ?_
    show Steps p.tables e below (s₁.setTop (mkF m 25 #[.val (.int p1), .val (.int (3 : Int32))] [(.int (3 : Int32))])) _
    refine XS.iconst X0.here hx rfl (hb hby own_d_method_2_code_25) ?_
    show Steps p.tables e below (s₁.setTop (mkF m 26 #[.val (.int p1), .val (.int (3 : Int32))] [(.int (2 : Int32)), (.int (3 : Int32))])) _
    refine XS.icmpYes X0.here hx rfl (pc0 := 26) (pc' := 33) rfl (hb hby own_d_method_2_code_26) rfl (feq (by decide : ¬ ((3 : Int32) = (2 : Int32)))).2 (by decide) (by decide) ?_
    show Steps p.tables e below (s₁.setTop (mkF m 33 #[.val (.int p1), .val (.int (3 : Int32))] [])) _
    refine XS.iloadN X0.here hx rfl (hb hby own_d_method_2_code_33) rfl ?_
    show Steps p.tables e below (s₁.setTop (mkF m 34 #[.val (.int p1), .val (.int (3 : Int32))] [(.int (3 : Int32))])) _
    refine XS.iconst X0.here hx rfl (hb hby own_d_method_2_code_34) ?_
    show Steps p.tables e below (s₁.setTop (mkF m 35 #[.val (.int p1), .val (.int (3 : Int32))] [(.int (3 : Int32)), (.int (3 : Int32))])) _
    refine XS.icmpNo X0.here hx rfl (hb hby own_d_method_2_code_35) rfl (teq (by decide : (3 : Int32) = (3 : Int32))).2 ?_
    show Steps p.tables e below (s₁.setTop (mkF m 38 #[.val (.int p1), .val (.int (3 : Int32))] [])) _
    refine st204 _ ?_
    show Steps p.tables e below (T204.setTop (mkF m 41 #[.val (.int p1), .val (.int (3 : Int32))] [(.ref (A 3))])) _
    exact retOut X204 hx Bd.returns rfl (Or.inr (Or.inr (Or.inr (Or.inr ⟨rfl, rfl, rfl⟩)))) (hb hby own_d_method_2_code_41) hr
  · show PQ (some (.ref (A 3))) h0 n0 _ T204.heap _
    rw [e204]
    exact ⟨rfl, N0, rfl⟩
theorem own_ef_rm68 (m : MethodId) (p1 : Int32) (p2 : Int32) (p3 : Int32) (A : Nat → Addr) (K : Nat → ClassId)  (r206 : Addr) (r207 : Addr) : entryFrame m #[(.ref (A 3)), (.ref r206), (.ref r207)] 3 = mkF m 0 #[.val (.ref (A 3)), .val (.ref r206), .val (.ref r207)] [] := by first | (simp [entryFrame, mkF, argsToLocals, Value.category, maxLocals]; done) | rfl
set_option maxRecDepth 65536 in
set_option maxHeartbeats 40000000 in
theorem rm68 (l : Launch) (Z : State) (a0 : Array Value) (hw : ∀ d ∈ tables_1, d.before a0 Z = true) (ws : List Jvm.Cond) (h0 : Heap) (n0 : Nat) (p1 : Int32) (p2 : Int32) (p3 : Int32) (A : Nat → Addr) (K : Nat → ClassId)  (r206 : Addr) (r207 : Addr) (EN : own_St Z A K) (OL0 : Old Z n0 h0) (G_E_r206 : Exa Z h0 r206 "java/lang/Integer") (G_E_r207 : Exa Z h0 r207 "java/lang/Integer") (G_F_r206_java_lang_Integer_value : Fld Z h0 r206 "java/lang/Integer" "value" "I" (.int p2)) (G_F_r207_java_lang_Integer_value : Fld Z h0 r207 "java/lang/Integer" "value" "I" (.int p3)) (hp_203 : p2 < p3) :
    MetFree l own_m0 (head1 (Jvm.Cond.code own_m0 prog_3_method_5_code 3 (some .boolean) :: ws) ({ frames := 3, cells := 0, slots := 0, locals := 40 } : Room)) (fun a U => a = #[(.ref (A 3)), (.ref r206), (.ref r207)] ∧ Z.Warmed39 U.vm ∧ U.heap = h0) (fun _ _ _ _ _ => True) (fun _ U o U' => ∃ v L, o = .returned v ∧ (PQ (some (.int (0 : Int32))) h0 n0) v U'.heap L ∧ FrameEnd U o U' L ({ frames := 3, cells := 0, slots := 0, locals := 40 } : Room).cells ({ frames := 3, cells := 0, slots := 0, locals := 40 } : Room).slots) := by
  refine MetFree.of_bodySF (plainFor_of_name own_pn4) hisR ?_
  intro p e s m args below meth c s₁ Bd hml0 hP hK
  obtain ⟨rfl, hZ, hh⟩ := hP
  have hx := Bd.exec
  have hby := Bd.bytes
  have hml : c.maxLocals = 3 := hml0
  have hown : s.vm.findClass "com/example/measurewright/measurewright/Comparison" = some m.cls := findClass_of_methodNamed Bd.named
  have hnm := (name_of_methodNamed Bd.named Bd.method).1
  have X0 : Stand p l e ({ frames := 3, cells := 0, slots := 0, locals := 40 } : Room) s m #[(.ref (A 3)), (.ref r206), (.ref r207)] below meth c s₁ [] 0 0 := Stand.of_body Bd
  have e0 : s₁.heap = h0 := by rw [← hh, Bd.state]; rfl
  have N0 := Fr.nil n0
  have pre0 : ∀ t, Steps p.tables e below (s₁.setTop (mkF m 0 #[.val (.ref (A 3)), .val (.ref r206), .val (.ref r207)] [])) t → Steps p.tables e below (s₁.setTop (entryFrame m #[(.ref (A 3)), (.ref r206), (.ref r207)] 3)) t := fun t k => castTop (own_ef_rm68 m p1 p2 p3 A K r206 r207) k
  have KK0 : Keep h0 h0 [] := Keep.refl _ _
  obtain ⟨cq209, kq209, q209a, q209b, q209c⟩ := isOf hZ e0 G_E_r206
  obtain ⟨_, _, ⟨T209, L209, k209, n209⟩, -, X209, ⟨Lc209, hQ209, l209, y209, z209⟩, st209⟩ := X0.interfaceBack hx (xi := own_m6) (y := own_m3) hown (mvT hZ (hw _ (List.mem_of_getElem? (i := 36) rfl))) (mvT hZ (hw _ (List.mem_of_getElem? (i := 37) rfl))) (mvT hZ (hw _ (List.mem_of_getElem? (i := 38) rfl))) (mvT hZ (hw _ (List.mem_of_getElem? (i := 39) rfl))) (mvT hZ (hw _ (List.mem_of_getElem? (i := 40) rfl))) (mvT hZ (hw _ (List.mem_of_getElem? (i := 41) rfl))) (mvT hZ (hw _ (List.mem_of_getElem? (i := 42) rfl))) (mvT hZ (hw _ (List.mem_of_getElem? (i := 43) rfl))) (by decide) (backOf (W := 1) (rm7 l Z a0 hw [] h0 n0 p1 p2 p3 A K r206 r207 EN OL0 G_E_r207 G_E_r206 G_F_r206_java_lang_Integer_value G_F_r207_java_lang_Integer_value hp_203) hZ (hw _ (List.mem_of_getElem? (i := 44) rfl)) (hw _ (List.mem_of_getElem? (i := 10) rfl)) (by decide) (by decide)) q209a q209b q209c (g := (mkF m 3 #[.val (.ref (A 3)), .val (.ref r206), .val (.ref r207)] [(.ref r207), (.ref r206), (.ref (A 3))])) rfl (by rw [hml]; rfl) (Steps.refl _) (argsL := [(.ref r207)]) (rest := [(.ref (A 3))]) (lenOf own_pd8 rfl) rfl (by show 2 * 0 + _ ≤ _; exact Nat.le_of_eq rfl) (hb hby own_d_prog_3_method_5_code_3) (fun _ _ => ⟨rfl, e0, (by decide : 0 + 0 ≤ _), (by decide : 0 + 0 ≤ _)⟩)
  dsimp only [Pt.U, Pt.locs, Pt.cells, Pt.slots] at X209 l209 y209 z209 st209 hQ209
  subst l209 y209 z209
  obtain ⟨rfl, N209q, e209⟩ := hQ209
  have N209 := Fr.app N0 N209q
  obtain ⟨cq210, q210, q210'⟩ := (EN.1.2.2.2.2.2.2.2.1.ext OL0.2).cell
  obtain ⟨_, _, ⟨T210, L210, k210, n210⟩, -, X210, ⟨Lc210, hQ210, l210, y210, z210⟩, st210⟩ := X209.privateBack hx (y := own_m1) hown (mvT hZ (hw _ (List.mem_of_getElem? (i := 57) rfl))) (mvT hZ (hw _ (List.mem_of_getElem? (i := 58) rfl))) (own_selpS (y := own_m1) (mvT hZ (hw _ (List.mem_of_getElem? (i := 18) rfl))) rfl (mvP (args := #[]) hZ (hw _ (List.mem_of_getElem? (i := 59) rfl))) (mvT hZ (hw _ (List.mem_of_getElem? (i := 58) rfl))) (by decide)) (Cond.privateMethod_at (mvP hZ (hw _ (List.mem_of_getElem? (i := 59) rfl)) (args := #[]))) (mvT hZ (hw _ (List.mem_of_getElem? (i := 60) rfl))) (by decide) (backOf (W := 0) (rm54 l Z a0 hw [] h0 n0 p1 p2 p3 A K EN OL0) hZ (hw _ (List.mem_of_getElem? (i := 60) rfl)) (hw _ (List.mem_of_getElem? (i := 6) rfl)) (by decide) (by decide)) (g := (mkF m 8 #[.val (.ref (A 3)), .val (.ref r206), .val (.ref r207)] [(.int (-1 : Int32)), (.ref (A 3))])) rfl (by rw [hml]; rfl) (Steps.refl _) (a := (A 3)) (by rw [e209]; exact q210) q210' (argsL := [(.int (-1 : Int32))]) (rest := []) (lenOf own_pd9 rfl) rfl (by show 2 * 0 + _ ≤ _; exact Nat.le_of_eq rfl) (hb hby own_d_prog_3_method_5_code_8) (fun _ _ => ⟨rfl, e209, (by decide : 0 + 0 ≤ _), (by decide : 0 + 0 ≤ _)⟩)
  dsimp only [Pt.U, Pt.locs, Pt.cells, Pt.slots] at X210 l210 y210 z210 st210 hQ210
  subst l210 y210 z210
  obtain ⟨rfl, N210q, e210⟩ := hQ210
  have N210 := Fr.app N209 N210q
  obtain ⟨fs, hr, hrun, hended, hW, hsame⟩ := X210.leave (v := some (.int (0 : Int32))) (fun h => by rw [Bd.returns] at h; cases h)
  refine ⟨_, _, pre0 _ ?_, hrun, hended, _, _, rfl, ?_, ⟨_, rfl⟩, hW, hsame.mono (by decide) (by decide)⟩
  · show Steps p.tables e below (s₁.setTop (mkF m 0 #[.val (.ref (A 3)), .val (.ref r206), .val (.ref r207)] [])) _
    refine XS.aloadN X0.here hx rfl (hb hby own_d_prog_3_method_5_code_0) rfl rfl ?_
    show Steps p.tables e below (s₁.setTop (mkF m 1 #[.val (.ref (A 3)), .val (.ref r206), .val (.ref r207)] [(.ref (A 3))])) _
    refine XS.aloadN X0.here hx rfl (hb hby own_d_prog_3_method_5_code_1) rfl rfl ?_
    show Steps p.tables e below (s₁.setTop (mkF m 2 #[.val (.ref (A 3)), .val (.ref r206), .val (.ref r207)] [(.ref r206), (.ref (A 3))])) _
    refine XS.aloadN X0.here hx rfl (hb hby own_d_prog_3_method_5_code_2) rfl rfl ?_
    show Steps p.tables e below (s₁.setTop (mkF m 3 #[.val (.ref (A 3)), .val (.ref r206), .val (.ref r207)] [(.ref r207), (.ref r206), (.ref (A 3))])) _
    refine st209.trans ?_
    show Steps p.tables e below (T209.setTop (mkF m 8 #[.val (.ref (A 3)), .val (.ref r206), .val (.ref r207)] [(.int (-1 : Int32)), (.ref (A 3))])) _
    refine st210.trans ?_
    show Steps p.tables e below (T210.setTop (mkF m 11 #[.val (.ref (A 3)), .val (.ref r206), .val (.ref r207)] [(.int (0 : Int32))])) _
    exact retN X210 hx (t := .boolean) Bd.returns (by simp) (hb hby own_d_prog_3_method_5_code_11) hr
  · show PQ (some (.int (0 : Int32))) h0 n0 _ T210.heap _
    rw [e210]
    exact ⟨rfl, N210, rfl⟩
theorem own_ef_rm69 (m : MethodId) (p1 : Int32) (p2 : Int32) (p3 : Int32) (A : Nat → Addr) (K : Nat → ClassId)  (r206 : Addr) (r207 : Addr) : entryFrame m #[(.ref (A 1)), (.ref r207), (.ref r206)] 3 = mkF m 0 #[.val (.ref (A 1)), .val (.ref r207), .val (.ref r206)] [] := by first | (simp [entryFrame, mkF, argsToLocals, Value.category, maxLocals]; done) | rfl
set_option maxRecDepth 65536 in
set_option maxHeartbeats 40000000 in
theorem rm69 (l : Launch) (Z : State) (a0 : Array Value) (hw : ∀ d ∈ tables_1, d.before a0 Z = true) (ws : List Jvm.Cond) (h0 : Heap) (n0 : Nat) (p1 : Int32) (p2 : Int32) (p3 : Int32) (A : Nat → Addr) (K : Nat → ClassId)  (r206 : Addr) (r207 : Addr) (EN : own_St Z A K) (OL0 : Old Z n0 h0) (G_E_r207 : Exa Z h0 r207 "java/lang/Integer") (G_E_r206 : Exa Z h0 r206 "java/lang/Integer") (G_F_r207_java_lang_Integer_value : Fld Z h0 r207 "java/lang/Integer" "value" "I" (.int p3)) (G_F_r206_java_lang_Integer_value : Fld Z h0 r206 "java/lang/Integer" "value" "I" (.int p2)) (hp_203 : p2 < p3) :
    MetFree l own_m0 (head1 (Jvm.Cond.code own_m0 prog_3_method_5_code 3 (some .boolean) :: ws) ({ frames := 3, cells := 0, slots := 0, locals := 40 } : Room)) (fun a U => a = #[(.ref (A 1)), (.ref r207), (.ref r206)] ∧ Z.Warmed39 U.vm ∧ U.heap = h0) (fun _ _ _ _ _ => True) (fun _ U o U' => ∃ v L, o = .returned v ∧ (PQ (some (.int (0 : Int32))) h0 n0) v U'.heap L ∧ FrameEnd U o U' L ({ frames := 3, cells := 0, slots := 0, locals := 40 } : Room).cells ({ frames := 3, cells := 0, slots := 0, locals := 40 } : Room).slots) := by
  refine MetFree.of_bodySF (plainFor_of_name own_pn4) hisR ?_
  intro p e s m args below meth c s₁ Bd hml0 hP hK
  obtain ⟨rfl, hZ, hh⟩ := hP
  have hx := Bd.exec
  have hby := Bd.bytes
  have hml : c.maxLocals = 3 := hml0
  have hown : s.vm.findClass "com/example/measurewright/measurewright/Comparison" = some m.cls := findClass_of_methodNamed Bd.named
  have hnm := (name_of_methodNamed Bd.named Bd.method).1
  have X0 : Stand p l e ({ frames := 3, cells := 0, slots := 0, locals := 40 } : Room) s m #[(.ref (A 1)), (.ref r207), (.ref r206)] below meth c s₁ [] 0 0 := Stand.of_body Bd
  have e0 : s₁.heap = h0 := by rw [← hh, Bd.state]; rfl
  have N0 := Fr.nil n0
  have pre0 : ∀ t, Steps p.tables e below (s₁.setTop (mkF m 0 #[.val (.ref (A 1)), .val (.ref r207), .val (.ref r206)] [])) t → Steps p.tables e below (s₁.setTop (entryFrame m #[(.ref (A 1)), (.ref r207), (.ref r206)] 3)) t := fun t k => castTop (own_ef_rm69 m p1 p2 p3 A K r206 r207) k
  have KK0 : Keep h0 h0 [] := Keep.refl _ _
  obtain ⟨cq214, kq214, q214a, q214b, q214c⟩ := isOf hZ e0 G_E_r207
  obtain ⟨_, _, ⟨T214, L214, k214, n214⟩, -, X214, ⟨Lc214, hQ214, l214, y214, z214⟩, st214⟩ := X0.interfaceBack hx (xi := own_m6) (y := own_m3) hown (mvT hZ (hw _ (List.mem_of_getElem? (i := 36) rfl))) (mvT hZ (hw _ (List.mem_of_getElem? (i := 37) rfl))) (mvT hZ (hw _ (List.mem_of_getElem? (i := 38) rfl))) (mvT hZ (hw _ (List.mem_of_getElem? (i := 39) rfl))) (mvT hZ (hw _ (List.mem_of_getElem? (i := 40) rfl))) (mvT hZ (hw _ (List.mem_of_getElem? (i := 41) rfl))) (mvT hZ (hw _ (List.mem_of_getElem? (i := 42) rfl))) (mvT hZ (hw _ (List.mem_of_getElem? (i := 43) rfl))) (by decide) (backOf (W := 1) (rm12 l Z a0 hw [] h0 n0 p1 p2 p3 A K r206 r207 EN OL0 G_E_r206 G_E_r207 G_F_r207_java_lang_Integer_value G_F_r206_java_lang_Integer_value hp_203) hZ (hw _ (List.mem_of_getElem? (i := 44) rfl)) (hw _ (List.mem_of_getElem? (i := 10) rfl)) (by decide) (by decide)) q214a q214b q214c (g := (mkF m 3 #[.val (.ref (A 1)), .val (.ref r207), .val (.ref r206)] [(.ref r206), (.ref r207), (.ref (A 1))])) rfl (by rw [hml]; rfl) (Steps.refl _) (argsL := [(.ref r206)]) (rest := [(.ref (A 1))]) (lenOf own_pd8 rfl) rfl (by show 2 * 0 + _ ≤ _; exact Nat.le_of_eq rfl) (hb hby own_d_prog_3_method_5_code_3) (fun _ _ => ⟨rfl, e0, (by decide : 0 + 0 ≤ _), (by decide : 0 + 0 ≤ _)⟩)
  dsimp only [Pt.U, Pt.locs, Pt.cells, Pt.slots] at X214 l214 y214 z214 st214 hQ214
  subst l214 y214 z214
  obtain ⟨rfl, N214q, e214⟩ := hQ214
  have N214 := Fr.app N0 N214q
  obtain ⟨cq215, q215, q215'⟩ := (EN.1.2.2.2.1.ext OL0.2).cell
  obtain ⟨_, _, ⟨T215, L215, k215, n215⟩, -, X215, ⟨Lc215, hQ215, l215, y215, z215⟩, st215⟩ := X214.privateBack hx (y := own_m1) hown (mvT hZ (hw _ (List.mem_of_getElem? (i := 57) rfl))) (mvT hZ (hw _ (List.mem_of_getElem? (i := 58) rfl))) (own_selpS (y := own_m1) (mvT hZ (hw _ (List.mem_of_getElem? (i := 18) rfl))) rfl (mvP (args := #[]) hZ (hw _ (List.mem_of_getElem? (i := 59) rfl))) (mvT hZ (hw _ (List.mem_of_getElem? (i := 58) rfl))) (by decide)) (Cond.privateMethod_at (mvP hZ (hw _ (List.mem_of_getElem? (i := 59) rfl)) (args := #[]))) (mvT hZ (hw _ (List.mem_of_getElem? (i := 60) rfl))) (by decide) (backOf (W := 0) (rm52 l Z a0 hw [] h0 n0 p1 p2 p3 A K EN OL0) hZ (hw _ (List.mem_of_getElem? (i := 60) rfl)) (hw _ (List.mem_of_getElem? (i := 6) rfl)) (by decide) (by decide)) (g := (mkF m 8 #[.val (.ref (A 1)), .val (.ref r207), .val (.ref r206)] [(.int (1 : Int32)), (.ref (A 1))])) rfl (by rw [hml]; rfl) (Steps.refl _) (a := (A 1)) (by rw [e214]; exact q215) q215' (argsL := [(.int (1 : Int32))]) (rest := []) (lenOf own_pd9 rfl) rfl (by show 2 * 0 + _ ≤ _; exact Nat.le_of_eq rfl) (hb hby own_d_prog_3_method_5_code_8) (fun _ _ => ⟨rfl, e214, (by decide : 0 + 0 ≤ _), (by decide : 0 + 0 ≤ _)⟩)
  dsimp only [Pt.U, Pt.locs, Pt.cells, Pt.slots] at X215 l215 y215 z215 st215 hQ215
  subst l215 y215 z215
  obtain ⟨rfl, N215q, e215⟩ := hQ215
  have N215 := Fr.app N214 N215q
  obtain ⟨fs, hr, hrun, hended, hW, hsame⟩ := X215.leave (v := some (.int (0 : Int32))) (fun h => by rw [Bd.returns] at h; cases h)
  refine ⟨_, _, pre0 _ ?_, hrun, hended, _, _, rfl, ?_, ⟨_, rfl⟩, hW, hsame.mono (by decide) (by decide)⟩
  · show Steps p.tables e below (s₁.setTop (mkF m 0 #[.val (.ref (A 1)), .val (.ref r207), .val (.ref r206)] [])) _
    refine XS.aloadN X0.here hx rfl (hb hby own_d_prog_3_method_5_code_0) rfl rfl ?_
    show Steps p.tables e below (s₁.setTop (mkF m 1 #[.val (.ref (A 1)), .val (.ref r207), .val (.ref r206)] [(.ref (A 1))])) _
    refine XS.aloadN X0.here hx rfl (hb hby own_d_prog_3_method_5_code_1) rfl rfl ?_
    show Steps p.tables e below (s₁.setTop (mkF m 2 #[.val (.ref (A 1)), .val (.ref r207), .val (.ref r206)] [(.ref r207), (.ref (A 1))])) _
    refine XS.aloadN X0.here hx rfl (hb hby own_d_prog_3_method_5_code_2) rfl rfl ?_
    show Steps p.tables e below (s₁.setTop (mkF m 3 #[.val (.ref (A 1)), .val (.ref r207), .val (.ref r206)] [(.ref r206), (.ref r207), (.ref (A 1))])) _
    refine st214.trans ?_
    show Steps p.tables e below (T214.setTop (mkF m 8 #[.val (.ref (A 1)), .val (.ref r207), .val (.ref r206)] [(.int (1 : Int32)), (.ref (A 1))])) _
    refine st215.trans ?_
    show Steps p.tables e below (T215.setTop (mkF m 11 #[.val (.ref (A 1)), .val (.ref r207), .val (.ref r206)] [(.int (0 : Int32))])) _
    exact retN X215 hx (t := .boolean) Bd.returns (by simp) (hb hby own_d_prog_3_method_5_code_11) hr
  · show PQ (some (.int (0 : Int32))) h0 n0 _ T215.heap _
    rw [e215]
    exact ⟨rfl, N215, rfl⟩
theorem own_ef_rm70 (m : MethodId) (p1 : Int32) (p2 : Int32) (p3 : Int32) (A : Nat → Addr) (K : Nat → ClassId)  (r220 : Addr) (r221 : Addr) : entryFrame m #[(.ref (A 3)), (.ref r220), (.ref r221)] 3 = mkF m 0 #[.val (.ref (A 3)), .val (.ref r220), .val (.ref r221)] [] := by first | (simp [entryFrame, mkF, argsToLocals, Value.category, maxLocals]; done) | rfl
set_option maxRecDepth 65536 in
set_option maxHeartbeats 40000000 in
theorem rm70 (l : Launch) (Z : State) (a0 : Array Value) (hw : ∀ d ∈ tables_1, d.before a0 Z = true) (ws : List Jvm.Cond) (h0 : Heap) (n0 : Nat) (p1 : Int32) (p2 : Int32) (p3 : Int32) (A : Nat → Addr) (K : Nat → ClassId)  (r220 : Addr) (r221 : Addr) (EN : own_St Z A K) (OL0 : Old Z n0 h0) (G_E_r220 : Exa Z h0 r220 "java/lang/Integer") (G_E_r221 : Exa Z h0 r221 "java/lang/Integer") (G_F_r220_java_lang_Integer_value : Fld Z h0 r220 "java/lang/Integer" "value" "I" (.int p2)) (G_F_r221_java_lang_Integer_value : Fld Z h0 r221 "java/lang/Integer" "value" "I" (.int p3)) (hp_203 : ¬ (p2 < p3)) (hp_218 : p2 = p3) :
    MetFree l own_m0 (head1 (Jvm.Cond.code own_m0 prog_3_method_5_code 3 (some .boolean) :: ws) ({ frames := 3, cells := 0, slots := 0, locals := 40 } : Room)) (fun a U => a = #[(.ref (A 3)), (.ref r220), (.ref r221)] ∧ Z.Warmed39 U.vm ∧ U.heap = h0) (fun _ _ _ _ _ => True) (fun _ U o U' => ∃ v L, o = .returned v ∧ (PQ (some (.int (1 : Int32))) h0 n0) v U'.heap L ∧ FrameEnd U o U' L ({ frames := 3, cells := 0, slots := 0, locals := 40 } : Room).cells ({ frames := 3, cells := 0, slots := 0, locals := 40 } : Room).slots) := by
  refine MetFree.of_bodySF (plainFor_of_name own_pn4) hisR ?_
  intro p e s m args below meth c s₁ Bd hml0 hP hK
  obtain ⟨rfl, hZ, hh⟩ := hP
  have hx := Bd.exec
  have hby := Bd.bytes
  have hml : c.maxLocals = 3 := hml0
  have hown : s.vm.findClass "com/example/measurewright/measurewright/Comparison" = some m.cls := findClass_of_methodNamed Bd.named
  have hnm := (name_of_methodNamed Bd.named Bd.method).1
  have X0 : Stand p l e ({ frames := 3, cells := 0, slots := 0, locals := 40 } : Room) s m #[(.ref (A 3)), (.ref r220), (.ref r221)] below meth c s₁ [] 0 0 := Stand.of_body Bd
  have e0 : s₁.heap = h0 := by rw [← hh, Bd.state]; rfl
  have N0 := Fr.nil n0
  have pre0 : ∀ t, Steps p.tables e below (s₁.setTop (mkF m 0 #[.val (.ref (A 3)), .val (.ref r220), .val (.ref r221)] [])) t → Steps p.tables e below (s₁.setTop (entryFrame m #[(.ref (A 3)), (.ref r220), (.ref r221)] 3)) t := fun t k => castTop (own_ef_rm70 m p1 p2 p3 A K r220 r221) k
  have KK0 : Keep h0 h0 [] := Keep.refl _ _
  obtain ⟨cq223, kq223, q223a, q223b, q223c⟩ := isOf hZ e0 G_E_r220
  obtain ⟨_, _, ⟨T223, L223, k223, n223⟩, -, X223, ⟨Lc223, hQ223, l223, y223, z223⟩, st223⟩ := X0.interfaceBack hx (xi := own_m6) (y := own_m3) hown (mvT hZ (hw _ (List.mem_of_getElem? (i := 36) rfl))) (mvT hZ (hw _ (List.mem_of_getElem? (i := 37) rfl))) (mvT hZ (hw _ (List.mem_of_getElem? (i := 38) rfl))) (mvT hZ (hw _ (List.mem_of_getElem? (i := 39) rfl))) (mvT hZ (hw _ (List.mem_of_getElem? (i := 40) rfl))) (mvT hZ (hw _ (List.mem_of_getElem? (i := 41) rfl))) (mvT hZ (hw _ (List.mem_of_getElem? (i := 42) rfl))) (mvT hZ (hw _ (List.mem_of_getElem? (i := 43) rfl))) (by decide) (backOf (W := 1) (rm19 l Z a0 hw [] h0 n0 p1 p2 p3 A K r220 r221 EN OL0 G_E_r221 G_E_r220 G_F_r220_java_lang_Integer_value G_F_r221_java_lang_Integer_value hp_203 hp_218) hZ (hw _ (List.mem_of_getElem? (i := 44) rfl)) (hw _ (List.mem_of_getElem? (i := 10) rfl)) (by decide) (by decide)) q223a q223b q223c (g := (mkF m 3 #[.val (.ref (A 3)), .val (.ref r220), .val (.ref r221)] [(.ref r221), (.ref r220), (.ref (A 3))])) rfl (by rw [hml]; rfl) (Steps.refl _) (argsL := [(.ref r221)]) (rest := [(.ref (A 3))]) (lenOf own_pd8 rfl) rfl (by show 2 * 0 + _ ≤ _; exact Nat.le_of_eq rfl) (hb hby own_d_prog_3_method_5_code_3) (fun _ _ => ⟨rfl, e0, (by decide : 0 + 0 ≤ _), (by decide : 0 + 0 ≤ _)⟩)
  dsimp only [Pt.U, Pt.locs, Pt.cells, Pt.slots] at X223 l223 y223 z223 st223 hQ223
  subst l223 y223 z223
  obtain ⟨rfl, N223q, e223⟩ := hQ223
  have N223 := Fr.app N0 N223q
  obtain ⟨cq224, q224, q224'⟩ := (EN.1.2.2.2.2.2.2.2.1.ext OL0.2).cell
  obtain ⟨_, _, ⟨T224, L224, k224, n224⟩, -, X224, ⟨Lc224, hQ224, l224, y224, z224⟩, st224⟩ := X223.privateBack hx (y := own_m1) hown (mvT hZ (hw _ (List.mem_of_getElem? (i := 57) rfl))) (mvT hZ (hw _ (List.mem_of_getElem? (i := 58) rfl))) (own_selpS (y := own_m1) (mvT hZ (hw _ (List.mem_of_getElem? (i := 18) rfl))) rfl (mvP (args := #[]) hZ (hw _ (List.mem_of_getElem? (i := 59) rfl))) (mvT hZ (hw _ (List.mem_of_getElem? (i := 58) rfl))) (by decide)) (Cond.privateMethod_at (mvP hZ (hw _ (List.mem_of_getElem? (i := 59) rfl)) (args := #[]))) (mvT hZ (hw _ (List.mem_of_getElem? (i := 60) rfl))) (by decide) (backOf (W := 0) (rm50 l Z a0 hw [] h0 n0 p1 p2 p3 A K EN OL0) hZ (hw _ (List.mem_of_getElem? (i := 60) rfl)) (hw _ (List.mem_of_getElem? (i := 6) rfl)) (by decide) (by decide)) (g := (mkF m 8 #[.val (.ref (A 3)), .val (.ref r220), .val (.ref r221)] [(.int (0 : Int32)), (.ref (A 3))])) rfl (by rw [hml]; rfl) (Steps.refl _) (a := (A 3)) (by rw [e223]; exact q224) q224' (argsL := [(.int (0 : Int32))]) (rest := []) (lenOf own_pd9 rfl) rfl (by show 2 * 0 + _ ≤ _; exact Nat.le_of_eq rfl) (hb hby own_d_prog_3_method_5_code_8) (fun _ _ => ⟨rfl, e223, (by decide : 0 + 0 ≤ _), (by decide : 0 + 0 ≤ _)⟩)
  dsimp only [Pt.U, Pt.locs, Pt.cells, Pt.slots] at X224 l224 y224 z224 st224 hQ224
  subst l224 y224 z224
  obtain ⟨rfl, N224q, e224⟩ := hQ224
  have N224 := Fr.app N223 N224q
  obtain ⟨fs, hr, hrun, hended, hW, hsame⟩ := X224.leave (v := some (.int (1 : Int32))) (fun h => by rw [Bd.returns] at h; cases h)
  refine ⟨_, _, pre0 _ ?_, hrun, hended, _, _, rfl, ?_, ⟨_, rfl⟩, hW, hsame.mono (by decide) (by decide)⟩
  · show Steps p.tables e below (s₁.setTop (mkF m 0 #[.val (.ref (A 3)), .val (.ref r220), .val (.ref r221)] [])) _
    refine XS.aloadN X0.here hx rfl (hb hby own_d_prog_3_method_5_code_0) rfl rfl ?_
    show Steps p.tables e below (s₁.setTop (mkF m 1 #[.val (.ref (A 3)), .val (.ref r220), .val (.ref r221)] [(.ref (A 3))])) _
    refine XS.aloadN X0.here hx rfl (hb hby own_d_prog_3_method_5_code_1) rfl rfl ?_
    show Steps p.tables e below (s₁.setTop (mkF m 2 #[.val (.ref (A 3)), .val (.ref r220), .val (.ref r221)] [(.ref r220), (.ref (A 3))])) _
    refine XS.aloadN X0.here hx rfl (hb hby own_d_prog_3_method_5_code_2) rfl rfl ?_
    show Steps p.tables e below (s₁.setTop (mkF m 3 #[.val (.ref (A 3)), .val (.ref r220), .val (.ref r221)] [(.ref r221), (.ref r220), (.ref (A 3))])) _
    refine st223.trans ?_
    show Steps p.tables e below (T223.setTop (mkF m 8 #[.val (.ref (A 3)), .val (.ref r220), .val (.ref r221)] [(.int (0 : Int32)), (.ref (A 3))])) _
    refine st224.trans ?_
    show Steps p.tables e below (T224.setTop (mkF m 11 #[.val (.ref (A 3)), .val (.ref r220), .val (.ref r221)] [(.int (1 : Int32))])) _
    exact retN X224 hx (t := .boolean) Bd.returns (by simp) (hb hby own_d_prog_3_method_5_code_11) hr
  · show PQ (some (.int (1 : Int32))) h0 n0 _ T224.heap _
    rw [e224]
    exact ⟨rfl, N224, rfl⟩
theorem own_ef_rm71 (m : MethodId) (p1 : Int32) (p2 : Int32) (p3 : Int32) (A : Nat → Addr) (K : Nat → ClassId)  (r220 : Addr) (r221 : Addr) : entryFrame m #[(.ref (A 1)), (.ref r221), (.ref r220)] 3 = mkF m 0 #[.val (.ref (A 1)), .val (.ref r221), .val (.ref r220)] [] := by first | (simp [entryFrame, mkF, argsToLocals, Value.category, maxLocals]; done) | rfl
set_option maxRecDepth 65536 in
set_option maxHeartbeats 40000000 in
theorem rm71 (l : Launch) (Z : State) (a0 : Array Value) (hw : ∀ d ∈ tables_1, d.before a0 Z = true) (ws : List Jvm.Cond) (h0 : Heap) (n0 : Nat) (p1 : Int32) (p2 : Int32) (p3 : Int32) (A : Nat → Addr) (K : Nat → ClassId)  (r220 : Addr) (r221 : Addr) (EN : own_St Z A K) (OL0 : Old Z n0 h0) (G_E_r221 : Exa Z h0 r221 "java/lang/Integer") (G_E_r220 : Exa Z h0 r220 "java/lang/Integer") (G_F_r221_java_lang_Integer_value : Fld Z h0 r221 "java/lang/Integer" "value" "I" (.int p3)) (G_F_r220_java_lang_Integer_value : Fld Z h0 r220 "java/lang/Integer" "value" "I" (.int p2)) (hp_203 : ¬ (p2 < p3)) (hp_218 : p2 = p3) :
    MetFree l own_m0 (head1 (Jvm.Cond.code own_m0 prog_3_method_5_code 3 (some .boolean) :: ws) ({ frames := 3, cells := 0, slots := 0, locals := 40 } : Room)) (fun a U => a = #[(.ref (A 1)), (.ref r221), (.ref r220)] ∧ Z.Warmed39 U.vm ∧ U.heap = h0) (fun _ _ _ _ _ => True) (fun _ U o U' => ∃ v L, o = .returned v ∧ (PQ (some (.int (1 : Int32))) h0 n0) v U'.heap L ∧ FrameEnd U o U' L ({ frames := 3, cells := 0, slots := 0, locals := 40 } : Room).cells ({ frames := 3, cells := 0, slots := 0, locals := 40 } : Room).slots) := by
  refine MetFree.of_bodySF (plainFor_of_name own_pn4) hisR ?_
  intro p e s m args below meth c s₁ Bd hml0 hP hK
  obtain ⟨rfl, hZ, hh⟩ := hP
  have hx := Bd.exec
  have hby := Bd.bytes
  have hml : c.maxLocals = 3 := hml0
  have hown : s.vm.findClass "com/example/measurewright/measurewright/Comparison" = some m.cls := findClass_of_methodNamed Bd.named
  have hnm := (name_of_methodNamed Bd.named Bd.method).1
  have X0 : Stand p l e ({ frames := 3, cells := 0, slots := 0, locals := 40 } : Room) s m #[(.ref (A 1)), (.ref r221), (.ref r220)] below meth c s₁ [] 0 0 := Stand.of_body Bd
  have e0 : s₁.heap = h0 := by rw [← hh, Bd.state]; rfl
  have N0 := Fr.nil n0
  have pre0 : ∀ t, Steps p.tables e below (s₁.setTop (mkF m 0 #[.val (.ref (A 1)), .val (.ref r221), .val (.ref r220)] [])) t → Steps p.tables e below (s₁.setTop (entryFrame m #[(.ref (A 1)), (.ref r221), (.ref r220)] 3)) t := fun t k => castTop (own_ef_rm71 m p1 p2 p3 A K r220 r221) k
  have KK0 : Keep h0 h0 [] := Keep.refl _ _
  obtain ⟨cq228, kq228, q228a, q228b, q228c⟩ := isOf hZ e0 G_E_r221
  obtain ⟨_, _, ⟨T228, L228, k228, n228⟩, -, X228, ⟨Lc228, hQ228, l228, y228, z228⟩, st228⟩ := X0.interfaceBack hx (xi := own_m6) (y := own_m3) hown (mvT hZ (hw _ (List.mem_of_getElem? (i := 36) rfl))) (mvT hZ (hw _ (List.mem_of_getElem? (i := 37) rfl))) (mvT hZ (hw _ (List.mem_of_getElem? (i := 38) rfl))) (mvT hZ (hw _ (List.mem_of_getElem? (i := 39) rfl))) (mvT hZ (hw _ (List.mem_of_getElem? (i := 40) rfl))) (mvT hZ (hw _ (List.mem_of_getElem? (i := 41) rfl))) (mvT hZ (hw _ (List.mem_of_getElem? (i := 42) rfl))) (mvT hZ (hw _ (List.mem_of_getElem? (i := 43) rfl))) (by decide) (backOf (W := 1) (rm24 l Z a0 hw [] h0 n0 p1 p2 p3 A K r220 r221 EN OL0 G_E_r220 G_E_r221 G_F_r221_java_lang_Integer_value G_F_r220_java_lang_Integer_value hp_203 hp_218) hZ (hw _ (List.mem_of_getElem? (i := 44) rfl)) (hw _ (List.mem_of_getElem? (i := 10) rfl)) (by decide) (by decide)) q228a q228b q228c (g := (mkF m 3 #[.val (.ref (A 1)), .val (.ref r221), .val (.ref r220)] [(.ref r220), (.ref r221), (.ref (A 1))])) rfl (by rw [hml]; rfl) (Steps.refl _) (argsL := [(.ref r220)]) (rest := [(.ref (A 1))]) (lenOf own_pd8 rfl) rfl (by show 2 * 0 + _ ≤ _; exact Nat.le_of_eq rfl) (hb hby own_d_prog_3_method_5_code_3) (fun _ _ => ⟨rfl, e0, (by decide : 0 + 0 ≤ _), (by decide : 0 + 0 ≤ _)⟩)
  dsimp only [Pt.U, Pt.locs, Pt.cells, Pt.slots] at X228 l228 y228 z228 st228 hQ228
  subst l228 y228 z228
  obtain ⟨rfl, N228q, e228⟩ := hQ228
  have N228 := Fr.app N0 N228q
  obtain ⟨cq229, q229, q229'⟩ := (EN.1.2.2.2.1.ext OL0.2).cell
  obtain ⟨_, _, ⟨T229, L229, k229, n229⟩, -, X229, ⟨Lc229, hQ229, l229, y229, z229⟩, st229⟩ := X228.privateBack hx (y := own_m1) hown (mvT hZ (hw _ (List.mem_of_getElem? (i := 57) rfl))) (mvT hZ (hw _ (List.mem_of_getElem? (i := 58) rfl))) (own_selpS (y := own_m1) (mvT hZ (hw _ (List.mem_of_getElem? (i := 18) rfl))) rfl (mvP (args := #[]) hZ (hw _ (List.mem_of_getElem? (i := 59) rfl))) (mvT hZ (hw _ (List.mem_of_getElem? (i := 58) rfl))) (by decide)) (Cond.privateMethod_at (mvP hZ (hw _ (List.mem_of_getElem? (i := 59) rfl)) (args := #[]))) (mvT hZ (hw _ (List.mem_of_getElem? (i := 60) rfl))) (by decide) (backOf (W := 0) (rm48 l Z a0 hw [] h0 n0 p1 p2 p3 A K EN OL0) hZ (hw _ (List.mem_of_getElem? (i := 60) rfl)) (hw _ (List.mem_of_getElem? (i := 6) rfl)) (by decide) (by decide)) (g := (mkF m 8 #[.val (.ref (A 1)), .val (.ref r221), .val (.ref r220)] [(.int (0 : Int32)), (.ref (A 1))])) rfl (by rw [hml]; rfl) (Steps.refl _) (a := (A 1)) (by rw [e228]; exact q229) q229' (argsL := [(.int (0 : Int32))]) (rest := []) (lenOf own_pd9 rfl) rfl (by show 2 * 0 + _ ≤ _; exact Nat.le_of_eq rfl) (hb hby own_d_prog_3_method_5_code_8) (fun _ _ => ⟨rfl, e228, (by decide : 0 + 0 ≤ _), (by decide : 0 + 0 ≤ _)⟩)
  dsimp only [Pt.U, Pt.locs, Pt.cells, Pt.slots] at X229 l229 y229 z229 st229 hQ229
  subst l229 y229 z229
  obtain ⟨rfl, N229q, e229⟩ := hQ229
  have N229 := Fr.app N228 N229q
  obtain ⟨fs, hr, hrun, hended, hW, hsame⟩ := X229.leave (v := some (.int (1 : Int32))) (fun h => by rw [Bd.returns] at h; cases h)
  refine ⟨_, _, pre0 _ ?_, hrun, hended, _, _, rfl, ?_, ⟨_, rfl⟩, hW, hsame.mono (by decide) (by decide)⟩
  · show Steps p.tables e below (s₁.setTop (mkF m 0 #[.val (.ref (A 1)), .val (.ref r221), .val (.ref r220)] [])) _
    refine XS.aloadN X0.here hx rfl (hb hby own_d_prog_3_method_5_code_0) rfl rfl ?_
    show Steps p.tables e below (s₁.setTop (mkF m 1 #[.val (.ref (A 1)), .val (.ref r221), .val (.ref r220)] [(.ref (A 1))])) _
    refine XS.aloadN X0.here hx rfl (hb hby own_d_prog_3_method_5_code_1) rfl rfl ?_
    show Steps p.tables e below (s₁.setTop (mkF m 2 #[.val (.ref (A 1)), .val (.ref r221), .val (.ref r220)] [(.ref r221), (.ref (A 1))])) _
    refine XS.aloadN X0.here hx rfl (hb hby own_d_prog_3_method_5_code_2) rfl rfl ?_
    show Steps p.tables e below (s₁.setTop (mkF m 3 #[.val (.ref (A 1)), .val (.ref r221), .val (.ref r220)] [(.ref r220), (.ref r221), (.ref (A 1))])) _
    refine st228.trans ?_
    show Steps p.tables e below (T228.setTop (mkF m 8 #[.val (.ref (A 1)), .val (.ref r221), .val (.ref r220)] [(.int (0 : Int32)), (.ref (A 1))])) _
    refine st229.trans ?_
    show Steps p.tables e below (T229.setTop (mkF m 11 #[.val (.ref (A 1)), .val (.ref r221), .val (.ref r220)] [(.int (1 : Int32))])) _
    exact retN X229 hx (t := .boolean) Bd.returns (by simp) (hb hby own_d_prog_3_method_5_code_11) hr
  · show PQ (some (.int (1 : Int32))) h0 n0 _ T229.heap _
    rw [e229]
    exact ⟨rfl, N229, rfl⟩
theorem own_ef_rm72 (m : MethodId) (p1 : Int32) (p2 : Int32) (p3 : Int32) (A : Nat → Addr) (K : Nat → ClassId)  (r233 : Addr) (r234 : Addr) : entryFrame m #[(.ref (A 3)), (.ref r233), (.ref r234)] 3 = mkF m 0 #[.val (.ref (A 3)), .val (.ref r233), .val (.ref r234)] [] := by first | (simp [entryFrame, mkF, argsToLocals, Value.category, maxLocals]; done) | rfl
set_option maxRecDepth 65536 in
set_option maxHeartbeats 40000000 in
theorem rm72 (l : Launch) (Z : State) (a0 : Array Value) (hw : ∀ d ∈ tables_1, d.before a0 Z = true) (ws : List Jvm.Cond) (h0 : Heap) (n0 : Nat) (p1 : Int32) (p2 : Int32) (p3 : Int32) (A : Nat → Addr) (K : Nat → ClassId)  (r233 : Addr) (r234 : Addr) (EN : own_St Z A K) (OL0 : Old Z n0 h0) (G_E_r233 : Exa Z h0 r233 "java/lang/Integer") (G_E_r234 : Exa Z h0 r234 "java/lang/Integer") (G_F_r233_java_lang_Integer_value : Fld Z h0 r233 "java/lang/Integer" "value" "I" (.int p2)) (G_F_r234_java_lang_Integer_value : Fld Z h0 r234 "java/lang/Integer" "value" "I" (.int p3)) (hp_203 : ¬ (p2 < p3)) (hp_218 : ¬ (p2 = p3)) :
    MetFree l own_m0 (head1 (Jvm.Cond.code own_m0 prog_3_method_5_code 3 (some .boolean) :: ws) ({ frames := 3, cells := 0, slots := 0, locals := 40 } : Room)) (fun a U => a = #[(.ref (A 3)), (.ref r233), (.ref r234)] ∧ Z.Warmed39 U.vm ∧ U.heap = h0) (fun _ _ _ _ _ => True) (fun _ U o U' => ∃ v L, o = .returned v ∧ (PQ (some (.int (1 : Int32))) h0 n0) v U'.heap L ∧ FrameEnd U o U' L ({ frames := 3, cells := 0, slots := 0, locals := 40 } : Room).cells ({ frames := 3, cells := 0, slots := 0, locals := 40 } : Room).slots) := by
  refine MetFree.of_bodySF (plainFor_of_name own_pn4) hisR ?_
  intro p e s m args below meth c s₁ Bd hml0 hP hK
  obtain ⟨rfl, hZ, hh⟩ := hP
  have hx := Bd.exec
  have hby := Bd.bytes
  have hml : c.maxLocals = 3 := hml0
  have hown : s.vm.findClass "com/example/measurewright/measurewright/Comparison" = some m.cls := findClass_of_methodNamed Bd.named
  have hnm := (name_of_methodNamed Bd.named Bd.method).1
  have X0 : Stand p l e ({ frames := 3, cells := 0, slots := 0, locals := 40 } : Room) s m #[(.ref (A 3)), (.ref r233), (.ref r234)] below meth c s₁ [] 0 0 := Stand.of_body Bd
  have e0 : s₁.heap = h0 := by rw [← hh, Bd.state]; rfl
  have N0 := Fr.nil n0
  have pre0 : ∀ t, Steps p.tables e below (s₁.setTop (mkF m 0 #[.val (.ref (A 3)), .val (.ref r233), .val (.ref r234)] [])) t → Steps p.tables e below (s₁.setTop (entryFrame m #[(.ref (A 3)), (.ref r233), (.ref r234)] 3)) t := fun t k => castTop (own_ef_rm72 m p1 p2 p3 A K r233 r234) k
  have KK0 : Keep h0 h0 [] := Keep.refl _ _
  obtain ⟨cq236, kq236, q236a, q236b, q236c⟩ := isOf hZ e0 G_E_r233
  obtain ⟨_, _, ⟨T236, L236, k236, n236⟩, -, X236, ⟨Lc236, hQ236, l236, y236, z236⟩, st236⟩ := X0.interfaceBack hx (xi := own_m6) (y := own_m3) hown (mvT hZ (hw _ (List.mem_of_getElem? (i := 36) rfl))) (mvT hZ (hw _ (List.mem_of_getElem? (i := 37) rfl))) (mvT hZ (hw _ (List.mem_of_getElem? (i := 38) rfl))) (mvT hZ (hw _ (List.mem_of_getElem? (i := 39) rfl))) (mvT hZ (hw _ (List.mem_of_getElem? (i := 40) rfl))) (mvT hZ (hw _ (List.mem_of_getElem? (i := 41) rfl))) (mvT hZ (hw _ (List.mem_of_getElem? (i := 42) rfl))) (mvT hZ (hw _ (List.mem_of_getElem? (i := 43) rfl))) (by decide) (backOf (W := 1) (rm29 l Z a0 hw [] h0 n0 p1 p2 p3 A K r233 r234 EN OL0 G_E_r234 G_E_r233 G_F_r233_java_lang_Integer_value G_F_r234_java_lang_Integer_value hp_203 hp_218) hZ (hw _ (List.mem_of_getElem? (i := 44) rfl)) (hw _ (List.mem_of_getElem? (i := 10) rfl)) (by decide) (by decide)) q236a q236b q236c (g := (mkF m 3 #[.val (.ref (A 3)), .val (.ref r233), .val (.ref r234)] [(.ref r234), (.ref r233), (.ref (A 3))])) rfl (by rw [hml]; rfl) (Steps.refl _) (argsL := [(.ref r234)]) (rest := [(.ref (A 3))]) (lenOf own_pd8 rfl) rfl (by show 2 * 0 + _ ≤ _; exact Nat.le_of_eq rfl) (hb hby own_d_prog_3_method_5_code_3) (fun _ _ => ⟨rfl, e0, (by decide : 0 + 0 ≤ _), (by decide : 0 + 0 ≤ _)⟩)
  dsimp only [Pt.U, Pt.locs, Pt.cells, Pt.slots] at X236 l236 y236 z236 st236 hQ236
  subst l236 y236 z236
  obtain ⟨rfl, N236q, e236⟩ := hQ236
  have N236 := Fr.app N0 N236q
  obtain ⟨cq237, q237, q237'⟩ := (EN.1.2.2.2.2.2.2.2.1.ext OL0.2).cell
  obtain ⟨_, _, ⟨T237, L237, k237, n237⟩, -, X237, ⟨Lc237, hQ237, l237, y237, z237⟩, st237⟩ := X236.privateBack hx (y := own_m1) hown (mvT hZ (hw _ (List.mem_of_getElem? (i := 57) rfl))) (mvT hZ (hw _ (List.mem_of_getElem? (i := 58) rfl))) (own_selpS (y := own_m1) (mvT hZ (hw _ (List.mem_of_getElem? (i := 18) rfl))) rfl (mvP (args := #[]) hZ (hw _ (List.mem_of_getElem? (i := 59) rfl))) (mvT hZ (hw _ (List.mem_of_getElem? (i := 58) rfl))) (by decide)) (Cond.privateMethod_at (mvP hZ (hw _ (List.mem_of_getElem? (i := 59) rfl)) (args := #[]))) (mvT hZ (hw _ (List.mem_of_getElem? (i := 60) rfl))) (by decide) (backOf (W := 0) (rm44 l Z a0 hw [] h0 n0 p1 p2 p3 A K EN OL0) hZ (hw _ (List.mem_of_getElem? (i := 60) rfl)) (hw _ (List.mem_of_getElem? (i := 6) rfl)) (by decide) (by decide)) (g := (mkF m 8 #[.val (.ref (A 3)), .val (.ref r233), .val (.ref r234)] [(.int (1 : Int32)), (.ref (A 3))])) rfl (by rw [hml]; rfl) (Steps.refl _) (a := (A 3)) (by rw [e236]; exact q237) q237' (argsL := [(.int (1 : Int32))]) (rest := []) (lenOf own_pd9 rfl) rfl (by show 2 * 0 + _ ≤ _; exact Nat.le_of_eq rfl) (hb hby own_d_prog_3_method_5_code_8) (fun _ _ => ⟨rfl, e236, (by decide : 0 + 0 ≤ _), (by decide : 0 + 0 ≤ _)⟩)
  dsimp only [Pt.U, Pt.locs, Pt.cells, Pt.slots] at X237 l237 y237 z237 st237 hQ237
  subst l237 y237 z237
  obtain ⟨rfl, N237q, e237⟩ := hQ237
  have N237 := Fr.app N236 N237q
  obtain ⟨fs, hr, hrun, hended, hW, hsame⟩ := X237.leave (v := some (.int (1 : Int32))) (fun h => by rw [Bd.returns] at h; cases h)
  refine ⟨_, _, pre0 _ ?_, hrun, hended, _, _, rfl, ?_, ⟨_, rfl⟩, hW, hsame.mono (by decide) (by decide)⟩
  · show Steps p.tables e below (s₁.setTop (mkF m 0 #[.val (.ref (A 3)), .val (.ref r233), .val (.ref r234)] [])) _
    refine XS.aloadN X0.here hx rfl (hb hby own_d_prog_3_method_5_code_0) rfl rfl ?_
    show Steps p.tables e below (s₁.setTop (mkF m 1 #[.val (.ref (A 3)), .val (.ref r233), .val (.ref r234)] [(.ref (A 3))])) _
    refine XS.aloadN X0.here hx rfl (hb hby own_d_prog_3_method_5_code_1) rfl rfl ?_
    show Steps p.tables e below (s₁.setTop (mkF m 2 #[.val (.ref (A 3)), .val (.ref r233), .val (.ref r234)] [(.ref r233), (.ref (A 3))])) _
    refine XS.aloadN X0.here hx rfl (hb hby own_d_prog_3_method_5_code_2) rfl rfl ?_
    show Steps p.tables e below (s₁.setTop (mkF m 3 #[.val (.ref (A 3)), .val (.ref r233), .val (.ref r234)] [(.ref r234), (.ref r233), (.ref (A 3))])) _
    refine st236.trans ?_
    show Steps p.tables e below (T236.setTop (mkF m 8 #[.val (.ref (A 3)), .val (.ref r233), .val (.ref r234)] [(.int (1 : Int32)), (.ref (A 3))])) _
    refine st237.trans ?_
    show Steps p.tables e below (T237.setTop (mkF m 11 #[.val (.ref (A 3)), .val (.ref r233), .val (.ref r234)] [(.int (1 : Int32))])) _
    exact retN X237 hx (t := .boolean) Bd.returns (by simp) (hb hby own_d_prog_3_method_5_code_11) hr
  · show PQ (some (.int (1 : Int32))) h0 n0 _ T237.heap _
    rw [e237]
    exact ⟨rfl, N237, rfl⟩
theorem own_ef_rm73 (m : MethodId) (p1 : Int32) (p2 : Int32) (p3 : Int32) (A : Nat → Addr) (K : Nat → ClassId)  (r233 : Addr) (r234 : Addr) : entryFrame m #[(.ref (A 1)), (.ref r234), (.ref r233)] 3 = mkF m 0 #[.val (.ref (A 1)), .val (.ref r234), .val (.ref r233)] [] := by first | (simp [entryFrame, mkF, argsToLocals, Value.category, maxLocals]; done) | rfl
set_option maxRecDepth 65536 in
set_option maxHeartbeats 40000000 in
theorem rm73 (l : Launch) (Z : State) (a0 : Array Value) (hw : ∀ d ∈ tables_1, d.before a0 Z = true) (ws : List Jvm.Cond) (h0 : Heap) (n0 : Nat) (p1 : Int32) (p2 : Int32) (p3 : Int32) (A : Nat → Addr) (K : Nat → ClassId)  (r233 : Addr) (r234 : Addr) (EN : own_St Z A K) (OL0 : Old Z n0 h0) (G_E_r234 : Exa Z h0 r234 "java/lang/Integer") (G_E_r233 : Exa Z h0 r233 "java/lang/Integer") (G_F_r234_java_lang_Integer_value : Fld Z h0 r234 "java/lang/Integer" "value" "I" (.int p3)) (G_F_r233_java_lang_Integer_value : Fld Z h0 r233 "java/lang/Integer" "value" "I" (.int p2)) (hp_203 : ¬ (p2 < p3)) (hp_218 : ¬ (p2 = p3)) :
    MetFree l own_m0 (head1 (Jvm.Cond.code own_m0 prog_3_method_5_code 3 (some .boolean) :: ws) ({ frames := 3, cells := 0, slots := 0, locals := 40 } : Room)) (fun a U => a = #[(.ref (A 1)), (.ref r234), (.ref r233)] ∧ Z.Warmed39 U.vm ∧ U.heap = h0) (fun _ _ _ _ _ => True) (fun _ U o U' => ∃ v L, o = .returned v ∧ (PQ (some (.int (1 : Int32))) h0 n0) v U'.heap L ∧ FrameEnd U o U' L ({ frames := 3, cells := 0, slots := 0, locals := 40 } : Room).cells ({ frames := 3, cells := 0, slots := 0, locals := 40 } : Room).slots) := by
  refine MetFree.of_bodySF (plainFor_of_name own_pn4) hisR ?_
  intro p e s m args below meth c s₁ Bd hml0 hP hK
  obtain ⟨rfl, hZ, hh⟩ := hP
  have hx := Bd.exec
  have hby := Bd.bytes
  have hml : c.maxLocals = 3 := hml0
  have hown : s.vm.findClass "com/example/measurewright/measurewright/Comparison" = some m.cls := findClass_of_methodNamed Bd.named
  have hnm := (name_of_methodNamed Bd.named Bd.method).1
  have X0 : Stand p l e ({ frames := 3, cells := 0, slots := 0, locals := 40 } : Room) s m #[(.ref (A 1)), (.ref r234), (.ref r233)] below meth c s₁ [] 0 0 := Stand.of_body Bd
  have e0 : s₁.heap = h0 := by rw [← hh, Bd.state]; rfl
  have N0 := Fr.nil n0
  have pre0 : ∀ t, Steps p.tables e below (s₁.setTop (mkF m 0 #[.val (.ref (A 1)), .val (.ref r234), .val (.ref r233)] [])) t → Steps p.tables e below (s₁.setTop (entryFrame m #[(.ref (A 1)), (.ref r234), (.ref r233)] 3)) t := fun t k => castTop (own_ef_rm73 m p1 p2 p3 A K r233 r234) k
  have KK0 : Keep h0 h0 [] := Keep.refl _ _
  obtain ⟨cq241, kq241, q241a, q241b, q241c⟩ := isOf hZ e0 G_E_r234
  obtain ⟨_, _, ⟨T241, L241, k241, n241⟩, -, X241, ⟨Lc241, hQ241, l241, y241, z241⟩, st241⟩ := X0.interfaceBack hx (xi := own_m6) (y := own_m3) hown (mvT hZ (hw _ (List.mem_of_getElem? (i := 36) rfl))) (mvT hZ (hw _ (List.mem_of_getElem? (i := 37) rfl))) (mvT hZ (hw _ (List.mem_of_getElem? (i := 38) rfl))) (mvT hZ (hw _ (List.mem_of_getElem? (i := 39) rfl))) (mvT hZ (hw _ (List.mem_of_getElem? (i := 40) rfl))) (mvT hZ (hw _ (List.mem_of_getElem? (i := 41) rfl))) (mvT hZ (hw _ (List.mem_of_getElem? (i := 42) rfl))) (mvT hZ (hw _ (List.mem_of_getElem? (i := 43) rfl))) (by decide) (backOf (W := 1) (rm34 l Z a0 hw [] h0 n0 p1 p2 p3 A K r233 r234 EN OL0 G_E_r233 G_E_r234 G_F_r234_java_lang_Integer_value G_F_r233_java_lang_Integer_value hp_203 hp_218) hZ (hw _ (List.mem_of_getElem? (i := 44) rfl)) (hw _ (List.mem_of_getElem? (i := 10) rfl)) (by decide) (by decide)) q241a q241b q241c (g := (mkF m 3 #[.val (.ref (A 1)), .val (.ref r234), .val (.ref r233)] [(.ref r233), (.ref r234), (.ref (A 1))])) rfl (by rw [hml]; rfl) (Steps.refl _) (argsL := [(.ref r233)]) (rest := [(.ref (A 1))]) (lenOf own_pd8 rfl) rfl (by show 2 * 0 + _ ≤ _; exact Nat.le_of_eq rfl) (hb hby own_d_prog_3_method_5_code_3) (fun _ _ => ⟨rfl, e0, (by decide : 0 + 0 ≤ _), (by decide : 0 + 0 ≤ _)⟩)
  dsimp only [Pt.U, Pt.locs, Pt.cells, Pt.slots] at X241 l241 y241 z241 st241 hQ241
  subst l241 y241 z241
  obtain ⟨rfl, N241q, e241⟩ := hQ241
  have N241 := Fr.app N0 N241q
  obtain ⟨cq242, q242, q242'⟩ := (EN.1.2.2.2.1.ext OL0.2).cell
  obtain ⟨_, _, ⟨T242, L242, k242, n242⟩, -, X242, ⟨Lc242, hQ242, l242, y242, z242⟩, st242⟩ := X241.privateBack hx (y := own_m1) hown (mvT hZ (hw _ (List.mem_of_getElem? (i := 57) rfl))) (mvT hZ (hw _ (List.mem_of_getElem? (i := 58) rfl))) (own_selpS (y := own_m1) (mvT hZ (hw _ (List.mem_of_getElem? (i := 18) rfl))) rfl (mvP (args := #[]) hZ (hw _ (List.mem_of_getElem? (i := 59) rfl))) (mvT hZ (hw _ (List.mem_of_getElem? (i := 58) rfl))) (by decide)) (Cond.privateMethod_at (mvP hZ (hw _ (List.mem_of_getElem? (i := 59) rfl)) (args := #[]))) (mvT hZ (hw _ (List.mem_of_getElem? (i := 60) rfl))) (by decide) (backOf (W := 0) (rm42 l Z a0 hw [] h0 n0 p1 p2 p3 A K EN OL0) hZ (hw _ (List.mem_of_getElem? (i := 60) rfl)) (hw _ (List.mem_of_getElem? (i := 6) rfl)) (by decide) (by decide)) (g := (mkF m 8 #[.val (.ref (A 1)), .val (.ref r234), .val (.ref r233)] [(.int (-1 : Int32)), (.ref (A 1))])) rfl (by rw [hml]; rfl) (Steps.refl _) (a := (A 1)) (by rw [e241]; exact q242) q242' (argsL := [(.int (-1 : Int32))]) (rest := []) (lenOf own_pd9 rfl) rfl (by show 2 * 0 + _ ≤ _; exact Nat.le_of_eq rfl) (hb hby own_d_prog_3_method_5_code_8) (fun _ _ => ⟨rfl, e241, (by decide : 0 + 0 ≤ _), (by decide : 0 + 0 ≤ _)⟩)
  dsimp only [Pt.U, Pt.locs, Pt.cells, Pt.slots] at X242 l242 y242 z242 st242 hQ242
  subst l242 y242 z242
  obtain ⟨rfl, N242q, e242⟩ := hQ242
  have N242 := Fr.app N241 N242q
  obtain ⟨fs, hr, hrun, hended, hW, hsame⟩ := X242.leave (v := some (.int (1 : Int32))) (fun h => by rw [Bd.returns] at h; cases h)
  refine ⟨_, _, pre0 _ ?_, hrun, hended, _, _, rfl, ?_, ⟨_, rfl⟩, hW, hsame.mono (by decide) (by decide)⟩
  · show Steps p.tables e below (s₁.setTop (mkF m 0 #[.val (.ref (A 1)), .val (.ref r234), .val (.ref r233)] [])) _
    refine XS.aloadN X0.here hx rfl (hb hby own_d_prog_3_method_5_code_0) rfl rfl ?_
    show Steps p.tables e below (s₁.setTop (mkF m 1 #[.val (.ref (A 1)), .val (.ref r234), .val (.ref r233)] [(.ref (A 1))])) _
    refine XS.aloadN X0.here hx rfl (hb hby own_d_prog_3_method_5_code_1) rfl rfl ?_
    show Steps p.tables e below (s₁.setTop (mkF m 2 #[.val (.ref (A 1)), .val (.ref r234), .val (.ref r233)] [(.ref r234), (.ref (A 1))])) _
    refine XS.aloadN X0.here hx rfl (hb hby own_d_prog_3_method_5_code_2) rfl rfl ?_
    show Steps p.tables e below (s₁.setTop (mkF m 3 #[.val (.ref (A 1)), .val (.ref r234), .val (.ref r233)] [(.ref r233), (.ref r234), (.ref (A 1))])) _
    refine st241.trans ?_
    show Steps p.tables e below (T241.setTop (mkF m 8 #[.val (.ref (A 1)), .val (.ref r234), .val (.ref r233)] [(.int (-1 : Int32)), (.ref (A 1))])) _
    refine st242.trans ?_
    show Steps p.tables e below (T242.setTop (mkF m 11 #[.val (.ref (A 1)), .val (.ref r234), .val (.ref r233)] [(.int (1 : Int32))])) _
    exact retN X242 hx (t := .boolean) Bd.returns (by simp) (hb hby own_d_prog_3_method_5_code_11) hr
  · show PQ (some (.int (1 : Int32))) h0 n0 _ T242.heap _
    rw [e242]
    exact ⟨rfl, N242, rfl⟩
theorem own_d_method_2_code_42 : decode method_2_code 42 = .ok (.getstatic 23, 3) := by decide +kernel
theorem own_d_method_2_code_45 : decode method_2_code 45 = .ok (.areturn, 1) := by decide +kernel
theorem own_ef_rm74 (m : MethodId) (p1 : Int32) (p2 : Int32) (p3 : Int32) (A : Nat → Addr) (K : Nat → ClassId)  : entryFrame m #[(.int p1)] 2 = mkF m 0 #[.val (.int p1), .unset] [] := by first | (simp [entryFrame, mkF, argsToLocals, Value.category, maxLocals]; done) | rfl
set_option maxRecDepth 65536 in
set_option maxHeartbeats 40000000 in
theorem rm74 (l : Launch) (Z : State) (a0 : Array Value) (hw : ∀ d ∈ tables_1, d.before a0 Z = true) (ws : List Jvm.Cond) (h0 : Heap) (n0 : Nat) (p1 : Int32) (p2 : Int32) (p3 : Int32) (A : Nat → Addr) (K : Nat → ClassId)  (EN : own_St Z A K) (OL0 : Old Z n0 h0) (hk16 : ((p1 &&& (2147483647 : Int32)) % (5 : Int32)) = (4 : Int32)) :
    MetFree l own_m7 (head1 (Jvm.Cond.code own_m7 method_2_code 2 (some (.object "com/example/measurewright/measurewright/Comparison")) :: ws) ({ frames := 0, cells := 0, slots := 0, locals := 0 } : Room)) (fun a U => a = #[(.int p1)] ∧ Z.Warmed39 U.vm ∧ U.heap = h0) (fun _ _ _ _ _ => True) (fun _ U o U' => ∃ v L, o = .returned v ∧ (PQ (some (.ref (A 4))) h0 n0) v U'.heap L ∧ FrameEnd U o U' L ({ frames := 0, cells := 0, slots := 0, locals := 0 } : Room).cells ({ frames := 0, cells := 0, slots := 0, locals := 0 } : Room).slots) := by
  refine MetFree.of_bodySF (plainFor_of_name own_pn2) hisR ?_
  intro p e s m args below meth c s₁ Bd hml0 hP hK
  obtain ⟨rfl, hZ, hh⟩ := hP
  have hx := Bd.exec
  have hby := Bd.bytes
  have hml : c.maxLocals = 2 := hml0
  have hown : s.vm.findClass "com/example/measurewright/measurewright/ComparisonConversePinLaw" = some m.cls := findClass_of_methodNamed Bd.named
  have hnm := (name_of_methodNamed Bd.named Bd.method).1
  have X0 : Stand p l e ({ frames := 0, cells := 0, slots := 0, locals := 0 } : Room) s m #[(.int p1)] below meth c s₁ [] 0 0 := Stand.of_body Bd
  have e0 : s₁.heap = h0 := by rw [← hh, Bd.state]; rfl
  have N0 := Fr.nil n0
  have pre0 : ∀ t, Steps p.tables e below (s₁.setTop (mkF m 0 #[.val (.int p1), .unset] [])) t → Steps p.tables e below (s₁.setTop (entryFrame m #[(.int p1)] 2)) t := fun t k => castTop (own_ef_rm74 m p1 p2 p3 A K ) k
  have KK0 : Keep h0 h0 [] := Keep.refl _ _
  obtain ⟨T246, X246, e246, st246⟩ := getS2 X0 hx hZ hown (host := "") (Or.inl (hw _ (List.mem_of_getElem? (i := 67) rfl))) Via.refl e0 (EN.2.1.1.ext OL0.2) (g := (mkF m 42 #[.val (.int p1), .val (.int (4 : Int32))] [])) rfl (hb hby own_d_method_2_code_42)
  obtain ⟨fs, hr, hrun, hended, hW, hsame⟩ := X246.leave (v := some (.ref (A 4))) (fun h => by rw [Bd.returns] at h; cases h)
  refine ⟨_, _, pre0 _ ?_, hrun, hended, _, _, rfl, ?_, ⟨_, rfl⟩, hW, hsame.mono (by decide) (by decide)⟩
  · show Steps p.tables e below (s₁.setTop (mkF m 0 #[.val (.int p1), .unset] [])) _
    refine XS.iloadN X0.here hx rfl (hb hby own_d_method_2_code_0) rfl ?_
    show Steps p.tables e below (s₁.setTop (mkF m 1 #[.val (.int p1), .unset] [(.int p1)])) _
    refine X0.ldcInt hx hown (mvT hZ (hw _ (List.mem_of_getElem? (i := 4) rfl))) (g := (mkF m 1 #[.val (.int p1), .unset] [(.int p1)])) rfl (hb hby own_d_method_2_code_1) _ ?_
    show Steps p.tables e below (s₁.setTop (mkF m 3 #[.val (.int p1), .unset] [(.int (2147483647 : Int32)), (.int p1)])) _
    refine XS.iand X0.here hx rfl (hb hby own_d_method_2_code_3) rfl ?_
    show Steps p.tables e below (s₁.setTop (mkF m 4 #[.val (.int p1), .unset] [(.int (p1 &&& (2147483647 : Int32)))])) _
    refine XS.iconst X0.here hx rfl (hb hby own_d_method_2_code_4) ?_
    show Steps p.tables e below (s₁.setTop (mkF m 5 #[.val (.int p1), .unset] [(.int (5 : Int32)), (.int (p1 &&& (2147483647 : Int32)))])) _
    refine iremM X0 hx rfl (hb hby own_d_method_2_code_5) rfl (by decide) ?_
    show Steps p.tables e below (s₁.setTop (mkF m 6 #[.val (.int p1), .unset] [(.int ((p1 &&& (2147483647 : Int32)) % (5 : Int32)))])) _
    rw [hk16]
    show Steps p.tables e below (s₁.setTop (mkF m 6 #[.val (.int p1), .unset] [(.int (4 : Int32))])) _
    refine XS.istoreN X0.here hx rfl (hb hby own_d_method_2_code_6) rfl (l' := #[.val (.int p1), .val (.int (4 : Int32))]) rfl ?_
    show Steps p.tables e below (s₁.setTop (mkF m 7 #[.val (.int p1), .val (.int (4 : Int32))] [])) _
    refine XS.iloadN X0.here hx rfl (hb hby own_d_method_2_code_7) rfl ?_
    show Steps p.tables e below (s₁.setTop (mkF m 8 #[.val (.int p1), .val (.int (4 : Int32))] [(.int (4 : Int32))])) _
    refine XS.ifYes X0.here hx rfl (pc0 := 8) (pc' := 15) rfl (hb hby own_d_method_2_code_8) rfl ((if0 _ _).trans (feq (by decide : ¬ ((4 : Int32) = (0 : Int32)))).2) (by decide) (by decide) ?_
    show Steps p.tables e below (s₁.setTop (mkF m 15 #[.val (.int p1), .val (.int (4 : Int32))] [])) _
    refine XS.iloadN X0.here hx rfl (hb hby own_d_method_2_code_15) rfl ?_
    show Steps p.tables e below (s₁.setTop (mkF m 16 #[.val (.int p1), .val (.int (4 : Int32))] [(.int (4 : Int32))])) _
    refine XS.iconst X0.here hx rfl (hb hby own_d_method_2_code_16) ?_
    show Steps p.tables e below (s₁.setTop (mkF m 17 #[.val (.int p1), .val (.int (4 : Int32))] [(.int (1 : Int32)), (.int (4 : Int32))])) _
    refine XS.icmpYes X0.here hx rfl (pc0 := 17) (pc' := 24) rfl (hb hby own_d_method_2_code_17) rfl (feq (by decide : ¬ ((4 : Int32) = (1 : Int32)))).2 (by decide) (by decide) ?_
    show Steps p.tables e below (s₁.setTop (mkF m 24 #[.val (.int p1), .val (.int (4 : Int32))] [])) _
    refine XS.iloadN X0.here hx rfl (hb hby own_d_method_2_code_24) rfl ?_
    show Steps p.tables e below (s₁.setTop (mkF m 25 #[.val (.int p1), .val (.int (4 : Int32))] [(.int (4 : Int32))])) _
    refine XS.iconst X0.here hx rfl (hb hby own_d_method_2_code_25) ?_
    show Steps p.tables e below (s₁.setTop (mkF m 26 #[.val (.int p1), .val (.int (4 : Int32))] [(.int (2 : Int32)), (.int (4 : Int32))])) _
    refine XS.icmpYes X0.here hx rfl (pc0 := 26) (pc' := 33) rfl (hb hby own_d_method_2_code_26) rfl (feq (by decide : ¬ ((4 : Int32) = (2 : Int32)))).2 (by decide) (by decide) ?_
    show Steps p.tables e below (s₁.setTop (mkF m 33 #[.val (.int p1), .val (.int (4 : Int32))] [])) _
    refine XS.iloadN X0.here hx rfl (hb hby own_d_method_2_code_33) rfl ?_
    show Steps p.tables e below (s₁.setTop (mkF m 34 #[.val (.int p1), .val (.int (4 : Int32))] [(.int (4 : Int32))])) _
    refine XS.iconst X0.here hx rfl (hb hby own_d_method_2_code_34) ?_
    show Steps p.tables e below (s₁.setTop (mkF m 35 #[.val (.int p1), .val (.int (4 : Int32))] [(.int (3 : Int32)), (.int (4 : Int32))])) _
    refine XS.icmpYes X0.here hx rfl (pc0 := 35) (pc' := 42) rfl (hb hby own_d_method_2_code_35) rfl (feq (by decide : ¬ ((4 : Int32) = (3 : Int32)))).2 (by decide) (by decide) ?_
    show Steps p.tables e below (s₁.setTop (mkF m 42 #[.val (.int p1), .val (.int (4 : Int32))] [])) _
    refine st246 _ ?_
    show Steps p.tables e below (T246.setTop (mkF m 45 #[.val (.int p1), .val (.int (4 : Int32))] [(.ref (A 4))])) _
    exact retOut X246 hx Bd.returns rfl (Or.inr (Or.inr (Or.inr (Or.inr ⟨rfl, rfl, rfl⟩)))) (hb hby own_d_method_2_code_45) hr
  · show PQ (some (.ref (A 4))) h0 n0 _ T246.heap _
    rw [e246]
    exact ⟨rfl, N0, rfl⟩
theorem own_ef_rm75 (m : MethodId) (p1 : Int32) (p2 : Int32) (p3 : Int32) (A : Nat → Addr) (K : Nat → ClassId)  (r248 : Addr) (r249 : Addr) : entryFrame m #[(.ref (A 4)), (.ref r248), (.ref r249)] 3 = mkF m 0 #[.val (.ref (A 4)), .val (.ref r248), .val (.ref r249)] [] := by first | (simp [entryFrame, mkF, argsToLocals, Value.category, maxLocals]; done) | rfl
set_option maxRecDepth 65536 in
set_option maxHeartbeats 40000000 in
theorem rm75 (l : Launch) (Z : State) (a0 : Array Value) (hw : ∀ d ∈ tables_1, d.before a0 Z = true) (ws : List Jvm.Cond) (h0 : Heap) (n0 : Nat) (p1 : Int32) (p2 : Int32) (p3 : Int32) (A : Nat → Addr) (K : Nat → ClassId)  (r248 : Addr) (r249 : Addr) (EN : own_St Z A K) (OL0 : Old Z n0 h0) (G_E_r248 : Exa Z h0 r248 "java/lang/Integer") (G_E_r249 : Exa Z h0 r249 "java/lang/Integer") (G_F_r248_java_lang_Integer_value : Fld Z h0 r248 "java/lang/Integer" "value" "I" (.int p2)) (G_F_r249_java_lang_Integer_value : Fld Z h0 r249 "java/lang/Integer" "value" "I" (.int p3)) (hp_245 : p2 < p3) :
    MetFree l own_m0 (head1 (Jvm.Cond.code own_m0 prog_3_method_5_code 3 (some .boolean) :: ws) ({ frames := 3, cells := 0, slots := 0, locals := 40 } : Room)) (fun a U => a = #[(.ref (A 4)), (.ref r248), (.ref r249)] ∧ Z.Warmed39 U.vm ∧ U.heap = h0) (fun _ _ _ _ _ => True) (fun _ U o U' => ∃ v L, o = .returned v ∧ (PQ (some (.int (0 : Int32))) h0 n0) v U'.heap L ∧ FrameEnd U o U' L ({ frames := 3, cells := 0, slots := 0, locals := 40 } : Room).cells ({ frames := 3, cells := 0, slots := 0, locals := 40 } : Room).slots) := by
  refine MetFree.of_bodySF (plainFor_of_name own_pn4) hisR ?_
  intro p e s m args below meth c s₁ Bd hml0 hP hK
  obtain ⟨rfl, hZ, hh⟩ := hP
  have hx := Bd.exec
  have hby := Bd.bytes
  have hml : c.maxLocals = 3 := hml0
  have hown : s.vm.findClass "com/example/measurewright/measurewright/Comparison" = some m.cls := findClass_of_methodNamed Bd.named
  have hnm := (name_of_methodNamed Bd.named Bd.method).1
  have X0 : Stand p l e ({ frames := 3, cells := 0, slots := 0, locals := 40 } : Room) s m #[(.ref (A 4)), (.ref r248), (.ref r249)] below meth c s₁ [] 0 0 := Stand.of_body Bd
  have e0 : s₁.heap = h0 := by rw [← hh, Bd.state]; rfl
  have N0 := Fr.nil n0
  have pre0 : ∀ t, Steps p.tables e below (s₁.setTop (mkF m 0 #[.val (.ref (A 4)), .val (.ref r248), .val (.ref r249)] [])) t → Steps p.tables e below (s₁.setTop (entryFrame m #[(.ref (A 4)), (.ref r248), (.ref r249)] 3)) t := fun t k => castTop (own_ef_rm75 m p1 p2 p3 A K r248 r249) k
  have KK0 : Keep h0 h0 [] := Keep.refl _ _
  obtain ⟨cq251, kq251, q251a, q251b, q251c⟩ := isOf hZ e0 G_E_r248
  obtain ⟨_, _, ⟨T251, L251, k251, n251⟩, -, X251, ⟨Lc251, hQ251, l251, y251, z251⟩, st251⟩ := X0.interfaceBack hx (xi := own_m6) (y := own_m3) hown (mvT hZ (hw _ (List.mem_of_getElem? (i := 36) rfl))) (mvT hZ (hw _ (List.mem_of_getElem? (i := 37) rfl))) (mvT hZ (hw _ (List.mem_of_getElem? (i := 38) rfl))) (mvT hZ (hw _ (List.mem_of_getElem? (i := 39) rfl))) (mvT hZ (hw _ (List.mem_of_getElem? (i := 40) rfl))) (mvT hZ (hw _ (List.mem_of_getElem? (i := 41) rfl))) (mvT hZ (hw _ (List.mem_of_getElem? (i := 42) rfl))) (mvT hZ (hw _ (List.mem_of_getElem? (i := 43) rfl))) (by decide) (backOf (W := 1) (rm7 l Z a0 hw [] h0 n0 p1 p2 p3 A K r248 r249 EN OL0 G_E_r249 G_E_r248 G_F_r248_java_lang_Integer_value G_F_r249_java_lang_Integer_value hp_245) hZ (hw _ (List.mem_of_getElem? (i := 44) rfl)) (hw _ (List.mem_of_getElem? (i := 10) rfl)) (by decide) (by decide)) q251a q251b q251c (g := (mkF m 3 #[.val (.ref (A 4)), .val (.ref r248), .val (.ref r249)] [(.ref r249), (.ref r248), (.ref (A 4))])) rfl (by rw [hml]; rfl) (Steps.refl _) (argsL := [(.ref r249)]) (rest := [(.ref (A 4))]) (lenOf own_pd8 rfl) rfl (by show 2 * 0 + _ ≤ _; exact Nat.le_of_eq rfl) (hb hby own_d_prog_3_method_5_code_3) (fun _ _ => ⟨rfl, e0, (by decide : 0 + 0 ≤ _), (by decide : 0 + 0 ≤ _)⟩)
  dsimp only [Pt.U, Pt.locs, Pt.cells, Pt.slots] at X251 l251 y251 z251 st251 hQ251
  subst l251 y251 z251
  obtain ⟨rfl, N251q, e251⟩ := hQ251
  have N251 := Fr.app N0 N251q
  obtain ⟨cq252, q252, q252'⟩ := (EN.2.1.2.1.ext OL0.2).cell
  obtain ⟨_, _, ⟨T252, L252, k252, n252⟩, -, X252, ⟨Lc252, hQ252, l252, y252, z252⟩, st252⟩ := X251.privateBack hx (y := own_m1) hown (mvT hZ (hw _ (List.mem_of_getElem? (i := 57) rfl))) (mvT hZ (hw _ (List.mem_of_getElem? (i := 58) rfl))) (own_selpS (y := own_m1) (mvT hZ (hw _ (List.mem_of_getElem? (i := 18) rfl))) rfl (mvP (args := #[]) hZ (hw _ (List.mem_of_getElem? (i := 59) rfl))) (mvT hZ (hw _ (List.mem_of_getElem? (i := 58) rfl))) (by decide)) (Cond.privateMethod_at (mvP hZ (hw _ (List.mem_of_getElem? (i := 59) rfl)) (args := #[]))) (mvT hZ (hw _ (List.mem_of_getElem? (i := 60) rfl))) (by decide) (backOf (W := 0) (rm37 l Z a0 hw [] h0 n0 p1 p2 p3 A K EN OL0) hZ (hw _ (List.mem_of_getElem? (i := 60) rfl)) (hw _ (List.mem_of_getElem? (i := 6) rfl)) (by decide) (by decide)) (g := (mkF m 8 #[.val (.ref (A 4)), .val (.ref r248), .val (.ref r249)] [(.int (-1 : Int32)), (.ref (A 4))])) rfl (by rw [hml]; rfl) (Steps.refl _) (a := (A 4)) (by rw [e251]; exact q252) q252' (argsL := [(.int (-1 : Int32))]) (rest := []) (lenOf own_pd9 rfl) rfl (by show 2 * 0 + _ ≤ _; exact Nat.le_of_eq rfl) (hb hby own_d_prog_3_method_5_code_8) (fun _ _ => ⟨rfl, e251, (by decide : 0 + 0 ≤ _), (by decide : 0 + 0 ≤ _)⟩)
  dsimp only [Pt.U, Pt.locs, Pt.cells, Pt.slots] at X252 l252 y252 z252 st252 hQ252
  subst l252 y252 z252
  obtain ⟨rfl, N252q, e252⟩ := hQ252
  have N252 := Fr.app N251 N252q
  obtain ⟨fs, hr, hrun, hended, hW, hsame⟩ := X252.leave (v := some (.int (0 : Int32))) (fun h => by rw [Bd.returns] at h; cases h)
  refine ⟨_, _, pre0 _ ?_, hrun, hended, _, _, rfl, ?_, ⟨_, rfl⟩, hW, hsame.mono (by decide) (by decide)⟩
  · show Steps p.tables e below (s₁.setTop (mkF m 0 #[.val (.ref (A 4)), .val (.ref r248), .val (.ref r249)] [])) _
    refine XS.aloadN X0.here hx rfl (hb hby own_d_prog_3_method_5_code_0) rfl rfl ?_
    show Steps p.tables e below (s₁.setTop (mkF m 1 #[.val (.ref (A 4)), .val (.ref r248), .val (.ref r249)] [(.ref (A 4))])) _
    refine XS.aloadN X0.here hx rfl (hb hby own_d_prog_3_method_5_code_1) rfl rfl ?_
    show Steps p.tables e below (s₁.setTop (mkF m 2 #[.val (.ref (A 4)), .val (.ref r248), .val (.ref r249)] [(.ref r248), (.ref (A 4))])) _
    refine XS.aloadN X0.here hx rfl (hb hby own_d_prog_3_method_5_code_2) rfl rfl ?_
    show Steps p.tables e below (s₁.setTop (mkF m 3 #[.val (.ref (A 4)), .val (.ref r248), .val (.ref r249)] [(.ref r249), (.ref r248), (.ref (A 4))])) _
    refine st251.trans ?_
    show Steps p.tables e below (T251.setTop (mkF m 8 #[.val (.ref (A 4)), .val (.ref r248), .val (.ref r249)] [(.int (-1 : Int32)), (.ref (A 4))])) _
    refine st252.trans ?_
    show Steps p.tables e below (T252.setTop (mkF m 11 #[.val (.ref (A 4)), .val (.ref r248), .val (.ref r249)] [(.int (0 : Int32))])) _
    exact retN X252 hx (t := .boolean) Bd.returns (by simp) (hb hby own_d_prog_3_method_5_code_11) hr
  · show PQ (some (.int (0 : Int32))) h0 n0 _ T252.heap _
    rw [e252]
    exact ⟨rfl, N252, rfl⟩
theorem own_ef_rm76 (m : MethodId) (p1 : Int32) (p2 : Int32) (p3 : Int32) (A : Nat → Addr) (K : Nat → ClassId)  (r248 : Addr) (r249 : Addr) : entryFrame m #[(.ref (A 0)), (.ref r249), (.ref r248)] 3 = mkF m 0 #[.val (.ref (A 0)), .val (.ref r249), .val (.ref r248)] [] := by first | (simp [entryFrame, mkF, argsToLocals, Value.category, maxLocals]; done) | rfl
set_option maxRecDepth 65536 in
set_option maxHeartbeats 40000000 in
theorem rm76 (l : Launch) (Z : State) (a0 : Array Value) (hw : ∀ d ∈ tables_1, d.before a0 Z = true) (ws : List Jvm.Cond) (h0 : Heap) (n0 : Nat) (p1 : Int32) (p2 : Int32) (p3 : Int32) (A : Nat → Addr) (K : Nat → ClassId)  (r248 : Addr) (r249 : Addr) (EN : own_St Z A K) (OL0 : Old Z n0 h0) (G_E_r249 : Exa Z h0 r249 "java/lang/Integer") (G_E_r248 : Exa Z h0 r248 "java/lang/Integer") (G_F_r249_java_lang_Integer_value : Fld Z h0 r249 "java/lang/Integer" "value" "I" (.int p3)) (G_F_r248_java_lang_Integer_value : Fld Z h0 r248 "java/lang/Integer" "value" "I" (.int p2)) (hp_245 : p2 < p3) :
    MetFree l own_m0 (head1 (Jvm.Cond.code own_m0 prog_3_method_5_code 3 (some .boolean) :: ws) ({ frames := 3, cells := 0, slots := 0, locals := 40 } : Room)) (fun a U => a = #[(.ref (A 0)), (.ref r249), (.ref r248)] ∧ Z.Warmed39 U.vm ∧ U.heap = h0) (fun _ _ _ _ _ => True) (fun _ U o U' => ∃ v L, o = .returned v ∧ (PQ (some (.int (0 : Int32))) h0 n0) v U'.heap L ∧ FrameEnd U o U' L ({ frames := 3, cells := 0, slots := 0, locals := 40 } : Room).cells ({ frames := 3, cells := 0, slots := 0, locals := 40 } : Room).slots) := by
  refine MetFree.of_bodySF (plainFor_of_name own_pn4) hisR ?_
  intro p e s m args below meth c s₁ Bd hml0 hP hK
  obtain ⟨rfl, hZ, hh⟩ := hP
  have hx := Bd.exec
  have hby := Bd.bytes
  have hml : c.maxLocals = 3 := hml0
  have hown : s.vm.findClass "com/example/measurewright/measurewright/Comparison" = some m.cls := findClass_of_methodNamed Bd.named
  have hnm := (name_of_methodNamed Bd.named Bd.method).1
  have X0 : Stand p l e ({ frames := 3, cells := 0, slots := 0, locals := 40 } : Room) s m #[(.ref (A 0)), (.ref r249), (.ref r248)] below meth c s₁ [] 0 0 := Stand.of_body Bd
  have e0 : s₁.heap = h0 := by rw [← hh, Bd.state]; rfl
  have N0 := Fr.nil n0
  have pre0 : ∀ t, Steps p.tables e below (s₁.setTop (mkF m 0 #[.val (.ref (A 0)), .val (.ref r249), .val (.ref r248)] [])) t → Steps p.tables e below (s₁.setTop (entryFrame m #[(.ref (A 0)), (.ref r249), (.ref r248)] 3)) t := fun t k => castTop (own_ef_rm76 m p1 p2 p3 A K r248 r249) k
  have KK0 : Keep h0 h0 [] := Keep.refl _ _
  obtain ⟨cq256, kq256, q256a, q256b, q256c⟩ := isOf hZ e0 G_E_r249
  obtain ⟨_, _, ⟨T256, L256, k256, n256⟩, -, X256, ⟨Lc256, hQ256, l256, y256, z256⟩, st256⟩ := X0.interfaceBack hx (xi := own_m6) (y := own_m3) hown (mvT hZ (hw _ (List.mem_of_getElem? (i := 36) rfl))) (mvT hZ (hw _ (List.mem_of_getElem? (i := 37) rfl))) (mvT hZ (hw _ (List.mem_of_getElem? (i := 38) rfl))) (mvT hZ (hw _ (List.mem_of_getElem? (i := 39) rfl))) (mvT hZ (hw _ (List.mem_of_getElem? (i := 40) rfl))) (mvT hZ (hw _ (List.mem_of_getElem? (i := 41) rfl))) (mvT hZ (hw _ (List.mem_of_getElem? (i := 42) rfl))) (mvT hZ (hw _ (List.mem_of_getElem? (i := 43) rfl))) (by decide) (backOf (W := 1) (rm12 l Z a0 hw [] h0 n0 p1 p2 p3 A K r248 r249 EN OL0 G_E_r248 G_E_r249 G_F_r249_java_lang_Integer_value G_F_r248_java_lang_Integer_value hp_245) hZ (hw _ (List.mem_of_getElem? (i := 44) rfl)) (hw _ (List.mem_of_getElem? (i := 10) rfl)) (by decide) (by decide)) q256a q256b q256c (g := (mkF m 3 #[.val (.ref (A 0)), .val (.ref r249), .val (.ref r248)] [(.ref r248), (.ref r249), (.ref (A 0))])) rfl (by rw [hml]; rfl) (Steps.refl _) (argsL := [(.ref r248)]) (rest := [(.ref (A 0))]) (lenOf own_pd8 rfl) rfl (by show 2 * 0 + _ ≤ _; exact Nat.le_of_eq rfl) (hb hby own_d_prog_3_method_5_code_3) (fun _ _ => ⟨rfl, e0, (by decide : 0 + 0 ≤ _), (by decide : 0 + 0 ≤ _)⟩)
  dsimp only [Pt.U, Pt.locs, Pt.cells, Pt.slots] at X256 l256 y256 z256 st256 hQ256
  subst l256 y256 z256
  obtain ⟨rfl, N256q, e256⟩ := hQ256
  have N256 := Fr.app N0 N256q
  obtain ⟨cq257, q257, q257'⟩ := (EN.1.2.1.ext OL0.2).cell
  obtain ⟨_, _, ⟨T257, L257, k257, n257⟩, -, X257, ⟨Lc257, hQ257, l257, y257, z257⟩, st257⟩ := X256.privateBack hx (y := own_m1) hown (mvT hZ (hw _ (List.mem_of_getElem? (i := 57) rfl))) (mvT hZ (hw _ (List.mem_of_getElem? (i := 58) rfl))) (own_selpS (y := own_m1) (mvT hZ (hw _ (List.mem_of_getElem? (i := 18) rfl))) rfl (mvP (args := #[]) hZ (hw _ (List.mem_of_getElem? (i := 59) rfl))) (mvT hZ (hw _ (List.mem_of_getElem? (i := 58) rfl))) (by decide)) (Cond.privateMethod_at (mvP hZ (hw _ (List.mem_of_getElem? (i := 59) rfl)) (args := #[]))) (mvT hZ (hw _ (List.mem_of_getElem? (i := 60) rfl))) (by decide) (backOf (W := 0) (rm32 l Z a0 hw [] h0 n0 p1 p2 p3 A K EN OL0) hZ (hw _ (List.mem_of_getElem? (i := 60) rfl)) (hw _ (List.mem_of_getElem? (i := 6) rfl)) (by decide) (by decide)) (g := (mkF m 8 #[.val (.ref (A 0)), .val (.ref r249), .val (.ref r248)] [(.int (1 : Int32)), (.ref (A 0))])) rfl (by rw [hml]; rfl) (Steps.refl _) (a := (A 0)) (by rw [e256]; exact q257) q257' (argsL := [(.int (1 : Int32))]) (rest := []) (lenOf own_pd9 rfl) rfl (by show 2 * 0 + _ ≤ _; exact Nat.le_of_eq rfl) (hb hby own_d_prog_3_method_5_code_8) (fun _ _ => ⟨rfl, e256, (by decide : 0 + 0 ≤ _), (by decide : 0 + 0 ≤ _)⟩)
  dsimp only [Pt.U, Pt.locs, Pt.cells, Pt.slots] at X257 l257 y257 z257 st257 hQ257
  subst l257 y257 z257
  obtain ⟨rfl, N257q, e257⟩ := hQ257
  have N257 := Fr.app N256 N257q
  obtain ⟨fs, hr, hrun, hended, hW, hsame⟩ := X257.leave (v := some (.int (0 : Int32))) (fun h => by rw [Bd.returns] at h; cases h)
  refine ⟨_, _, pre0 _ ?_, hrun, hended, _, _, rfl, ?_, ⟨_, rfl⟩, hW, hsame.mono (by decide) (by decide)⟩
  · show Steps p.tables e below (s₁.setTop (mkF m 0 #[.val (.ref (A 0)), .val (.ref r249), .val (.ref r248)] [])) _
    refine XS.aloadN X0.here hx rfl (hb hby own_d_prog_3_method_5_code_0) rfl rfl ?_
    show Steps p.tables e below (s₁.setTop (mkF m 1 #[.val (.ref (A 0)), .val (.ref r249), .val (.ref r248)] [(.ref (A 0))])) _
    refine XS.aloadN X0.here hx rfl (hb hby own_d_prog_3_method_5_code_1) rfl rfl ?_
    show Steps p.tables e below (s₁.setTop (mkF m 2 #[.val (.ref (A 0)), .val (.ref r249), .val (.ref r248)] [(.ref r249), (.ref (A 0))])) _
    refine XS.aloadN X0.here hx rfl (hb hby own_d_prog_3_method_5_code_2) rfl rfl ?_
    show Steps p.tables e below (s₁.setTop (mkF m 3 #[.val (.ref (A 0)), .val (.ref r249), .val (.ref r248)] [(.ref r248), (.ref r249), (.ref (A 0))])) _
    refine st256.trans ?_
    show Steps p.tables e below (T256.setTop (mkF m 8 #[.val (.ref (A 0)), .val (.ref r249), .val (.ref r248)] [(.int (1 : Int32)), (.ref (A 0))])) _
    refine st257.trans ?_
    show Steps p.tables e below (T257.setTop (mkF m 11 #[.val (.ref (A 0)), .val (.ref r249), .val (.ref r248)] [(.int (0 : Int32))])) _
    exact retN X257 hx (t := .boolean) Bd.returns (by simp) (hb hby own_d_prog_3_method_5_code_11) hr
  · show PQ (some (.int (0 : Int32))) h0 n0 _ T257.heap _
    rw [e257]
    exact ⟨rfl, N257, rfl⟩
theorem own_ef_rm77 (m : MethodId) (p1 : Int32) (p2 : Int32) (p3 : Int32) (A : Nat → Addr) (K : Nat → ClassId)  (r262 : Addr) (r263 : Addr) : entryFrame m #[(.ref (A 4)), (.ref r262), (.ref r263)] 3 = mkF m 0 #[.val (.ref (A 4)), .val (.ref r262), .val (.ref r263)] [] := by first | (simp [entryFrame, mkF, argsToLocals, Value.category, maxLocals]; done) | rfl
set_option maxRecDepth 65536 in
set_option maxHeartbeats 40000000 in
theorem rm77 (l : Launch) (Z : State) (a0 : Array Value) (hw : ∀ d ∈ tables_1, d.before a0 Z = true) (ws : List Jvm.Cond) (h0 : Heap) (n0 : Nat) (p1 : Int32) (p2 : Int32) (p3 : Int32) (A : Nat → Addr) (K : Nat → ClassId)  (r262 : Addr) (r263 : Addr) (EN : own_St Z A K) (OL0 : Old Z n0 h0) (G_E_r262 : Exa Z h0 r262 "java/lang/Integer") (G_E_r263 : Exa Z h0 r263 "java/lang/Integer") (G_F_r262_java_lang_Integer_value : Fld Z h0 r262 "java/lang/Integer" "value" "I" (.int p2)) (G_F_r263_java_lang_Integer_value : Fld Z h0 r263 "java/lang/Integer" "value" "I" (.int p3)) (hp_245 : ¬ (p2 < p3)) (hp_260 : p2 = p3) :
    MetFree l own_m0 (head1 (Jvm.Cond.code own_m0 prog_3_method_5_code 3 (some .boolean) :: ws) ({ frames := 3, cells := 0, slots := 0, locals := 40 } : Room)) (fun a U => a = #[(.ref (A 4)), (.ref r262), (.ref r263)] ∧ Z.Warmed39 U.vm ∧ U.heap = h0) (fun _ _ _ _ _ => True) (fun _ U o U' => ∃ v L, o = .returned v ∧ (PQ (some (.int (0 : Int32))) h0 n0) v U'.heap L ∧ FrameEnd U o U' L ({ frames := 3, cells := 0, slots := 0, locals := 40 } : Room).cells ({ frames := 3, cells := 0, slots := 0, locals := 40 } : Room).slots) := by
  refine MetFree.of_bodySF (plainFor_of_name own_pn4) hisR ?_
  intro p e s m args below meth c s₁ Bd hml0 hP hK
  obtain ⟨rfl, hZ, hh⟩ := hP
  have hx := Bd.exec
  have hby := Bd.bytes
  have hml : c.maxLocals = 3 := hml0
  have hown : s.vm.findClass "com/example/measurewright/measurewright/Comparison" = some m.cls := findClass_of_methodNamed Bd.named
  have hnm := (name_of_methodNamed Bd.named Bd.method).1
  have X0 : Stand p l e ({ frames := 3, cells := 0, slots := 0, locals := 40 } : Room) s m #[(.ref (A 4)), (.ref r262), (.ref r263)] below meth c s₁ [] 0 0 := Stand.of_body Bd
  have e0 : s₁.heap = h0 := by rw [← hh, Bd.state]; rfl
  have N0 := Fr.nil n0
  have pre0 : ∀ t, Steps p.tables e below (s₁.setTop (mkF m 0 #[.val (.ref (A 4)), .val (.ref r262), .val (.ref r263)] [])) t → Steps p.tables e below (s₁.setTop (entryFrame m #[(.ref (A 4)), (.ref r262), (.ref r263)] 3)) t := fun t k => castTop (own_ef_rm77 m p1 p2 p3 A K r262 r263) k
  have KK0 : Keep h0 h0 [] := Keep.refl _ _
  obtain ⟨cq265, kq265, q265a, q265b, q265c⟩ := isOf hZ e0 G_E_r262
  obtain ⟨_, _, ⟨T265, L265, k265, n265⟩, -, X265, ⟨Lc265, hQ265, l265, y265, z265⟩, st265⟩ := X0.interfaceBack hx (xi := own_m6) (y := own_m3) hown (mvT hZ (hw _ (List.mem_of_getElem? (i := 36) rfl))) (mvT hZ (hw _ (List.mem_of_getElem? (i := 37) rfl))) (mvT hZ (hw _ (List.mem_of_getElem? (i := 38) rfl))) (mvT hZ (hw _ (List.mem_of_getElem? (i := 39) rfl))) (mvT hZ (hw _ (List.mem_of_getElem? (i := 40) rfl))) (mvT hZ (hw _ (List.mem_of_getElem? (i := 41) rfl))) (mvT hZ (hw _ (List.mem_of_getElem? (i := 42) rfl))) (mvT hZ (hw _ (List.mem_of_getElem? (i := 43) rfl))) (by decide) (backOf (W := 1) (rm19 l Z a0 hw [] h0 n0 p1 p2 p3 A K r262 r263 EN OL0 G_E_r263 G_E_r262 G_F_r262_java_lang_Integer_value G_F_r263_java_lang_Integer_value hp_245 hp_260) hZ (hw _ (List.mem_of_getElem? (i := 44) rfl)) (hw _ (List.mem_of_getElem? (i := 10) rfl)) (by decide) (by decide)) q265a q265b q265c (g := (mkF m 3 #[.val (.ref (A 4)), .val (.ref r262), .val (.ref r263)] [(.ref r263), (.ref r262), (.ref (A 4))])) rfl (by rw [hml]; rfl) (Steps.refl _) (argsL := [(.ref r263)]) (rest := [(.ref (A 4))]) (lenOf own_pd8 rfl) rfl (by show 2 * 0 + _ ≤ _; exact Nat.le_of_eq rfl) (hb hby own_d_prog_3_method_5_code_3) (fun _ _ => ⟨rfl, e0, (by decide : 0 + 0 ≤ _), (by decide : 0 + 0 ≤ _)⟩)
  dsimp only [Pt.U, Pt.locs, Pt.cells, Pt.slots] at X265 l265 y265 z265 st265 hQ265
  subst l265 y265 z265
  obtain ⟨rfl, N265q, e265⟩ := hQ265
  have N265 := Fr.app N0 N265q
  obtain ⟨cq266, q266, q266'⟩ := (EN.2.1.2.1.ext OL0.2).cell
  obtain ⟨_, _, ⟨T266, L266, k266, n266⟩, -, X266, ⟨Lc266, hQ266, l266, y266, z266⟩, st266⟩ := X265.privateBack hx (y := own_m1) hown (mvT hZ (hw _ (List.mem_of_getElem? (i := 57) rfl))) (mvT hZ (hw _ (List.mem_of_getElem? (i := 58) rfl))) (own_selpS (y := own_m1) (mvT hZ (hw _ (List.mem_of_getElem? (i := 18) rfl))) rfl (mvP (args := #[]) hZ (hw _ (List.mem_of_getElem? (i := 59) rfl))) (mvT hZ (hw _ (List.mem_of_getElem? (i := 58) rfl))) (by decide)) (Cond.privateMethod_at (mvP hZ (hw _ (List.mem_of_getElem? (i := 59) rfl)) (args := #[]))) (mvT hZ (hw _ (List.mem_of_getElem? (i := 60) rfl))) (by decide) (backOf (W := 0) (rm27 l Z a0 hw [] h0 n0 p1 p2 p3 A K EN OL0) hZ (hw _ (List.mem_of_getElem? (i := 60) rfl)) (hw _ (List.mem_of_getElem? (i := 6) rfl)) (by decide) (by decide)) (g := (mkF m 8 #[.val (.ref (A 4)), .val (.ref r262), .val (.ref r263)] [(.int (0 : Int32)), (.ref (A 4))])) rfl (by rw [hml]; rfl) (Steps.refl _) (a := (A 4)) (by rw [e265]; exact q266) q266' (argsL := [(.int (0 : Int32))]) (rest := []) (lenOf own_pd9 rfl) rfl (by show 2 * 0 + _ ≤ _; exact Nat.le_of_eq rfl) (hb hby own_d_prog_3_method_5_code_8) (fun _ _ => ⟨rfl, e265, (by decide : 0 + 0 ≤ _), (by decide : 0 + 0 ≤ _)⟩)
  dsimp only [Pt.U, Pt.locs, Pt.cells, Pt.slots] at X266 l266 y266 z266 st266 hQ266
  subst l266 y266 z266
  obtain ⟨rfl, N266q, e266⟩ := hQ266
  have N266 := Fr.app N265 N266q
  obtain ⟨fs, hr, hrun, hended, hW, hsame⟩ := X266.leave (v := some (.int (0 : Int32))) (fun h => by rw [Bd.returns] at h; cases h)
  refine ⟨_, _, pre0 _ ?_, hrun, hended, _, _, rfl, ?_, ⟨_, rfl⟩, hW, hsame.mono (by decide) (by decide)⟩
  · show Steps p.tables e below (s₁.setTop (mkF m 0 #[.val (.ref (A 4)), .val (.ref r262), .val (.ref r263)] [])) _
    refine XS.aloadN X0.here hx rfl (hb hby own_d_prog_3_method_5_code_0) rfl rfl ?_
    show Steps p.tables e below (s₁.setTop (mkF m 1 #[.val (.ref (A 4)), .val (.ref r262), .val (.ref r263)] [(.ref (A 4))])) _
    refine XS.aloadN X0.here hx rfl (hb hby own_d_prog_3_method_5_code_1) rfl rfl ?_
    show Steps p.tables e below (s₁.setTop (mkF m 2 #[.val (.ref (A 4)), .val (.ref r262), .val (.ref r263)] [(.ref r262), (.ref (A 4))])) _
    refine XS.aloadN X0.here hx rfl (hb hby own_d_prog_3_method_5_code_2) rfl rfl ?_
    show Steps p.tables e below (s₁.setTop (mkF m 3 #[.val (.ref (A 4)), .val (.ref r262), .val (.ref r263)] [(.ref r263), (.ref r262), (.ref (A 4))])) _
    refine st265.trans ?_
    show Steps p.tables e below (T265.setTop (mkF m 8 #[.val (.ref (A 4)), .val (.ref r262), .val (.ref r263)] [(.int (0 : Int32)), (.ref (A 4))])) _
    refine st266.trans ?_
    show Steps p.tables e below (T266.setTop (mkF m 11 #[.val (.ref (A 4)), .val (.ref r262), .val (.ref r263)] [(.int (0 : Int32))])) _
    exact retN X266 hx (t := .boolean) Bd.returns (by simp) (hb hby own_d_prog_3_method_5_code_11) hr
  · show PQ (some (.int (0 : Int32))) h0 n0 _ T266.heap _
    rw [e266]
    exact ⟨rfl, N266, rfl⟩
theorem own_ef_rm78 (m : MethodId) (p1 : Int32) (p2 : Int32) (p3 : Int32) (A : Nat → Addr) (K : Nat → ClassId)  (r262 : Addr) (r263 : Addr) : entryFrame m #[(.ref (A 0)), (.ref r263), (.ref r262)] 3 = mkF m 0 #[.val (.ref (A 0)), .val (.ref r263), .val (.ref r262)] [] := by first | (simp [entryFrame, mkF, argsToLocals, Value.category, maxLocals]; done) | rfl
set_option maxRecDepth 65536 in
set_option maxHeartbeats 40000000 in
theorem rm78 (l : Launch) (Z : State) (a0 : Array Value) (hw : ∀ d ∈ tables_1, d.before a0 Z = true) (ws : List Jvm.Cond) (h0 : Heap) (n0 : Nat) (p1 : Int32) (p2 : Int32) (p3 : Int32) (A : Nat → Addr) (K : Nat → ClassId)  (r262 : Addr) (r263 : Addr) (EN : own_St Z A K) (OL0 : Old Z n0 h0) (G_E_r263 : Exa Z h0 r263 "java/lang/Integer") (G_E_r262 : Exa Z h0 r262 "java/lang/Integer") (G_F_r263_java_lang_Integer_value : Fld Z h0 r263 "java/lang/Integer" "value" "I" (.int p3)) (G_F_r262_java_lang_Integer_value : Fld Z h0 r262 "java/lang/Integer" "value" "I" (.int p2)) (hp_245 : ¬ (p2 < p3)) (hp_260 : p2 = p3) :
    MetFree l own_m0 (head1 (Jvm.Cond.code own_m0 prog_3_method_5_code 3 (some .boolean) :: ws) ({ frames := 3, cells := 0, slots := 0, locals := 40 } : Room)) (fun a U => a = #[(.ref (A 0)), (.ref r263), (.ref r262)] ∧ Z.Warmed39 U.vm ∧ U.heap = h0) (fun _ _ _ _ _ => True) (fun _ U o U' => ∃ v L, o = .returned v ∧ (PQ (some (.int (0 : Int32))) h0 n0) v U'.heap L ∧ FrameEnd U o U' L ({ frames := 3, cells := 0, slots := 0, locals := 40 } : Room).cells ({ frames := 3, cells := 0, slots := 0, locals := 40 } : Room).slots) := by
  refine MetFree.of_bodySF (plainFor_of_name own_pn4) hisR ?_
  intro p e s m args below meth c s₁ Bd hml0 hP hK
  obtain ⟨rfl, hZ, hh⟩ := hP
  have hx := Bd.exec
  have hby := Bd.bytes
  have hml : c.maxLocals = 3 := hml0
  have hown : s.vm.findClass "com/example/measurewright/measurewright/Comparison" = some m.cls := findClass_of_methodNamed Bd.named
  have hnm := (name_of_methodNamed Bd.named Bd.method).1
  have X0 : Stand p l e ({ frames := 3, cells := 0, slots := 0, locals := 40 } : Room) s m #[(.ref (A 0)), (.ref r263), (.ref r262)] below meth c s₁ [] 0 0 := Stand.of_body Bd
  have e0 : s₁.heap = h0 := by rw [← hh, Bd.state]; rfl
  have N0 := Fr.nil n0
  have pre0 : ∀ t, Steps p.tables e below (s₁.setTop (mkF m 0 #[.val (.ref (A 0)), .val (.ref r263), .val (.ref r262)] [])) t → Steps p.tables e below (s₁.setTop (entryFrame m #[(.ref (A 0)), (.ref r263), (.ref r262)] 3)) t := fun t k => castTop (own_ef_rm78 m p1 p2 p3 A K r262 r263) k
  have KK0 : Keep h0 h0 [] := Keep.refl _ _
  obtain ⟨cq270, kq270, q270a, q270b, q270c⟩ := isOf hZ e0 G_E_r263
  obtain ⟨_, _, ⟨T270, L270, k270, n270⟩, -, X270, ⟨Lc270, hQ270, l270, y270, z270⟩, st270⟩ := X0.interfaceBack hx (xi := own_m6) (y := own_m3) hown (mvT hZ (hw _ (List.mem_of_getElem? (i := 36) rfl))) (mvT hZ (hw _ (List.mem_of_getElem? (i := 37) rfl))) (mvT hZ (hw _ (List.mem_of_getElem? (i := 38) rfl))) (mvT hZ (hw _ (List.mem_of_getElem? (i := 39) rfl))) (mvT hZ (hw _ (List.mem_of_getElem? (i := 40) rfl))) (mvT hZ (hw _ (List.mem_of_getElem? (i := 41) rfl))) (mvT hZ (hw _ (List.mem_of_getElem? (i := 42) rfl))) (mvT hZ (hw _ (List.mem_of_getElem? (i := 43) rfl))) (by decide) (backOf (W := 1) (rm24 l Z a0 hw [] h0 n0 p1 p2 p3 A K r262 r263 EN OL0 G_E_r262 G_E_r263 G_F_r263_java_lang_Integer_value G_F_r262_java_lang_Integer_value hp_245 hp_260) hZ (hw _ (List.mem_of_getElem? (i := 44) rfl)) (hw _ (List.mem_of_getElem? (i := 10) rfl)) (by decide) (by decide)) q270a q270b q270c (g := (mkF m 3 #[.val (.ref (A 0)), .val (.ref r263), .val (.ref r262)] [(.ref r262), (.ref r263), (.ref (A 0))])) rfl (by rw [hml]; rfl) (Steps.refl _) (argsL := [(.ref r262)]) (rest := [(.ref (A 0))]) (lenOf own_pd8 rfl) rfl (by show 2 * 0 + _ ≤ _; exact Nat.le_of_eq rfl) (hb hby own_d_prog_3_method_5_code_3) (fun _ _ => ⟨rfl, e0, (by decide : 0 + 0 ≤ _), (by decide : 0 + 0 ≤ _)⟩)
  dsimp only [Pt.U, Pt.locs, Pt.cells, Pt.slots] at X270 l270 y270 z270 st270 hQ270
  subst l270 y270 z270
  obtain ⟨rfl, N270q, e270⟩ := hQ270
  have N270 := Fr.app N0 N270q
  obtain ⟨cq271, q271, q271'⟩ := (EN.1.2.1.ext OL0.2).cell
  obtain ⟨_, _, ⟨T271, L271, k271, n271⟩, -, X271, ⟨Lc271, hQ271, l271, y271, z271⟩, st271⟩ := X270.privateBack hx (y := own_m1) hown (mvT hZ (hw _ (List.mem_of_getElem? (i := 57) rfl))) (mvT hZ (hw _ (List.mem_of_getElem? (i := 58) rfl))) (own_selpS (y := own_m1) (mvT hZ (hw _ (List.mem_of_getElem? (i := 18) rfl))) rfl (mvP (args := #[]) hZ (hw _ (List.mem_of_getElem? (i := 59) rfl))) (mvT hZ (hw _ (List.mem_of_getElem? (i := 58) rfl))) (by decide)) (Cond.privateMethod_at (mvP hZ (hw _ (List.mem_of_getElem? (i := 59) rfl)) (args := #[]))) (mvT hZ (hw _ (List.mem_of_getElem? (i := 60) rfl))) (by decide) (backOf (W := 0) (rm22 l Z a0 hw [] h0 n0 p1 p2 p3 A K EN OL0) hZ (hw _ (List.mem_of_getElem? (i := 60) rfl)) (hw _ (List.mem_of_getElem? (i := 6) rfl)) (by decide) (by decide)) (g := (mkF m 8 #[.val (.ref (A 0)), .val (.ref r263), .val (.ref r262)] [(.int (0 : Int32)), (.ref (A 0))])) rfl (by rw [hml]; rfl) (Steps.refl _) (a := (A 0)) (by rw [e270]; exact q271) q271' (argsL := [(.int (0 : Int32))]) (rest := []) (lenOf own_pd9 rfl) rfl (by show 2 * 0 + _ ≤ _; exact Nat.le_of_eq rfl) (hb hby own_d_prog_3_method_5_code_8) (fun _ _ => ⟨rfl, e270, (by decide : 0 + 0 ≤ _), (by decide : 0 + 0 ≤ _)⟩)
  dsimp only [Pt.U, Pt.locs, Pt.cells, Pt.slots] at X271 l271 y271 z271 st271 hQ271
  subst l271 y271 z271
  obtain ⟨rfl, N271q, e271⟩ := hQ271
  have N271 := Fr.app N270 N271q
  obtain ⟨fs, hr, hrun, hended, hW, hsame⟩ := X271.leave (v := some (.int (0 : Int32))) (fun h => by rw [Bd.returns] at h; cases h)
  refine ⟨_, _, pre0 _ ?_, hrun, hended, _, _, rfl, ?_, ⟨_, rfl⟩, hW, hsame.mono (by decide) (by decide)⟩
  · show Steps p.tables e below (s₁.setTop (mkF m 0 #[.val (.ref (A 0)), .val (.ref r263), .val (.ref r262)] [])) _
    refine XS.aloadN X0.here hx rfl (hb hby own_d_prog_3_method_5_code_0) rfl rfl ?_
    show Steps p.tables e below (s₁.setTop (mkF m 1 #[.val (.ref (A 0)), .val (.ref r263), .val (.ref r262)] [(.ref (A 0))])) _
    refine XS.aloadN X0.here hx rfl (hb hby own_d_prog_3_method_5_code_1) rfl rfl ?_
    show Steps p.tables e below (s₁.setTop (mkF m 2 #[.val (.ref (A 0)), .val (.ref r263), .val (.ref r262)] [(.ref r263), (.ref (A 0))])) _
    refine XS.aloadN X0.here hx rfl (hb hby own_d_prog_3_method_5_code_2) rfl rfl ?_
    show Steps p.tables e below (s₁.setTop (mkF m 3 #[.val (.ref (A 0)), .val (.ref r263), .val (.ref r262)] [(.ref r262), (.ref r263), (.ref (A 0))])) _
    refine st270.trans ?_
    show Steps p.tables e below (T270.setTop (mkF m 8 #[.val (.ref (A 0)), .val (.ref r263), .val (.ref r262)] [(.int (0 : Int32)), (.ref (A 0))])) _
    refine st271.trans ?_
    show Steps p.tables e below (T271.setTop (mkF m 11 #[.val (.ref (A 0)), .val (.ref r263), .val (.ref r262)] [(.int (0 : Int32))])) _
    exact retN X271 hx (t := .boolean) Bd.returns (by simp) (hb hby own_d_prog_3_method_5_code_11) hr
  · show PQ (some (.int (0 : Int32))) h0 n0 _ T271.heap _
    rw [e271]
    exact ⟨rfl, N271, rfl⟩
theorem own_ef_rm79 (m : MethodId) (p1 : Int32) (p2 : Int32) (p3 : Int32) (A : Nat → Addr) (K : Nat → ClassId)  (r275 : Addr) (r276 : Addr) : entryFrame m #[(.ref (A 4)), (.ref r275), (.ref r276)] 3 = mkF m 0 #[.val (.ref (A 4)), .val (.ref r275), .val (.ref r276)] [] := by first | (simp [entryFrame, mkF, argsToLocals, Value.category, maxLocals]; done) | rfl
set_option maxRecDepth 65536 in
set_option maxHeartbeats 40000000 in
theorem rm79 (l : Launch) (Z : State) (a0 : Array Value) (hw : ∀ d ∈ tables_1, d.before a0 Z = true) (ws : List Jvm.Cond) (h0 : Heap) (n0 : Nat) (p1 : Int32) (p2 : Int32) (p3 : Int32) (A : Nat → Addr) (K : Nat → ClassId)  (r275 : Addr) (r276 : Addr) (EN : own_St Z A K) (OL0 : Old Z n0 h0) (G_E_r275 : Exa Z h0 r275 "java/lang/Integer") (G_E_r276 : Exa Z h0 r276 "java/lang/Integer") (G_F_r275_java_lang_Integer_value : Fld Z h0 r275 "java/lang/Integer" "value" "I" (.int p2)) (G_F_r276_java_lang_Integer_value : Fld Z h0 r276 "java/lang/Integer" "value" "I" (.int p3)) (hp_245 : ¬ (p2 < p3)) (hp_260 : ¬ (p2 = p3)) :
    MetFree l own_m0 (head1 (Jvm.Cond.code own_m0 prog_3_method_5_code 3 (some .boolean) :: ws) ({ frames := 3, cells := 0, slots := 0, locals := 40 } : Room)) (fun a U => a = #[(.ref (A 4)), (.ref r275), (.ref r276)] ∧ Z.Warmed39 U.vm ∧ U.heap = h0) (fun _ _ _ _ _ => True) (fun _ U o U' => ∃ v L, o = .returned v ∧ (PQ (some (.int (1 : Int32))) h0 n0) v U'.heap L ∧ FrameEnd U o U' L ({ frames := 3, cells := 0, slots := 0, locals := 40 } : Room).cells ({ frames := 3, cells := 0, slots := 0, locals := 40 } : Room).slots) := by
  refine MetFree.of_bodySF (plainFor_of_name own_pn4) hisR ?_
  intro p e s m args below meth c s₁ Bd hml0 hP hK
  obtain ⟨rfl, hZ, hh⟩ := hP
  have hx := Bd.exec
  have hby := Bd.bytes
  have hml : c.maxLocals = 3 := hml0
  have hown : s.vm.findClass "com/example/measurewright/measurewright/Comparison" = some m.cls := findClass_of_methodNamed Bd.named
  have hnm := (name_of_methodNamed Bd.named Bd.method).1
  have X0 : Stand p l e ({ frames := 3, cells := 0, slots := 0, locals := 40 } : Room) s m #[(.ref (A 4)), (.ref r275), (.ref r276)] below meth c s₁ [] 0 0 := Stand.of_body Bd
  have e0 : s₁.heap = h0 := by rw [← hh, Bd.state]; rfl
  have N0 := Fr.nil n0
  have pre0 : ∀ t, Steps p.tables e below (s₁.setTop (mkF m 0 #[.val (.ref (A 4)), .val (.ref r275), .val (.ref r276)] [])) t → Steps p.tables e below (s₁.setTop (entryFrame m #[(.ref (A 4)), (.ref r275), (.ref r276)] 3)) t := fun t k => castTop (own_ef_rm79 m p1 p2 p3 A K r275 r276) k
  have KK0 : Keep h0 h0 [] := Keep.refl _ _
  obtain ⟨cq278, kq278, q278a, q278b, q278c⟩ := isOf hZ e0 G_E_r275
  obtain ⟨_, _, ⟨T278, L278, k278, n278⟩, -, X278, ⟨Lc278, hQ278, l278, y278, z278⟩, st278⟩ := X0.interfaceBack hx (xi := own_m6) (y := own_m3) hown (mvT hZ (hw _ (List.mem_of_getElem? (i := 36) rfl))) (mvT hZ (hw _ (List.mem_of_getElem? (i := 37) rfl))) (mvT hZ (hw _ (List.mem_of_getElem? (i := 38) rfl))) (mvT hZ (hw _ (List.mem_of_getElem? (i := 39) rfl))) (mvT hZ (hw _ (List.mem_of_getElem? (i := 40) rfl))) (mvT hZ (hw _ (List.mem_of_getElem? (i := 41) rfl))) (mvT hZ (hw _ (List.mem_of_getElem? (i := 42) rfl))) (mvT hZ (hw _ (List.mem_of_getElem? (i := 43) rfl))) (by decide) (backOf (W := 1) (rm29 l Z a0 hw [] h0 n0 p1 p2 p3 A K r275 r276 EN OL0 G_E_r276 G_E_r275 G_F_r275_java_lang_Integer_value G_F_r276_java_lang_Integer_value hp_245 hp_260) hZ (hw _ (List.mem_of_getElem? (i := 44) rfl)) (hw _ (List.mem_of_getElem? (i := 10) rfl)) (by decide) (by decide)) q278a q278b q278c (g := (mkF m 3 #[.val (.ref (A 4)), .val (.ref r275), .val (.ref r276)] [(.ref r276), (.ref r275), (.ref (A 4))])) rfl (by rw [hml]; rfl) (Steps.refl _) (argsL := [(.ref r276)]) (rest := [(.ref (A 4))]) (lenOf own_pd8 rfl) rfl (by show 2 * 0 + _ ≤ _; exact Nat.le_of_eq rfl) (hb hby own_d_prog_3_method_5_code_3) (fun _ _ => ⟨rfl, e0, (by decide : 0 + 0 ≤ _), (by decide : 0 + 0 ≤ _)⟩)
  dsimp only [Pt.U, Pt.locs, Pt.cells, Pt.slots] at X278 l278 y278 z278 st278 hQ278
  subst l278 y278 z278
  obtain ⟨rfl, N278q, e278⟩ := hQ278
  have N278 := Fr.app N0 N278q
  obtain ⟨cq279, q279, q279'⟩ := (EN.2.1.2.1.ext OL0.2).cell
  obtain ⟨_, _, ⟨T279, L279, k279, n279⟩, -, X279, ⟨Lc279, hQ279, l279, y279, z279⟩, st279⟩ := X278.privateBack hx (y := own_m1) hown (mvT hZ (hw _ (List.mem_of_getElem? (i := 57) rfl))) (mvT hZ (hw _ (List.mem_of_getElem? (i := 58) rfl))) (own_selpS (y := own_m1) (mvT hZ (hw _ (List.mem_of_getElem? (i := 18) rfl))) rfl (mvP (args := #[]) hZ (hw _ (List.mem_of_getElem? (i := 59) rfl))) (mvT hZ (hw _ (List.mem_of_getElem? (i := 58) rfl))) (by decide)) (Cond.privateMethod_at (mvP hZ (hw _ (List.mem_of_getElem? (i := 59) rfl)) (args := #[]))) (mvT hZ (hw _ (List.mem_of_getElem? (i := 60) rfl))) (by decide) (backOf (W := 0) (rm15 l Z a0 hw [] h0 n0 p1 p2 p3 A K EN OL0) hZ (hw _ (List.mem_of_getElem? (i := 60) rfl)) (hw _ (List.mem_of_getElem? (i := 6) rfl)) (by decide) (by decide)) (g := (mkF m 8 #[.val (.ref (A 4)), .val (.ref r275), .val (.ref r276)] [(.int (1 : Int32)), (.ref (A 4))])) rfl (by rw [hml]; rfl) (Steps.refl _) (a := (A 4)) (by rw [e278]; exact q279) q279' (argsL := [(.int (1 : Int32))]) (rest := []) (lenOf own_pd9 rfl) rfl (by show 2 * 0 + _ ≤ _; exact Nat.le_of_eq rfl) (hb hby own_d_prog_3_method_5_code_8) (fun _ _ => ⟨rfl, e278, (by decide : 0 + 0 ≤ _), (by decide : 0 + 0 ≤ _)⟩)
  dsimp only [Pt.U, Pt.locs, Pt.cells, Pt.slots] at X279 l279 y279 z279 st279 hQ279
  subst l279 y279 z279
  obtain ⟨rfl, N279q, e279⟩ := hQ279
  have N279 := Fr.app N278 N279q
  obtain ⟨fs, hr, hrun, hended, hW, hsame⟩ := X279.leave (v := some (.int (1 : Int32))) (fun h => by rw [Bd.returns] at h; cases h)
  refine ⟨_, _, pre0 _ ?_, hrun, hended, _, _, rfl, ?_, ⟨_, rfl⟩, hW, hsame.mono (by decide) (by decide)⟩
  · show Steps p.tables e below (s₁.setTop (mkF m 0 #[.val (.ref (A 4)), .val (.ref r275), .val (.ref r276)] [])) _
    refine XS.aloadN X0.here hx rfl (hb hby own_d_prog_3_method_5_code_0) rfl rfl ?_
    show Steps p.tables e below (s₁.setTop (mkF m 1 #[.val (.ref (A 4)), .val (.ref r275), .val (.ref r276)] [(.ref (A 4))])) _
    refine XS.aloadN X0.here hx rfl (hb hby own_d_prog_3_method_5_code_1) rfl rfl ?_
    show Steps p.tables e below (s₁.setTop (mkF m 2 #[.val (.ref (A 4)), .val (.ref r275), .val (.ref r276)] [(.ref r275), (.ref (A 4))])) _
    refine XS.aloadN X0.here hx rfl (hb hby own_d_prog_3_method_5_code_2) rfl rfl ?_
    show Steps p.tables e below (s₁.setTop (mkF m 3 #[.val (.ref (A 4)), .val (.ref r275), .val (.ref r276)] [(.ref r276), (.ref r275), (.ref (A 4))])) _
    refine st278.trans ?_
    show Steps p.tables e below (T278.setTop (mkF m 8 #[.val (.ref (A 4)), .val (.ref r275), .val (.ref r276)] [(.int (1 : Int32)), (.ref (A 4))])) _
    refine st279.trans ?_
    show Steps p.tables e below (T279.setTop (mkF m 11 #[.val (.ref (A 4)), .val (.ref r275), .val (.ref r276)] [(.int (1 : Int32))])) _
    exact retN X279 hx (t := .boolean) Bd.returns (by simp) (hb hby own_d_prog_3_method_5_code_11) hr
  · show PQ (some (.int (1 : Int32))) h0 n0 _ T279.heap _
    rw [e279]
    exact ⟨rfl, N279, rfl⟩
theorem own_ef_rm80 (m : MethodId) (p1 : Int32) (p2 : Int32) (p3 : Int32) (A : Nat → Addr) (K : Nat → ClassId)  (r275 : Addr) (r276 : Addr) : entryFrame m #[(.ref (A 0)), (.ref r276), (.ref r275)] 3 = mkF m 0 #[.val (.ref (A 0)), .val (.ref r276), .val (.ref r275)] [] := by first | (simp [entryFrame, mkF, argsToLocals, Value.category, maxLocals]; done) | rfl
set_option maxRecDepth 65536 in
set_option maxHeartbeats 40000000 in
theorem rm80 (l : Launch) (Z : State) (a0 : Array Value) (hw : ∀ d ∈ tables_1, d.before a0 Z = true) (ws : List Jvm.Cond) (h0 : Heap) (n0 : Nat) (p1 : Int32) (p2 : Int32) (p3 : Int32) (A : Nat → Addr) (K : Nat → ClassId)  (r275 : Addr) (r276 : Addr) (EN : own_St Z A K) (OL0 : Old Z n0 h0) (G_E_r276 : Exa Z h0 r276 "java/lang/Integer") (G_E_r275 : Exa Z h0 r275 "java/lang/Integer") (G_F_r276_java_lang_Integer_value : Fld Z h0 r276 "java/lang/Integer" "value" "I" (.int p3)) (G_F_r275_java_lang_Integer_value : Fld Z h0 r275 "java/lang/Integer" "value" "I" (.int p2)) (hp_245 : ¬ (p2 < p3)) (hp_260 : ¬ (p2 = p3)) :
    MetFree l own_m0 (head1 (Jvm.Cond.code own_m0 prog_3_method_5_code 3 (some .boolean) :: ws) ({ frames := 3, cells := 0, slots := 0, locals := 40 } : Room)) (fun a U => a = #[(.ref (A 0)), (.ref r276), (.ref r275)] ∧ Z.Warmed39 U.vm ∧ U.heap = h0) (fun _ _ _ _ _ => True) (fun _ U o U' => ∃ v L, o = .returned v ∧ (PQ (some (.int (1 : Int32))) h0 n0) v U'.heap L ∧ FrameEnd U o U' L ({ frames := 3, cells := 0, slots := 0, locals := 40 } : Room).cells ({ frames := 3, cells := 0, slots := 0, locals := 40 } : Room).slots) := by
  refine MetFree.of_bodySF (plainFor_of_name own_pn4) hisR ?_
  intro p e s m args below meth c s₁ Bd hml0 hP hK
  obtain ⟨rfl, hZ, hh⟩ := hP
  have hx := Bd.exec
  have hby := Bd.bytes
  have hml : c.maxLocals = 3 := hml0
  have hown : s.vm.findClass "com/example/measurewright/measurewright/Comparison" = some m.cls := findClass_of_methodNamed Bd.named
  have hnm := (name_of_methodNamed Bd.named Bd.method).1
  have X0 : Stand p l e ({ frames := 3, cells := 0, slots := 0, locals := 40 } : Room) s m #[(.ref (A 0)), (.ref r276), (.ref r275)] below meth c s₁ [] 0 0 := Stand.of_body Bd
  have e0 : s₁.heap = h0 := by rw [← hh, Bd.state]; rfl
  have N0 := Fr.nil n0
  have pre0 : ∀ t, Steps p.tables e below (s₁.setTop (mkF m 0 #[.val (.ref (A 0)), .val (.ref r276), .val (.ref r275)] [])) t → Steps p.tables e below (s₁.setTop (entryFrame m #[(.ref (A 0)), (.ref r276), (.ref r275)] 3)) t := fun t k => castTop (own_ef_rm80 m p1 p2 p3 A K r275 r276) k
  have KK0 : Keep h0 h0 [] := Keep.refl _ _
  obtain ⟨cq283, kq283, q283a, q283b, q283c⟩ := isOf hZ e0 G_E_r276
  obtain ⟨_, _, ⟨T283, L283, k283, n283⟩, -, X283, ⟨Lc283, hQ283, l283, y283, z283⟩, st283⟩ := X0.interfaceBack hx (xi := own_m6) (y := own_m3) hown (mvT hZ (hw _ (List.mem_of_getElem? (i := 36) rfl))) (mvT hZ (hw _ (List.mem_of_getElem? (i := 37) rfl))) (mvT hZ (hw _ (List.mem_of_getElem? (i := 38) rfl))) (mvT hZ (hw _ (List.mem_of_getElem? (i := 39) rfl))) (mvT hZ (hw _ (List.mem_of_getElem? (i := 40) rfl))) (mvT hZ (hw _ (List.mem_of_getElem? (i := 41) rfl))) (mvT hZ (hw _ (List.mem_of_getElem? (i := 42) rfl))) (mvT hZ (hw _ (List.mem_of_getElem? (i := 43) rfl))) (by decide) (backOf (W := 1) (rm34 l Z a0 hw [] h0 n0 p1 p2 p3 A K r275 r276 EN OL0 G_E_r275 G_E_r276 G_F_r276_java_lang_Integer_value G_F_r275_java_lang_Integer_value hp_245 hp_260) hZ (hw _ (List.mem_of_getElem? (i := 44) rfl)) (hw _ (List.mem_of_getElem? (i := 10) rfl)) (by decide) (by decide)) q283a q283b q283c (g := (mkF m 3 #[.val (.ref (A 0)), .val (.ref r276), .val (.ref r275)] [(.ref r275), (.ref r276), (.ref (A 0))])) rfl (by rw [hml]; rfl) (Steps.refl _) (argsL := [(.ref r275)]) (rest := [(.ref (A 0))]) (lenOf own_pd8 rfl) rfl (by show 2 * 0 + _ ≤ _; exact Nat.le_of_eq rfl) (hb hby own_d_prog_3_method_5_code_3) (fun _ _ => ⟨rfl, e0, (by decide : 0 + 0 ≤ _), (by decide : 0 + 0 ≤ _)⟩)
  dsimp only [Pt.U, Pt.locs, Pt.cells, Pt.slots] at X283 l283 y283 z283 st283 hQ283
  subst l283 y283 z283
  obtain ⟨rfl, N283q, e283⟩ := hQ283
  have N283 := Fr.app N0 N283q
  obtain ⟨cq284, q284, q284'⟩ := (EN.1.2.1.ext OL0.2).cell
  obtain ⟨_, _, ⟨T284, L284, k284, n284⟩, -, X284, ⟨Lc284, hQ284, l284, y284, z284⟩, st284⟩ := X283.privateBack hx (y := own_m1) hown (mvT hZ (hw _ (List.mem_of_getElem? (i := 57) rfl))) (mvT hZ (hw _ (List.mem_of_getElem? (i := 58) rfl))) (own_selpS (y := own_m1) (mvT hZ (hw _ (List.mem_of_getElem? (i := 18) rfl))) rfl (mvP (args := #[]) hZ (hw _ (List.mem_of_getElem? (i := 59) rfl))) (mvT hZ (hw _ (List.mem_of_getElem? (i := 58) rfl))) (by decide)) (Cond.privateMethod_at (mvP hZ (hw _ (List.mem_of_getElem? (i := 59) rfl)) (args := #[]))) (mvT hZ (hw _ (List.mem_of_getElem? (i := 60) rfl))) (by decide) (backOf (W := 0) (rm10 l Z a0 hw [] h0 n0 p1 p2 p3 A K EN OL0) hZ (hw _ (List.mem_of_getElem? (i := 60) rfl)) (hw _ (List.mem_of_getElem? (i := 6) rfl)) (by decide) (by decide)) (g := (mkF m 8 #[.val (.ref (A 0)), .val (.ref r276), .val (.ref r275)] [(.int (-1 : Int32)), (.ref (A 0))])) rfl (by rw [hml]; rfl) (Steps.refl _) (a := (A 0)) (by rw [e283]; exact q284) q284' (argsL := [(.int (-1 : Int32))]) (rest := []) (lenOf own_pd9 rfl) rfl (by show 2 * 0 + _ ≤ _; exact Nat.le_of_eq rfl) (hb hby own_d_prog_3_method_5_code_8) (fun _ _ => ⟨rfl, e283, (by decide : 0 + 0 ≤ _), (by decide : 0 + 0 ≤ _)⟩)
  dsimp only [Pt.U, Pt.locs, Pt.cells, Pt.slots] at X284 l284 y284 z284 st284 hQ284
  subst l284 y284 z284
  obtain ⟨rfl, N284q, e284⟩ := hQ284
  have N284 := Fr.app N283 N284q
  obtain ⟨fs, hr, hrun, hended, hW, hsame⟩ := X284.leave (v := some (.int (1 : Int32))) (fun h => by rw [Bd.returns] at h; cases h)
  refine ⟨_, _, pre0 _ ?_, hrun, hended, _, _, rfl, ?_, ⟨_, rfl⟩, hW, hsame.mono (by decide) (by decide)⟩
  · show Steps p.tables e below (s₁.setTop (mkF m 0 #[.val (.ref (A 0)), .val (.ref r276), .val (.ref r275)] [])) _
    refine XS.aloadN X0.here hx rfl (hb hby own_d_prog_3_method_5_code_0) rfl rfl ?_
    show Steps p.tables e below (s₁.setTop (mkF m 1 #[.val (.ref (A 0)), .val (.ref r276), .val (.ref r275)] [(.ref (A 0))])) _
    refine XS.aloadN X0.here hx rfl (hb hby own_d_prog_3_method_5_code_1) rfl rfl ?_
    show Steps p.tables e below (s₁.setTop (mkF m 2 #[.val (.ref (A 0)), .val (.ref r276), .val (.ref r275)] [(.ref r276), (.ref (A 0))])) _
    refine XS.aloadN X0.here hx rfl (hb hby own_d_prog_3_method_5_code_2) rfl rfl ?_
    show Steps p.tables e below (s₁.setTop (mkF m 3 #[.val (.ref (A 0)), .val (.ref r276), .val (.ref r275)] [(.ref r275), (.ref r276), (.ref (A 0))])) _
    refine st283.trans ?_
    show Steps p.tables e below (T283.setTop (mkF m 8 #[.val (.ref (A 0)), .val (.ref r276), .val (.ref r275)] [(.int (-1 : Int32)), (.ref (A 0))])) _
    refine st284.trans ?_
    show Steps p.tables e below (T284.setTop (mkF m 11 #[.val (.ref (A 0)), .val (.ref r276), .val (.ref r275)] [(.int (1 : Int32))])) _
    exact retN X284 hx (t := .boolean) Bd.returns (by simp) (hb hby own_d_prog_3_method_5_code_11) hr
  · show PQ (some (.int (1 : Int32))) h0 n0 _ T284.heap _
    rw [e284]
    exact ⟨rfl, N284, rfl⟩
theorem own_ef_rm0 (m : MethodId) (p1 : Int32) (p2 : Int32) (p3 : Int32) (A : Nat → Addr) (K : Nat → ClassId) : entryFrame m #[(.int p1), (.int p2), (.int p3)] maxLocals = mkF m 0 #[.val (.int p1), .val (.int p2), .val (.int p3), .unset, .unset, .unset, .unset, .unset, .unset] [] := by first | (simp [entryFrame, mkF, argsToLocals, Value.category, maxLocals]; done) | rfl
set_option maxRecDepth 65536 in
set_option maxHeartbeats 40000000 in
theorem rm0 (l : Launch) (Z : State) (a0 : Array Value) (hw : ∀ d ∈ tables_1, d.before a0 Z = true) (ws : List Jvm.Cond) (h0 : Heap) (n0 : Nat) (p1 : Int32) (p2 : Int32) (p3 : Int32) (A : Nat → Addr) (K : Nat → ClassId) (EN : own_St Z A K) (OL0 : Old Z n0 h0) :
    MetFree l x (head1 (Jvm.Cond.code x code maxLocals ret :: ws) room_1) (fun a U => a = #[(.int p1), (.int p2), (.int p3)] ∧ Z.Warmed39 U.vm ∧ U.heap = h0) (fun _ _ _ _ _ => True) (fun _ U o U' => ∃ v L, o = .returned v ∧ (LQ n0) v U'.heap L ∧ FrameEnd U o U' L room_1.cells room_1.slots) := by
  refine MetFree.of_bodySF (plainFor_of_name own_pn2) hisR ?_
  intro p e s m args below meth c s₁ Bd hml0 hP hK
  obtain ⟨rfl, hZ, hh⟩ := hP
  have hx := Bd.exec
  have hby := Bd.bytes
  have hml : c.maxLocals = 9 := hml0
  have hown : s.vm.findClass "com/example/measurewright/measurewright/ComparisonConversePinLaw" = some m.cls := findClass_of_methodNamed Bd.named
  have hnm := (name_of_methodNamed Bd.named Bd.method).1
  have X0 : Stand p l e room_1 s m #[(.int p1), (.int p2), (.int p3)] below meth c s₁ [] 0 0 := Stand.of_body Bd
  have e0 : s₁.heap = h0 := by rw [← hh, Bd.state]; rfl
  have N0 := Fr.nil n0
  have pre0 : ∀ t, Steps p.tables e below (s₁.setTop (mkF m 0 #[.val (.int p1), .val (.int p2), .val (.int p3), .unset, .unset, .unset, .unset, .unset, .unset] [])) t → Steps p.tables e below (s₁.setTop (entryFrame m #[(.int p1), (.int p2), (.int p3)] maxLocals)) t := fun t k => castTop (own_ef_rm0 m p1 p2 p3 A K) k
  have KK0 : Keep h0 h0 [] := Keep.refl _ _
  obtain ⟨nn16, hn16, hk16⟩ := own_k p1
  match nn16, hn16, hk16 with
  | 0, _, hk16 =>
    by_cases hp_17 : p2 < p3
    · obtain ⟨_, _, ⟨T19, L19, k19, n19⟩, -, X19, ⟨Lc19, hQ19, l19, y19, z19⟩, st19⟩ := Jvm.LawKit.callS X0 hx (y := own_m7) hown (mvT hZ (hw _ (List.mem_of_getElem? (i := 0) rfl))) (mvT hZ (hw _ (List.mem_of_getElem? (i := 1) rfl))) (mvT hZ (hw _ (List.mem_of_getElem? (i := 2) rfl))) (mvT hZ (hw _ (List.mem_of_getElem? (i := 3) rfl))) (by decide) (backOf (W := 0) (rm3 l Z a0 hw [] h0 n0 p1 p2 p3 A K EN OL0 hk16) hZ (hw _ (List.mem_of_getElem? (i := 3) rfl)) (hw _ (List.mem_of_getElem? (i := 2) rfl)) (by decide) (by decide)) (g := (mkF m 1 #[.val (.int p1), .val (.int p2), .val (.int p3), .unset, .unset, .unset, .unset, .unset, .unset] [(.int p1)])) rfl (by rw [hml]; rfl) (argsL := [(.int p1)]) (rest := []) (lenOf own_pd2 rfl) rfl (by show 2 * 0 + _ ≤ _; exact Nat.le_of_eq rfl) (hb hby at_1) (fun _ _ => ⟨rfl, e0, (by decide : 0 + 0 ≤ _), (by decide : 0 + 0 ≤ _)⟩)
      dsimp only [Pt.U, Pt.locs, Pt.cells, Pt.slots] at X19 l19 y19 z19 st19 hQ19
      subst l19 y19 z19
      obtain ⟨rfl, N19q, e19⟩ := hQ19
      have N19 := Fr.app N0 N19q
      obtain ⟨_, _, ⟨T20, L20, k20, n20⟩, -, X20, ⟨Lc20, hQ20, l20, y20, z20⟩, st20⟩ := Jvm.LawKit.callS X19 hx (y := own_m4) hown (mvT hZ (hw _ (List.mem_of_getElem? (i := 8) rfl))) (mvT hZ (hw _ (List.mem_of_getElem? (i := 9) rfl))) (mvT hZ (hw _ (List.mem_of_getElem? (i := 10) rfl))) (mvT hZ (hw _ (List.mem_of_getElem? (i := 11) rfl))) (by decide) (backOf (W := 0) (rmV l Z a0 hw [] h0 n0 A K p2 EN OL0) hZ (hw _ (List.mem_of_getElem? (i := 11) rfl)) (hw _ (List.mem_of_getElem? (i := 10) rfl)) (by decide) (by decide)) (g := (mkF m 6 #[.val (.int p1), .val (.int p2), .val (.int p3), .val (.ref (A 0)), .unset, .unset, .unset, .unset, .unset] [(.int p2)])) rfl (by rw [hml]; rfl) (argsL := [(.int p2)]) (rest := []) (lenOf own_pd3 rfl) rfl (by show 2 * 0 + _ ≤ _; exact Nat.le_of_eq rfl) (hb hby at_6) (fun _ _ => ⟨rfl, e19, (by decide : 0 + 1 ≤ _), (by decide : 0 + 1 ≤ _)⟩)
      dsimp only [Pt.U, Pt.locs, Pt.cells, Pt.slots] at X20 l20 y20 z20 st20 hQ20
      subst l20 y20 z20
      obtain ⟨r20, rfl, N20q, K20c, er20, fr20⟩ := hQ20
      have N20 := Fr.app N19 N20q
      have OL20 : Old Z n0 T20.heap := OL0.keep K20c all0
      have KK20 : Keep h0 T20.heap [] := KK0.trans K20c all0
      obtain ⟨_, _, ⟨T21, L21, k21, n21⟩, -, X21, ⟨Lc21, hQ21, l21, y21, z21⟩, st21⟩ := Jvm.LawKit.callS X20 hx (y := own_m4) hown (mvT hZ (hw _ (List.mem_of_getElem? (i := 8) rfl))) (mvT hZ (hw _ (List.mem_of_getElem? (i := 9) rfl))) (mvT hZ (hw _ (List.mem_of_getElem? (i := 10) rfl))) (mvT hZ (hw _ (List.mem_of_getElem? (i := 11) rfl))) (by decide) (backOf (W := 0) (rmV l Z a0 hw [] T20.heap n0 A K p3 EN OL20) hZ (hw _ (List.mem_of_getElem? (i := 11) rfl)) (hw _ (List.mem_of_getElem? (i := 10) rfl)) (by decide) (by decide)) (g := (mkF m 12 #[.val (.int p1), .val (.int p2), .val (.int p3), .val (.ref (A 0)), .val (.ref r20), .unset, .unset, .unset, .unset] [(.int p3)])) rfl (by rw [hml]; rfl) (argsL := [(.int p3)]) (rest := []) (lenOf own_pd3 rfl) rfl (by show 2 * 0 + _ ≤ _; exact Nat.le_of_eq rfl) (hb hby at_12) (fun _ _ => ⟨rfl, rfl, (by decide : 1 + 1 ≤ _), (by decide : 1 + 1 ≤ _)⟩)
      dsimp only [Pt.U, Pt.locs, Pt.cells, Pt.slots] at X21 l21 y21 z21 st21 hQ21
      subst l21 y21 z21
      obtain ⟨r21, rfl, N21q, K21c, er21, fr21⟩ := hQ21
      have N21 := Fr.app N20 N21q
      have OL21 : Old Z n0 T21.heap := OL20.keep K21c all0
      have KK21 : Keep h0 T21.heap [] := KK20.trans K21c all0
      obtain ⟨cq25, kq25, q25a, q25b, q25c⟩ := isOf hZ rfl (EN.1.2.1.ext OL21.2)
      obtain ⟨_, _, ⟨T25, L25, k25, n25⟩, -, X25, ⟨Lc25, hQ25, l25, y25, z25⟩, st25⟩ := X21.virtualBack hx (y := own_m2) (z := own_m2) hown (mvT hZ (hw _ (List.mem_of_getElem? (i := 15) rfl))) (mvT hZ (hw _ (List.mem_of_getElem? (i := 16) rfl))) (notFace_of_selects (args := #[]) (mvT hZ (hw _ (List.mem_of_getElem? (i := 18) rfl)))) (mvT hZ (hw _ (List.mem_of_getElem? (i := 18) rfl))) (mvT hZ (hw _ (List.mem_of_getElem? (i := 17) rfl))) (by decide) (backOf (W := 0) (rm4 l Z a0 hw [] T21.heap n0 p1 p2 p3 A K EN OL21) hZ (hw _ (List.mem_of_getElem? (i := 19) rfl)) (hw _ (List.mem_of_getElem? (i := 6) rfl)) (by decide) (by decide)) q25a q25c (g := (mkF m 18 #[.val (.int p1), .val (.int p2), .val (.int p3), .val (.ref (A 0)), .val (.ref r20), .val (.ref r21), .unset, .unset, .unset] [(.ref (A 0))])) rfl (by rw [hml]; rfl) (Steps.refl _) (argsL := []) (rest := []) (lenOf own_pd5 rfl) rfl (by show 2 * 0 + _ ≤ _; exact Nat.le_of_eq rfl) (hb hby at_18) (fun _ _ => ⟨rfl, rfl, (by decide : 2 + 0 ≤ _), (by decide : 2 + 0 ≤ _)⟩)
      dsimp only [Pt.U, Pt.locs, Pt.cells, Pt.slots] at X25 l25 y25 z25 st25 hQ25
      subst l25 y25 z25
      obtain ⟨rfl, N25q, e25⟩ := hQ25
      have N25 := Fr.app N21 N25q
      have fx34 : Exa Z T21.heap r20 "java/lang/Integer" := (er20.keep K21c)
      have fx35 : Fld Z T21.heap r20 "java/lang/Integer" "value" "I" (.int p2) := (fr20.keep K21c nin0)
      obtain ⟨cq36, kq36, q36a, q36b, q36c⟩ := isOf hZ e25 (EN.1.2.1.ext OL21.2)
      obtain ⟨_, _, ⟨T36, L36, k36, n36⟩, -, X36, ⟨Lc36, hQ36, l36, y36, z36⟩, st36⟩ := X25.virtualBack hx (y := own_m0) (z := own_m0) hown (mvT hZ (hw _ (List.mem_of_getElem? (i := 31) rfl))) (mvT hZ (hw _ (List.mem_of_getElem? (i := 32) rfl))) (notFace_of_selects (args := #[]) (mvT hZ (hw _ (List.mem_of_getElem? (i := 34) rfl)))) (mvT hZ (hw _ (List.mem_of_getElem? (i := 34) rfl))) (mvT hZ (hw _ (List.mem_of_getElem? (i := 33) rfl))) (by decide) (backOf (W := 0) (rm6 l Z a0 hw [] T21.heap n0 p1 p2 p3 A K r20 r21 EN OL21 fx34 er21 fx35 fr21 hp_17) hZ (hw _ (List.mem_of_getElem? (i := 35) rfl)) (hw _ (List.mem_of_getElem? (i := 6) rfl)) (by decide) (by decide)) q36a q36c (g := (mkF m 35 #[.val (.int p1), .val (.int p2), .val (.int p3), .val (.ref (A 0)), .val (.ref r20), .val (.ref r21), .val (.ref (A 4)), .unset, .unset] [(.ref r21), (.ref r20), (.ref (A 0))])) rfl (by rw [hml]; rfl) (Steps.refl _) (argsL := [(.ref r20), (.ref r21)]) (rest := []) (lenOf own_pd10 rfl) rfl (by show 2 * 0 + _ ≤ _; exact Nat.le_of_eq rfl) (hb hby at_35) (fun _ _ => ⟨rfl, e25, (by decide : 2 + 0 ≤ _), (by decide : 2 + 0 ≤ _)⟩)
      dsimp only [Pt.U, Pt.locs, Pt.cells, Pt.slots] at X36 l36 y36 z36 st36 hQ36
      subst l36 y36 z36
      obtain ⟨rfl, N36q, e36⟩ := hQ36
      have N36 := Fr.app N25 N36q
      obtain ⟨cq46, kq46, q46a, q46b, q46c⟩ := isOf hZ e36 (EN.2.1.2.1.ext OL21.2)
      obtain ⟨_, _, ⟨T46, L46, k46, n46⟩, -, X46, ⟨Lc46, hQ46, l46, y46, z46⟩, st46⟩ := X36.virtualBack hx (y := own_m0) (z := own_m0) hown (mvT hZ (hw _ (List.mem_of_getElem? (i := 31) rfl))) (mvT hZ (hw _ (List.mem_of_getElem? (i := 32) rfl))) (notFace_of_selects (args := #[]) (mvT hZ (hw _ (List.mem_of_getElem? (i := 34) rfl)))) (mvT hZ (hw _ (List.mem_of_getElem? (i := 34) rfl))) (mvT hZ (hw _ (List.mem_of_getElem? (i := 33) rfl))) (by decide) (backOf (W := 1) (rm11 l Z a0 hw [] T21.heap n0 p1 p2 p3 A K r20 r21 EN OL21 er21 fx34 fr21 fx35 hp_17) hZ (hw _ (List.mem_of_getElem? (i := 35) rfl)) (hw _ (List.mem_of_getElem? (i := 6) rfl)) (by decide) (by decide)) q46a q46c (g := (mkF m 44 #[.val (.int p1), .val (.int p2), .val (.int p3), .val (.ref (A 0)), .val (.ref r20), .val (.ref r21), .val (.ref (A 4)), .unset, .unset] [(.ref r20), (.ref r21), (.ref (A 4)), (.int (1 : Int32))])) rfl (by rw [hml]; rfl) (Steps.refl _) (argsL := [(.ref r21), (.ref r20)]) (rest := [(.int (1 : Int32))]) (lenOf own_pd10 rfl) rfl (by show 2 * 0 + _ ≤ _; exact Nat.le_of_eq rfl) (hb hby at_44) (fun _ _ => ⟨rfl, e36, (by decide : 2 + 0 ≤ _), (by decide : 2 + 0 ≤ _)⟩)
      dsimp only [Pt.U, Pt.locs, Pt.cells, Pt.slots] at X46 l46 y46 z46 st46 hQ46
      subst l46 y46 z46
      obtain ⟨rfl, N46q, e46⟩ := hQ46
      have N46 := Fr.app N36 N46q
      obtain ⟨cq49, kq49, q49a, q49b, q49c⟩ := isOf hZ e46 (EN.2.1.2.1.ext OL21.2)
      obtain ⟨_, _, ⟨T49, L49, k49, n49⟩, -, X49, ⟨Lc49, hQ49, l49, y49, z49⟩, st49⟩ := X46.virtualBack hx (y := own_m2) (z := own_m2) hown (mvT hZ (hw _ (List.mem_of_getElem? (i := 15) rfl))) (mvT hZ (hw _ (List.mem_of_getElem? (i := 16) rfl))) (notFace_of_selects (args := #[]) (mvT hZ (hw _ (List.mem_of_getElem? (i := 18) rfl)))) (mvT hZ (hw _ (List.mem_of_getElem? (i := 18) rfl))) (mvT hZ (hw _ (List.mem_of_getElem? (i := 17) rfl))) (by decide) (backOf (W := 0) (rm17 l Z a0 hw [] T21.heap n0 p1 p2 p3 A K EN OL21) hZ (hw _ (List.mem_of_getElem? (i := 19) rfl)) (hw _ (List.mem_of_getElem? (i := 6) rfl)) (by decide) (by decide)) q49a q49c (g := (mkF m 59 #[.val (.int p1), .val (.int p2), .val (.int p3), .val (.ref (A 0)), .val (.ref r20), .val (.ref r21), .val (.ref (A 4)), .val (.int (1 : Int32)), .unset] [(.ref (A 4))])) rfl (by rw [hml]; rfl) (Steps.refl _) (argsL := []) (rest := []) (lenOf own_pd5 rfl) rfl (by show 2 * 0 + _ ≤ _; exact Nat.le_of_eq rfl) (hb hby at_59) (fun _ _ => ⟨rfl, e46, (by decide : 2 + 0 ≤ _), (by decide : 2 + 0 ≤ _)⟩)
      dsimp only [Pt.U, Pt.locs, Pt.cells, Pt.slots] at X49 l49 y49 z49 st49 hQ49
      subst l49 y49 z49
      obtain ⟨rfl, N49q, e49⟩ := hQ49
      have N49 := Fr.app N46 N49q
      obtain ⟨fs, hr, hrun, hended, hW, hsame⟩ := X49.leave (v := some (.int (1 : Int32))) (fun h => by rw [Bd.returns] at h; cases h)
      refine ⟨_, _, pre0 _ ?_, hrun, hended, _, _, rfl, ?_, ⟨_, rfl⟩, hW, hsame.mono (by decide) (by decide)⟩
      · show Steps p.tables e below (s₁.setTop (mkF m 0 #[.val (.int p1), .val (.int p2), .val (.int p3), .unset, .unset, .unset, .unset, .unset, .unset] [])) _
        refine XS.iloadN X0.here hx rfl (hb hby at_0) rfl ?_
        show Steps p.tables e below (s₁.setTop (mkF m 1 #[.val (.int p1), .val (.int p2), .val (.int p3), .unset, .unset, .unset, .unset, .unset, .unset] [(.int p1)])) _
        refine st19 _ ?_
        show Steps p.tables e below (T19.setTop (mkF m 4 #[.val (.int p1), .val (.int p2), .val (.int p3), .unset, .unset, .unset, .unset, .unset, .unset] [(.ref (A 0))])) _
        refine XS.astoreN X19.here hx rfl (hb hby at_4) rfl rfl (l' := #[.val (.int p1), .val (.int p2), .val (.int p3), .val (.ref (A 0)), .unset, .unset, .unset, .unset, .unset]) rfl ?_
        show Steps p.tables e below (T19.setTop (mkF m 5 #[.val (.int p1), .val (.int p2), .val (.int p3), .val (.ref (A 0)), .unset, .unset, .unset, .unset, .unset] [])) _
        refine XS.iloadN X19.here hx rfl (hb hby at_5) rfl ?_
        show Steps p.tables e below (T19.setTop (mkF m 6 #[.val (.int p1), .val (.int p2), .val (.int p3), .val (.ref (A 0)), .unset, .unset, .unset, .unset, .unset] [(.int p2)])) _
        refine st20 _ ?_
        show Steps p.tables e below (T20.setTop (mkF m 9 #[.val (.int p1), .val (.int p2), .val (.int p3), .val (.ref (A 0)), .unset, .unset, .unset, .unset, .unset] [(.ref r20)])) _
        refine XS.astore X20.here hx rfl (hb hby at_9) rfl rfl (l' := #[.val (.int p1), .val (.int p2), .val (.int p3), .val (.ref (A 0)), .val (.ref r20), .unset, .unset, .unset, .unset]) rfl ?_
        show Steps p.tables e below (T20.setTop (mkF m 11 #[.val (.int p1), .val (.int p2), .val (.int p3), .val (.ref (A 0)), .val (.ref r20), .unset, .unset, .unset, .unset] [])) _
        refine XS.iloadN X20.here hx rfl (hb hby at_11) rfl ?_
        show Steps p.tables e below (T20.setTop (mkF m 12 #[.val (.int p1), .val (.int p2), .val (.int p3), .val (.ref (A 0)), .val (.ref r20), .unset, .unset, .unset, .unset] [(.int p3)])) _
        refine st21 _ ?_
        show Steps p.tables e below (T21.setTop (mkF m 15 #[.val (.int p1), .val (.int p2), .val (.int p3), .val (.ref (A 0)), .val (.ref r20), .unset, .unset, .unset, .unset] [(.ref r21)])) _
        refine XS.astore X21.here hx rfl (hb hby at_15) rfl rfl (l' := #[.val (.int p1), .val (.int p2), .val (.int p3), .val (.ref (A 0)), .val (.ref r20), .val (.ref r21), .unset, .unset, .unset]) rfl ?_
        show Steps p.tables e below (T21.setTop (mkF m 17 #[.val (.int p1), .val (.int p2), .val (.int p3), .val (.ref (A 0)), .val (.ref r20), .val (.ref r21), .unset, .unset, .unset] [])) _
        refine XS.aloadN X21.here hx rfl (hb hby at_17) rfl rfl ?_
        show Steps p.tables e below (T21.setTop (mkF m 18 #[.val (.int p1), .val (.int p2), .val (.int p3), .val (.ref (A 0)), .val (.ref r20), .val (.ref r21), .unset, .unset, .unset] [(.ref (A 0))])) _
        refine st25.trans ?_
        show Steps p.tables e below (T25.setTop (mkF m 21 #[.val (.int p1), .val (.int p2), .val (.int p3), .val (.ref (A 0)), .val (.ref r20), .val (.ref r21), .unset, .unset, .unset] [(.ref (A 4))])) _
        refine XS.astore X25.here hx rfl (hb hby at_21) rfl rfl (l' := #[.val (.int p1), .val (.int p2), .val (.int p3), .val (.ref (A 0)), .val (.ref r20), .val (.ref r21), .val (.ref (A 4)), .unset, .unset]) rfl ?_
        show Steps p.tables e below (T25.setTop (mkF m 23 #[.val (.int p1), .val (.int p2), .val (.int p3), .val (.ref (A 0)), .val (.ref r20), .val (.ref r21), .val (.ref (A 4)), .unset, .unset] [])) _
        refine XS.aload X25.here hx rfl (hb hby at_23) rfl rfl ?_
        show Steps p.tables e below (T25.setTop (mkF m 25 #[.val (.int p1), .val (.int p2), .val (.int p3), .val (.ref (A 0)), .val (.ref r20), .val (.ref r21), .val (.ref (A 4)), .unset, .unset] [(.ref (A 4))])) _
        refine XS.ifnonnullYes X25.here hx rfl (pc0 := 25) (pc' := 30) rfl (hb hby at_25) rfl (by decide) (by decide) ?_
        show Steps p.tables e below (T25.setTop (mkF m 30 #[.val (.int p1), .val (.int p2), .val (.int p3), .val (.ref (A 0)), .val (.ref r20), .val (.ref r21), .val (.ref (A 4)), .unset, .unset] [])) _
        refine XS.aloadN X25.here hx rfl (hb hby at_30) rfl rfl ?_
        show Steps p.tables e below (T25.setTop (mkF m 31 #[.val (.int p1), .val (.int p2), .val (.int p3), .val (.ref (A 0)), .val (.ref r20), .val (.ref r21), .val (.ref (A 4)), .unset, .unset] [(.ref (A 0))])) _
        refine XS.aload X25.here hx rfl (hb hby at_31) rfl rfl ?_
        show Steps p.tables e below (T25.setTop (mkF m 33 #[.val (.int p1), .val (.int p2), .val (.int p3), .val (.ref (A 0)), .val (.ref r20), .val (.ref r21), .val (.ref (A 4)), .unset, .unset] [(.ref r20), (.ref (A 0))])) _
        refine XS.aload X25.here hx rfl (hb hby at_33) rfl rfl ?_
        show Steps p.tables e below (T25.setTop (mkF m 35 #[.val (.int p1), .val (.int p2), .val (.int p3), .val (.ref (A 0)), .val (.ref r20), .val (.ref r21), .val (.ref (A 4)), .unset, .unset] [(.ref r21), (.ref r20), (.ref (A 0))])) _
        refine st36.trans ?_
        show Steps p.tables e below (T36.setTop (mkF m 38 #[.val (.int p1), .val (.int p2), .val (.int p3), .val (.ref (A 0)), .val (.ref r20), .val (.ref r21), .val (.ref (A 4)), .unset, .unset] [(.int (1 : Int32))])) _
        refine XS.aload X36.here hx rfl (hb hby at_38) rfl rfl ?_
        show Steps p.tables e below (T36.setTop (mkF m 40 #[.val (.int p1), .val (.int p2), .val (.int p3), .val (.ref (A 0)), .val (.ref r20), .val (.ref r21), .val (.ref (A 4)), .unset, .unset] [(.ref (A 4)), (.int (1 : Int32))])) _
        refine XS.aload X36.here hx rfl (hb hby at_40) rfl rfl ?_
        show Steps p.tables e below (T36.setTop (mkF m 42 #[.val (.int p1), .val (.int p2), .val (.int p3), .val (.ref (A 0)), .val (.ref r20), .val (.ref r21), .val (.ref (A 4)), .unset, .unset] [(.ref r21), (.ref (A 4)), (.int (1 : Int32))])) _
        refine XS.aload X36.here hx rfl (hb hby at_42) rfl rfl ?_
        show Steps p.tables e below (T36.setTop (mkF m 44 #[.val (.int p1), .val (.int p2), .val (.int p3), .val (.ref (A 0)), .val (.ref r20), .val (.ref r21), .val (.ref (A 4)), .unset, .unset] [(.ref r20), (.ref r21), (.ref (A 4)), (.int (1 : Int32))])) _
        refine st46.trans ?_
        show Steps p.tables e below (T46.setTop (mkF m 47 #[.val (.int p1), .val (.int p2), .val (.int p3), .val (.ref (A 0)), .val (.ref r20), .val (.ref r21), .val (.ref (A 4)), .unset, .unset] [(.int (1 : Int32)), (.int (1 : Int32))])) _
        refine XS.icmpNo X46.here hx rfl (hb hby at_47) rfl (teq (by decide : (1 : Int32) = (1 : Int32))).2 ?_
        show Steps p.tables e below (T46.setTop (mkF m 50 #[.val (.int p1), .val (.int p2), .val (.int p3), .val (.ref (A 0)), .val (.ref r20), .val (.ref r21), .val (.ref (A 4)), .unset, .unset] [])) _
        refine XS.iconst X46.here hx rfl (hb hby at_50) ?_
        show Steps p.tables e below (T46.setTop (mkF m 51 #[.val (.int p1), .val (.int p2), .val (.int p3), .val (.ref (A 0)), .val (.ref r20), .val (.ref r21), .val (.ref (A 4)), .unset, .unset] [(.int (1 : Int32))])) _
        refine XS.goto X46.here hx rfl (pc0 := 51) (pc' := 55) rfl (hb hby at_51) (by decide) (by decide) ?_
        show Steps p.tables e below (T46.setTop (mkF m 55 #[.val (.int p1), .val (.int p2), .val (.int p3), .val (.ref (A 0)), .val (.ref r20), .val (.ref r21), .val (.ref (A 4)), .unset, .unset] [(.int (1 : Int32))])) _
        refine XS.istore X46.here hx rfl (hb hby at_55) rfl (l' := #[.val (.int p1), .val (.int p2), .val (.int p3), .val (.ref (A 0)), .val (.ref r20), .val (.ref r21), .val (.ref (A 4)), .val (.int (1 : Int32)), .unset]) rfl ?_
        show Steps p.tables e below (T46.setTop (mkF m 57 #[.val (.int p1), .val (.int p2), .val (.int p3), .val (.ref (A 0)), .val (.ref r20), .val (.ref r21), .val (.ref (A 4)), .val (.int (1 : Int32)), .unset] [])) _
        refine XS.aload X46.here hx rfl (hb hby at_57) rfl rfl ?_
        show Steps p.tables e below (T46.setTop (mkF m 59 #[.val (.int p1), .val (.int p2), .val (.int p3), .val (.ref (A 0)), .val (.ref r20), .val (.ref r21), .val (.ref (A 4)), .val (.int (1 : Int32)), .unset] [(.ref (A 4))])) _
        refine st49.trans ?_
        show Steps p.tables e below (T49.setTop (mkF m 62 #[.val (.int p1), .val (.int p2), .val (.int p3), .val (.ref (A 0)), .val (.ref r20), .val (.ref r21), .val (.ref (A 4)), .val (.int (1 : Int32)), .unset] [(.ref (A 0))])) _
        refine XS.aloadN X49.here hx rfl (hb hby at_62) rfl rfl ?_
        show Steps p.tables e below (T49.setTop (mkF m 63 #[.val (.int p1), .val (.int p2), .val (.int p3), .val (.ref (A 0)), .val (.ref r20), .val (.ref r21), .val (.ref (A 4)), .val (.int (1 : Int32)), .unset] [(.ref (A 0)), (.ref (A 0))])) _
        refine Jvm.RoadKit.acmp (g := (mkF m 63 #[.val (.int p1), .val (.int p2), .val (.int p3), .val (.ref (A 0)), .val (.ref r20), .val (.ref r21), .val (.ref (A 4)), .val (.int (1 : Int32)), .unset] [(.ref (A 0)), (.ref (A 0))])) X49 hx rfl rfl rfl (pc0 := 63) (pc' := 66) (same := true) rfl (hb hby at_63) rfl (decide_eq_true rfl) (by decide) (by decide) ?_
        show Steps p.tables e below (T49.setTop (mkF m 66 #[.val (.int p1), .val (.int p2), .val (.int p3), .val (.ref (A 0)), .val (.ref r20), .val (.ref r21), .val (.ref (A 4)), .val (.int (1 : Int32)), .unset] [])) _
        refine XS.iconst X49.here hx rfl (hb hby at_66) ?_
        show Steps p.tables e below (T49.setTop (mkF m 67 #[.val (.int p1), .val (.int p2), .val (.int p3), .val (.ref (A 0)), .val (.ref r20), .val (.ref r21), .val (.ref (A 4)), .val (.int (1 : Int32)), .unset] [(.int (1 : Int32))])) _
        refine XS.goto X49.here hx rfl (pc0 := 67) (pc' := 71) rfl (hb hby at_67) (by decide) (by decide) ?_
        show Steps p.tables e below (T49.setTop (mkF m 71 #[.val (.int p1), .val (.int p2), .val (.int p3), .val (.ref (A 0)), .val (.ref r20), .val (.ref r21), .val (.ref (A 4)), .val (.int (1 : Int32)), .unset] [(.int (1 : Int32))])) _
        refine XS.istore X49.here hx rfl (hb hby at_71) rfl (l' := #[.val (.int p1), .val (.int p2), .val (.int p3), .val (.ref (A 0)), .val (.ref r20), .val (.ref r21), .val (.ref (A 4)), .val (.int (1 : Int32)), .val (.int (1 : Int32))]) rfl ?_
        show Steps p.tables e below (T49.setTop (mkF m 73 #[.val (.int p1), .val (.int p2), .val (.int p3), .val (.ref (A 0)), .val (.ref r20), .val (.ref r21), .val (.ref (A 4)), .val (.int (1 : Int32)), .val (.int (1 : Int32))] [])) _
        refine XS.iload X49.here hx rfl (hb hby at_73) rfl ?_
        show Steps p.tables e below (T49.setTop (mkF m 75 #[.val (.int p1), .val (.int p2), .val (.int p3), .val (.ref (A 0)), .val (.ref r20), .val (.ref r21), .val (.ref (A 4)), .val (.int (1 : Int32)), .val (.int (1 : Int32))] [(.int (1 : Int32))])) _
        refine XS.ifNo X49.here hx rfl (hb hby at_75) rfl ((if0 _ _).trans (feq (by decide : ¬ ((1 : Int32) = (0 : Int32)))).1) ?_
        show Steps p.tables e below (T49.setTop (mkF m 78 #[.val (.int p1), .val (.int p2), .val (.int p3), .val (.ref (A 0)), .val (.ref r20), .val (.ref r21), .val (.ref (A 4)), .val (.int (1 : Int32)), .val (.int (1 : Int32))] [])) _
        refine XS.iload X49.here hx rfl (hb hby at_78) rfl ?_
        show Steps p.tables e below (T49.setTop (mkF m 80 #[.val (.int p1), .val (.int p2), .val (.int p3), .val (.ref (A 0)), .val (.ref r20), .val (.ref r21), .val (.ref (A 4)), .val (.int (1 : Int32)), .val (.int (1 : Int32))] [(.int (1 : Int32))])) _
        refine XS.ifNo X49.here hx rfl (hb hby at_80) rfl ((if0 _ _).trans (feq (by decide : ¬ ((1 : Int32) = (0 : Int32)))).1) ?_
        show Steps p.tables e below (T49.setTop (mkF m 83 #[.val (.int p1), .val (.int p2), .val (.int p3), .val (.ref (A 0)), .val (.ref r20), .val (.ref r21), .val (.ref (A 4)), .val (.int (1 : Int32)), .val (.int (1 : Int32))] [])) _
        refine XS.iconst X49.here hx rfl (hb hby at_83) ?_
        show Steps p.tables e below (T49.setTop (mkF m 84 #[.val (.int p1), .val (.int p2), .val (.int p3), .val (.ref (A 0)), .val (.ref r20), .val (.ref r21), .val (.ref (A 4)), .val (.int (1 : Int32)), .val (.int (1 : Int32))] [(.int (1 : Int32))])) _
        refine XS.goto X49.here hx rfl (pc0 := 84) (pc' := 88) rfl (hb hby at_84) (by decide) (by decide) ?_
        show Steps p.tables e below (T49.setTop (mkF m 88 #[.val (.int p1), .val (.int p2), .val (.int p3), .val (.ref (A 0)), .val (.ref r20), .val (.ref r21), .val (.ref (A 4)), .val (.int (1 : Int32)), .val (.int (1 : Int32))] [(.int (1 : Int32))])) _
        exact retN X49 hx (t := .boolean) Bd.returns (by simp) (hb hby at_88) hr
      · show LQ n0 _ T49.heap _
        exact ⟨rfl, N49, trivial⟩
    · by_cases hp_50 : p2 = p3
      · obtain ⟨_, _, ⟨T51, L51, k51, n51⟩, -, X51, ⟨Lc51, hQ51, l51, y51, z51⟩, st51⟩ := Jvm.LawKit.callS X0 hx (y := own_m7) hown (mvT hZ (hw _ (List.mem_of_getElem? (i := 0) rfl))) (mvT hZ (hw _ (List.mem_of_getElem? (i := 1) rfl))) (mvT hZ (hw _ (List.mem_of_getElem? (i := 2) rfl))) (mvT hZ (hw _ (List.mem_of_getElem? (i := 3) rfl))) (by decide) (backOf (W := 0) (rm3 l Z a0 hw [] h0 n0 p1 p2 p3 A K EN OL0 hk16) hZ (hw _ (List.mem_of_getElem? (i := 3) rfl)) (hw _ (List.mem_of_getElem? (i := 2) rfl)) (by decide) (by decide)) (g := (mkF m 1 #[.val (.int p1), .val (.int p2), .val (.int p3), .unset, .unset, .unset, .unset, .unset, .unset] [(.int p1)])) rfl (by rw [hml]; rfl) (argsL := [(.int p1)]) (rest := []) (lenOf own_pd2 rfl) rfl (by show 2 * 0 + _ ≤ _; exact Nat.le_of_eq rfl) (hb hby at_1) (fun _ _ => ⟨rfl, e0, (by decide : 0 + 0 ≤ _), (by decide : 0 + 0 ≤ _)⟩)
        dsimp only [Pt.U, Pt.locs, Pt.cells, Pt.slots] at X51 l51 y51 z51 st51 hQ51
        subst l51 y51 z51
        obtain ⟨rfl, N51q, e51⟩ := hQ51
        have N51 := Fr.app N0 N51q
        obtain ⟨_, _, ⟨T52, L52, k52, n52⟩, -, X52, ⟨Lc52, hQ52, l52, y52, z52⟩, st52⟩ := Jvm.LawKit.callS X51 hx (y := own_m4) hown (mvT hZ (hw _ (List.mem_of_getElem? (i := 8) rfl))) (mvT hZ (hw _ (List.mem_of_getElem? (i := 9) rfl))) (mvT hZ (hw _ (List.mem_of_getElem? (i := 10) rfl))) (mvT hZ (hw _ (List.mem_of_getElem? (i := 11) rfl))) (by decide) (backOf (W := 0) (rmV l Z a0 hw [] h0 n0 A K p2 EN OL0) hZ (hw _ (List.mem_of_getElem? (i := 11) rfl)) (hw _ (List.mem_of_getElem? (i := 10) rfl)) (by decide) (by decide)) (g := (mkF m 6 #[.val (.int p1), .val (.int p2), .val (.int p3), .val (.ref (A 0)), .unset, .unset, .unset, .unset, .unset] [(.int p2)])) rfl (by rw [hml]; rfl) (argsL := [(.int p2)]) (rest := []) (lenOf own_pd3 rfl) rfl (by show 2 * 0 + _ ≤ _; exact Nat.le_of_eq rfl) (hb hby at_6) (fun _ _ => ⟨rfl, e51, (by decide : 0 + 1 ≤ _), (by decide : 0 + 1 ≤ _)⟩)
        dsimp only [Pt.U, Pt.locs, Pt.cells, Pt.slots] at X52 l52 y52 z52 st52 hQ52
        subst l52 y52 z52
        obtain ⟨r52, rfl, N52q, K52c, er52, fr52⟩ := hQ52
        have N52 := Fr.app N51 N52q
        have OL52 : Old Z n0 T52.heap := OL0.keep K52c all0
        have KK52 : Keep h0 T52.heap [] := KK0.trans K52c all0
        obtain ⟨_, _, ⟨T53, L53, k53, n53⟩, -, X53, ⟨Lc53, hQ53, l53, y53, z53⟩, st53⟩ := Jvm.LawKit.callS X52 hx (y := own_m4) hown (mvT hZ (hw _ (List.mem_of_getElem? (i := 8) rfl))) (mvT hZ (hw _ (List.mem_of_getElem? (i := 9) rfl))) (mvT hZ (hw _ (List.mem_of_getElem? (i := 10) rfl))) (mvT hZ (hw _ (List.mem_of_getElem? (i := 11) rfl))) (by decide) (backOf (W := 0) (rmV l Z a0 hw [] T52.heap n0 A K p3 EN OL52) hZ (hw _ (List.mem_of_getElem? (i := 11) rfl)) (hw _ (List.mem_of_getElem? (i := 10) rfl)) (by decide) (by decide)) (g := (mkF m 12 #[.val (.int p1), .val (.int p2), .val (.int p3), .val (.ref (A 0)), .val (.ref r52), .unset, .unset, .unset, .unset] [(.int p3)])) rfl (by rw [hml]; rfl) (argsL := [(.int p3)]) (rest := []) (lenOf own_pd3 rfl) rfl (by show 2 * 0 + _ ≤ _; exact Nat.le_of_eq rfl) (hb hby at_12) (fun _ _ => ⟨rfl, rfl, (by decide : 1 + 1 ≤ _), (by decide : 1 + 1 ≤ _)⟩)
        dsimp only [Pt.U, Pt.locs, Pt.cells, Pt.slots] at X53 l53 y53 z53 st53 hQ53
        subst l53 y53 z53
        obtain ⟨r53, rfl, N53q, K53c, er53, fr53⟩ := hQ53
        have N53 := Fr.app N52 N53q
        have OL53 : Old Z n0 T53.heap := OL52.keep K53c all0
        have KK53 : Keep h0 T53.heap [] := KK52.trans K53c all0
        obtain ⟨cq54, kq54, q54a, q54b, q54c⟩ := isOf hZ rfl (EN.1.2.1.ext OL53.2)
        obtain ⟨_, _, ⟨T54, L54, k54, n54⟩, -, X54, ⟨Lc54, hQ54, l54, y54, z54⟩, st54⟩ := X53.virtualBack hx (y := own_m2) (z := own_m2) hown (mvT hZ (hw _ (List.mem_of_getElem? (i := 15) rfl))) (mvT hZ (hw _ (List.mem_of_getElem? (i := 16) rfl))) (notFace_of_selects (args := #[]) (mvT hZ (hw _ (List.mem_of_getElem? (i := 18) rfl)))) (mvT hZ (hw _ (List.mem_of_getElem? (i := 18) rfl))) (mvT hZ (hw _ (List.mem_of_getElem? (i := 17) rfl))) (by decide) (backOf (W := 0) (rm4 l Z a0 hw [] T53.heap n0 p1 p2 p3 A K EN OL53) hZ (hw _ (List.mem_of_getElem? (i := 19) rfl)) (hw _ (List.mem_of_getElem? (i := 6) rfl)) (by decide) (by decide)) q54a q54c (g := (mkF m 18 #[.val (.int p1), .val (.int p2), .val (.int p3), .val (.ref (A 0)), .val (.ref r52), .val (.ref r53), .unset, .unset, .unset] [(.ref (A 0))])) rfl (by rw [hml]; rfl) (Steps.refl _) (argsL := []) (rest := []) (lenOf own_pd5 rfl) rfl (by show 2 * 0 + _ ≤ _; exact Nat.le_of_eq rfl) (hb hby at_18) (fun _ _ => ⟨rfl, rfl, (by decide : 2 + 0 ≤ _), (by decide : 2 + 0 ≤ _)⟩)
        dsimp only [Pt.U, Pt.locs, Pt.cells, Pt.slots] at X54 l54 y54 z54 st54 hQ54
        subst l54 y54 z54
        obtain ⟨rfl, N54q, e54⟩ := hQ54
        have N54 := Fr.app N53 N54q
        have fx63 : Exa Z T53.heap r52 "java/lang/Integer" := (er52.keep K53c)
        have fx64 : Fld Z T53.heap r52 "java/lang/Integer" "value" "I" (.int p2) := (fr52.keep K53c nin0)
        obtain ⟨cq65, kq65, q65a, q65b, q65c⟩ := isOf hZ e54 (EN.1.2.1.ext OL53.2)
        obtain ⟨_, _, ⟨T65, L65, k65, n65⟩, -, X65, ⟨Lc65, hQ65, l65, y65, z65⟩, st65⟩ := X54.virtualBack hx (y := own_m0) (z := own_m0) hown (mvT hZ (hw _ (List.mem_of_getElem? (i := 31) rfl))) (mvT hZ (hw _ (List.mem_of_getElem? (i := 32) rfl))) (notFace_of_selects (args := #[]) (mvT hZ (hw _ (List.mem_of_getElem? (i := 34) rfl)))) (mvT hZ (hw _ (List.mem_of_getElem? (i := 34) rfl))) (mvT hZ (hw _ (List.mem_of_getElem? (i := 33) rfl))) (by decide) (backOf (W := 0) (rm18 l Z a0 hw [] T53.heap n0 p1 p2 p3 A K r52 r53 EN OL53 fx63 er53 fx64 fr53 hp_17 hp_50) hZ (hw _ (List.mem_of_getElem? (i := 35) rfl)) (hw _ (List.mem_of_getElem? (i := 6) rfl)) (by decide) (by decide)) q65a q65c (g := (mkF m 35 #[.val (.int p1), .val (.int p2), .val (.int p3), .val (.ref (A 0)), .val (.ref r52), .val (.ref r53), .val (.ref (A 4)), .unset, .unset] [(.ref r53), (.ref r52), (.ref (A 0))])) rfl (by rw [hml]; rfl) (Steps.refl _) (argsL := [(.ref r52), (.ref r53)]) (rest := []) (lenOf own_pd10 rfl) rfl (by show 2 * 0 + _ ≤ _; exact Nat.le_of_eq rfl) (hb hby at_35) (fun _ _ => ⟨rfl, e54, (by decide : 2 + 0 ≤ _), (by decide : 2 + 0 ≤ _)⟩)
        dsimp only [Pt.U, Pt.locs, Pt.cells, Pt.slots] at X65 l65 y65 z65 st65 hQ65
        subst l65 y65 z65
        obtain ⟨rfl, N65q, e65⟩ := hQ65
        have N65 := Fr.app N54 N65q
        obtain ⟨cq74, kq74, q74a, q74b, q74c⟩ := isOf hZ e65 (EN.2.1.2.1.ext OL53.2)
        obtain ⟨_, _, ⟨T74, L74, k74, n74⟩, -, X74, ⟨Lc74, hQ74, l74, y74, z74⟩, st74⟩ := X65.virtualBack hx (y := own_m0) (z := own_m0) hown (mvT hZ (hw _ (List.mem_of_getElem? (i := 31) rfl))) (mvT hZ (hw _ (List.mem_of_getElem? (i := 32) rfl))) (notFace_of_selects (args := #[]) (mvT hZ (hw _ (List.mem_of_getElem? (i := 34) rfl)))) (mvT hZ (hw _ (List.mem_of_getElem? (i := 34) rfl))) (mvT hZ (hw _ (List.mem_of_getElem? (i := 33) rfl))) (by decide) (backOf (W := 1) (rm23 l Z a0 hw [] T53.heap n0 p1 p2 p3 A K r52 r53 EN OL53 er53 fx63 fr53 fx64 hp_17 hp_50) hZ (hw _ (List.mem_of_getElem? (i := 35) rfl)) (hw _ (List.mem_of_getElem? (i := 6) rfl)) (by decide) (by decide)) q74a q74c (g := (mkF m 44 #[.val (.int p1), .val (.int p2), .val (.int p3), .val (.ref (A 0)), .val (.ref r52), .val (.ref r53), .val (.ref (A 4)), .unset, .unset] [(.ref r52), (.ref r53), (.ref (A 4)), (.int (0 : Int32))])) rfl (by rw [hml]; rfl) (Steps.refl _) (argsL := [(.ref r53), (.ref r52)]) (rest := [(.int (0 : Int32))]) (lenOf own_pd10 rfl) rfl (by show 2 * 0 + _ ≤ _; exact Nat.le_of_eq rfl) (hb hby at_44) (fun _ _ => ⟨rfl, e65, (by decide : 2 + 0 ≤ _), (by decide : 2 + 0 ≤ _)⟩)
        dsimp only [Pt.U, Pt.locs, Pt.cells, Pt.slots] at X74 l74 y74 z74 st74 hQ74
        subst l74 y74 z74
        obtain ⟨rfl, N74q, e74⟩ := hQ74
        have N74 := Fr.app N65 N74q
        obtain ⟨cq75, kq75, q75a, q75b, q75c⟩ := isOf hZ e74 (EN.2.1.2.1.ext OL53.2)
        obtain ⟨_, _, ⟨T75, L75, k75, n75⟩, -, X75, ⟨Lc75, hQ75, l75, y75, z75⟩, st75⟩ := X74.virtualBack hx (y := own_m2) (z := own_m2) hown (mvT hZ (hw _ (List.mem_of_getElem? (i := 15) rfl))) (mvT hZ (hw _ (List.mem_of_getElem? (i := 16) rfl))) (notFace_of_selects (args := #[]) (mvT hZ (hw _ (List.mem_of_getElem? (i := 18) rfl)))) (mvT hZ (hw _ (List.mem_of_getElem? (i := 18) rfl))) (mvT hZ (hw _ (List.mem_of_getElem? (i := 17) rfl))) (by decide) (backOf (W := 0) (rm17 l Z a0 hw [] T53.heap n0 p1 p2 p3 A K EN OL53) hZ (hw _ (List.mem_of_getElem? (i := 19) rfl)) (hw _ (List.mem_of_getElem? (i := 6) rfl)) (by decide) (by decide)) q75a q75c (g := (mkF m 59 #[.val (.int p1), .val (.int p2), .val (.int p3), .val (.ref (A 0)), .val (.ref r52), .val (.ref r53), .val (.ref (A 4)), .val (.int (1 : Int32)), .unset] [(.ref (A 4))])) rfl (by rw [hml]; rfl) (Steps.refl _) (argsL := []) (rest := []) (lenOf own_pd5 rfl) rfl (by show 2 * 0 + _ ≤ _; exact Nat.le_of_eq rfl) (hb hby at_59) (fun _ _ => ⟨rfl, e74, (by decide : 2 + 0 ≤ _), (by decide : 2 + 0 ≤ _)⟩)
        dsimp only [Pt.U, Pt.locs, Pt.cells, Pt.slots] at X75 l75 y75 z75 st75 hQ75
        subst l75 y75 z75
        obtain ⟨rfl, N75q, e75⟩ := hQ75
        have N75 := Fr.app N74 N75q
        obtain ⟨fs, hr, hrun, hended, hW, hsame⟩ := X75.leave (v := some (.int (1 : Int32))) (fun h => by rw [Bd.returns] at h; cases h)
        refine ⟨_, _, pre0 _ ?_, hrun, hended, _, _, rfl, ?_, ⟨_, rfl⟩, hW, hsame.mono (by decide) (by decide)⟩
        · show Steps p.tables e below (s₁.setTop (mkF m 0 #[.val (.int p1), .val (.int p2), .val (.int p3), .unset, .unset, .unset, .unset, .unset, .unset] [])) _
          refine XS.iloadN X0.here hx rfl (hb hby at_0) rfl ?_
          show Steps p.tables e below (s₁.setTop (mkF m 1 #[.val (.int p1), .val (.int p2), .val (.int p3), .unset, .unset, .unset, .unset, .unset, .unset] [(.int p1)])) _
          refine st51 _ ?_
          show Steps p.tables e below (T51.setTop (mkF m 4 #[.val (.int p1), .val (.int p2), .val (.int p3), .unset, .unset, .unset, .unset, .unset, .unset] [(.ref (A 0))])) _
          refine XS.astoreN X51.here hx rfl (hb hby at_4) rfl rfl (l' := #[.val (.int p1), .val (.int p2), .val (.int p3), .val (.ref (A 0)), .unset, .unset, .unset, .unset, .unset]) rfl ?_
          show Steps p.tables e below (T51.setTop (mkF m 5 #[.val (.int p1), .val (.int p2), .val (.int p3), .val (.ref (A 0)), .unset, .unset, .unset, .unset, .unset] [])) _
          refine XS.iloadN X51.here hx rfl (hb hby at_5) rfl ?_
          show Steps p.tables e below (T51.setTop (mkF m 6 #[.val (.int p1), .val (.int p2), .val (.int p3), .val (.ref (A 0)), .unset, .unset, .unset, .unset, .unset] [(.int p2)])) _
          refine st52 _ ?_
          show Steps p.tables e below (T52.setTop (mkF m 9 #[.val (.int p1), .val (.int p2), .val (.int p3), .val (.ref (A 0)), .unset, .unset, .unset, .unset, .unset] [(.ref r52)])) _
          refine XS.astore X52.here hx rfl (hb hby at_9) rfl rfl (l' := #[.val (.int p1), .val (.int p2), .val (.int p3), .val (.ref (A 0)), .val (.ref r52), .unset, .unset, .unset, .unset]) rfl ?_
          show Steps p.tables e below (T52.setTop (mkF m 11 #[.val (.int p1), .val (.int p2), .val (.int p3), .val (.ref (A 0)), .val (.ref r52), .unset, .unset, .unset, .unset] [])) _
          refine XS.iloadN X52.here hx rfl (hb hby at_11) rfl ?_
          show Steps p.tables e below (T52.setTop (mkF m 12 #[.val (.int p1), .val (.int p2), .val (.int p3), .val (.ref (A 0)), .val (.ref r52), .unset, .unset, .unset, .unset] [(.int p3)])) _
          refine st53 _ ?_
          show Steps p.tables e below (T53.setTop (mkF m 15 #[.val (.int p1), .val (.int p2), .val (.int p3), .val (.ref (A 0)), .val (.ref r52), .unset, .unset, .unset, .unset] [(.ref r53)])) _
          refine XS.astore X53.here hx rfl (hb hby at_15) rfl rfl (l' := #[.val (.int p1), .val (.int p2), .val (.int p3), .val (.ref (A 0)), .val (.ref r52), .val (.ref r53), .unset, .unset, .unset]) rfl ?_
          show Steps p.tables e below (T53.setTop (mkF m 17 #[.val (.int p1), .val (.int p2), .val (.int p3), .val (.ref (A 0)), .val (.ref r52), .val (.ref r53), .unset, .unset, .unset] [])) _
          refine XS.aloadN X53.here hx rfl (hb hby at_17) rfl rfl ?_
          show Steps p.tables e below (T53.setTop (mkF m 18 #[.val (.int p1), .val (.int p2), .val (.int p3), .val (.ref (A 0)), .val (.ref r52), .val (.ref r53), .unset, .unset, .unset] [(.ref (A 0))])) _
          refine st54.trans ?_
          show Steps p.tables e below (T54.setTop (mkF m 21 #[.val (.int p1), .val (.int p2), .val (.int p3), .val (.ref (A 0)), .val (.ref r52), .val (.ref r53), .unset, .unset, .unset] [(.ref (A 4))])) _
          refine XS.astore X54.here hx rfl (hb hby at_21) rfl rfl (l' := #[.val (.int p1), .val (.int p2), .val (.int p3), .val (.ref (A 0)), .val (.ref r52), .val (.ref r53), .val (.ref (A 4)), .unset, .unset]) rfl ?_
          show Steps p.tables e below (T54.setTop (mkF m 23 #[.val (.int p1), .val (.int p2), .val (.int p3), .val (.ref (A 0)), .val (.ref r52), .val (.ref r53), .val (.ref (A 4)), .unset, .unset] [])) _
          refine XS.aload X54.here hx rfl (hb hby at_23) rfl rfl ?_
          show Steps p.tables e below (T54.setTop (mkF m 25 #[.val (.int p1), .val (.int p2), .val (.int p3), .val (.ref (A 0)), .val (.ref r52), .val (.ref r53), .val (.ref (A 4)), .unset, .unset] [(.ref (A 4))])) _
          refine XS.ifnonnullYes X54.here hx rfl (pc0 := 25) (pc' := 30) rfl (hb hby at_25) rfl (by decide) (by decide) ?_
          show Steps p.tables e below (T54.setTop (mkF m 30 #[.val (.int p1), .val (.int p2), .val (.int p3), .val (.ref (A 0)), .val (.ref r52), .val (.ref r53), .val (.ref (A 4)), .unset, .unset] [])) _
          refine XS.aloadN X54.here hx rfl (hb hby at_30) rfl rfl ?_
          show Steps p.tables e below (T54.setTop (mkF m 31 #[.val (.int p1), .val (.int p2), .val (.int p3), .val (.ref (A 0)), .val (.ref r52), .val (.ref r53), .val (.ref (A 4)), .unset, .unset] [(.ref (A 0))])) _
          refine XS.aload X54.here hx rfl (hb hby at_31) rfl rfl ?_
          show Steps p.tables e below (T54.setTop (mkF m 33 #[.val (.int p1), .val (.int p2), .val (.int p3), .val (.ref (A 0)), .val (.ref r52), .val (.ref r53), .val (.ref (A 4)), .unset, .unset] [(.ref r52), (.ref (A 0))])) _
          refine XS.aload X54.here hx rfl (hb hby at_33) rfl rfl ?_
          show Steps p.tables e below (T54.setTop (mkF m 35 #[.val (.int p1), .val (.int p2), .val (.int p3), .val (.ref (A 0)), .val (.ref r52), .val (.ref r53), .val (.ref (A 4)), .unset, .unset] [(.ref r53), (.ref r52), (.ref (A 0))])) _
          refine st65.trans ?_
          show Steps p.tables e below (T65.setTop (mkF m 38 #[.val (.int p1), .val (.int p2), .val (.int p3), .val (.ref (A 0)), .val (.ref r52), .val (.ref r53), .val (.ref (A 4)), .unset, .unset] [(.int (0 : Int32))])) _
          refine XS.aload X65.here hx rfl (hb hby at_38) rfl rfl ?_
          show Steps p.tables e below (T65.setTop (mkF m 40 #[.val (.int p1), .val (.int p2), .val (.int p3), .val (.ref (A 0)), .val (.ref r52), .val (.ref r53), .val (.ref (A 4)), .unset, .unset] [(.ref (A 4)), (.int (0 : Int32))])) _
          refine XS.aload X65.here hx rfl (hb hby at_40) rfl rfl ?_
          show Steps p.tables e below (T65.setTop (mkF m 42 #[.val (.int p1), .val (.int p2), .val (.int p3), .val (.ref (A 0)), .val (.ref r52), .val (.ref r53), .val (.ref (A 4)), .unset, .unset] [(.ref r53), (.ref (A 4)), (.int (0 : Int32))])) _
          refine XS.aload X65.here hx rfl (hb hby at_42) rfl rfl ?_
          show Steps p.tables e below (T65.setTop (mkF m 44 #[.val (.int p1), .val (.int p2), .val (.int p3), .val (.ref (A 0)), .val (.ref r52), .val (.ref r53), .val (.ref (A 4)), .unset, .unset] [(.ref r52), (.ref r53), (.ref (A 4)), (.int (0 : Int32))])) _
          refine st74.trans ?_
          show Steps p.tables e below (T74.setTop (mkF m 47 #[.val (.int p1), .val (.int p2), .val (.int p3), .val (.ref (A 0)), .val (.ref r52), .val (.ref r53), .val (.ref (A 4)), .unset, .unset] [(.int (0 : Int32)), (.int (0 : Int32))])) _
          refine XS.icmpNo X74.here hx rfl (hb hby at_47) rfl (teq (by decide : (0 : Int32) = (0 : Int32))).2 ?_
          show Steps p.tables e below (T74.setTop (mkF m 50 #[.val (.int p1), .val (.int p2), .val (.int p3), .val (.ref (A 0)), .val (.ref r52), .val (.ref r53), .val (.ref (A 4)), .unset, .unset] [])) _
          refine XS.iconst X74.here hx rfl (hb hby at_50) ?_
          show Steps p.tables e below (T74.setTop (mkF m 51 #[.val (.int p1), .val (.int p2), .val (.int p3), .val (.ref (A 0)), .val (.ref r52), .val (.ref r53), .val (.ref (A 4)), .unset, .unset] [(.int (1 : Int32))])) _
          refine XS.goto X74.here hx rfl (pc0 := 51) (pc' := 55) rfl (hb hby at_51) (by decide) (by decide) ?_
          show Steps p.tables e below (T74.setTop (mkF m 55 #[.val (.int p1), .val (.int p2), .val (.int p3), .val (.ref (A 0)), .val (.ref r52), .val (.ref r53), .val (.ref (A 4)), .unset, .unset] [(.int (1 : Int32))])) _
          refine XS.istore X74.here hx rfl (hb hby at_55) rfl (l' := #[.val (.int p1), .val (.int p2), .val (.int p3), .val (.ref (A 0)), .val (.ref r52), .val (.ref r53), .val (.ref (A 4)), .val (.int (1 : Int32)), .unset]) rfl ?_
          show Steps p.tables e below (T74.setTop (mkF m 57 #[.val (.int p1), .val (.int p2), .val (.int p3), .val (.ref (A 0)), .val (.ref r52), .val (.ref r53), .val (.ref (A 4)), .val (.int (1 : Int32)), .unset] [])) _
          refine XS.aload X74.here hx rfl (hb hby at_57) rfl rfl ?_
          show Steps p.tables e below (T74.setTop (mkF m 59 #[.val (.int p1), .val (.int p2), .val (.int p3), .val (.ref (A 0)), .val (.ref r52), .val (.ref r53), .val (.ref (A 4)), .val (.int (1 : Int32)), .unset] [(.ref (A 4))])) _
          refine st75.trans ?_
          show Steps p.tables e below (T75.setTop (mkF m 62 #[.val (.int p1), .val (.int p2), .val (.int p3), .val (.ref (A 0)), .val (.ref r52), .val (.ref r53), .val (.ref (A 4)), .val (.int (1 : Int32)), .unset] [(.ref (A 0))])) _
          refine XS.aloadN X75.here hx rfl (hb hby at_62) rfl rfl ?_
          show Steps p.tables e below (T75.setTop (mkF m 63 #[.val (.int p1), .val (.int p2), .val (.int p3), .val (.ref (A 0)), .val (.ref r52), .val (.ref r53), .val (.ref (A 4)), .val (.int (1 : Int32)), .unset] [(.ref (A 0)), (.ref (A 0))])) _
          refine Jvm.RoadKit.acmp (g := (mkF m 63 #[.val (.int p1), .val (.int p2), .val (.int p3), .val (.ref (A 0)), .val (.ref r52), .val (.ref r53), .val (.ref (A 4)), .val (.int (1 : Int32)), .unset] [(.ref (A 0)), (.ref (A 0))])) X75 hx rfl rfl rfl (pc0 := 63) (pc' := 66) (same := true) rfl (hb hby at_63) rfl (decide_eq_true rfl) (by decide) (by decide) ?_
          show Steps p.tables e below (T75.setTop (mkF m 66 #[.val (.int p1), .val (.int p2), .val (.int p3), .val (.ref (A 0)), .val (.ref r52), .val (.ref r53), .val (.ref (A 4)), .val (.int (1 : Int32)), .unset] [])) _
          refine XS.iconst X75.here hx rfl (hb hby at_66) ?_
          show Steps p.tables e below (T75.setTop (mkF m 67 #[.val (.int p1), .val (.int p2), .val (.int p3), .val (.ref (A 0)), .val (.ref r52), .val (.ref r53), .val (.ref (A 4)), .val (.int (1 : Int32)), .unset] [(.int (1 : Int32))])) _
          refine XS.goto X75.here hx rfl (pc0 := 67) (pc' := 71) rfl (hb hby at_67) (by decide) (by decide) ?_
          show Steps p.tables e below (T75.setTop (mkF m 71 #[.val (.int p1), .val (.int p2), .val (.int p3), .val (.ref (A 0)), .val (.ref r52), .val (.ref r53), .val (.ref (A 4)), .val (.int (1 : Int32)), .unset] [(.int (1 : Int32))])) _
          refine XS.istore X75.here hx rfl (hb hby at_71) rfl (l' := #[.val (.int p1), .val (.int p2), .val (.int p3), .val (.ref (A 0)), .val (.ref r52), .val (.ref r53), .val (.ref (A 4)), .val (.int (1 : Int32)), .val (.int (1 : Int32))]) rfl ?_
          show Steps p.tables e below (T75.setTop (mkF m 73 #[.val (.int p1), .val (.int p2), .val (.int p3), .val (.ref (A 0)), .val (.ref r52), .val (.ref r53), .val (.ref (A 4)), .val (.int (1 : Int32)), .val (.int (1 : Int32))] [])) _
          refine XS.iload X75.here hx rfl (hb hby at_73) rfl ?_
          show Steps p.tables e below (T75.setTop (mkF m 75 #[.val (.int p1), .val (.int p2), .val (.int p3), .val (.ref (A 0)), .val (.ref r52), .val (.ref r53), .val (.ref (A 4)), .val (.int (1 : Int32)), .val (.int (1 : Int32))] [(.int (1 : Int32))])) _
          refine XS.ifNo X75.here hx rfl (hb hby at_75) rfl ((if0 _ _).trans (feq (by decide : ¬ ((1 : Int32) = (0 : Int32)))).1) ?_
          show Steps p.tables e below (T75.setTop (mkF m 78 #[.val (.int p1), .val (.int p2), .val (.int p3), .val (.ref (A 0)), .val (.ref r52), .val (.ref r53), .val (.ref (A 4)), .val (.int (1 : Int32)), .val (.int (1 : Int32))] [])) _
          refine XS.iload X75.here hx rfl (hb hby at_78) rfl ?_
          show Steps p.tables e below (T75.setTop (mkF m 80 #[.val (.int p1), .val (.int p2), .val (.int p3), .val (.ref (A 0)), .val (.ref r52), .val (.ref r53), .val (.ref (A 4)), .val (.int (1 : Int32)), .val (.int (1 : Int32))] [(.int (1 : Int32))])) _
          refine XS.ifNo X75.here hx rfl (hb hby at_80) rfl ((if0 _ _).trans (feq (by decide : ¬ ((1 : Int32) = (0 : Int32)))).1) ?_
          show Steps p.tables e below (T75.setTop (mkF m 83 #[.val (.int p1), .val (.int p2), .val (.int p3), .val (.ref (A 0)), .val (.ref r52), .val (.ref r53), .val (.ref (A 4)), .val (.int (1 : Int32)), .val (.int (1 : Int32))] [])) _
          refine XS.iconst X75.here hx rfl (hb hby at_83) ?_
          show Steps p.tables e below (T75.setTop (mkF m 84 #[.val (.int p1), .val (.int p2), .val (.int p3), .val (.ref (A 0)), .val (.ref r52), .val (.ref r53), .val (.ref (A 4)), .val (.int (1 : Int32)), .val (.int (1 : Int32))] [(.int (1 : Int32))])) _
          refine XS.goto X75.here hx rfl (pc0 := 84) (pc' := 88) rfl (hb hby at_84) (by decide) (by decide) ?_
          show Steps p.tables e below (T75.setTop (mkF m 88 #[.val (.int p1), .val (.int p2), .val (.int p3), .val (.ref (A 0)), .val (.ref r52), .val (.ref r53), .val (.ref (A 4)), .val (.int (1 : Int32)), .val (.int (1 : Int32))] [(.int (1 : Int32))])) _
          exact retN X75 hx (t := .boolean) Bd.returns (by simp) (hb hby at_88) hr
        · show LQ n0 _ T75.heap _
          exact ⟨rfl, N75, trivial⟩
      · obtain ⟨_, _, ⟨T76, L76, k76, n76⟩, -, X76, ⟨Lc76, hQ76, l76, y76, z76⟩, st76⟩ := Jvm.LawKit.callS X0 hx (y := own_m7) hown (mvT hZ (hw _ (List.mem_of_getElem? (i := 0) rfl))) (mvT hZ (hw _ (List.mem_of_getElem? (i := 1) rfl))) (mvT hZ (hw _ (List.mem_of_getElem? (i := 2) rfl))) (mvT hZ (hw _ (List.mem_of_getElem? (i := 3) rfl))) (by decide) (backOf (W := 0) (rm3 l Z a0 hw [] h0 n0 p1 p2 p3 A K EN OL0 hk16) hZ (hw _ (List.mem_of_getElem? (i := 3) rfl)) (hw _ (List.mem_of_getElem? (i := 2) rfl)) (by decide) (by decide)) (g := (mkF m 1 #[.val (.int p1), .val (.int p2), .val (.int p3), .unset, .unset, .unset, .unset, .unset, .unset] [(.int p1)])) rfl (by rw [hml]; rfl) (argsL := [(.int p1)]) (rest := []) (lenOf own_pd2 rfl) rfl (by show 2 * 0 + _ ≤ _; exact Nat.le_of_eq rfl) (hb hby at_1) (fun _ _ => ⟨rfl, e0, (by decide : 0 + 0 ≤ _), (by decide : 0 + 0 ≤ _)⟩)
        dsimp only [Pt.U, Pt.locs, Pt.cells, Pt.slots] at X76 l76 y76 z76 st76 hQ76
        subst l76 y76 z76
        obtain ⟨rfl, N76q, e76⟩ := hQ76
        have N76 := Fr.app N0 N76q
        obtain ⟨_, _, ⟨T77, L77, k77, n77⟩, -, X77, ⟨Lc77, hQ77, l77, y77, z77⟩, st77⟩ := Jvm.LawKit.callS X76 hx (y := own_m4) hown (mvT hZ (hw _ (List.mem_of_getElem? (i := 8) rfl))) (mvT hZ (hw _ (List.mem_of_getElem? (i := 9) rfl))) (mvT hZ (hw _ (List.mem_of_getElem? (i := 10) rfl))) (mvT hZ (hw _ (List.mem_of_getElem? (i := 11) rfl))) (by decide) (backOf (W := 0) (rmV l Z a0 hw [] h0 n0 A K p2 EN OL0) hZ (hw _ (List.mem_of_getElem? (i := 11) rfl)) (hw _ (List.mem_of_getElem? (i := 10) rfl)) (by decide) (by decide)) (g := (mkF m 6 #[.val (.int p1), .val (.int p2), .val (.int p3), .val (.ref (A 0)), .unset, .unset, .unset, .unset, .unset] [(.int p2)])) rfl (by rw [hml]; rfl) (argsL := [(.int p2)]) (rest := []) (lenOf own_pd3 rfl) rfl (by show 2 * 0 + _ ≤ _; exact Nat.le_of_eq rfl) (hb hby at_6) (fun _ _ => ⟨rfl, e76, (by decide : 0 + 1 ≤ _), (by decide : 0 + 1 ≤ _)⟩)
        dsimp only [Pt.U, Pt.locs, Pt.cells, Pt.slots] at X77 l77 y77 z77 st77 hQ77
        subst l77 y77 z77
        obtain ⟨r77, rfl, N77q, K77c, er77, fr77⟩ := hQ77
        have N77 := Fr.app N76 N77q
        have OL77 : Old Z n0 T77.heap := OL0.keep K77c all0
        have KK77 : Keep h0 T77.heap [] := KK0.trans K77c all0
        obtain ⟨_, _, ⟨T78, L78, k78, n78⟩, -, X78, ⟨Lc78, hQ78, l78, y78, z78⟩, st78⟩ := Jvm.LawKit.callS X77 hx (y := own_m4) hown (mvT hZ (hw _ (List.mem_of_getElem? (i := 8) rfl))) (mvT hZ (hw _ (List.mem_of_getElem? (i := 9) rfl))) (mvT hZ (hw _ (List.mem_of_getElem? (i := 10) rfl))) (mvT hZ (hw _ (List.mem_of_getElem? (i := 11) rfl))) (by decide) (backOf (W := 0) (rmV l Z a0 hw [] T77.heap n0 A K p3 EN OL77) hZ (hw _ (List.mem_of_getElem? (i := 11) rfl)) (hw _ (List.mem_of_getElem? (i := 10) rfl)) (by decide) (by decide)) (g := (mkF m 12 #[.val (.int p1), .val (.int p2), .val (.int p3), .val (.ref (A 0)), .val (.ref r77), .unset, .unset, .unset, .unset] [(.int p3)])) rfl (by rw [hml]; rfl) (argsL := [(.int p3)]) (rest := []) (lenOf own_pd3 rfl) rfl (by show 2 * 0 + _ ≤ _; exact Nat.le_of_eq rfl) (hb hby at_12) (fun _ _ => ⟨rfl, rfl, (by decide : 1 + 1 ≤ _), (by decide : 1 + 1 ≤ _)⟩)
        dsimp only [Pt.U, Pt.locs, Pt.cells, Pt.slots] at X78 l78 y78 z78 st78 hQ78
        subst l78 y78 z78
        obtain ⟨r78, rfl, N78q, K78c, er78, fr78⟩ := hQ78
        have N78 := Fr.app N77 N78q
        have OL78 : Old Z n0 T78.heap := OL77.keep K78c all0
        have KK78 : Keep h0 T78.heap [] := KK77.trans K78c all0
        obtain ⟨cq79, kq79, q79a, q79b, q79c⟩ := isOf hZ rfl (EN.1.2.1.ext OL78.2)
        obtain ⟨_, _, ⟨T79, L79, k79, n79⟩, -, X79, ⟨Lc79, hQ79, l79, y79, z79⟩, st79⟩ := X78.virtualBack hx (y := own_m2) (z := own_m2) hown (mvT hZ (hw _ (List.mem_of_getElem? (i := 15) rfl))) (mvT hZ (hw _ (List.mem_of_getElem? (i := 16) rfl))) (notFace_of_selects (args := #[]) (mvT hZ (hw _ (List.mem_of_getElem? (i := 18) rfl)))) (mvT hZ (hw _ (List.mem_of_getElem? (i := 18) rfl))) (mvT hZ (hw _ (List.mem_of_getElem? (i := 17) rfl))) (by decide) (backOf (W := 0) (rm4 l Z a0 hw [] T78.heap n0 p1 p2 p3 A K EN OL78) hZ (hw _ (List.mem_of_getElem? (i := 19) rfl)) (hw _ (List.mem_of_getElem? (i := 6) rfl)) (by decide) (by decide)) q79a q79c (g := (mkF m 18 #[.val (.int p1), .val (.int p2), .val (.int p3), .val (.ref (A 0)), .val (.ref r77), .val (.ref r78), .unset, .unset, .unset] [(.ref (A 0))])) rfl (by rw [hml]; rfl) (Steps.refl _) (argsL := []) (rest := []) (lenOf own_pd5 rfl) rfl (by show 2 * 0 + _ ≤ _; exact Nat.le_of_eq rfl) (hb hby at_18) (fun _ _ => ⟨rfl, rfl, (by decide : 2 + 0 ≤ _), (by decide : 2 + 0 ≤ _)⟩)
        dsimp only [Pt.U, Pt.locs, Pt.cells, Pt.slots] at X79 l79 y79 z79 st79 hQ79
        subst l79 y79 z79
        obtain ⟨rfl, N79q, e79⟩ := hQ79
        have N79 := Fr.app N78 N79q
        have fx88 : Exa Z T78.heap r77 "java/lang/Integer" := (er77.keep K78c)
        have fx89 : Fld Z T78.heap r77 "java/lang/Integer" "value" "I" (.int p2) := (fr77.keep K78c nin0)
        obtain ⟨cq90, kq90, q90a, q90b, q90c⟩ := isOf hZ e79 (EN.1.2.1.ext OL78.2)
        obtain ⟨_, _, ⟨T90, L90, k90, n90⟩, -, X90, ⟨Lc90, hQ90, l90, y90, z90⟩, st90⟩ := X79.virtualBack hx (y := own_m0) (z := own_m0) hown (mvT hZ (hw _ (List.mem_of_getElem? (i := 31) rfl))) (mvT hZ (hw _ (List.mem_of_getElem? (i := 32) rfl))) (notFace_of_selects (args := #[]) (mvT hZ (hw _ (List.mem_of_getElem? (i := 34) rfl)))) (mvT hZ (hw _ (List.mem_of_getElem? (i := 34) rfl))) (mvT hZ (hw _ (List.mem_of_getElem? (i := 33) rfl))) (by decide) (backOf (W := 0) (rm28 l Z a0 hw [] T78.heap n0 p1 p2 p3 A K r77 r78 EN OL78 fx88 er78 fx89 fr78 hp_17 hp_50) hZ (hw _ (List.mem_of_getElem? (i := 35) rfl)) (hw _ (List.mem_of_getElem? (i := 6) rfl)) (by decide) (by decide)) q90a q90c (g := (mkF m 35 #[.val (.int p1), .val (.int p2), .val (.int p3), .val (.ref (A 0)), .val (.ref r77), .val (.ref r78), .val (.ref (A 4)), .unset, .unset] [(.ref r78), (.ref r77), (.ref (A 0))])) rfl (by rw [hml]; rfl) (Steps.refl _) (argsL := [(.ref r77), (.ref r78)]) (rest := []) (lenOf own_pd10 rfl) rfl (by show 2 * 0 + _ ≤ _; exact Nat.le_of_eq rfl) (hb hby at_35) (fun _ _ => ⟨rfl, e79, (by decide : 2 + 0 ≤ _), (by decide : 2 + 0 ≤ _)⟩)
        dsimp only [Pt.U, Pt.locs, Pt.cells, Pt.slots] at X90 l90 y90 z90 st90 hQ90
        subst l90 y90 z90
        obtain ⟨rfl, N90q, e90⟩ := hQ90
        have N90 := Fr.app N79 N90q
        obtain ⟨cq99, kq99, q99a, q99b, q99c⟩ := isOf hZ e90 (EN.2.1.2.1.ext OL78.2)
        obtain ⟨_, _, ⟨T99, L99, k99, n99⟩, -, X99, ⟨Lc99, hQ99, l99, y99, z99⟩, st99⟩ := X90.virtualBack hx (y := own_m0) (z := own_m0) hown (mvT hZ (hw _ (List.mem_of_getElem? (i := 31) rfl))) (mvT hZ (hw _ (List.mem_of_getElem? (i := 32) rfl))) (notFace_of_selects (args := #[]) (mvT hZ (hw _ (List.mem_of_getElem? (i := 34) rfl)))) (mvT hZ (hw _ (List.mem_of_getElem? (i := 34) rfl))) (mvT hZ (hw _ (List.mem_of_getElem? (i := 33) rfl))) (by decide) (backOf (W := 1) (rm33 l Z a0 hw [] T78.heap n0 p1 p2 p3 A K r77 r78 EN OL78 er78 fx88 fr78 fx89 hp_17 hp_50) hZ (hw _ (List.mem_of_getElem? (i := 35) rfl)) (hw _ (List.mem_of_getElem? (i := 6) rfl)) (by decide) (by decide)) q99a q99c (g := (mkF m 44 #[.val (.int p1), .val (.int p2), .val (.int p3), .val (.ref (A 0)), .val (.ref r77), .val (.ref r78), .val (.ref (A 4)), .unset, .unset] [(.ref r77), (.ref r78), (.ref (A 4)), (.int (0 : Int32))])) rfl (by rw [hml]; rfl) (Steps.refl _) (argsL := [(.ref r78), (.ref r77)]) (rest := [(.int (0 : Int32))]) (lenOf own_pd10 rfl) rfl (by show 2 * 0 + _ ≤ _; exact Nat.le_of_eq rfl) (hb hby at_44) (fun _ _ => ⟨rfl, e90, (by decide : 2 + 0 ≤ _), (by decide : 2 + 0 ≤ _)⟩)
        dsimp only [Pt.U, Pt.locs, Pt.cells, Pt.slots] at X99 l99 y99 z99 st99 hQ99
        subst l99 y99 z99
        obtain ⟨rfl, N99q, e99⟩ := hQ99
        have N99 := Fr.app N90 N99q
        obtain ⟨cq100, kq100, q100a, q100b, q100c⟩ := isOf hZ e99 (EN.2.1.2.1.ext OL78.2)
        obtain ⟨_, _, ⟨T100, L100, k100, n100⟩, -, X100, ⟨Lc100, hQ100, l100, y100, z100⟩, st100⟩ := X99.virtualBack hx (y := own_m2) (z := own_m2) hown (mvT hZ (hw _ (List.mem_of_getElem? (i := 15) rfl))) (mvT hZ (hw _ (List.mem_of_getElem? (i := 16) rfl))) (notFace_of_selects (args := #[]) (mvT hZ (hw _ (List.mem_of_getElem? (i := 18) rfl)))) (mvT hZ (hw _ (List.mem_of_getElem? (i := 18) rfl))) (mvT hZ (hw _ (List.mem_of_getElem? (i := 17) rfl))) (by decide) (backOf (W := 0) (rm17 l Z a0 hw [] T78.heap n0 p1 p2 p3 A K EN OL78) hZ (hw _ (List.mem_of_getElem? (i := 19) rfl)) (hw _ (List.mem_of_getElem? (i := 6) rfl)) (by decide) (by decide)) q100a q100c (g := (mkF m 59 #[.val (.int p1), .val (.int p2), .val (.int p3), .val (.ref (A 0)), .val (.ref r77), .val (.ref r78), .val (.ref (A 4)), .val (.int (1 : Int32)), .unset] [(.ref (A 4))])) rfl (by rw [hml]; rfl) (Steps.refl _) (argsL := []) (rest := []) (lenOf own_pd5 rfl) rfl (by show 2 * 0 + _ ≤ _; exact Nat.le_of_eq rfl) (hb hby at_59) (fun _ _ => ⟨rfl, e99, (by decide : 2 + 0 ≤ _), (by decide : 2 + 0 ≤ _)⟩)
        dsimp only [Pt.U, Pt.locs, Pt.cells, Pt.slots] at X100 l100 y100 z100 st100 hQ100
        subst l100 y100 z100
        obtain ⟨rfl, N100q, e100⟩ := hQ100
        have N100 := Fr.app N99 N100q
        obtain ⟨fs, hr, hrun, hended, hW, hsame⟩ := X100.leave (v := some (.int (1 : Int32))) (fun h => by rw [Bd.returns] at h; cases h)
        refine ⟨_, _, pre0 _ ?_, hrun, hended, _, _, rfl, ?_, ⟨_, rfl⟩, hW, hsame.mono (by decide) (by decide)⟩
        · show Steps p.tables e below (s₁.setTop (mkF m 0 #[.val (.int p1), .val (.int p2), .val (.int p3), .unset, .unset, .unset, .unset, .unset, .unset] [])) _
          refine XS.iloadN X0.here hx rfl (hb hby at_0) rfl ?_
          show Steps p.tables e below (s₁.setTop (mkF m 1 #[.val (.int p1), .val (.int p2), .val (.int p3), .unset, .unset, .unset, .unset, .unset, .unset] [(.int p1)])) _
          refine st76 _ ?_
          show Steps p.tables e below (T76.setTop (mkF m 4 #[.val (.int p1), .val (.int p2), .val (.int p3), .unset, .unset, .unset, .unset, .unset, .unset] [(.ref (A 0))])) _
          refine XS.astoreN X76.here hx rfl (hb hby at_4) rfl rfl (l' := #[.val (.int p1), .val (.int p2), .val (.int p3), .val (.ref (A 0)), .unset, .unset, .unset, .unset, .unset]) rfl ?_
          show Steps p.tables e below (T76.setTop (mkF m 5 #[.val (.int p1), .val (.int p2), .val (.int p3), .val (.ref (A 0)), .unset, .unset, .unset, .unset, .unset] [])) _
          refine XS.iloadN X76.here hx rfl (hb hby at_5) rfl ?_
          show Steps p.tables e below (T76.setTop (mkF m 6 #[.val (.int p1), .val (.int p2), .val (.int p3), .val (.ref (A 0)), .unset, .unset, .unset, .unset, .unset] [(.int p2)])) _
          refine st77 _ ?_
          show Steps p.tables e below (T77.setTop (mkF m 9 #[.val (.int p1), .val (.int p2), .val (.int p3), .val (.ref (A 0)), .unset, .unset, .unset, .unset, .unset] [(.ref r77)])) _
          refine XS.astore X77.here hx rfl (hb hby at_9) rfl rfl (l' := #[.val (.int p1), .val (.int p2), .val (.int p3), .val (.ref (A 0)), .val (.ref r77), .unset, .unset, .unset, .unset]) rfl ?_
          show Steps p.tables e below (T77.setTop (mkF m 11 #[.val (.int p1), .val (.int p2), .val (.int p3), .val (.ref (A 0)), .val (.ref r77), .unset, .unset, .unset, .unset] [])) _
          refine XS.iloadN X77.here hx rfl (hb hby at_11) rfl ?_
          show Steps p.tables e below (T77.setTop (mkF m 12 #[.val (.int p1), .val (.int p2), .val (.int p3), .val (.ref (A 0)), .val (.ref r77), .unset, .unset, .unset, .unset] [(.int p3)])) _
          refine st78 _ ?_
          show Steps p.tables e below (T78.setTop (mkF m 15 #[.val (.int p1), .val (.int p2), .val (.int p3), .val (.ref (A 0)), .val (.ref r77), .unset, .unset, .unset, .unset] [(.ref r78)])) _
          refine XS.astore X78.here hx rfl (hb hby at_15) rfl rfl (l' := #[.val (.int p1), .val (.int p2), .val (.int p3), .val (.ref (A 0)), .val (.ref r77), .val (.ref r78), .unset, .unset, .unset]) rfl ?_
          show Steps p.tables e below (T78.setTop (mkF m 17 #[.val (.int p1), .val (.int p2), .val (.int p3), .val (.ref (A 0)), .val (.ref r77), .val (.ref r78), .unset, .unset, .unset] [])) _
          refine XS.aloadN X78.here hx rfl (hb hby at_17) rfl rfl ?_
          show Steps p.tables e below (T78.setTop (mkF m 18 #[.val (.int p1), .val (.int p2), .val (.int p3), .val (.ref (A 0)), .val (.ref r77), .val (.ref r78), .unset, .unset, .unset] [(.ref (A 0))])) _
          refine st79.trans ?_
          show Steps p.tables e below (T79.setTop (mkF m 21 #[.val (.int p1), .val (.int p2), .val (.int p3), .val (.ref (A 0)), .val (.ref r77), .val (.ref r78), .unset, .unset, .unset] [(.ref (A 4))])) _
          refine XS.astore X79.here hx rfl (hb hby at_21) rfl rfl (l' := #[.val (.int p1), .val (.int p2), .val (.int p3), .val (.ref (A 0)), .val (.ref r77), .val (.ref r78), .val (.ref (A 4)), .unset, .unset]) rfl ?_
          show Steps p.tables e below (T79.setTop (mkF m 23 #[.val (.int p1), .val (.int p2), .val (.int p3), .val (.ref (A 0)), .val (.ref r77), .val (.ref r78), .val (.ref (A 4)), .unset, .unset] [])) _
          refine XS.aload X79.here hx rfl (hb hby at_23) rfl rfl ?_
          show Steps p.tables e below (T79.setTop (mkF m 25 #[.val (.int p1), .val (.int p2), .val (.int p3), .val (.ref (A 0)), .val (.ref r77), .val (.ref r78), .val (.ref (A 4)), .unset, .unset] [(.ref (A 4))])) _
          refine XS.ifnonnullYes X79.here hx rfl (pc0 := 25) (pc' := 30) rfl (hb hby at_25) rfl (by decide) (by decide) ?_
          show Steps p.tables e below (T79.setTop (mkF m 30 #[.val (.int p1), .val (.int p2), .val (.int p3), .val (.ref (A 0)), .val (.ref r77), .val (.ref r78), .val (.ref (A 4)), .unset, .unset] [])) _
          refine XS.aloadN X79.here hx rfl (hb hby at_30) rfl rfl ?_
          show Steps p.tables e below (T79.setTop (mkF m 31 #[.val (.int p1), .val (.int p2), .val (.int p3), .val (.ref (A 0)), .val (.ref r77), .val (.ref r78), .val (.ref (A 4)), .unset, .unset] [(.ref (A 0))])) _
          refine XS.aload X79.here hx rfl (hb hby at_31) rfl rfl ?_
          show Steps p.tables e below (T79.setTop (mkF m 33 #[.val (.int p1), .val (.int p2), .val (.int p3), .val (.ref (A 0)), .val (.ref r77), .val (.ref r78), .val (.ref (A 4)), .unset, .unset] [(.ref r77), (.ref (A 0))])) _
          refine XS.aload X79.here hx rfl (hb hby at_33) rfl rfl ?_
          show Steps p.tables e below (T79.setTop (mkF m 35 #[.val (.int p1), .val (.int p2), .val (.int p3), .val (.ref (A 0)), .val (.ref r77), .val (.ref r78), .val (.ref (A 4)), .unset, .unset] [(.ref r78), (.ref r77), (.ref (A 0))])) _
          refine st90.trans ?_
          show Steps p.tables e below (T90.setTop (mkF m 38 #[.val (.int p1), .val (.int p2), .val (.int p3), .val (.ref (A 0)), .val (.ref r77), .val (.ref r78), .val (.ref (A 4)), .unset, .unset] [(.int (0 : Int32))])) _
          refine XS.aload X90.here hx rfl (hb hby at_38) rfl rfl ?_
          show Steps p.tables e below (T90.setTop (mkF m 40 #[.val (.int p1), .val (.int p2), .val (.int p3), .val (.ref (A 0)), .val (.ref r77), .val (.ref r78), .val (.ref (A 4)), .unset, .unset] [(.ref (A 4)), (.int (0 : Int32))])) _
          refine XS.aload X90.here hx rfl (hb hby at_40) rfl rfl ?_
          show Steps p.tables e below (T90.setTop (mkF m 42 #[.val (.int p1), .val (.int p2), .val (.int p3), .val (.ref (A 0)), .val (.ref r77), .val (.ref r78), .val (.ref (A 4)), .unset, .unset] [(.ref r78), (.ref (A 4)), (.int (0 : Int32))])) _
          refine XS.aload X90.here hx rfl (hb hby at_42) rfl rfl ?_
          show Steps p.tables e below (T90.setTop (mkF m 44 #[.val (.int p1), .val (.int p2), .val (.int p3), .val (.ref (A 0)), .val (.ref r77), .val (.ref r78), .val (.ref (A 4)), .unset, .unset] [(.ref r77), (.ref r78), (.ref (A 4)), (.int (0 : Int32))])) _
          refine st99.trans ?_
          show Steps p.tables e below (T99.setTop (mkF m 47 #[.val (.int p1), .val (.int p2), .val (.int p3), .val (.ref (A 0)), .val (.ref r77), .val (.ref r78), .val (.ref (A 4)), .unset, .unset] [(.int (0 : Int32)), (.int (0 : Int32))])) _
          refine XS.icmpNo X99.here hx rfl (hb hby at_47) rfl (teq (by decide : (0 : Int32) = (0 : Int32))).2 ?_
          show Steps p.tables e below (T99.setTop (mkF m 50 #[.val (.int p1), .val (.int p2), .val (.int p3), .val (.ref (A 0)), .val (.ref r77), .val (.ref r78), .val (.ref (A 4)), .unset, .unset] [])) _
          refine XS.iconst X99.here hx rfl (hb hby at_50) ?_
          show Steps p.tables e below (T99.setTop (mkF m 51 #[.val (.int p1), .val (.int p2), .val (.int p3), .val (.ref (A 0)), .val (.ref r77), .val (.ref r78), .val (.ref (A 4)), .unset, .unset] [(.int (1 : Int32))])) _
          refine XS.goto X99.here hx rfl (pc0 := 51) (pc' := 55) rfl (hb hby at_51) (by decide) (by decide) ?_
          show Steps p.tables e below (T99.setTop (mkF m 55 #[.val (.int p1), .val (.int p2), .val (.int p3), .val (.ref (A 0)), .val (.ref r77), .val (.ref r78), .val (.ref (A 4)), .unset, .unset] [(.int (1 : Int32))])) _
          refine XS.istore X99.here hx rfl (hb hby at_55) rfl (l' := #[.val (.int p1), .val (.int p2), .val (.int p3), .val (.ref (A 0)), .val (.ref r77), .val (.ref r78), .val (.ref (A 4)), .val (.int (1 : Int32)), .unset]) rfl ?_
          show Steps p.tables e below (T99.setTop (mkF m 57 #[.val (.int p1), .val (.int p2), .val (.int p3), .val (.ref (A 0)), .val (.ref r77), .val (.ref r78), .val (.ref (A 4)), .val (.int (1 : Int32)), .unset] [])) _
          refine XS.aload X99.here hx rfl (hb hby at_57) rfl rfl ?_
          show Steps p.tables e below (T99.setTop (mkF m 59 #[.val (.int p1), .val (.int p2), .val (.int p3), .val (.ref (A 0)), .val (.ref r77), .val (.ref r78), .val (.ref (A 4)), .val (.int (1 : Int32)), .unset] [(.ref (A 4))])) _
          refine st100.trans ?_
          show Steps p.tables e below (T100.setTop (mkF m 62 #[.val (.int p1), .val (.int p2), .val (.int p3), .val (.ref (A 0)), .val (.ref r77), .val (.ref r78), .val (.ref (A 4)), .val (.int (1 : Int32)), .unset] [(.ref (A 0))])) _
          refine XS.aloadN X100.here hx rfl (hb hby at_62) rfl rfl ?_
          show Steps p.tables e below (T100.setTop (mkF m 63 #[.val (.int p1), .val (.int p2), .val (.int p3), .val (.ref (A 0)), .val (.ref r77), .val (.ref r78), .val (.ref (A 4)), .val (.int (1 : Int32)), .unset] [(.ref (A 0)), (.ref (A 0))])) _
          refine Jvm.RoadKit.acmp (g := (mkF m 63 #[.val (.int p1), .val (.int p2), .val (.int p3), .val (.ref (A 0)), .val (.ref r77), .val (.ref r78), .val (.ref (A 4)), .val (.int (1 : Int32)), .unset] [(.ref (A 0)), (.ref (A 0))])) X100 hx rfl rfl rfl (pc0 := 63) (pc' := 66) (same := true) rfl (hb hby at_63) rfl (decide_eq_true rfl) (by decide) (by decide) ?_
          show Steps p.tables e below (T100.setTop (mkF m 66 #[.val (.int p1), .val (.int p2), .val (.int p3), .val (.ref (A 0)), .val (.ref r77), .val (.ref r78), .val (.ref (A 4)), .val (.int (1 : Int32)), .unset] [])) _
          refine XS.iconst X100.here hx rfl (hb hby at_66) ?_
          show Steps p.tables e below (T100.setTop (mkF m 67 #[.val (.int p1), .val (.int p2), .val (.int p3), .val (.ref (A 0)), .val (.ref r77), .val (.ref r78), .val (.ref (A 4)), .val (.int (1 : Int32)), .unset] [(.int (1 : Int32))])) _
          refine XS.goto X100.here hx rfl (pc0 := 67) (pc' := 71) rfl (hb hby at_67) (by decide) (by decide) ?_
          show Steps p.tables e below (T100.setTop (mkF m 71 #[.val (.int p1), .val (.int p2), .val (.int p3), .val (.ref (A 0)), .val (.ref r77), .val (.ref r78), .val (.ref (A 4)), .val (.int (1 : Int32)), .unset] [(.int (1 : Int32))])) _
          refine XS.istore X100.here hx rfl (hb hby at_71) rfl (l' := #[.val (.int p1), .val (.int p2), .val (.int p3), .val (.ref (A 0)), .val (.ref r77), .val (.ref r78), .val (.ref (A 4)), .val (.int (1 : Int32)), .val (.int (1 : Int32))]) rfl ?_
          show Steps p.tables e below (T100.setTop (mkF m 73 #[.val (.int p1), .val (.int p2), .val (.int p3), .val (.ref (A 0)), .val (.ref r77), .val (.ref r78), .val (.ref (A 4)), .val (.int (1 : Int32)), .val (.int (1 : Int32))] [])) _
          refine XS.iload X100.here hx rfl (hb hby at_73) rfl ?_
          show Steps p.tables e below (T100.setTop (mkF m 75 #[.val (.int p1), .val (.int p2), .val (.int p3), .val (.ref (A 0)), .val (.ref r77), .val (.ref r78), .val (.ref (A 4)), .val (.int (1 : Int32)), .val (.int (1 : Int32))] [(.int (1 : Int32))])) _
          refine XS.ifNo X100.here hx rfl (hb hby at_75) rfl ((if0 _ _).trans (feq (by decide : ¬ ((1 : Int32) = (0 : Int32)))).1) ?_
          show Steps p.tables e below (T100.setTop (mkF m 78 #[.val (.int p1), .val (.int p2), .val (.int p3), .val (.ref (A 0)), .val (.ref r77), .val (.ref r78), .val (.ref (A 4)), .val (.int (1 : Int32)), .val (.int (1 : Int32))] [])) _
          refine XS.iload X100.here hx rfl (hb hby at_78) rfl ?_
          show Steps p.tables e below (T100.setTop (mkF m 80 #[.val (.int p1), .val (.int p2), .val (.int p3), .val (.ref (A 0)), .val (.ref r77), .val (.ref r78), .val (.ref (A 4)), .val (.int (1 : Int32)), .val (.int (1 : Int32))] [(.int (1 : Int32))])) _
          refine XS.ifNo X100.here hx rfl (hb hby at_80) rfl ((if0 _ _).trans (feq (by decide : ¬ ((1 : Int32) = (0 : Int32)))).1) ?_
          show Steps p.tables e below (T100.setTop (mkF m 83 #[.val (.int p1), .val (.int p2), .val (.int p3), .val (.ref (A 0)), .val (.ref r77), .val (.ref r78), .val (.ref (A 4)), .val (.int (1 : Int32)), .val (.int (1 : Int32))] [])) _
          refine XS.iconst X100.here hx rfl (hb hby at_83) ?_
          show Steps p.tables e below (T100.setTop (mkF m 84 #[.val (.int p1), .val (.int p2), .val (.int p3), .val (.ref (A 0)), .val (.ref r77), .val (.ref r78), .val (.ref (A 4)), .val (.int (1 : Int32)), .val (.int (1 : Int32))] [(.int (1 : Int32))])) _
          refine XS.goto X100.here hx rfl (pc0 := 84) (pc' := 88) rfl (hb hby at_84) (by decide) (by decide) ?_
          show Steps p.tables e below (T100.setTop (mkF m 88 #[.val (.int p1), .val (.int p2), .val (.int p3), .val (.ref (A 0)), .val (.ref r77), .val (.ref r78), .val (.ref (A 4)), .val (.int (1 : Int32)), .val (.int (1 : Int32))] [(.int (1 : Int32))])) _
          exact retN X100 hx (t := .boolean) Bd.returns (by simp) (hb hby at_88) hr
        · show LQ n0 _ T100.heap _
          exact ⟨rfl, N100, trivial⟩
  | 1, _, hk16 =>
    by_cases hp_101 : p2 < p3
    · obtain ⟨_, _, ⟨T103, L103, k103, n103⟩, -, X103, ⟨Lc103, hQ103, l103, y103, z103⟩, st103⟩ := Jvm.LawKit.callS X0 hx (y := own_m7) hown (mvT hZ (hw _ (List.mem_of_getElem? (i := 0) rfl))) (mvT hZ (hw _ (List.mem_of_getElem? (i := 1) rfl))) (mvT hZ (hw _ (List.mem_of_getElem? (i := 2) rfl))) (mvT hZ (hw _ (List.mem_of_getElem? (i := 3) rfl))) (by decide) (backOf (W := 0) (rm38 l Z a0 hw [] h0 n0 p1 p2 p3 A K EN OL0 hk16) hZ (hw _ (List.mem_of_getElem? (i := 3) rfl)) (hw _ (List.mem_of_getElem? (i := 2) rfl)) (by decide) (by decide)) (g := (mkF m 1 #[.val (.int p1), .val (.int p2), .val (.int p3), .unset, .unset, .unset, .unset, .unset, .unset] [(.int p1)])) rfl (by rw [hml]; rfl) (argsL := [(.int p1)]) (rest := []) (lenOf own_pd2 rfl) rfl (by show 2 * 0 + _ ≤ _; exact Nat.le_of_eq rfl) (hb hby at_1) (fun _ _ => ⟨rfl, e0, (by decide : 0 + 0 ≤ _), (by decide : 0 + 0 ≤ _)⟩)
      dsimp only [Pt.U, Pt.locs, Pt.cells, Pt.slots] at X103 l103 y103 z103 st103 hQ103
      subst l103 y103 z103
      obtain ⟨rfl, N103q, e103⟩ := hQ103
      have N103 := Fr.app N0 N103q
      obtain ⟨_, _, ⟨T104, L104, k104, n104⟩, -, X104, ⟨Lc104, hQ104, l104, y104, z104⟩, st104⟩ := Jvm.LawKit.callS X103 hx (y := own_m4) hown (mvT hZ (hw _ (List.mem_of_getElem? (i := 8) rfl))) (mvT hZ (hw _ (List.mem_of_getElem? (i := 9) rfl))) (mvT hZ (hw _ (List.mem_of_getElem? (i := 10) rfl))) (mvT hZ (hw _ (List.mem_of_getElem? (i := 11) rfl))) (by decide) (backOf (W := 0) (rmV l Z a0 hw [] h0 n0 A K p2 EN OL0) hZ (hw _ (List.mem_of_getElem? (i := 11) rfl)) (hw _ (List.mem_of_getElem? (i := 10) rfl)) (by decide) (by decide)) (g := (mkF m 6 #[.val (.int p1), .val (.int p2), .val (.int p3), .val (.ref (A 1)), .unset, .unset, .unset, .unset, .unset] [(.int p2)])) rfl (by rw [hml]; rfl) (argsL := [(.int p2)]) (rest := []) (lenOf own_pd3 rfl) rfl (by show 2 * 0 + _ ≤ _; exact Nat.le_of_eq rfl) (hb hby at_6) (fun _ _ => ⟨rfl, e103, (by decide : 0 + 1 ≤ _), (by decide : 0 + 1 ≤ _)⟩)
      dsimp only [Pt.U, Pt.locs, Pt.cells, Pt.slots] at X104 l104 y104 z104 st104 hQ104
      subst l104 y104 z104
      obtain ⟨r104, rfl, N104q, K104c, er104, fr104⟩ := hQ104
      have N104 := Fr.app N103 N104q
      have OL104 : Old Z n0 T104.heap := OL0.keep K104c all0
      have KK104 : Keep h0 T104.heap [] := KK0.trans K104c all0
      obtain ⟨_, _, ⟨T105, L105, k105, n105⟩, -, X105, ⟨Lc105, hQ105, l105, y105, z105⟩, st105⟩ := Jvm.LawKit.callS X104 hx (y := own_m4) hown (mvT hZ (hw _ (List.mem_of_getElem? (i := 8) rfl))) (mvT hZ (hw _ (List.mem_of_getElem? (i := 9) rfl))) (mvT hZ (hw _ (List.mem_of_getElem? (i := 10) rfl))) (mvT hZ (hw _ (List.mem_of_getElem? (i := 11) rfl))) (by decide) (backOf (W := 0) (rmV l Z a0 hw [] T104.heap n0 A K p3 EN OL104) hZ (hw _ (List.mem_of_getElem? (i := 11) rfl)) (hw _ (List.mem_of_getElem? (i := 10) rfl)) (by decide) (by decide)) (g := (mkF m 12 #[.val (.int p1), .val (.int p2), .val (.int p3), .val (.ref (A 1)), .val (.ref r104), .unset, .unset, .unset, .unset] [(.int p3)])) rfl (by rw [hml]; rfl) (argsL := [(.int p3)]) (rest := []) (lenOf own_pd3 rfl) rfl (by show 2 * 0 + _ ≤ _; exact Nat.le_of_eq rfl) (hb hby at_12) (fun _ _ => ⟨rfl, rfl, (by decide : 1 + 1 ≤ _), (by decide : 1 + 1 ≤ _)⟩)
      dsimp only [Pt.U, Pt.locs, Pt.cells, Pt.slots] at X105 l105 y105 z105 st105 hQ105
      subst l105 y105 z105
      obtain ⟨r105, rfl, N105q, K105c, er105, fr105⟩ := hQ105
      have N105 := Fr.app N104 N105q
      have OL105 : Old Z n0 T105.heap := OL104.keep K105c all0
      have KK105 : Keep h0 T105.heap [] := KK104.trans K105c all0
      obtain ⟨cq109, kq109, q109a, q109b, q109c⟩ := isOf hZ rfl (EN.1.2.2.2.1.ext OL105.2)
      obtain ⟨_, _, ⟨T109, L109, k109, n109⟩, -, X109, ⟨Lc109, hQ109, l109, y109, z109⟩, st109⟩ := X105.virtualBack hx (y := own_m2) (z := own_m2) hown (mvT hZ (hw _ (List.mem_of_getElem? (i := 15) rfl))) (mvT hZ (hw _ (List.mem_of_getElem? (i := 16) rfl))) (notFace_of_selects (args := #[]) (mvT hZ (hw _ (List.mem_of_getElem? (i := 18) rfl)))) (mvT hZ (hw _ (List.mem_of_getElem? (i := 18) rfl))) (mvT hZ (hw _ (List.mem_of_getElem? (i := 17) rfl))) (by decide) (backOf (W := 0) (rm39 l Z a0 hw [] T105.heap n0 p1 p2 p3 A K EN OL105) hZ (hw _ (List.mem_of_getElem? (i := 19) rfl)) (hw _ (List.mem_of_getElem? (i := 6) rfl)) (by decide) (by decide)) q109a q109c (g := (mkF m 18 #[.val (.int p1), .val (.int p2), .val (.int p3), .val (.ref (A 1)), .val (.ref r104), .val (.ref r105), .unset, .unset, .unset] [(.ref (A 1))])) rfl (by rw [hml]; rfl) (Steps.refl _) (argsL := []) (rest := []) (lenOf own_pd5 rfl) rfl (by show 2 * 0 + _ ≤ _; exact Nat.le_of_eq rfl) (hb hby at_18) (fun _ _ => ⟨rfl, rfl, (by decide : 2 + 0 ≤ _), (by decide : 2 + 0 ≤ _)⟩)
      dsimp only [Pt.U, Pt.locs, Pt.cells, Pt.slots] at X109 l109 y109 z109 st109 hQ109
      subst l109 y109 z109
      obtain ⟨rfl, N109q, e109⟩ := hQ109
      have N109 := Fr.app N105 N109q
      have fx113 : Exa Z T105.heap r104 "java/lang/Integer" := (er104.keep K105c)
      have fx114 : Fld Z T105.heap r104 "java/lang/Integer" "value" "I" (.int p2) := (fr104.keep K105c nin0)
      obtain ⟨cq115, kq115, q115a, q115b, q115c⟩ := isOf hZ e109 (EN.1.2.2.2.1.ext OL105.2)
      obtain ⟨_, _, ⟨T115, L115, k115, n115⟩, -, X115, ⟨Lc115, hQ115, l115, y115, z115⟩, st115⟩ := X109.virtualBack hx (y := own_m0) (z := own_m0) hown (mvT hZ (hw _ (List.mem_of_getElem? (i := 31) rfl))) (mvT hZ (hw _ (List.mem_of_getElem? (i := 32) rfl))) (notFace_of_selects (args := #[]) (mvT hZ (hw _ (List.mem_of_getElem? (i := 34) rfl)))) (mvT hZ (hw _ (List.mem_of_getElem? (i := 34) rfl))) (mvT hZ (hw _ (List.mem_of_getElem? (i := 33) rfl))) (by decide) (backOf (W := 0) (rm41 l Z a0 hw [] T105.heap n0 p1 p2 p3 A K r104 r105 EN OL105 fx113 er105 fx114 fr105 hp_101) hZ (hw _ (List.mem_of_getElem? (i := 35) rfl)) (hw _ (List.mem_of_getElem? (i := 6) rfl)) (by decide) (by decide)) q115a q115c (g := (mkF m 35 #[.val (.int p1), .val (.int p2), .val (.int p3), .val (.ref (A 1)), .val (.ref r104), .val (.ref r105), .val (.ref (A 3)), .unset, .unset] [(.ref r105), (.ref r104), (.ref (A 1))])) rfl (by rw [hml]; rfl) (Steps.refl _) (argsL := [(.ref r104), (.ref r105)]) (rest := []) (lenOf own_pd10 rfl) rfl (by show 2 * 0 + _ ≤ _; exact Nat.le_of_eq rfl) (hb hby at_35) (fun _ _ => ⟨rfl, e109, (by decide : 2 + 0 ≤ _), (by decide : 2 + 0 ≤ _)⟩)
      dsimp only [Pt.U, Pt.locs, Pt.cells, Pt.slots] at X115 l115 y115 z115 st115 hQ115
      subst l115 y115 z115
      obtain ⟨rfl, N115q, e115⟩ := hQ115
      have N115 := Fr.app N109 N115q
      obtain ⟨cq120, kq120, q120a, q120b, q120c⟩ := isOf hZ e115 (EN.1.2.2.2.2.2.2.2.1.ext OL105.2)
      obtain ⟨_, _, ⟨T120, L120, k120, n120⟩, -, X120, ⟨Lc120, hQ120, l120, y120, z120⟩, st120⟩ := X115.virtualBack hx (y := own_m0) (z := own_m0) hown (mvT hZ (hw _ (List.mem_of_getElem? (i := 31) rfl))) (mvT hZ (hw _ (List.mem_of_getElem? (i := 32) rfl))) (notFace_of_selects (args := #[]) (mvT hZ (hw _ (List.mem_of_getElem? (i := 34) rfl)))) (mvT hZ (hw _ (List.mem_of_getElem? (i := 34) rfl))) (mvT hZ (hw _ (List.mem_of_getElem? (i := 33) rfl))) (by decide) (backOf (W := 1) (rm43 l Z a0 hw [] T105.heap n0 p1 p2 p3 A K r104 r105 EN OL105 er105 fx113 fr105 fx114 hp_101) hZ (hw _ (List.mem_of_getElem? (i := 35) rfl)) (hw _ (List.mem_of_getElem? (i := 6) rfl)) (by decide) (by decide)) q120a q120c (g := (mkF m 44 #[.val (.int p1), .val (.int p2), .val (.int p3), .val (.ref (A 1)), .val (.ref r104), .val (.ref r105), .val (.ref (A 3)), .unset, .unset] [(.ref r104), (.ref r105), (.ref (A 3)), (.int (1 : Int32))])) rfl (by rw [hml]; rfl) (Steps.refl _) (argsL := [(.ref r105), (.ref r104)]) (rest := [(.int (1 : Int32))]) (lenOf own_pd10 rfl) rfl (by show 2 * 0 + _ ≤ _; exact Nat.le_of_eq rfl) (hb hby at_44) (fun _ _ => ⟨rfl, e115, (by decide : 2 + 0 ≤ _), (by decide : 2 + 0 ≤ _)⟩)
      dsimp only [Pt.U, Pt.locs, Pt.cells, Pt.slots] at X120 l120 y120 z120 st120 hQ120
      subst l120 y120 z120
      obtain ⟨rfl, N120q, e120⟩ := hQ120
      have N120 := Fr.app N115 N120q
      obtain ⟨cq123, kq123, q123a, q123b, q123c⟩ := isOf hZ e120 (EN.1.2.2.2.2.2.2.2.1.ext OL105.2)
      obtain ⟨_, _, ⟨T123, L123, k123, n123⟩, -, X123, ⟨Lc123, hQ123, l123, y123, z123⟩, st123⟩ := X120.virtualBack hx (y := own_m2) (z := own_m2) hown (mvT hZ (hw _ (List.mem_of_getElem? (i := 15) rfl))) (mvT hZ (hw _ (List.mem_of_getElem? (i := 16) rfl))) (notFace_of_selects (args := #[]) (mvT hZ (hw _ (List.mem_of_getElem? (i := 18) rfl)))) (mvT hZ (hw _ (List.mem_of_getElem? (i := 18) rfl))) (mvT hZ (hw _ (List.mem_of_getElem? (i := 17) rfl))) (by decide) (backOf (W := 0) (rm46 l Z a0 hw [] T105.heap n0 p1 p2 p3 A K EN OL105) hZ (hw _ (List.mem_of_getElem? (i := 19) rfl)) (hw _ (List.mem_of_getElem? (i := 6) rfl)) (by decide) (by decide)) q123a q123c (g := (mkF m 59 #[.val (.int p1), .val (.int p2), .val (.int p3), .val (.ref (A 1)), .val (.ref r104), .val (.ref r105), .val (.ref (A 3)), .val (.int (1 : Int32)), .unset] [(.ref (A 3))])) rfl (by rw [hml]; rfl) (Steps.refl _) (argsL := []) (rest := []) (lenOf own_pd5 rfl) rfl (by show 2 * 0 + _ ≤ _; exact Nat.le_of_eq rfl) (hb hby at_59) (fun _ _ => ⟨rfl, e120, (by decide : 2 + 0 ≤ _), (by decide : 2 + 0 ≤ _)⟩)
      dsimp only [Pt.U, Pt.locs, Pt.cells, Pt.slots] at X123 l123 y123 z123 st123 hQ123
      subst l123 y123 z123
      obtain ⟨rfl, N123q, e123⟩ := hQ123
      have N123 := Fr.app N120 N123q
      obtain ⟨fs, hr, hrun, hended, hW, hsame⟩ := X123.leave (v := some (.int (1 : Int32))) (fun h => by rw [Bd.returns] at h; cases h)
      refine ⟨_, _, pre0 _ ?_, hrun, hended, _, _, rfl, ?_, ⟨_, rfl⟩, hW, hsame.mono (by decide) (by decide)⟩
      · show Steps p.tables e below (s₁.setTop (mkF m 0 #[.val (.int p1), .val (.int p2), .val (.int p3), .unset, .unset, .unset, .unset, .unset, .unset] [])) _
        refine XS.iloadN X0.here hx rfl (hb hby at_0) rfl ?_
        show Steps p.tables e below (s₁.setTop (mkF m 1 #[.val (.int p1), .val (.int p2), .val (.int p3), .unset, .unset, .unset, .unset, .unset, .unset] [(.int p1)])) _
        refine st103 _ ?_
        show Steps p.tables e below (T103.setTop (mkF m 4 #[.val (.int p1), .val (.int p2), .val (.int p3), .unset, .unset, .unset, .unset, .unset, .unset] [(.ref (A 1))])) _
        refine XS.astoreN X103.here hx rfl (hb hby at_4) rfl rfl (l' := #[.val (.int p1), .val (.int p2), .val (.int p3), .val (.ref (A 1)), .unset, .unset, .unset, .unset, .unset]) rfl ?_
        show Steps p.tables e below (T103.setTop (mkF m 5 #[.val (.int p1), .val (.int p2), .val (.int p3), .val (.ref (A 1)), .unset, .unset, .unset, .unset, .unset] [])) _
        refine XS.iloadN X103.here hx rfl (hb hby at_5) rfl ?_
        show Steps p.tables e below (T103.setTop (mkF m 6 #[.val (.int p1), .val (.int p2), .val (.int p3), .val (.ref (A 1)), .unset, .unset, .unset, .unset, .unset] [(.int p2)])) _
        refine st104 _ ?_
        show Steps p.tables e below (T104.setTop (mkF m 9 #[.val (.int p1), .val (.int p2), .val (.int p3), .val (.ref (A 1)), .unset, .unset, .unset, .unset, .unset] [(.ref r104)])) _
        refine XS.astore X104.here hx rfl (hb hby at_9) rfl rfl (l' := #[.val (.int p1), .val (.int p2), .val (.int p3), .val (.ref (A 1)), .val (.ref r104), .unset, .unset, .unset, .unset]) rfl ?_
        show Steps p.tables e below (T104.setTop (mkF m 11 #[.val (.int p1), .val (.int p2), .val (.int p3), .val (.ref (A 1)), .val (.ref r104), .unset, .unset, .unset, .unset] [])) _
        refine XS.iloadN X104.here hx rfl (hb hby at_11) rfl ?_
        show Steps p.tables e below (T104.setTop (mkF m 12 #[.val (.int p1), .val (.int p2), .val (.int p3), .val (.ref (A 1)), .val (.ref r104), .unset, .unset, .unset, .unset] [(.int p3)])) _
        refine st105 _ ?_
        show Steps p.tables e below (T105.setTop (mkF m 15 #[.val (.int p1), .val (.int p2), .val (.int p3), .val (.ref (A 1)), .val (.ref r104), .unset, .unset, .unset, .unset] [(.ref r105)])) _
        refine XS.astore X105.here hx rfl (hb hby at_15) rfl rfl (l' := #[.val (.int p1), .val (.int p2), .val (.int p3), .val (.ref (A 1)), .val (.ref r104), .val (.ref r105), .unset, .unset, .unset]) rfl ?_
        show Steps p.tables e below (T105.setTop (mkF m 17 #[.val (.int p1), .val (.int p2), .val (.int p3), .val (.ref (A 1)), .val (.ref r104), .val (.ref r105), .unset, .unset, .unset] [])) _
        refine XS.aloadN X105.here hx rfl (hb hby at_17) rfl rfl ?_
        show Steps p.tables e below (T105.setTop (mkF m 18 #[.val (.int p1), .val (.int p2), .val (.int p3), .val (.ref (A 1)), .val (.ref r104), .val (.ref r105), .unset, .unset, .unset] [(.ref (A 1))])) _
        refine st109.trans ?_
        show Steps p.tables e below (T109.setTop (mkF m 21 #[.val (.int p1), .val (.int p2), .val (.int p3), .val (.ref (A 1)), .val (.ref r104), .val (.ref r105), .unset, .unset, .unset] [(.ref (A 3))])) _
        refine XS.astore X109.here hx rfl (hb hby at_21) rfl rfl (l' := #[.val (.int p1), .val (.int p2), .val (.int p3), .val (.ref (A 1)), .val (.ref r104), .val (.ref r105), .val (.ref (A 3)), .unset, .unset]) rfl ?_
        show Steps p.tables e below (T109.setTop (mkF m 23 #[.val (.int p1), .val (.int p2), .val (.int p3), .val (.ref (A 1)), .val (.ref r104), .val (.ref r105), .val (.ref (A 3)), .unset, .unset] [])) _
        refine XS.aload X109.here hx rfl (hb hby at_23) rfl rfl ?_
        show Steps p.tables e below (T109.setTop (mkF m 25 #[.val (.int p1), .val (.int p2), .val (.int p3), .val (.ref (A 1)), .val (.ref r104), .val (.ref r105), .val (.ref (A 3)), .unset, .unset] [(.ref (A 3))])) _
        refine XS.ifnonnullYes X109.here hx rfl (pc0 := 25) (pc' := 30) rfl (hb hby at_25) rfl (by decide) (by decide) ?_
        show Steps p.tables e below (T109.setTop (mkF m 30 #[.val (.int p1), .val (.int p2), .val (.int p3), .val (.ref (A 1)), .val (.ref r104), .val (.ref r105), .val (.ref (A 3)), .unset, .unset] [])) _
        refine XS.aloadN X109.here hx rfl (hb hby at_30) rfl rfl ?_
        show Steps p.tables e below (T109.setTop (mkF m 31 #[.val (.int p1), .val (.int p2), .val (.int p3), .val (.ref (A 1)), .val (.ref r104), .val (.ref r105), .val (.ref (A 3)), .unset, .unset] [(.ref (A 1))])) _
        refine XS.aload X109.here hx rfl (hb hby at_31) rfl rfl ?_
        show Steps p.tables e below (T109.setTop (mkF m 33 #[.val (.int p1), .val (.int p2), .val (.int p3), .val (.ref (A 1)), .val (.ref r104), .val (.ref r105), .val (.ref (A 3)), .unset, .unset] [(.ref r104), (.ref (A 1))])) _
        refine XS.aload X109.here hx rfl (hb hby at_33) rfl rfl ?_
        show Steps p.tables e below (T109.setTop (mkF m 35 #[.val (.int p1), .val (.int p2), .val (.int p3), .val (.ref (A 1)), .val (.ref r104), .val (.ref r105), .val (.ref (A 3)), .unset, .unset] [(.ref r105), (.ref r104), (.ref (A 1))])) _
        refine st115.trans ?_
        show Steps p.tables e below (T115.setTop (mkF m 38 #[.val (.int p1), .val (.int p2), .val (.int p3), .val (.ref (A 1)), .val (.ref r104), .val (.ref r105), .val (.ref (A 3)), .unset, .unset] [(.int (1 : Int32))])) _
        refine XS.aload X115.here hx rfl (hb hby at_38) rfl rfl ?_
        show Steps p.tables e below (T115.setTop (mkF m 40 #[.val (.int p1), .val (.int p2), .val (.int p3), .val (.ref (A 1)), .val (.ref r104), .val (.ref r105), .val (.ref (A 3)), .unset, .unset] [(.ref (A 3)), (.int (1 : Int32))])) _
        refine XS.aload X115.here hx rfl (hb hby at_40) rfl rfl ?_
        show Steps p.tables e below (T115.setTop (mkF m 42 #[.val (.int p1), .val (.int p2), .val (.int p3), .val (.ref (A 1)), .val (.ref r104), .val (.ref r105), .val (.ref (A 3)), .unset, .unset] [(.ref r105), (.ref (A 3)), (.int (1 : Int32))])) _
        refine XS.aload X115.here hx rfl (hb hby at_42) rfl rfl ?_
        show Steps p.tables e below (T115.setTop (mkF m 44 #[.val (.int p1), .val (.int p2), .val (.int p3), .val (.ref (A 1)), .val (.ref r104), .val (.ref r105), .val (.ref (A 3)), .unset, .unset] [(.ref r104), (.ref r105), (.ref (A 3)), (.int (1 : Int32))])) _
        refine st120.trans ?_
        show Steps p.tables e below (T120.setTop (mkF m 47 #[.val (.int p1), .val (.int p2), .val (.int p3), .val (.ref (A 1)), .val (.ref r104), .val (.ref r105), .val (.ref (A 3)), .unset, .unset] [(.int (1 : Int32)), (.int (1 : Int32))])) _
        refine XS.icmpNo X120.here hx rfl (hb hby at_47) rfl (teq (by decide : (1 : Int32) = (1 : Int32))).2 ?_
        show Steps p.tables e below (T120.setTop (mkF m 50 #[.val (.int p1), .val (.int p2), .val (.int p3), .val (.ref (A 1)), .val (.ref r104), .val (.ref r105), .val (.ref (A 3)), .unset, .unset] [])) _
        refine XS.iconst X120.here hx rfl (hb hby at_50) ?_
        show Steps p.tables e below (T120.setTop (mkF m 51 #[.val (.int p1), .val (.int p2), .val (.int p3), .val (.ref (A 1)), .val (.ref r104), .val (.ref r105), .val (.ref (A 3)), .unset, .unset] [(.int (1 : Int32))])) _
        refine XS.goto X120.here hx rfl (pc0 := 51) (pc' := 55) rfl (hb hby at_51) (by decide) (by decide) ?_
        show Steps p.tables e below (T120.setTop (mkF m 55 #[.val (.int p1), .val (.int p2), .val (.int p3), .val (.ref (A 1)), .val (.ref r104), .val (.ref r105), .val (.ref (A 3)), .unset, .unset] [(.int (1 : Int32))])) _
        refine XS.istore X120.here hx rfl (hb hby at_55) rfl (l' := #[.val (.int p1), .val (.int p2), .val (.int p3), .val (.ref (A 1)), .val (.ref r104), .val (.ref r105), .val (.ref (A 3)), .val (.int (1 : Int32)), .unset]) rfl ?_
        show Steps p.tables e below (T120.setTop (mkF m 57 #[.val (.int p1), .val (.int p2), .val (.int p3), .val (.ref (A 1)), .val (.ref r104), .val (.ref r105), .val (.ref (A 3)), .val (.int (1 : Int32)), .unset] [])) _
        refine XS.aload X120.here hx rfl (hb hby at_57) rfl rfl ?_
        show Steps p.tables e below (T120.setTop (mkF m 59 #[.val (.int p1), .val (.int p2), .val (.int p3), .val (.ref (A 1)), .val (.ref r104), .val (.ref r105), .val (.ref (A 3)), .val (.int (1 : Int32)), .unset] [(.ref (A 3))])) _
        refine st123.trans ?_
        show Steps p.tables e below (T123.setTop (mkF m 62 #[.val (.int p1), .val (.int p2), .val (.int p3), .val (.ref (A 1)), .val (.ref r104), .val (.ref r105), .val (.ref (A 3)), .val (.int (1 : Int32)), .unset] [(.ref (A 1))])) _
        refine XS.aloadN X123.here hx rfl (hb hby at_62) rfl rfl ?_
        show Steps p.tables e below (T123.setTop (mkF m 63 #[.val (.int p1), .val (.int p2), .val (.int p3), .val (.ref (A 1)), .val (.ref r104), .val (.ref r105), .val (.ref (A 3)), .val (.int (1 : Int32)), .unset] [(.ref (A 1)), (.ref (A 1))])) _
        refine Jvm.RoadKit.acmp (g := (mkF m 63 #[.val (.int p1), .val (.int p2), .val (.int p3), .val (.ref (A 1)), .val (.ref r104), .val (.ref r105), .val (.ref (A 3)), .val (.int (1 : Int32)), .unset] [(.ref (A 1)), (.ref (A 1))])) X123 hx rfl rfl rfl (pc0 := 63) (pc' := 66) (same := true) rfl (hb hby at_63) rfl (decide_eq_true rfl) (by decide) (by decide) ?_
        show Steps p.tables e below (T123.setTop (mkF m 66 #[.val (.int p1), .val (.int p2), .val (.int p3), .val (.ref (A 1)), .val (.ref r104), .val (.ref r105), .val (.ref (A 3)), .val (.int (1 : Int32)), .unset] [])) _
        refine XS.iconst X123.here hx rfl (hb hby at_66) ?_
        show Steps p.tables e below (T123.setTop (mkF m 67 #[.val (.int p1), .val (.int p2), .val (.int p3), .val (.ref (A 1)), .val (.ref r104), .val (.ref r105), .val (.ref (A 3)), .val (.int (1 : Int32)), .unset] [(.int (1 : Int32))])) _
        refine XS.goto X123.here hx rfl (pc0 := 67) (pc' := 71) rfl (hb hby at_67) (by decide) (by decide) ?_
        show Steps p.tables e below (T123.setTop (mkF m 71 #[.val (.int p1), .val (.int p2), .val (.int p3), .val (.ref (A 1)), .val (.ref r104), .val (.ref r105), .val (.ref (A 3)), .val (.int (1 : Int32)), .unset] [(.int (1 : Int32))])) _
        refine XS.istore X123.here hx rfl (hb hby at_71) rfl (l' := #[.val (.int p1), .val (.int p2), .val (.int p3), .val (.ref (A 1)), .val (.ref r104), .val (.ref r105), .val (.ref (A 3)), .val (.int (1 : Int32)), .val (.int (1 : Int32))]) rfl ?_
        show Steps p.tables e below (T123.setTop (mkF m 73 #[.val (.int p1), .val (.int p2), .val (.int p3), .val (.ref (A 1)), .val (.ref r104), .val (.ref r105), .val (.ref (A 3)), .val (.int (1 : Int32)), .val (.int (1 : Int32))] [])) _
        refine XS.iload X123.here hx rfl (hb hby at_73) rfl ?_
        show Steps p.tables e below (T123.setTop (mkF m 75 #[.val (.int p1), .val (.int p2), .val (.int p3), .val (.ref (A 1)), .val (.ref r104), .val (.ref r105), .val (.ref (A 3)), .val (.int (1 : Int32)), .val (.int (1 : Int32))] [(.int (1 : Int32))])) _
        refine XS.ifNo X123.here hx rfl (hb hby at_75) rfl ((if0 _ _).trans (feq (by decide : ¬ ((1 : Int32) = (0 : Int32)))).1) ?_
        show Steps p.tables e below (T123.setTop (mkF m 78 #[.val (.int p1), .val (.int p2), .val (.int p3), .val (.ref (A 1)), .val (.ref r104), .val (.ref r105), .val (.ref (A 3)), .val (.int (1 : Int32)), .val (.int (1 : Int32))] [])) _
        refine XS.iload X123.here hx rfl (hb hby at_78) rfl ?_
        show Steps p.tables e below (T123.setTop (mkF m 80 #[.val (.int p1), .val (.int p2), .val (.int p3), .val (.ref (A 1)), .val (.ref r104), .val (.ref r105), .val (.ref (A 3)), .val (.int (1 : Int32)), .val (.int (1 : Int32))] [(.int (1 : Int32))])) _
        refine XS.ifNo X123.here hx rfl (hb hby at_80) rfl ((if0 _ _).trans (feq (by decide : ¬ ((1 : Int32) = (0 : Int32)))).1) ?_
        show Steps p.tables e below (T123.setTop (mkF m 83 #[.val (.int p1), .val (.int p2), .val (.int p3), .val (.ref (A 1)), .val (.ref r104), .val (.ref r105), .val (.ref (A 3)), .val (.int (1 : Int32)), .val (.int (1 : Int32))] [])) _
        refine XS.iconst X123.here hx rfl (hb hby at_83) ?_
        show Steps p.tables e below (T123.setTop (mkF m 84 #[.val (.int p1), .val (.int p2), .val (.int p3), .val (.ref (A 1)), .val (.ref r104), .val (.ref r105), .val (.ref (A 3)), .val (.int (1 : Int32)), .val (.int (1 : Int32))] [(.int (1 : Int32))])) _
        refine XS.goto X123.here hx rfl (pc0 := 84) (pc' := 88) rfl (hb hby at_84) (by decide) (by decide) ?_
        show Steps p.tables e below (T123.setTop (mkF m 88 #[.val (.int p1), .val (.int p2), .val (.int p3), .val (.ref (A 1)), .val (.ref r104), .val (.ref r105), .val (.ref (A 3)), .val (.int (1 : Int32)), .val (.int (1 : Int32))] [(.int (1 : Int32))])) _
        exact retN X123 hx (t := .boolean) Bd.returns (by simp) (hb hby at_88) hr
      · show LQ n0 _ T123.heap _
        exact ⟨rfl, N123, trivial⟩
    · by_cases hp_124 : p2 = p3
      · obtain ⟨_, _, ⟨T125, L125, k125, n125⟩, -, X125, ⟨Lc125, hQ125, l125, y125, z125⟩, st125⟩ := Jvm.LawKit.callS X0 hx (y := own_m7) hown (mvT hZ (hw _ (List.mem_of_getElem? (i := 0) rfl))) (mvT hZ (hw _ (List.mem_of_getElem? (i := 1) rfl))) (mvT hZ (hw _ (List.mem_of_getElem? (i := 2) rfl))) (mvT hZ (hw _ (List.mem_of_getElem? (i := 3) rfl))) (by decide) (backOf (W := 0) (rm38 l Z a0 hw [] h0 n0 p1 p2 p3 A K EN OL0 hk16) hZ (hw _ (List.mem_of_getElem? (i := 3) rfl)) (hw _ (List.mem_of_getElem? (i := 2) rfl)) (by decide) (by decide)) (g := (mkF m 1 #[.val (.int p1), .val (.int p2), .val (.int p3), .unset, .unset, .unset, .unset, .unset, .unset] [(.int p1)])) rfl (by rw [hml]; rfl) (argsL := [(.int p1)]) (rest := []) (lenOf own_pd2 rfl) rfl (by show 2 * 0 + _ ≤ _; exact Nat.le_of_eq rfl) (hb hby at_1) (fun _ _ => ⟨rfl, e0, (by decide : 0 + 0 ≤ _), (by decide : 0 + 0 ≤ _)⟩)
        dsimp only [Pt.U, Pt.locs, Pt.cells, Pt.slots] at X125 l125 y125 z125 st125 hQ125
        subst l125 y125 z125
        obtain ⟨rfl, N125q, e125⟩ := hQ125
        have N125 := Fr.app N0 N125q
        obtain ⟨_, _, ⟨T126, L126, k126, n126⟩, -, X126, ⟨Lc126, hQ126, l126, y126, z126⟩, st126⟩ := Jvm.LawKit.callS X125 hx (y := own_m4) hown (mvT hZ (hw _ (List.mem_of_getElem? (i := 8) rfl))) (mvT hZ (hw _ (List.mem_of_getElem? (i := 9) rfl))) (mvT hZ (hw _ (List.mem_of_getElem? (i := 10) rfl))) (mvT hZ (hw _ (List.mem_of_getElem? (i := 11) rfl))) (by decide) (backOf (W := 0) (rmV l Z a0 hw [] h0 n0 A K p2 EN OL0) hZ (hw _ (List.mem_of_getElem? (i := 11) rfl)) (hw _ (List.mem_of_getElem? (i := 10) rfl)) (by decide) (by decide)) (g := (mkF m 6 #[.val (.int p1), .val (.int p2), .val (.int p3), .val (.ref (A 1)), .unset, .unset, .unset, .unset, .unset] [(.int p2)])) rfl (by rw [hml]; rfl) (argsL := [(.int p2)]) (rest := []) (lenOf own_pd3 rfl) rfl (by show 2 * 0 + _ ≤ _; exact Nat.le_of_eq rfl) (hb hby at_6) (fun _ _ => ⟨rfl, e125, (by decide : 0 + 1 ≤ _), (by decide : 0 + 1 ≤ _)⟩)
        dsimp only [Pt.U, Pt.locs, Pt.cells, Pt.slots] at X126 l126 y126 z126 st126 hQ126
        subst l126 y126 z126
        obtain ⟨r126, rfl, N126q, K126c, er126, fr126⟩ := hQ126
        have N126 := Fr.app N125 N126q
        have OL126 : Old Z n0 T126.heap := OL0.keep K126c all0
        have KK126 : Keep h0 T126.heap [] := KK0.trans K126c all0
        obtain ⟨_, _, ⟨T127, L127, k127, n127⟩, -, X127, ⟨Lc127, hQ127, l127, y127, z127⟩, st127⟩ := Jvm.LawKit.callS X126 hx (y := own_m4) hown (mvT hZ (hw _ (List.mem_of_getElem? (i := 8) rfl))) (mvT hZ (hw _ (List.mem_of_getElem? (i := 9) rfl))) (mvT hZ (hw _ (List.mem_of_getElem? (i := 10) rfl))) (mvT hZ (hw _ (List.mem_of_getElem? (i := 11) rfl))) (by decide) (backOf (W := 0) (rmV l Z a0 hw [] T126.heap n0 A K p3 EN OL126) hZ (hw _ (List.mem_of_getElem? (i := 11) rfl)) (hw _ (List.mem_of_getElem? (i := 10) rfl)) (by decide) (by decide)) (g := (mkF m 12 #[.val (.int p1), .val (.int p2), .val (.int p3), .val (.ref (A 1)), .val (.ref r126), .unset, .unset, .unset, .unset] [(.int p3)])) rfl (by rw [hml]; rfl) (argsL := [(.int p3)]) (rest := []) (lenOf own_pd3 rfl) rfl (by show 2 * 0 + _ ≤ _; exact Nat.le_of_eq rfl) (hb hby at_12) (fun _ _ => ⟨rfl, rfl, (by decide : 1 + 1 ≤ _), (by decide : 1 + 1 ≤ _)⟩)
        dsimp only [Pt.U, Pt.locs, Pt.cells, Pt.slots] at X127 l127 y127 z127 st127 hQ127
        subst l127 y127 z127
        obtain ⟨r127, rfl, N127q, K127c, er127, fr127⟩ := hQ127
        have N127 := Fr.app N126 N127q
        have OL127 : Old Z n0 T127.heap := OL126.keep K127c all0
        have KK127 : Keep h0 T127.heap [] := KK126.trans K127c all0
        obtain ⟨cq128, kq128, q128a, q128b, q128c⟩ := isOf hZ rfl (EN.1.2.2.2.1.ext OL127.2)
        obtain ⟨_, _, ⟨T128, L128, k128, n128⟩, -, X128, ⟨Lc128, hQ128, l128, y128, z128⟩, st128⟩ := X127.virtualBack hx (y := own_m2) (z := own_m2) hown (mvT hZ (hw _ (List.mem_of_getElem? (i := 15) rfl))) (mvT hZ (hw _ (List.mem_of_getElem? (i := 16) rfl))) (notFace_of_selects (args := #[]) (mvT hZ (hw _ (List.mem_of_getElem? (i := 18) rfl)))) (mvT hZ (hw _ (List.mem_of_getElem? (i := 18) rfl))) (mvT hZ (hw _ (List.mem_of_getElem? (i := 17) rfl))) (by decide) (backOf (W := 0) (rm39 l Z a0 hw [] T127.heap n0 p1 p2 p3 A K EN OL127) hZ (hw _ (List.mem_of_getElem? (i := 19) rfl)) (hw _ (List.mem_of_getElem? (i := 6) rfl)) (by decide) (by decide)) q128a q128c (g := (mkF m 18 #[.val (.int p1), .val (.int p2), .val (.int p3), .val (.ref (A 1)), .val (.ref r126), .val (.ref r127), .unset, .unset, .unset] [(.ref (A 1))])) rfl (by rw [hml]; rfl) (Steps.refl _) (argsL := []) (rest := []) (lenOf own_pd5 rfl) rfl (by show 2 * 0 + _ ≤ _; exact Nat.le_of_eq rfl) (hb hby at_18) (fun _ _ => ⟨rfl, rfl, (by decide : 2 + 0 ≤ _), (by decide : 2 + 0 ≤ _)⟩)
        dsimp only [Pt.U, Pt.locs, Pt.cells, Pt.slots] at X128 l128 y128 z128 st128 hQ128
        subst l128 y128 z128
        obtain ⟨rfl, N128q, e128⟩ := hQ128
        have N128 := Fr.app N127 N128q
        have fx132 : Exa Z T127.heap r126 "java/lang/Integer" := (er126.keep K127c)
        have fx133 : Fld Z T127.heap r126 "java/lang/Integer" "value" "I" (.int p2) := (fr126.keep K127c nin0)
        obtain ⟨cq134, kq134, q134a, q134b, q134c⟩ := isOf hZ e128 (EN.1.2.2.2.1.ext OL127.2)
        obtain ⟨_, _, ⟨T134, L134, k134, n134⟩, -, X134, ⟨Lc134, hQ134, l134, y134, z134⟩, st134⟩ := X128.virtualBack hx (y := own_m0) (z := own_m0) hown (mvT hZ (hw _ (List.mem_of_getElem? (i := 31) rfl))) (mvT hZ (hw _ (List.mem_of_getElem? (i := 32) rfl))) (notFace_of_selects (args := #[]) (mvT hZ (hw _ (List.mem_of_getElem? (i := 34) rfl)))) (mvT hZ (hw _ (List.mem_of_getElem? (i := 34) rfl))) (mvT hZ (hw _ (List.mem_of_getElem? (i := 33) rfl))) (by decide) (backOf (W := 0) (rm47 l Z a0 hw [] T127.heap n0 p1 p2 p3 A K r126 r127 EN OL127 fx132 er127 fx133 fr127 hp_101 hp_124) hZ (hw _ (List.mem_of_getElem? (i := 35) rfl)) (hw _ (List.mem_of_getElem? (i := 6) rfl)) (by decide) (by decide)) q134a q134c (g := (mkF m 35 #[.val (.int p1), .val (.int p2), .val (.int p3), .val (.ref (A 1)), .val (.ref r126), .val (.ref r127), .val (.ref (A 3)), .unset, .unset] [(.ref r127), (.ref r126), (.ref (A 1))])) rfl (by rw [hml]; rfl) (Steps.refl _) (argsL := [(.ref r126), (.ref r127)]) (rest := []) (lenOf own_pd10 rfl) rfl (by show 2 * 0 + _ ≤ _; exact Nat.le_of_eq rfl) (hb hby at_35) (fun _ _ => ⟨rfl, e128, (by decide : 2 + 0 ≤ _), (by decide : 2 + 0 ≤ _)⟩)
        dsimp only [Pt.U, Pt.locs, Pt.cells, Pt.slots] at X134 l134 y134 z134 st134 hQ134
        subst l134 y134 z134
        obtain ⟨rfl, N134q, e134⟩ := hQ134
        have N134 := Fr.app N128 N134q
        obtain ⟨cq138, kq138, q138a, q138b, q138c⟩ := isOf hZ e134 (EN.1.2.2.2.2.2.2.2.1.ext OL127.2)
        obtain ⟨_, _, ⟨T138, L138, k138, n138⟩, -, X138, ⟨Lc138, hQ138, l138, y138, z138⟩, st138⟩ := X134.virtualBack hx (y := own_m0) (z := own_m0) hown (mvT hZ (hw _ (List.mem_of_getElem? (i := 31) rfl))) (mvT hZ (hw _ (List.mem_of_getElem? (i := 32) rfl))) (notFace_of_selects (args := #[]) (mvT hZ (hw _ (List.mem_of_getElem? (i := 34) rfl)))) (mvT hZ (hw _ (List.mem_of_getElem? (i := 34) rfl))) (mvT hZ (hw _ (List.mem_of_getElem? (i := 33) rfl))) (by decide) (backOf (W := 1) (rm49 l Z a0 hw [] T127.heap n0 p1 p2 p3 A K r126 r127 EN OL127 er127 fx132 fr127 fx133 hp_101 hp_124) hZ (hw _ (List.mem_of_getElem? (i := 35) rfl)) (hw _ (List.mem_of_getElem? (i := 6) rfl)) (by decide) (by decide)) q138a q138c (g := (mkF m 44 #[.val (.int p1), .val (.int p2), .val (.int p3), .val (.ref (A 1)), .val (.ref r126), .val (.ref r127), .val (.ref (A 3)), .unset, .unset] [(.ref r126), (.ref r127), (.ref (A 3)), (.int (1 : Int32))])) rfl (by rw [hml]; rfl) (Steps.refl _) (argsL := [(.ref r127), (.ref r126)]) (rest := [(.int (1 : Int32))]) (lenOf own_pd10 rfl) rfl (by show 2 * 0 + _ ≤ _; exact Nat.le_of_eq rfl) (hb hby at_44) (fun _ _ => ⟨rfl, e134, (by decide : 2 + 0 ≤ _), (by decide : 2 + 0 ≤ _)⟩)
        dsimp only [Pt.U, Pt.locs, Pt.cells, Pt.slots] at X138 l138 y138 z138 st138 hQ138
        subst l138 y138 z138
        obtain ⟨rfl, N138q, e138⟩ := hQ138
        have N138 := Fr.app N134 N138q
        obtain ⟨cq139, kq139, q139a, q139b, q139c⟩ := isOf hZ e138 (EN.1.2.2.2.2.2.2.2.1.ext OL127.2)
        obtain ⟨_, _, ⟨T139, L139, k139, n139⟩, -, X139, ⟨Lc139, hQ139, l139, y139, z139⟩, st139⟩ := X138.virtualBack hx (y := own_m2) (z := own_m2) hown (mvT hZ (hw _ (List.mem_of_getElem? (i := 15) rfl))) (mvT hZ (hw _ (List.mem_of_getElem? (i := 16) rfl))) (notFace_of_selects (args := #[]) (mvT hZ (hw _ (List.mem_of_getElem? (i := 18) rfl)))) (mvT hZ (hw _ (List.mem_of_getElem? (i := 18) rfl))) (mvT hZ (hw _ (List.mem_of_getElem? (i := 17) rfl))) (by decide) (backOf (W := 0) (rm46 l Z a0 hw [] T127.heap n0 p1 p2 p3 A K EN OL127) hZ (hw _ (List.mem_of_getElem? (i := 19) rfl)) (hw _ (List.mem_of_getElem? (i := 6) rfl)) (by decide) (by decide)) q139a q139c (g := (mkF m 59 #[.val (.int p1), .val (.int p2), .val (.int p3), .val (.ref (A 1)), .val (.ref r126), .val (.ref r127), .val (.ref (A 3)), .val (.int (1 : Int32)), .unset] [(.ref (A 3))])) rfl (by rw [hml]; rfl) (Steps.refl _) (argsL := []) (rest := []) (lenOf own_pd5 rfl) rfl (by show 2 * 0 + _ ≤ _; exact Nat.le_of_eq rfl) (hb hby at_59) (fun _ _ => ⟨rfl, e138, (by decide : 2 + 0 ≤ _), (by decide : 2 + 0 ≤ _)⟩)
        dsimp only [Pt.U, Pt.locs, Pt.cells, Pt.slots] at X139 l139 y139 z139 st139 hQ139
        subst l139 y139 z139
        obtain ⟨rfl, N139q, e139⟩ := hQ139
        have N139 := Fr.app N138 N139q
        obtain ⟨fs, hr, hrun, hended, hW, hsame⟩ := X139.leave (v := some (.int (1 : Int32))) (fun h => by rw [Bd.returns] at h; cases h)
        refine ⟨_, _, pre0 _ ?_, hrun, hended, _, _, rfl, ?_, ⟨_, rfl⟩, hW, hsame.mono (by decide) (by decide)⟩
        · show Steps p.tables e below (s₁.setTop (mkF m 0 #[.val (.int p1), .val (.int p2), .val (.int p3), .unset, .unset, .unset, .unset, .unset, .unset] [])) _
          refine XS.iloadN X0.here hx rfl (hb hby at_0) rfl ?_
          show Steps p.tables e below (s₁.setTop (mkF m 1 #[.val (.int p1), .val (.int p2), .val (.int p3), .unset, .unset, .unset, .unset, .unset, .unset] [(.int p1)])) _
          refine st125 _ ?_
          show Steps p.tables e below (T125.setTop (mkF m 4 #[.val (.int p1), .val (.int p2), .val (.int p3), .unset, .unset, .unset, .unset, .unset, .unset] [(.ref (A 1))])) _
          refine XS.astoreN X125.here hx rfl (hb hby at_4) rfl rfl (l' := #[.val (.int p1), .val (.int p2), .val (.int p3), .val (.ref (A 1)), .unset, .unset, .unset, .unset, .unset]) rfl ?_
          show Steps p.tables e below (T125.setTop (mkF m 5 #[.val (.int p1), .val (.int p2), .val (.int p3), .val (.ref (A 1)), .unset, .unset, .unset, .unset, .unset] [])) _
          refine XS.iloadN X125.here hx rfl (hb hby at_5) rfl ?_
          show Steps p.tables e below (T125.setTop (mkF m 6 #[.val (.int p1), .val (.int p2), .val (.int p3), .val (.ref (A 1)), .unset, .unset, .unset, .unset, .unset] [(.int p2)])) _
          refine st126 _ ?_
          show Steps p.tables e below (T126.setTop (mkF m 9 #[.val (.int p1), .val (.int p2), .val (.int p3), .val (.ref (A 1)), .unset, .unset, .unset, .unset, .unset] [(.ref r126)])) _
          refine XS.astore X126.here hx rfl (hb hby at_9) rfl rfl (l' := #[.val (.int p1), .val (.int p2), .val (.int p3), .val (.ref (A 1)), .val (.ref r126), .unset, .unset, .unset, .unset]) rfl ?_
          show Steps p.tables e below (T126.setTop (mkF m 11 #[.val (.int p1), .val (.int p2), .val (.int p3), .val (.ref (A 1)), .val (.ref r126), .unset, .unset, .unset, .unset] [])) _
          refine XS.iloadN X126.here hx rfl (hb hby at_11) rfl ?_
          show Steps p.tables e below (T126.setTop (mkF m 12 #[.val (.int p1), .val (.int p2), .val (.int p3), .val (.ref (A 1)), .val (.ref r126), .unset, .unset, .unset, .unset] [(.int p3)])) _
          refine st127 _ ?_
          show Steps p.tables e below (T127.setTop (mkF m 15 #[.val (.int p1), .val (.int p2), .val (.int p3), .val (.ref (A 1)), .val (.ref r126), .unset, .unset, .unset, .unset] [(.ref r127)])) _
          refine XS.astore X127.here hx rfl (hb hby at_15) rfl rfl (l' := #[.val (.int p1), .val (.int p2), .val (.int p3), .val (.ref (A 1)), .val (.ref r126), .val (.ref r127), .unset, .unset, .unset]) rfl ?_
          show Steps p.tables e below (T127.setTop (mkF m 17 #[.val (.int p1), .val (.int p2), .val (.int p3), .val (.ref (A 1)), .val (.ref r126), .val (.ref r127), .unset, .unset, .unset] [])) _
          refine XS.aloadN X127.here hx rfl (hb hby at_17) rfl rfl ?_
          show Steps p.tables e below (T127.setTop (mkF m 18 #[.val (.int p1), .val (.int p2), .val (.int p3), .val (.ref (A 1)), .val (.ref r126), .val (.ref r127), .unset, .unset, .unset] [(.ref (A 1))])) _
          refine st128.trans ?_
          show Steps p.tables e below (T128.setTop (mkF m 21 #[.val (.int p1), .val (.int p2), .val (.int p3), .val (.ref (A 1)), .val (.ref r126), .val (.ref r127), .unset, .unset, .unset] [(.ref (A 3))])) _
          refine XS.astore X128.here hx rfl (hb hby at_21) rfl rfl (l' := #[.val (.int p1), .val (.int p2), .val (.int p3), .val (.ref (A 1)), .val (.ref r126), .val (.ref r127), .val (.ref (A 3)), .unset, .unset]) rfl ?_
          show Steps p.tables e below (T128.setTop (mkF m 23 #[.val (.int p1), .val (.int p2), .val (.int p3), .val (.ref (A 1)), .val (.ref r126), .val (.ref r127), .val (.ref (A 3)), .unset, .unset] [])) _
          refine XS.aload X128.here hx rfl (hb hby at_23) rfl rfl ?_
          show Steps p.tables e below (T128.setTop (mkF m 25 #[.val (.int p1), .val (.int p2), .val (.int p3), .val (.ref (A 1)), .val (.ref r126), .val (.ref r127), .val (.ref (A 3)), .unset, .unset] [(.ref (A 3))])) _
          refine XS.ifnonnullYes X128.here hx rfl (pc0 := 25) (pc' := 30) rfl (hb hby at_25) rfl (by decide) (by decide) ?_
          show Steps p.tables e below (T128.setTop (mkF m 30 #[.val (.int p1), .val (.int p2), .val (.int p3), .val (.ref (A 1)), .val (.ref r126), .val (.ref r127), .val (.ref (A 3)), .unset, .unset] [])) _
          refine XS.aloadN X128.here hx rfl (hb hby at_30) rfl rfl ?_
          show Steps p.tables e below (T128.setTop (mkF m 31 #[.val (.int p1), .val (.int p2), .val (.int p3), .val (.ref (A 1)), .val (.ref r126), .val (.ref r127), .val (.ref (A 3)), .unset, .unset] [(.ref (A 1))])) _
          refine XS.aload X128.here hx rfl (hb hby at_31) rfl rfl ?_
          show Steps p.tables e below (T128.setTop (mkF m 33 #[.val (.int p1), .val (.int p2), .val (.int p3), .val (.ref (A 1)), .val (.ref r126), .val (.ref r127), .val (.ref (A 3)), .unset, .unset] [(.ref r126), (.ref (A 1))])) _
          refine XS.aload X128.here hx rfl (hb hby at_33) rfl rfl ?_
          show Steps p.tables e below (T128.setTop (mkF m 35 #[.val (.int p1), .val (.int p2), .val (.int p3), .val (.ref (A 1)), .val (.ref r126), .val (.ref r127), .val (.ref (A 3)), .unset, .unset] [(.ref r127), (.ref r126), (.ref (A 1))])) _
          refine st134.trans ?_
          show Steps p.tables e below (T134.setTop (mkF m 38 #[.val (.int p1), .val (.int p2), .val (.int p3), .val (.ref (A 1)), .val (.ref r126), .val (.ref r127), .val (.ref (A 3)), .unset, .unset] [(.int (1 : Int32))])) _
          refine XS.aload X134.here hx rfl (hb hby at_38) rfl rfl ?_
          show Steps p.tables e below (T134.setTop (mkF m 40 #[.val (.int p1), .val (.int p2), .val (.int p3), .val (.ref (A 1)), .val (.ref r126), .val (.ref r127), .val (.ref (A 3)), .unset, .unset] [(.ref (A 3)), (.int (1 : Int32))])) _
          refine XS.aload X134.here hx rfl (hb hby at_40) rfl rfl ?_
          show Steps p.tables e below (T134.setTop (mkF m 42 #[.val (.int p1), .val (.int p2), .val (.int p3), .val (.ref (A 1)), .val (.ref r126), .val (.ref r127), .val (.ref (A 3)), .unset, .unset] [(.ref r127), (.ref (A 3)), (.int (1 : Int32))])) _
          refine XS.aload X134.here hx rfl (hb hby at_42) rfl rfl ?_
          show Steps p.tables e below (T134.setTop (mkF m 44 #[.val (.int p1), .val (.int p2), .val (.int p3), .val (.ref (A 1)), .val (.ref r126), .val (.ref r127), .val (.ref (A 3)), .unset, .unset] [(.ref r126), (.ref r127), (.ref (A 3)), (.int (1 : Int32))])) _
          refine st138.trans ?_
          show Steps p.tables e below (T138.setTop (mkF m 47 #[.val (.int p1), .val (.int p2), .val (.int p3), .val (.ref (A 1)), .val (.ref r126), .val (.ref r127), .val (.ref (A 3)), .unset, .unset] [(.int (1 : Int32)), (.int (1 : Int32))])) _
          refine XS.icmpNo X138.here hx rfl (hb hby at_47) rfl (teq (by decide : (1 : Int32) = (1 : Int32))).2 ?_
          show Steps p.tables e below (T138.setTop (mkF m 50 #[.val (.int p1), .val (.int p2), .val (.int p3), .val (.ref (A 1)), .val (.ref r126), .val (.ref r127), .val (.ref (A 3)), .unset, .unset] [])) _
          refine XS.iconst X138.here hx rfl (hb hby at_50) ?_
          show Steps p.tables e below (T138.setTop (mkF m 51 #[.val (.int p1), .val (.int p2), .val (.int p3), .val (.ref (A 1)), .val (.ref r126), .val (.ref r127), .val (.ref (A 3)), .unset, .unset] [(.int (1 : Int32))])) _
          refine XS.goto X138.here hx rfl (pc0 := 51) (pc' := 55) rfl (hb hby at_51) (by decide) (by decide) ?_
          show Steps p.tables e below (T138.setTop (mkF m 55 #[.val (.int p1), .val (.int p2), .val (.int p3), .val (.ref (A 1)), .val (.ref r126), .val (.ref r127), .val (.ref (A 3)), .unset, .unset] [(.int (1 : Int32))])) _
          refine XS.istore X138.here hx rfl (hb hby at_55) rfl (l' := #[.val (.int p1), .val (.int p2), .val (.int p3), .val (.ref (A 1)), .val (.ref r126), .val (.ref r127), .val (.ref (A 3)), .val (.int (1 : Int32)), .unset]) rfl ?_
          show Steps p.tables e below (T138.setTop (mkF m 57 #[.val (.int p1), .val (.int p2), .val (.int p3), .val (.ref (A 1)), .val (.ref r126), .val (.ref r127), .val (.ref (A 3)), .val (.int (1 : Int32)), .unset] [])) _
          refine XS.aload X138.here hx rfl (hb hby at_57) rfl rfl ?_
          show Steps p.tables e below (T138.setTop (mkF m 59 #[.val (.int p1), .val (.int p2), .val (.int p3), .val (.ref (A 1)), .val (.ref r126), .val (.ref r127), .val (.ref (A 3)), .val (.int (1 : Int32)), .unset] [(.ref (A 3))])) _
          refine st139.trans ?_
          show Steps p.tables e below (T139.setTop (mkF m 62 #[.val (.int p1), .val (.int p2), .val (.int p3), .val (.ref (A 1)), .val (.ref r126), .val (.ref r127), .val (.ref (A 3)), .val (.int (1 : Int32)), .unset] [(.ref (A 1))])) _
          refine XS.aloadN X139.here hx rfl (hb hby at_62) rfl rfl ?_
          show Steps p.tables e below (T139.setTop (mkF m 63 #[.val (.int p1), .val (.int p2), .val (.int p3), .val (.ref (A 1)), .val (.ref r126), .val (.ref r127), .val (.ref (A 3)), .val (.int (1 : Int32)), .unset] [(.ref (A 1)), (.ref (A 1))])) _
          refine Jvm.RoadKit.acmp (g := (mkF m 63 #[.val (.int p1), .val (.int p2), .val (.int p3), .val (.ref (A 1)), .val (.ref r126), .val (.ref r127), .val (.ref (A 3)), .val (.int (1 : Int32)), .unset] [(.ref (A 1)), (.ref (A 1))])) X139 hx rfl rfl rfl (pc0 := 63) (pc' := 66) (same := true) rfl (hb hby at_63) rfl (decide_eq_true rfl) (by decide) (by decide) ?_
          show Steps p.tables e below (T139.setTop (mkF m 66 #[.val (.int p1), .val (.int p2), .val (.int p3), .val (.ref (A 1)), .val (.ref r126), .val (.ref r127), .val (.ref (A 3)), .val (.int (1 : Int32)), .unset] [])) _
          refine XS.iconst X139.here hx rfl (hb hby at_66) ?_
          show Steps p.tables e below (T139.setTop (mkF m 67 #[.val (.int p1), .val (.int p2), .val (.int p3), .val (.ref (A 1)), .val (.ref r126), .val (.ref r127), .val (.ref (A 3)), .val (.int (1 : Int32)), .unset] [(.int (1 : Int32))])) _
          refine XS.goto X139.here hx rfl (pc0 := 67) (pc' := 71) rfl (hb hby at_67) (by decide) (by decide) ?_
          show Steps p.tables e below (T139.setTop (mkF m 71 #[.val (.int p1), .val (.int p2), .val (.int p3), .val (.ref (A 1)), .val (.ref r126), .val (.ref r127), .val (.ref (A 3)), .val (.int (1 : Int32)), .unset] [(.int (1 : Int32))])) _
          refine XS.istore X139.here hx rfl (hb hby at_71) rfl (l' := #[.val (.int p1), .val (.int p2), .val (.int p3), .val (.ref (A 1)), .val (.ref r126), .val (.ref r127), .val (.ref (A 3)), .val (.int (1 : Int32)), .val (.int (1 : Int32))]) rfl ?_
          show Steps p.tables e below (T139.setTop (mkF m 73 #[.val (.int p1), .val (.int p2), .val (.int p3), .val (.ref (A 1)), .val (.ref r126), .val (.ref r127), .val (.ref (A 3)), .val (.int (1 : Int32)), .val (.int (1 : Int32))] [])) _
          refine XS.iload X139.here hx rfl (hb hby at_73) rfl ?_
          show Steps p.tables e below (T139.setTop (mkF m 75 #[.val (.int p1), .val (.int p2), .val (.int p3), .val (.ref (A 1)), .val (.ref r126), .val (.ref r127), .val (.ref (A 3)), .val (.int (1 : Int32)), .val (.int (1 : Int32))] [(.int (1 : Int32))])) _
          refine XS.ifNo X139.here hx rfl (hb hby at_75) rfl ((if0 _ _).trans (feq (by decide : ¬ ((1 : Int32) = (0 : Int32)))).1) ?_
          show Steps p.tables e below (T139.setTop (mkF m 78 #[.val (.int p1), .val (.int p2), .val (.int p3), .val (.ref (A 1)), .val (.ref r126), .val (.ref r127), .val (.ref (A 3)), .val (.int (1 : Int32)), .val (.int (1 : Int32))] [])) _
          refine XS.iload X139.here hx rfl (hb hby at_78) rfl ?_
          show Steps p.tables e below (T139.setTop (mkF m 80 #[.val (.int p1), .val (.int p2), .val (.int p3), .val (.ref (A 1)), .val (.ref r126), .val (.ref r127), .val (.ref (A 3)), .val (.int (1 : Int32)), .val (.int (1 : Int32))] [(.int (1 : Int32))])) _
          refine XS.ifNo X139.here hx rfl (hb hby at_80) rfl ((if0 _ _).trans (feq (by decide : ¬ ((1 : Int32) = (0 : Int32)))).1) ?_
          show Steps p.tables e below (T139.setTop (mkF m 83 #[.val (.int p1), .val (.int p2), .val (.int p3), .val (.ref (A 1)), .val (.ref r126), .val (.ref r127), .val (.ref (A 3)), .val (.int (1 : Int32)), .val (.int (1 : Int32))] [])) _
          refine XS.iconst X139.here hx rfl (hb hby at_83) ?_
          show Steps p.tables e below (T139.setTop (mkF m 84 #[.val (.int p1), .val (.int p2), .val (.int p3), .val (.ref (A 1)), .val (.ref r126), .val (.ref r127), .val (.ref (A 3)), .val (.int (1 : Int32)), .val (.int (1 : Int32))] [(.int (1 : Int32))])) _
          refine XS.goto X139.here hx rfl (pc0 := 84) (pc' := 88) rfl (hb hby at_84) (by decide) (by decide) ?_
          show Steps p.tables e below (T139.setTop (mkF m 88 #[.val (.int p1), .val (.int p2), .val (.int p3), .val (.ref (A 1)), .val (.ref r126), .val (.ref r127), .val (.ref (A 3)), .val (.int (1 : Int32)), .val (.int (1 : Int32))] [(.int (1 : Int32))])) _
          exact retN X139 hx (t := .boolean) Bd.returns (by simp) (hb hby at_88) hr
        · show LQ n0 _ T139.heap _
          exact ⟨rfl, N139, trivial⟩
      · obtain ⟨_, _, ⟨T140, L140, k140, n140⟩, -, X140, ⟨Lc140, hQ140, l140, y140, z140⟩, st140⟩ := Jvm.LawKit.callS X0 hx (y := own_m7) hown (mvT hZ (hw _ (List.mem_of_getElem? (i := 0) rfl))) (mvT hZ (hw _ (List.mem_of_getElem? (i := 1) rfl))) (mvT hZ (hw _ (List.mem_of_getElem? (i := 2) rfl))) (mvT hZ (hw _ (List.mem_of_getElem? (i := 3) rfl))) (by decide) (backOf (W := 0) (rm38 l Z a0 hw [] h0 n0 p1 p2 p3 A K EN OL0 hk16) hZ (hw _ (List.mem_of_getElem? (i := 3) rfl)) (hw _ (List.mem_of_getElem? (i := 2) rfl)) (by decide) (by decide)) (g := (mkF m 1 #[.val (.int p1), .val (.int p2), .val (.int p3), .unset, .unset, .unset, .unset, .unset, .unset] [(.int p1)])) rfl (by rw [hml]; rfl) (argsL := [(.int p1)]) (rest := []) (lenOf own_pd2 rfl) rfl (by show 2 * 0 + _ ≤ _; exact Nat.le_of_eq rfl) (hb hby at_1) (fun _ _ => ⟨rfl, e0, (by decide : 0 + 0 ≤ _), (by decide : 0 + 0 ≤ _)⟩)
        dsimp only [Pt.U, Pt.locs, Pt.cells, Pt.slots] at X140 l140 y140 z140 st140 hQ140
        subst l140 y140 z140
        obtain ⟨rfl, N140q, e140⟩ := hQ140
        have N140 := Fr.app N0 N140q
        obtain ⟨_, _, ⟨T141, L141, k141, n141⟩, -, X141, ⟨Lc141, hQ141, l141, y141, z141⟩, st141⟩ := Jvm.LawKit.callS X140 hx (y := own_m4) hown (mvT hZ (hw _ (List.mem_of_getElem? (i := 8) rfl))) (mvT hZ (hw _ (List.mem_of_getElem? (i := 9) rfl))) (mvT hZ (hw _ (List.mem_of_getElem? (i := 10) rfl))) (mvT hZ (hw _ (List.mem_of_getElem? (i := 11) rfl))) (by decide) (backOf (W := 0) (rmV l Z a0 hw [] h0 n0 A K p2 EN OL0) hZ (hw _ (List.mem_of_getElem? (i := 11) rfl)) (hw _ (List.mem_of_getElem? (i := 10) rfl)) (by decide) (by decide)) (g := (mkF m 6 #[.val (.int p1), .val (.int p2), .val (.int p3), .val (.ref (A 1)), .unset, .unset, .unset, .unset, .unset] [(.int p2)])) rfl (by rw [hml]; rfl) (argsL := [(.int p2)]) (rest := []) (lenOf own_pd3 rfl) rfl (by show 2 * 0 + _ ≤ _; exact Nat.le_of_eq rfl) (hb hby at_6) (fun _ _ => ⟨rfl, e140, (by decide : 0 + 1 ≤ _), (by decide : 0 + 1 ≤ _)⟩)
        dsimp only [Pt.U, Pt.locs, Pt.cells, Pt.slots] at X141 l141 y141 z141 st141 hQ141
        subst l141 y141 z141
        obtain ⟨r141, rfl, N141q, K141c, er141, fr141⟩ := hQ141
        have N141 := Fr.app N140 N141q
        have OL141 : Old Z n0 T141.heap := OL0.keep K141c all0
        have KK141 : Keep h0 T141.heap [] := KK0.trans K141c all0
        obtain ⟨_, _, ⟨T142, L142, k142, n142⟩, -, X142, ⟨Lc142, hQ142, l142, y142, z142⟩, st142⟩ := Jvm.LawKit.callS X141 hx (y := own_m4) hown (mvT hZ (hw _ (List.mem_of_getElem? (i := 8) rfl))) (mvT hZ (hw _ (List.mem_of_getElem? (i := 9) rfl))) (mvT hZ (hw _ (List.mem_of_getElem? (i := 10) rfl))) (mvT hZ (hw _ (List.mem_of_getElem? (i := 11) rfl))) (by decide) (backOf (W := 0) (rmV l Z a0 hw [] T141.heap n0 A K p3 EN OL141) hZ (hw _ (List.mem_of_getElem? (i := 11) rfl)) (hw _ (List.mem_of_getElem? (i := 10) rfl)) (by decide) (by decide)) (g := (mkF m 12 #[.val (.int p1), .val (.int p2), .val (.int p3), .val (.ref (A 1)), .val (.ref r141), .unset, .unset, .unset, .unset] [(.int p3)])) rfl (by rw [hml]; rfl) (argsL := [(.int p3)]) (rest := []) (lenOf own_pd3 rfl) rfl (by show 2 * 0 + _ ≤ _; exact Nat.le_of_eq rfl) (hb hby at_12) (fun _ _ => ⟨rfl, rfl, (by decide : 1 + 1 ≤ _), (by decide : 1 + 1 ≤ _)⟩)
        dsimp only [Pt.U, Pt.locs, Pt.cells, Pt.slots] at X142 l142 y142 z142 st142 hQ142
        subst l142 y142 z142
        obtain ⟨r142, rfl, N142q, K142c, er142, fr142⟩ := hQ142
        have N142 := Fr.app N141 N142q
        have OL142 : Old Z n0 T142.heap := OL141.keep K142c all0
        have KK142 : Keep h0 T142.heap [] := KK141.trans K142c all0
        obtain ⟨cq143, kq143, q143a, q143b, q143c⟩ := isOf hZ rfl (EN.1.2.2.2.1.ext OL142.2)
        obtain ⟨_, _, ⟨T143, L143, k143, n143⟩, -, X143, ⟨Lc143, hQ143, l143, y143, z143⟩, st143⟩ := X142.virtualBack hx (y := own_m2) (z := own_m2) hown (mvT hZ (hw _ (List.mem_of_getElem? (i := 15) rfl))) (mvT hZ (hw _ (List.mem_of_getElem? (i := 16) rfl))) (notFace_of_selects (args := #[]) (mvT hZ (hw _ (List.mem_of_getElem? (i := 18) rfl)))) (mvT hZ (hw _ (List.mem_of_getElem? (i := 18) rfl))) (mvT hZ (hw _ (List.mem_of_getElem? (i := 17) rfl))) (by decide) (backOf (W := 0) (rm39 l Z a0 hw [] T142.heap n0 p1 p2 p3 A K EN OL142) hZ (hw _ (List.mem_of_getElem? (i := 19) rfl)) (hw _ (List.mem_of_getElem? (i := 6) rfl)) (by decide) (by decide)) q143a q143c (g := (mkF m 18 #[.val (.int p1), .val (.int p2), .val (.int p3), .val (.ref (A 1)), .val (.ref r141), .val (.ref r142), .unset, .unset, .unset] [(.ref (A 1))])) rfl (by rw [hml]; rfl) (Steps.refl _) (argsL := []) (rest := []) (lenOf own_pd5 rfl) rfl (by show 2 * 0 + _ ≤ _; exact Nat.le_of_eq rfl) (hb hby at_18) (fun _ _ => ⟨rfl, rfl, (by decide : 2 + 0 ≤ _), (by decide : 2 + 0 ≤ _)⟩)
        dsimp only [Pt.U, Pt.locs, Pt.cells, Pt.slots] at X143 l143 y143 z143 st143 hQ143
        subst l143 y143 z143
        obtain ⟨rfl, N143q, e143⟩ := hQ143
        have N143 := Fr.app N142 N143q
        have fx147 : Exa Z T142.heap r141 "java/lang/Integer" := (er141.keep K142c)
        have fx148 : Fld Z T142.heap r141 "java/lang/Integer" "value" "I" (.int p2) := (fr141.keep K142c nin0)
        obtain ⟨cq149, kq149, q149a, q149b, q149c⟩ := isOf hZ e143 (EN.1.2.2.2.1.ext OL142.2)
        obtain ⟨_, _, ⟨T149, L149, k149, n149⟩, -, X149, ⟨Lc149, hQ149, l149, y149, z149⟩, st149⟩ := X143.virtualBack hx (y := own_m0) (z := own_m0) hown (mvT hZ (hw _ (List.mem_of_getElem? (i := 31) rfl))) (mvT hZ (hw _ (List.mem_of_getElem? (i := 32) rfl))) (notFace_of_selects (args := #[]) (mvT hZ (hw _ (List.mem_of_getElem? (i := 34) rfl)))) (mvT hZ (hw _ (List.mem_of_getElem? (i := 34) rfl))) (mvT hZ (hw _ (List.mem_of_getElem? (i := 33) rfl))) (by decide) (backOf (W := 0) (rm51 l Z a0 hw [] T142.heap n0 p1 p2 p3 A K r141 r142 EN OL142 fx147 er142 fx148 fr142 hp_101 hp_124) hZ (hw _ (List.mem_of_getElem? (i := 35) rfl)) (hw _ (List.mem_of_getElem? (i := 6) rfl)) (by decide) (by decide)) q149a q149c (g := (mkF m 35 #[.val (.int p1), .val (.int p2), .val (.int p3), .val (.ref (A 1)), .val (.ref r141), .val (.ref r142), .val (.ref (A 3)), .unset, .unset] [(.ref r142), (.ref r141), (.ref (A 1))])) rfl (by rw [hml]; rfl) (Steps.refl _) (argsL := [(.ref r141), (.ref r142)]) (rest := []) (lenOf own_pd10 rfl) rfl (by show 2 * 0 + _ ≤ _; exact Nat.le_of_eq rfl) (hb hby at_35) (fun _ _ => ⟨rfl, e143, (by decide : 2 + 0 ≤ _), (by decide : 2 + 0 ≤ _)⟩)
        dsimp only [Pt.U, Pt.locs, Pt.cells, Pt.slots] at X149 l149 y149 z149 st149 hQ149
        subst l149 y149 z149
        obtain ⟨rfl, N149q, e149⟩ := hQ149
        have N149 := Fr.app N143 N149q
        obtain ⟨cq153, kq153, q153a, q153b, q153c⟩ := isOf hZ e149 (EN.1.2.2.2.2.2.2.2.1.ext OL142.2)
        obtain ⟨_, _, ⟨T153, L153, k153, n153⟩, -, X153, ⟨Lc153, hQ153, l153, y153, z153⟩, st153⟩ := X149.virtualBack hx (y := own_m0) (z := own_m0) hown (mvT hZ (hw _ (List.mem_of_getElem? (i := 31) rfl))) (mvT hZ (hw _ (List.mem_of_getElem? (i := 32) rfl))) (notFace_of_selects (args := #[]) (mvT hZ (hw _ (List.mem_of_getElem? (i := 34) rfl)))) (mvT hZ (hw _ (List.mem_of_getElem? (i := 34) rfl))) (mvT hZ (hw _ (List.mem_of_getElem? (i := 33) rfl))) (by decide) (backOf (W := 1) (rm53 l Z a0 hw [] T142.heap n0 p1 p2 p3 A K r141 r142 EN OL142 er142 fx147 fr142 fx148 hp_101 hp_124) hZ (hw _ (List.mem_of_getElem? (i := 35) rfl)) (hw _ (List.mem_of_getElem? (i := 6) rfl)) (by decide) (by decide)) q153a q153c (g := (mkF m 44 #[.val (.int p1), .val (.int p2), .val (.int p3), .val (.ref (A 1)), .val (.ref r141), .val (.ref r142), .val (.ref (A 3)), .unset, .unset] [(.ref r141), (.ref r142), (.ref (A 3)), (.int (0 : Int32))])) rfl (by rw [hml]; rfl) (Steps.refl _) (argsL := [(.ref r142), (.ref r141)]) (rest := [(.int (0 : Int32))]) (lenOf own_pd10 rfl) rfl (by show 2 * 0 + _ ≤ _; exact Nat.le_of_eq rfl) (hb hby at_44) (fun _ _ => ⟨rfl, e149, (by decide : 2 + 0 ≤ _), (by decide : 2 + 0 ≤ _)⟩)
        dsimp only [Pt.U, Pt.locs, Pt.cells, Pt.slots] at X153 l153 y153 z153 st153 hQ153
        subst l153 y153 z153
        obtain ⟨rfl, N153q, e153⟩ := hQ153
        have N153 := Fr.app N149 N153q
        obtain ⟨cq154, kq154, q154a, q154b, q154c⟩ := isOf hZ e153 (EN.1.2.2.2.2.2.2.2.1.ext OL142.2)
        obtain ⟨_, _, ⟨T154, L154, k154, n154⟩, -, X154, ⟨Lc154, hQ154, l154, y154, z154⟩, st154⟩ := X153.virtualBack hx (y := own_m2) (z := own_m2) hown (mvT hZ (hw _ (List.mem_of_getElem? (i := 15) rfl))) (mvT hZ (hw _ (List.mem_of_getElem? (i := 16) rfl))) (notFace_of_selects (args := #[]) (mvT hZ (hw _ (List.mem_of_getElem? (i := 18) rfl)))) (mvT hZ (hw _ (List.mem_of_getElem? (i := 18) rfl))) (mvT hZ (hw _ (List.mem_of_getElem? (i := 17) rfl))) (by decide) (backOf (W := 0) (rm46 l Z a0 hw [] T142.heap n0 p1 p2 p3 A K EN OL142) hZ (hw _ (List.mem_of_getElem? (i := 19) rfl)) (hw _ (List.mem_of_getElem? (i := 6) rfl)) (by decide) (by decide)) q154a q154c (g := (mkF m 59 #[.val (.int p1), .val (.int p2), .val (.int p3), .val (.ref (A 1)), .val (.ref r141), .val (.ref r142), .val (.ref (A 3)), .val (.int (1 : Int32)), .unset] [(.ref (A 3))])) rfl (by rw [hml]; rfl) (Steps.refl _) (argsL := []) (rest := []) (lenOf own_pd5 rfl) rfl (by show 2 * 0 + _ ≤ _; exact Nat.le_of_eq rfl) (hb hby at_59) (fun _ _ => ⟨rfl, e153, (by decide : 2 + 0 ≤ _), (by decide : 2 + 0 ≤ _)⟩)
        dsimp only [Pt.U, Pt.locs, Pt.cells, Pt.slots] at X154 l154 y154 z154 st154 hQ154
        subst l154 y154 z154
        obtain ⟨rfl, N154q, e154⟩ := hQ154
        have N154 := Fr.app N153 N154q
        obtain ⟨fs, hr, hrun, hended, hW, hsame⟩ := X154.leave (v := some (.int (1 : Int32))) (fun h => by rw [Bd.returns] at h; cases h)
        refine ⟨_, _, pre0 _ ?_, hrun, hended, _, _, rfl, ?_, ⟨_, rfl⟩, hW, hsame.mono (by decide) (by decide)⟩
        · show Steps p.tables e below (s₁.setTop (mkF m 0 #[.val (.int p1), .val (.int p2), .val (.int p3), .unset, .unset, .unset, .unset, .unset, .unset] [])) _
          refine XS.iloadN X0.here hx rfl (hb hby at_0) rfl ?_
          show Steps p.tables e below (s₁.setTop (mkF m 1 #[.val (.int p1), .val (.int p2), .val (.int p3), .unset, .unset, .unset, .unset, .unset, .unset] [(.int p1)])) _
          refine st140 _ ?_
          show Steps p.tables e below (T140.setTop (mkF m 4 #[.val (.int p1), .val (.int p2), .val (.int p3), .unset, .unset, .unset, .unset, .unset, .unset] [(.ref (A 1))])) _
          refine XS.astoreN X140.here hx rfl (hb hby at_4) rfl rfl (l' := #[.val (.int p1), .val (.int p2), .val (.int p3), .val (.ref (A 1)), .unset, .unset, .unset, .unset, .unset]) rfl ?_
          show Steps p.tables e below (T140.setTop (mkF m 5 #[.val (.int p1), .val (.int p2), .val (.int p3), .val (.ref (A 1)), .unset, .unset, .unset, .unset, .unset] [])) _
          refine XS.iloadN X140.here hx rfl (hb hby at_5) rfl ?_
          show Steps p.tables e below (T140.setTop (mkF m 6 #[.val (.int p1), .val (.int p2), .val (.int p3), .val (.ref (A 1)), .unset, .unset, .unset, .unset, .unset] [(.int p2)])) _
          refine st141 _ ?_
          show Steps p.tables e below (T141.setTop (mkF m 9 #[.val (.int p1), .val (.int p2), .val (.int p3), .val (.ref (A 1)), .unset, .unset, .unset, .unset, .unset] [(.ref r141)])) _
          refine XS.astore X141.here hx rfl (hb hby at_9) rfl rfl (l' := #[.val (.int p1), .val (.int p2), .val (.int p3), .val (.ref (A 1)), .val (.ref r141), .unset, .unset, .unset, .unset]) rfl ?_
          show Steps p.tables e below (T141.setTop (mkF m 11 #[.val (.int p1), .val (.int p2), .val (.int p3), .val (.ref (A 1)), .val (.ref r141), .unset, .unset, .unset, .unset] [])) _
          refine XS.iloadN X141.here hx rfl (hb hby at_11) rfl ?_
          show Steps p.tables e below (T141.setTop (mkF m 12 #[.val (.int p1), .val (.int p2), .val (.int p3), .val (.ref (A 1)), .val (.ref r141), .unset, .unset, .unset, .unset] [(.int p3)])) _
          refine st142 _ ?_
          show Steps p.tables e below (T142.setTop (mkF m 15 #[.val (.int p1), .val (.int p2), .val (.int p3), .val (.ref (A 1)), .val (.ref r141), .unset, .unset, .unset, .unset] [(.ref r142)])) _
          refine XS.astore X142.here hx rfl (hb hby at_15) rfl rfl (l' := #[.val (.int p1), .val (.int p2), .val (.int p3), .val (.ref (A 1)), .val (.ref r141), .val (.ref r142), .unset, .unset, .unset]) rfl ?_
          show Steps p.tables e below (T142.setTop (mkF m 17 #[.val (.int p1), .val (.int p2), .val (.int p3), .val (.ref (A 1)), .val (.ref r141), .val (.ref r142), .unset, .unset, .unset] [])) _
          refine XS.aloadN X142.here hx rfl (hb hby at_17) rfl rfl ?_
          show Steps p.tables e below (T142.setTop (mkF m 18 #[.val (.int p1), .val (.int p2), .val (.int p3), .val (.ref (A 1)), .val (.ref r141), .val (.ref r142), .unset, .unset, .unset] [(.ref (A 1))])) _
          refine st143.trans ?_
          show Steps p.tables e below (T143.setTop (mkF m 21 #[.val (.int p1), .val (.int p2), .val (.int p3), .val (.ref (A 1)), .val (.ref r141), .val (.ref r142), .unset, .unset, .unset] [(.ref (A 3))])) _
          refine XS.astore X143.here hx rfl (hb hby at_21) rfl rfl (l' := #[.val (.int p1), .val (.int p2), .val (.int p3), .val (.ref (A 1)), .val (.ref r141), .val (.ref r142), .val (.ref (A 3)), .unset, .unset]) rfl ?_
          show Steps p.tables e below (T143.setTop (mkF m 23 #[.val (.int p1), .val (.int p2), .val (.int p3), .val (.ref (A 1)), .val (.ref r141), .val (.ref r142), .val (.ref (A 3)), .unset, .unset] [])) _
          refine XS.aload X143.here hx rfl (hb hby at_23) rfl rfl ?_
          show Steps p.tables e below (T143.setTop (mkF m 25 #[.val (.int p1), .val (.int p2), .val (.int p3), .val (.ref (A 1)), .val (.ref r141), .val (.ref r142), .val (.ref (A 3)), .unset, .unset] [(.ref (A 3))])) _
          refine XS.ifnonnullYes X143.here hx rfl (pc0 := 25) (pc' := 30) rfl (hb hby at_25) rfl (by decide) (by decide) ?_
          show Steps p.tables e below (T143.setTop (mkF m 30 #[.val (.int p1), .val (.int p2), .val (.int p3), .val (.ref (A 1)), .val (.ref r141), .val (.ref r142), .val (.ref (A 3)), .unset, .unset] [])) _
          refine XS.aloadN X143.here hx rfl (hb hby at_30) rfl rfl ?_
          show Steps p.tables e below (T143.setTop (mkF m 31 #[.val (.int p1), .val (.int p2), .val (.int p3), .val (.ref (A 1)), .val (.ref r141), .val (.ref r142), .val (.ref (A 3)), .unset, .unset] [(.ref (A 1))])) _
          refine XS.aload X143.here hx rfl (hb hby at_31) rfl rfl ?_
          show Steps p.tables e below (T143.setTop (mkF m 33 #[.val (.int p1), .val (.int p2), .val (.int p3), .val (.ref (A 1)), .val (.ref r141), .val (.ref r142), .val (.ref (A 3)), .unset, .unset] [(.ref r141), (.ref (A 1))])) _
          refine XS.aload X143.here hx rfl (hb hby at_33) rfl rfl ?_
          show Steps p.tables e below (T143.setTop (mkF m 35 #[.val (.int p1), .val (.int p2), .val (.int p3), .val (.ref (A 1)), .val (.ref r141), .val (.ref r142), .val (.ref (A 3)), .unset, .unset] [(.ref r142), (.ref r141), (.ref (A 1))])) _
          refine st149.trans ?_
          show Steps p.tables e below (T149.setTop (mkF m 38 #[.val (.int p1), .val (.int p2), .val (.int p3), .val (.ref (A 1)), .val (.ref r141), .val (.ref r142), .val (.ref (A 3)), .unset, .unset] [(.int (0 : Int32))])) _
          refine XS.aload X149.here hx rfl (hb hby at_38) rfl rfl ?_
          show Steps p.tables e below (T149.setTop (mkF m 40 #[.val (.int p1), .val (.int p2), .val (.int p3), .val (.ref (A 1)), .val (.ref r141), .val (.ref r142), .val (.ref (A 3)), .unset, .unset] [(.ref (A 3)), (.int (0 : Int32))])) _
          refine XS.aload X149.here hx rfl (hb hby at_40) rfl rfl ?_
          show Steps p.tables e below (T149.setTop (mkF m 42 #[.val (.int p1), .val (.int p2), .val (.int p3), .val (.ref (A 1)), .val (.ref r141), .val (.ref r142), .val (.ref (A 3)), .unset, .unset] [(.ref r142), (.ref (A 3)), (.int (0 : Int32))])) _
          refine XS.aload X149.here hx rfl (hb hby at_42) rfl rfl ?_
          show Steps p.tables e below (T149.setTop (mkF m 44 #[.val (.int p1), .val (.int p2), .val (.int p3), .val (.ref (A 1)), .val (.ref r141), .val (.ref r142), .val (.ref (A 3)), .unset, .unset] [(.ref r141), (.ref r142), (.ref (A 3)), (.int (0 : Int32))])) _
          refine st153.trans ?_
          show Steps p.tables e below (T153.setTop (mkF m 47 #[.val (.int p1), .val (.int p2), .val (.int p3), .val (.ref (A 1)), .val (.ref r141), .val (.ref r142), .val (.ref (A 3)), .unset, .unset] [(.int (0 : Int32)), (.int (0 : Int32))])) _
          refine XS.icmpNo X153.here hx rfl (hb hby at_47) rfl (teq (by decide : (0 : Int32) = (0 : Int32))).2 ?_
          show Steps p.tables e below (T153.setTop (mkF m 50 #[.val (.int p1), .val (.int p2), .val (.int p3), .val (.ref (A 1)), .val (.ref r141), .val (.ref r142), .val (.ref (A 3)), .unset, .unset] [])) _
          refine XS.iconst X153.here hx rfl (hb hby at_50) ?_
          show Steps p.tables e below (T153.setTop (mkF m 51 #[.val (.int p1), .val (.int p2), .val (.int p3), .val (.ref (A 1)), .val (.ref r141), .val (.ref r142), .val (.ref (A 3)), .unset, .unset] [(.int (1 : Int32))])) _
          refine XS.goto X153.here hx rfl (pc0 := 51) (pc' := 55) rfl (hb hby at_51) (by decide) (by decide) ?_
          show Steps p.tables e below (T153.setTop (mkF m 55 #[.val (.int p1), .val (.int p2), .val (.int p3), .val (.ref (A 1)), .val (.ref r141), .val (.ref r142), .val (.ref (A 3)), .unset, .unset] [(.int (1 : Int32))])) _
          refine XS.istore X153.here hx rfl (hb hby at_55) rfl (l' := #[.val (.int p1), .val (.int p2), .val (.int p3), .val (.ref (A 1)), .val (.ref r141), .val (.ref r142), .val (.ref (A 3)), .val (.int (1 : Int32)), .unset]) rfl ?_
          show Steps p.tables e below (T153.setTop (mkF m 57 #[.val (.int p1), .val (.int p2), .val (.int p3), .val (.ref (A 1)), .val (.ref r141), .val (.ref r142), .val (.ref (A 3)), .val (.int (1 : Int32)), .unset] [])) _
          refine XS.aload X153.here hx rfl (hb hby at_57) rfl rfl ?_
          show Steps p.tables e below (T153.setTop (mkF m 59 #[.val (.int p1), .val (.int p2), .val (.int p3), .val (.ref (A 1)), .val (.ref r141), .val (.ref r142), .val (.ref (A 3)), .val (.int (1 : Int32)), .unset] [(.ref (A 3))])) _
          refine st154.trans ?_
          show Steps p.tables e below (T154.setTop (mkF m 62 #[.val (.int p1), .val (.int p2), .val (.int p3), .val (.ref (A 1)), .val (.ref r141), .val (.ref r142), .val (.ref (A 3)), .val (.int (1 : Int32)), .unset] [(.ref (A 1))])) _
          refine XS.aloadN X154.here hx rfl (hb hby at_62) rfl rfl ?_
          show Steps p.tables e below (T154.setTop (mkF m 63 #[.val (.int p1), .val (.int p2), .val (.int p3), .val (.ref (A 1)), .val (.ref r141), .val (.ref r142), .val (.ref (A 3)), .val (.int (1 : Int32)), .unset] [(.ref (A 1)), (.ref (A 1))])) _
          refine Jvm.RoadKit.acmp (g := (mkF m 63 #[.val (.int p1), .val (.int p2), .val (.int p3), .val (.ref (A 1)), .val (.ref r141), .val (.ref r142), .val (.ref (A 3)), .val (.int (1 : Int32)), .unset] [(.ref (A 1)), (.ref (A 1))])) X154 hx rfl rfl rfl (pc0 := 63) (pc' := 66) (same := true) rfl (hb hby at_63) rfl (decide_eq_true rfl) (by decide) (by decide) ?_
          show Steps p.tables e below (T154.setTop (mkF m 66 #[.val (.int p1), .val (.int p2), .val (.int p3), .val (.ref (A 1)), .val (.ref r141), .val (.ref r142), .val (.ref (A 3)), .val (.int (1 : Int32)), .unset] [])) _
          refine XS.iconst X154.here hx rfl (hb hby at_66) ?_
          show Steps p.tables e below (T154.setTop (mkF m 67 #[.val (.int p1), .val (.int p2), .val (.int p3), .val (.ref (A 1)), .val (.ref r141), .val (.ref r142), .val (.ref (A 3)), .val (.int (1 : Int32)), .unset] [(.int (1 : Int32))])) _
          refine XS.goto X154.here hx rfl (pc0 := 67) (pc' := 71) rfl (hb hby at_67) (by decide) (by decide) ?_
          show Steps p.tables e below (T154.setTop (mkF m 71 #[.val (.int p1), .val (.int p2), .val (.int p3), .val (.ref (A 1)), .val (.ref r141), .val (.ref r142), .val (.ref (A 3)), .val (.int (1 : Int32)), .unset] [(.int (1 : Int32))])) _
          refine XS.istore X154.here hx rfl (hb hby at_71) rfl (l' := #[.val (.int p1), .val (.int p2), .val (.int p3), .val (.ref (A 1)), .val (.ref r141), .val (.ref r142), .val (.ref (A 3)), .val (.int (1 : Int32)), .val (.int (1 : Int32))]) rfl ?_
          show Steps p.tables e below (T154.setTop (mkF m 73 #[.val (.int p1), .val (.int p2), .val (.int p3), .val (.ref (A 1)), .val (.ref r141), .val (.ref r142), .val (.ref (A 3)), .val (.int (1 : Int32)), .val (.int (1 : Int32))] [])) _
          refine XS.iload X154.here hx rfl (hb hby at_73) rfl ?_
          show Steps p.tables e below (T154.setTop (mkF m 75 #[.val (.int p1), .val (.int p2), .val (.int p3), .val (.ref (A 1)), .val (.ref r141), .val (.ref r142), .val (.ref (A 3)), .val (.int (1 : Int32)), .val (.int (1 : Int32))] [(.int (1 : Int32))])) _
          refine XS.ifNo X154.here hx rfl (hb hby at_75) rfl ((if0 _ _).trans (feq (by decide : ¬ ((1 : Int32) = (0 : Int32)))).1) ?_
          show Steps p.tables e below (T154.setTop (mkF m 78 #[.val (.int p1), .val (.int p2), .val (.int p3), .val (.ref (A 1)), .val (.ref r141), .val (.ref r142), .val (.ref (A 3)), .val (.int (1 : Int32)), .val (.int (1 : Int32))] [])) _
          refine XS.iload X154.here hx rfl (hb hby at_78) rfl ?_
          show Steps p.tables e below (T154.setTop (mkF m 80 #[.val (.int p1), .val (.int p2), .val (.int p3), .val (.ref (A 1)), .val (.ref r141), .val (.ref r142), .val (.ref (A 3)), .val (.int (1 : Int32)), .val (.int (1 : Int32))] [(.int (1 : Int32))])) _
          refine XS.ifNo X154.here hx rfl (hb hby at_80) rfl ((if0 _ _).trans (feq (by decide : ¬ ((1 : Int32) = (0 : Int32)))).1) ?_
          show Steps p.tables e below (T154.setTop (mkF m 83 #[.val (.int p1), .val (.int p2), .val (.int p3), .val (.ref (A 1)), .val (.ref r141), .val (.ref r142), .val (.ref (A 3)), .val (.int (1 : Int32)), .val (.int (1 : Int32))] [])) _
          refine XS.iconst X154.here hx rfl (hb hby at_83) ?_
          show Steps p.tables e below (T154.setTop (mkF m 84 #[.val (.int p1), .val (.int p2), .val (.int p3), .val (.ref (A 1)), .val (.ref r141), .val (.ref r142), .val (.ref (A 3)), .val (.int (1 : Int32)), .val (.int (1 : Int32))] [(.int (1 : Int32))])) _
          refine XS.goto X154.here hx rfl (pc0 := 84) (pc' := 88) rfl (hb hby at_84) (by decide) (by decide) ?_
          show Steps p.tables e below (T154.setTop (mkF m 88 #[.val (.int p1), .val (.int p2), .val (.int p3), .val (.ref (A 1)), .val (.ref r141), .val (.ref r142), .val (.ref (A 3)), .val (.int (1 : Int32)), .val (.int (1 : Int32))] [(.int (1 : Int32))])) _
          exact retN X154 hx (t := .boolean) Bd.returns (by simp) (hb hby at_88) hr
        · show LQ n0 _ T154.heap _
          exact ⟨rfl, N154, trivial⟩
  | 2, _, hk16 =>
    by_cases hp_155 : p2 < p3
    · obtain ⟨_, _, ⟨T157, L157, k157, n157⟩, -, X157, ⟨Lc157, hQ157, l157, y157, z157⟩, st157⟩ := Jvm.LawKit.callS X0 hx (y := own_m7) hown (mvT hZ (hw _ (List.mem_of_getElem? (i := 0) rfl))) (mvT hZ (hw _ (List.mem_of_getElem? (i := 1) rfl))) (mvT hZ (hw _ (List.mem_of_getElem? (i := 2) rfl))) (mvT hZ (hw _ (List.mem_of_getElem? (i := 3) rfl))) (by decide) (backOf (W := 0) (rm55 l Z a0 hw [] h0 n0 p1 p2 p3 A K EN OL0 hk16) hZ (hw _ (List.mem_of_getElem? (i := 3) rfl)) (hw _ (List.mem_of_getElem? (i := 2) rfl)) (by decide) (by decide)) (g := (mkF m 1 #[.val (.int p1), .val (.int p2), .val (.int p3), .unset, .unset, .unset, .unset, .unset, .unset] [(.int p1)])) rfl (by rw [hml]; rfl) (argsL := [(.int p1)]) (rest := []) (lenOf own_pd2 rfl) rfl (by show 2 * 0 + _ ≤ _; exact Nat.le_of_eq rfl) (hb hby at_1) (fun _ _ => ⟨rfl, e0, (by decide : 0 + 0 ≤ _), (by decide : 0 + 0 ≤ _)⟩)
      dsimp only [Pt.U, Pt.locs, Pt.cells, Pt.slots] at X157 l157 y157 z157 st157 hQ157
      subst l157 y157 z157
      obtain ⟨rfl, N157q, e157⟩ := hQ157
      have N157 := Fr.app N0 N157q
      obtain ⟨_, _, ⟨T158, L158, k158, n158⟩, -, X158, ⟨Lc158, hQ158, l158, y158, z158⟩, st158⟩ := Jvm.LawKit.callS X157 hx (y := own_m4) hown (mvT hZ (hw _ (List.mem_of_getElem? (i := 8) rfl))) (mvT hZ (hw _ (List.mem_of_getElem? (i := 9) rfl))) (mvT hZ (hw _ (List.mem_of_getElem? (i := 10) rfl))) (mvT hZ (hw _ (List.mem_of_getElem? (i := 11) rfl))) (by decide) (backOf (W := 0) (rmV l Z a0 hw [] h0 n0 A K p2 EN OL0) hZ (hw _ (List.mem_of_getElem? (i := 11) rfl)) (hw _ (List.mem_of_getElem? (i := 10) rfl)) (by decide) (by decide)) (g := (mkF m 6 #[.val (.int p1), .val (.int p2), .val (.int p3), .val (.ref (A 2)), .unset, .unset, .unset, .unset, .unset] [(.int p2)])) rfl (by rw [hml]; rfl) (argsL := [(.int p2)]) (rest := []) (lenOf own_pd3 rfl) rfl (by show 2 * 0 + _ ≤ _; exact Nat.le_of_eq rfl) (hb hby at_6) (fun _ _ => ⟨rfl, e157, (by decide : 0 + 1 ≤ _), (by decide : 0 + 1 ≤ _)⟩)
      dsimp only [Pt.U, Pt.locs, Pt.cells, Pt.slots] at X158 l158 y158 z158 st158 hQ158
      subst l158 y158 z158
      obtain ⟨r158, rfl, N158q, K158c, er158, fr158⟩ := hQ158
      have N158 := Fr.app N157 N158q
      have OL158 : Old Z n0 T158.heap := OL0.keep K158c all0
      have KK158 : Keep h0 T158.heap [] := KK0.trans K158c all0
      obtain ⟨_, _, ⟨T159, L159, k159, n159⟩, -, X159, ⟨Lc159, hQ159, l159, y159, z159⟩, st159⟩ := Jvm.LawKit.callS X158 hx (y := own_m4) hown (mvT hZ (hw _ (List.mem_of_getElem? (i := 8) rfl))) (mvT hZ (hw _ (List.mem_of_getElem? (i := 9) rfl))) (mvT hZ (hw _ (List.mem_of_getElem? (i := 10) rfl))) (mvT hZ (hw _ (List.mem_of_getElem? (i := 11) rfl))) (by decide) (backOf (W := 0) (rmV l Z a0 hw [] T158.heap n0 A K p3 EN OL158) hZ (hw _ (List.mem_of_getElem? (i := 11) rfl)) (hw _ (List.mem_of_getElem? (i := 10) rfl)) (by decide) (by decide)) (g := (mkF m 12 #[.val (.int p1), .val (.int p2), .val (.int p3), .val (.ref (A 2)), .val (.ref r158), .unset, .unset, .unset, .unset] [(.int p3)])) rfl (by rw [hml]; rfl) (argsL := [(.int p3)]) (rest := []) (lenOf own_pd3 rfl) rfl (by show 2 * 0 + _ ≤ _; exact Nat.le_of_eq rfl) (hb hby at_12) (fun _ _ => ⟨rfl, rfl, (by decide : 1 + 1 ≤ _), (by decide : 1 + 1 ≤ _)⟩)
      dsimp only [Pt.U, Pt.locs, Pt.cells, Pt.slots] at X159 l159 y159 z159 st159 hQ159
      subst l159 y159 z159
      obtain ⟨r159, rfl, N159q, K159c, er159, fr159⟩ := hQ159
      have N159 := Fr.app N158 N159q
      have OL159 : Old Z n0 T159.heap := OL158.keep K159c all0
      have KK159 : Keep h0 T159.heap [] := KK158.trans K159c all0
      obtain ⟨cq163, kq163, q163a, q163b, q163c⟩ := isOf hZ rfl (EN.1.2.2.2.2.2.1.ext OL159.2)
      obtain ⟨_, _, ⟨T163, L163, k163, n163⟩, -, X163, ⟨Lc163, hQ163, l163, y163, z163⟩, st163⟩ := X159.virtualBack hx (y := own_m2) (z := own_m2) hown (mvT hZ (hw _ (List.mem_of_getElem? (i := 15) rfl))) (mvT hZ (hw _ (List.mem_of_getElem? (i := 16) rfl))) (notFace_of_selects (args := #[]) (mvT hZ (hw _ (List.mem_of_getElem? (i := 18) rfl)))) (mvT hZ (hw _ (List.mem_of_getElem? (i := 18) rfl))) (mvT hZ (hw _ (List.mem_of_getElem? (i := 17) rfl))) (by decide) (backOf (W := 0) (rm56 l Z a0 hw [] T159.heap n0 p1 p2 p3 A K EN OL159) hZ (hw _ (List.mem_of_getElem? (i := 19) rfl)) (hw _ (List.mem_of_getElem? (i := 6) rfl)) (by decide) (by decide)) q163a q163c (g := (mkF m 18 #[.val (.int p1), .val (.int p2), .val (.int p3), .val (.ref (A 2)), .val (.ref r158), .val (.ref r159), .unset, .unset, .unset] [(.ref (A 2))])) rfl (by rw [hml]; rfl) (Steps.refl _) (argsL := []) (rest := []) (lenOf own_pd5 rfl) rfl (by show 2 * 0 + _ ≤ _; exact Nat.le_of_eq rfl) (hb hby at_18) (fun _ _ => ⟨rfl, rfl, (by decide : 2 + 0 ≤ _), (by decide : 2 + 0 ≤ _)⟩)
      dsimp only [Pt.U, Pt.locs, Pt.cells, Pt.slots] at X163 l163 y163 z163 st163 hQ163
      subst l163 y163 z163
      obtain ⟨rfl, N163q, e163⟩ := hQ163
      have N163 := Fr.app N159 N163q
      have fx167 : Exa Z T159.heap r158 "java/lang/Integer" := (er158.keep K159c)
      have fx168 : Fld Z T159.heap r158 "java/lang/Integer" "value" "I" (.int p2) := (fr158.keep K159c nin0)
      obtain ⟨cq169, kq169, q169a, q169b, q169c⟩ := isOf hZ e163 (EN.1.2.2.2.2.2.1.ext OL159.2)
      obtain ⟨_, _, ⟨T169, L169, k169, n169⟩, -, X169, ⟨Lc169, hQ169, l169, y169, z169⟩, st169⟩ := X163.virtualBack hx (y := own_m0) (z := own_m0) hown (mvT hZ (hw _ (List.mem_of_getElem? (i := 31) rfl))) (mvT hZ (hw _ (List.mem_of_getElem? (i := 32) rfl))) (notFace_of_selects (args := #[]) (mvT hZ (hw _ (List.mem_of_getElem? (i := 34) rfl)))) (mvT hZ (hw _ (List.mem_of_getElem? (i := 34) rfl))) (mvT hZ (hw _ (List.mem_of_getElem? (i := 33) rfl))) (by decide) (backOf (W := 0) (rm58 l Z a0 hw [] T159.heap n0 p1 p2 p3 A K r158 r159 EN OL159 fx167 er159 fx168 fr159 hp_155) hZ (hw _ (List.mem_of_getElem? (i := 35) rfl)) (hw _ (List.mem_of_getElem? (i := 6) rfl)) (by decide) (by decide)) q169a q169c (g := (mkF m 35 #[.val (.int p1), .val (.int p2), .val (.int p3), .val (.ref (A 2)), .val (.ref r158), .val (.ref r159), .val (.ref (A 2)), .unset, .unset] [(.ref r159), (.ref r158), (.ref (A 2))])) rfl (by rw [hml]; rfl) (Steps.refl _) (argsL := [(.ref r158), (.ref r159)]) (rest := []) (lenOf own_pd10 rfl) rfl (by show 2 * 0 + _ ≤ _; exact Nat.le_of_eq rfl) (hb hby at_35) (fun _ _ => ⟨rfl, e163, (by decide : 2 + 0 ≤ _), (by decide : 2 + 0 ≤ _)⟩)
      dsimp only [Pt.U, Pt.locs, Pt.cells, Pt.slots] at X169 l169 y169 z169 st169 hQ169
      subst l169 y169 z169
      obtain ⟨rfl, N169q, e169⟩ := hQ169
      have N169 := Fr.app N163 N169q
      obtain ⟨cq173, kq173, q173a, q173b, q173c⟩ := isOf hZ e169 (EN.1.2.2.2.2.2.1.ext OL159.2)
      obtain ⟨_, _, ⟨T173, L173, k173, n173⟩, -, X173, ⟨Lc173, hQ173, l173, y173, z173⟩, st173⟩ := X169.virtualBack hx (y := own_m0) (z := own_m0) hown (mvT hZ (hw _ (List.mem_of_getElem? (i := 31) rfl))) (mvT hZ (hw _ (List.mem_of_getElem? (i := 32) rfl))) (notFace_of_selects (args := #[]) (mvT hZ (hw _ (List.mem_of_getElem? (i := 34) rfl)))) (mvT hZ (hw _ (List.mem_of_getElem? (i := 34) rfl))) (mvT hZ (hw _ (List.mem_of_getElem? (i := 33) rfl))) (by decide) (backOf (W := 1) (rm60 l Z a0 hw [] T159.heap n0 p1 p2 p3 A K r158 r159 EN OL159 er159 fx167 fr159 fx168 hp_155) hZ (hw _ (List.mem_of_getElem? (i := 35) rfl)) (hw _ (List.mem_of_getElem? (i := 6) rfl)) (by decide) (by decide)) q173a q173c (g := (mkF m 44 #[.val (.int p1), .val (.int p2), .val (.int p3), .val (.ref (A 2)), .val (.ref r158), .val (.ref r159), .val (.ref (A 2)), .unset, .unset] [(.ref r158), (.ref r159), (.ref (A 2)), (.int (0 : Int32))])) rfl (by rw [hml]; rfl) (Steps.refl _) (argsL := [(.ref r159), (.ref r158)]) (rest := [(.int (0 : Int32))]) (lenOf own_pd10 rfl) rfl (by show 2 * 0 + _ ≤ _; exact Nat.le_of_eq rfl) (hb hby at_44) (fun _ _ => ⟨rfl, e169, (by decide : 2 + 0 ≤ _), (by decide : 2 + 0 ≤ _)⟩)
      dsimp only [Pt.U, Pt.locs, Pt.cells, Pt.slots] at X173 l173 y173 z173 st173 hQ173
      subst l173 y173 z173
      obtain ⟨rfl, N173q, e173⟩ := hQ173
      have N173 := Fr.app N169 N173q
      obtain ⟨cq174, kq174, q174a, q174b, q174c⟩ := isOf hZ e173 (EN.1.2.2.2.2.2.1.ext OL159.2)
      obtain ⟨_, _, ⟨T174, L174, k174, n174⟩, -, X174, ⟨Lc174, hQ174, l174, y174, z174⟩, st174⟩ := X173.virtualBack hx (y := own_m2) (z := own_m2) hown (mvT hZ (hw _ (List.mem_of_getElem? (i := 15) rfl))) (mvT hZ (hw _ (List.mem_of_getElem? (i := 16) rfl))) (notFace_of_selects (args := #[]) (mvT hZ (hw _ (List.mem_of_getElem? (i := 18) rfl)))) (mvT hZ (hw _ (List.mem_of_getElem? (i := 18) rfl))) (mvT hZ (hw _ (List.mem_of_getElem? (i := 17) rfl))) (by decide) (backOf (W := 0) (rm56 l Z a0 hw [] T159.heap n0 p1 p2 p3 A K EN OL159) hZ (hw _ (List.mem_of_getElem? (i := 19) rfl)) (hw _ (List.mem_of_getElem? (i := 6) rfl)) (by decide) (by decide)) q174a q174c (g := (mkF m 59 #[.val (.int p1), .val (.int p2), .val (.int p3), .val (.ref (A 2)), .val (.ref r158), .val (.ref r159), .val (.ref (A 2)), .val (.int (1 : Int32)), .unset] [(.ref (A 2))])) rfl (by rw [hml]; rfl) (Steps.refl _) (argsL := []) (rest := []) (lenOf own_pd5 rfl) rfl (by show 2 * 0 + _ ≤ _; exact Nat.le_of_eq rfl) (hb hby at_59) (fun _ _ => ⟨rfl, e173, (by decide : 2 + 0 ≤ _), (by decide : 2 + 0 ≤ _)⟩)
      dsimp only [Pt.U, Pt.locs, Pt.cells, Pt.slots] at X174 l174 y174 z174 st174 hQ174
      subst l174 y174 z174
      obtain ⟨rfl, N174q, e174⟩ := hQ174
      have N174 := Fr.app N173 N174q
      obtain ⟨fs, hr, hrun, hended, hW, hsame⟩ := X174.leave (v := some (.int (1 : Int32))) (fun h => by rw [Bd.returns] at h; cases h)
      refine ⟨_, _, pre0 _ ?_, hrun, hended, _, _, rfl, ?_, ⟨_, rfl⟩, hW, hsame.mono (by decide) (by decide)⟩
      · show Steps p.tables e below (s₁.setTop (mkF m 0 #[.val (.int p1), .val (.int p2), .val (.int p3), .unset, .unset, .unset, .unset, .unset, .unset] [])) _
        refine XS.iloadN X0.here hx rfl (hb hby at_0) rfl ?_
        show Steps p.tables e below (s₁.setTop (mkF m 1 #[.val (.int p1), .val (.int p2), .val (.int p3), .unset, .unset, .unset, .unset, .unset, .unset] [(.int p1)])) _
        refine st157 _ ?_
        show Steps p.tables e below (T157.setTop (mkF m 4 #[.val (.int p1), .val (.int p2), .val (.int p3), .unset, .unset, .unset, .unset, .unset, .unset] [(.ref (A 2))])) _
        refine XS.astoreN X157.here hx rfl (hb hby at_4) rfl rfl (l' := #[.val (.int p1), .val (.int p2), .val (.int p3), .val (.ref (A 2)), .unset, .unset, .unset, .unset, .unset]) rfl ?_
        show Steps p.tables e below (T157.setTop (mkF m 5 #[.val (.int p1), .val (.int p2), .val (.int p3), .val (.ref (A 2)), .unset, .unset, .unset, .unset, .unset] [])) _
        refine XS.iloadN X157.here hx rfl (hb hby at_5) rfl ?_
        show Steps p.tables e below (T157.setTop (mkF m 6 #[.val (.int p1), .val (.int p2), .val (.int p3), .val (.ref (A 2)), .unset, .unset, .unset, .unset, .unset] [(.int p2)])) _
        refine st158 _ ?_
        show Steps p.tables e below (T158.setTop (mkF m 9 #[.val (.int p1), .val (.int p2), .val (.int p3), .val (.ref (A 2)), .unset, .unset, .unset, .unset, .unset] [(.ref r158)])) _
        refine XS.astore X158.here hx rfl (hb hby at_9) rfl rfl (l' := #[.val (.int p1), .val (.int p2), .val (.int p3), .val (.ref (A 2)), .val (.ref r158), .unset, .unset, .unset, .unset]) rfl ?_
        show Steps p.tables e below (T158.setTop (mkF m 11 #[.val (.int p1), .val (.int p2), .val (.int p3), .val (.ref (A 2)), .val (.ref r158), .unset, .unset, .unset, .unset] [])) _
        refine XS.iloadN X158.here hx rfl (hb hby at_11) rfl ?_
        show Steps p.tables e below (T158.setTop (mkF m 12 #[.val (.int p1), .val (.int p2), .val (.int p3), .val (.ref (A 2)), .val (.ref r158), .unset, .unset, .unset, .unset] [(.int p3)])) _
        refine st159 _ ?_
        show Steps p.tables e below (T159.setTop (mkF m 15 #[.val (.int p1), .val (.int p2), .val (.int p3), .val (.ref (A 2)), .val (.ref r158), .unset, .unset, .unset, .unset] [(.ref r159)])) _
        refine XS.astore X159.here hx rfl (hb hby at_15) rfl rfl (l' := #[.val (.int p1), .val (.int p2), .val (.int p3), .val (.ref (A 2)), .val (.ref r158), .val (.ref r159), .unset, .unset, .unset]) rfl ?_
        show Steps p.tables e below (T159.setTop (mkF m 17 #[.val (.int p1), .val (.int p2), .val (.int p3), .val (.ref (A 2)), .val (.ref r158), .val (.ref r159), .unset, .unset, .unset] [])) _
        refine XS.aloadN X159.here hx rfl (hb hby at_17) rfl rfl ?_
        show Steps p.tables e below (T159.setTop (mkF m 18 #[.val (.int p1), .val (.int p2), .val (.int p3), .val (.ref (A 2)), .val (.ref r158), .val (.ref r159), .unset, .unset, .unset] [(.ref (A 2))])) _
        refine st163.trans ?_
        show Steps p.tables e below (T163.setTop (mkF m 21 #[.val (.int p1), .val (.int p2), .val (.int p3), .val (.ref (A 2)), .val (.ref r158), .val (.ref r159), .unset, .unset, .unset] [(.ref (A 2))])) _
        refine XS.astore X163.here hx rfl (hb hby at_21) rfl rfl (l' := #[.val (.int p1), .val (.int p2), .val (.int p3), .val (.ref (A 2)), .val (.ref r158), .val (.ref r159), .val (.ref (A 2)), .unset, .unset]) rfl ?_
        show Steps p.tables e below (T163.setTop (mkF m 23 #[.val (.int p1), .val (.int p2), .val (.int p3), .val (.ref (A 2)), .val (.ref r158), .val (.ref r159), .val (.ref (A 2)), .unset, .unset] [])) _
        refine XS.aload X163.here hx rfl (hb hby at_23) rfl rfl ?_
        show Steps p.tables e below (T163.setTop (mkF m 25 #[.val (.int p1), .val (.int p2), .val (.int p3), .val (.ref (A 2)), .val (.ref r158), .val (.ref r159), .val (.ref (A 2)), .unset, .unset] [(.ref (A 2))])) _
        refine XS.ifnonnullYes X163.here hx rfl (pc0 := 25) (pc' := 30) rfl (hb hby at_25) rfl (by decide) (by decide) ?_
        show Steps p.tables e below (T163.setTop (mkF m 30 #[.val (.int p1), .val (.int p2), .val (.int p3), .val (.ref (A 2)), .val (.ref r158), .val (.ref r159), .val (.ref (A 2)), .unset, .unset] [])) _
        refine XS.aloadN X163.here hx rfl (hb hby at_30) rfl rfl ?_
        show Steps p.tables e below (T163.setTop (mkF m 31 #[.val (.int p1), .val (.int p2), .val (.int p3), .val (.ref (A 2)), .val (.ref r158), .val (.ref r159), .val (.ref (A 2)), .unset, .unset] [(.ref (A 2))])) _
        refine XS.aload X163.here hx rfl (hb hby at_31) rfl rfl ?_
        show Steps p.tables e below (T163.setTop (mkF m 33 #[.val (.int p1), .val (.int p2), .val (.int p3), .val (.ref (A 2)), .val (.ref r158), .val (.ref r159), .val (.ref (A 2)), .unset, .unset] [(.ref r158), (.ref (A 2))])) _
        refine XS.aload X163.here hx rfl (hb hby at_33) rfl rfl ?_
        show Steps p.tables e below (T163.setTop (mkF m 35 #[.val (.int p1), .val (.int p2), .val (.int p3), .val (.ref (A 2)), .val (.ref r158), .val (.ref r159), .val (.ref (A 2)), .unset, .unset] [(.ref r159), (.ref r158), (.ref (A 2))])) _
        refine st169.trans ?_
        show Steps p.tables e below (T169.setTop (mkF m 38 #[.val (.int p1), .val (.int p2), .val (.int p3), .val (.ref (A 2)), .val (.ref r158), .val (.ref r159), .val (.ref (A 2)), .unset, .unset] [(.int (0 : Int32))])) _
        refine XS.aload X169.here hx rfl (hb hby at_38) rfl rfl ?_
        show Steps p.tables e below (T169.setTop (mkF m 40 #[.val (.int p1), .val (.int p2), .val (.int p3), .val (.ref (A 2)), .val (.ref r158), .val (.ref r159), .val (.ref (A 2)), .unset, .unset] [(.ref (A 2)), (.int (0 : Int32))])) _
        refine XS.aload X169.here hx rfl (hb hby at_40) rfl rfl ?_
        show Steps p.tables e below (T169.setTop (mkF m 42 #[.val (.int p1), .val (.int p2), .val (.int p3), .val (.ref (A 2)), .val (.ref r158), .val (.ref r159), .val (.ref (A 2)), .unset, .unset] [(.ref r159), (.ref (A 2)), (.int (0 : Int32))])) _
        refine XS.aload X169.here hx rfl (hb hby at_42) rfl rfl ?_
        show Steps p.tables e below (T169.setTop (mkF m 44 #[.val (.int p1), .val (.int p2), .val (.int p3), .val (.ref (A 2)), .val (.ref r158), .val (.ref r159), .val (.ref (A 2)), .unset, .unset] [(.ref r158), (.ref r159), (.ref (A 2)), (.int (0 : Int32))])) _
        refine st173.trans ?_
        show Steps p.tables e below (T173.setTop (mkF m 47 #[.val (.int p1), .val (.int p2), .val (.int p3), .val (.ref (A 2)), .val (.ref r158), .val (.ref r159), .val (.ref (A 2)), .unset, .unset] [(.int (0 : Int32)), (.int (0 : Int32))])) _
        refine XS.icmpNo X173.here hx rfl (hb hby at_47) rfl (teq (by decide : (0 : Int32) = (0 : Int32))).2 ?_
        show Steps p.tables e below (T173.setTop (mkF m 50 #[.val (.int p1), .val (.int p2), .val (.int p3), .val (.ref (A 2)), .val (.ref r158), .val (.ref r159), .val (.ref (A 2)), .unset, .unset] [])) _
        refine XS.iconst X173.here hx rfl (hb hby at_50) ?_
        show Steps p.tables e below (T173.setTop (mkF m 51 #[.val (.int p1), .val (.int p2), .val (.int p3), .val (.ref (A 2)), .val (.ref r158), .val (.ref r159), .val (.ref (A 2)), .unset, .unset] [(.int (1 : Int32))])) _
        refine XS.goto X173.here hx rfl (pc0 := 51) (pc' := 55) rfl (hb hby at_51) (by decide) (by decide) ?_
        show Steps p.tables e below (T173.setTop (mkF m 55 #[.val (.int p1), .val (.int p2), .val (.int p3), .val (.ref (A 2)), .val (.ref r158), .val (.ref r159), .val (.ref (A 2)), .unset, .unset] [(.int (1 : Int32))])) _
        refine XS.istore X173.here hx rfl (hb hby at_55) rfl (l' := #[.val (.int p1), .val (.int p2), .val (.int p3), .val (.ref (A 2)), .val (.ref r158), .val (.ref r159), .val (.ref (A 2)), .val (.int (1 : Int32)), .unset]) rfl ?_
        show Steps p.tables e below (T173.setTop (mkF m 57 #[.val (.int p1), .val (.int p2), .val (.int p3), .val (.ref (A 2)), .val (.ref r158), .val (.ref r159), .val (.ref (A 2)), .val (.int (1 : Int32)), .unset] [])) _
        refine XS.aload X173.here hx rfl (hb hby at_57) rfl rfl ?_
        show Steps p.tables e below (T173.setTop (mkF m 59 #[.val (.int p1), .val (.int p2), .val (.int p3), .val (.ref (A 2)), .val (.ref r158), .val (.ref r159), .val (.ref (A 2)), .val (.int (1 : Int32)), .unset] [(.ref (A 2))])) _
        refine st174.trans ?_
        show Steps p.tables e below (T174.setTop (mkF m 62 #[.val (.int p1), .val (.int p2), .val (.int p3), .val (.ref (A 2)), .val (.ref r158), .val (.ref r159), .val (.ref (A 2)), .val (.int (1 : Int32)), .unset] [(.ref (A 2))])) _
        refine XS.aloadN X174.here hx rfl (hb hby at_62) rfl rfl ?_
        show Steps p.tables e below (T174.setTop (mkF m 63 #[.val (.int p1), .val (.int p2), .val (.int p3), .val (.ref (A 2)), .val (.ref r158), .val (.ref r159), .val (.ref (A 2)), .val (.int (1 : Int32)), .unset] [(.ref (A 2)), (.ref (A 2))])) _
        refine Jvm.RoadKit.acmp (g := (mkF m 63 #[.val (.int p1), .val (.int p2), .val (.int p3), .val (.ref (A 2)), .val (.ref r158), .val (.ref r159), .val (.ref (A 2)), .val (.int (1 : Int32)), .unset] [(.ref (A 2)), (.ref (A 2))])) X174 hx rfl rfl rfl (pc0 := 63) (pc' := 66) (same := true) rfl (hb hby at_63) rfl (decide_eq_true rfl) (by decide) (by decide) ?_
        show Steps p.tables e below (T174.setTop (mkF m 66 #[.val (.int p1), .val (.int p2), .val (.int p3), .val (.ref (A 2)), .val (.ref r158), .val (.ref r159), .val (.ref (A 2)), .val (.int (1 : Int32)), .unset] [])) _
        refine XS.iconst X174.here hx rfl (hb hby at_66) ?_
        show Steps p.tables e below (T174.setTop (mkF m 67 #[.val (.int p1), .val (.int p2), .val (.int p3), .val (.ref (A 2)), .val (.ref r158), .val (.ref r159), .val (.ref (A 2)), .val (.int (1 : Int32)), .unset] [(.int (1 : Int32))])) _
        refine XS.goto X174.here hx rfl (pc0 := 67) (pc' := 71) rfl (hb hby at_67) (by decide) (by decide) ?_
        show Steps p.tables e below (T174.setTop (mkF m 71 #[.val (.int p1), .val (.int p2), .val (.int p3), .val (.ref (A 2)), .val (.ref r158), .val (.ref r159), .val (.ref (A 2)), .val (.int (1 : Int32)), .unset] [(.int (1 : Int32))])) _
        refine XS.istore X174.here hx rfl (hb hby at_71) rfl (l' := #[.val (.int p1), .val (.int p2), .val (.int p3), .val (.ref (A 2)), .val (.ref r158), .val (.ref r159), .val (.ref (A 2)), .val (.int (1 : Int32)), .val (.int (1 : Int32))]) rfl ?_
        show Steps p.tables e below (T174.setTop (mkF m 73 #[.val (.int p1), .val (.int p2), .val (.int p3), .val (.ref (A 2)), .val (.ref r158), .val (.ref r159), .val (.ref (A 2)), .val (.int (1 : Int32)), .val (.int (1 : Int32))] [])) _
        refine XS.iload X174.here hx rfl (hb hby at_73) rfl ?_
        show Steps p.tables e below (T174.setTop (mkF m 75 #[.val (.int p1), .val (.int p2), .val (.int p3), .val (.ref (A 2)), .val (.ref r158), .val (.ref r159), .val (.ref (A 2)), .val (.int (1 : Int32)), .val (.int (1 : Int32))] [(.int (1 : Int32))])) _
        refine XS.ifNo X174.here hx rfl (hb hby at_75) rfl ((if0 _ _).trans (feq (by decide : ¬ ((1 : Int32) = (0 : Int32)))).1) ?_
        show Steps p.tables e below (T174.setTop (mkF m 78 #[.val (.int p1), .val (.int p2), .val (.int p3), .val (.ref (A 2)), .val (.ref r158), .val (.ref r159), .val (.ref (A 2)), .val (.int (1 : Int32)), .val (.int (1 : Int32))] [])) _
        refine XS.iload X174.here hx rfl (hb hby at_78) rfl ?_
        show Steps p.tables e below (T174.setTop (mkF m 80 #[.val (.int p1), .val (.int p2), .val (.int p3), .val (.ref (A 2)), .val (.ref r158), .val (.ref r159), .val (.ref (A 2)), .val (.int (1 : Int32)), .val (.int (1 : Int32))] [(.int (1 : Int32))])) _
        refine XS.ifNo X174.here hx rfl (hb hby at_80) rfl ((if0 _ _).trans (feq (by decide : ¬ ((1 : Int32) = (0 : Int32)))).1) ?_
        show Steps p.tables e below (T174.setTop (mkF m 83 #[.val (.int p1), .val (.int p2), .val (.int p3), .val (.ref (A 2)), .val (.ref r158), .val (.ref r159), .val (.ref (A 2)), .val (.int (1 : Int32)), .val (.int (1 : Int32))] [])) _
        refine XS.iconst X174.here hx rfl (hb hby at_83) ?_
        show Steps p.tables e below (T174.setTop (mkF m 84 #[.val (.int p1), .val (.int p2), .val (.int p3), .val (.ref (A 2)), .val (.ref r158), .val (.ref r159), .val (.ref (A 2)), .val (.int (1 : Int32)), .val (.int (1 : Int32))] [(.int (1 : Int32))])) _
        refine XS.goto X174.here hx rfl (pc0 := 84) (pc' := 88) rfl (hb hby at_84) (by decide) (by decide) ?_
        show Steps p.tables e below (T174.setTop (mkF m 88 #[.val (.int p1), .val (.int p2), .val (.int p3), .val (.ref (A 2)), .val (.ref r158), .val (.ref r159), .val (.ref (A 2)), .val (.int (1 : Int32)), .val (.int (1 : Int32))] [(.int (1 : Int32))])) _
        exact retN X174 hx (t := .boolean) Bd.returns (by simp) (hb hby at_88) hr
      · show LQ n0 _ T174.heap _
        exact ⟨rfl, N174, trivial⟩
    · by_cases hp_175 : p2 = p3
      · obtain ⟨_, _, ⟨T176, L176, k176, n176⟩, -, X176, ⟨Lc176, hQ176, l176, y176, z176⟩, st176⟩ := Jvm.LawKit.callS X0 hx (y := own_m7) hown (mvT hZ (hw _ (List.mem_of_getElem? (i := 0) rfl))) (mvT hZ (hw _ (List.mem_of_getElem? (i := 1) rfl))) (mvT hZ (hw _ (List.mem_of_getElem? (i := 2) rfl))) (mvT hZ (hw _ (List.mem_of_getElem? (i := 3) rfl))) (by decide) (backOf (W := 0) (rm55 l Z a0 hw [] h0 n0 p1 p2 p3 A K EN OL0 hk16) hZ (hw _ (List.mem_of_getElem? (i := 3) rfl)) (hw _ (List.mem_of_getElem? (i := 2) rfl)) (by decide) (by decide)) (g := (mkF m 1 #[.val (.int p1), .val (.int p2), .val (.int p3), .unset, .unset, .unset, .unset, .unset, .unset] [(.int p1)])) rfl (by rw [hml]; rfl) (argsL := [(.int p1)]) (rest := []) (lenOf own_pd2 rfl) rfl (by show 2 * 0 + _ ≤ _; exact Nat.le_of_eq rfl) (hb hby at_1) (fun _ _ => ⟨rfl, e0, (by decide : 0 + 0 ≤ _), (by decide : 0 + 0 ≤ _)⟩)
        dsimp only [Pt.U, Pt.locs, Pt.cells, Pt.slots] at X176 l176 y176 z176 st176 hQ176
        subst l176 y176 z176
        obtain ⟨rfl, N176q, e176⟩ := hQ176
        have N176 := Fr.app N0 N176q
        obtain ⟨_, _, ⟨T177, L177, k177, n177⟩, -, X177, ⟨Lc177, hQ177, l177, y177, z177⟩, st177⟩ := Jvm.LawKit.callS X176 hx (y := own_m4) hown (mvT hZ (hw _ (List.mem_of_getElem? (i := 8) rfl))) (mvT hZ (hw _ (List.mem_of_getElem? (i := 9) rfl))) (mvT hZ (hw _ (List.mem_of_getElem? (i := 10) rfl))) (mvT hZ (hw _ (List.mem_of_getElem? (i := 11) rfl))) (by decide) (backOf (W := 0) (rmV l Z a0 hw [] h0 n0 A K p2 EN OL0) hZ (hw _ (List.mem_of_getElem? (i := 11) rfl)) (hw _ (List.mem_of_getElem? (i := 10) rfl)) (by decide) (by decide)) (g := (mkF m 6 #[.val (.int p1), .val (.int p2), .val (.int p3), .val (.ref (A 2)), .unset, .unset, .unset, .unset, .unset] [(.int p2)])) rfl (by rw [hml]; rfl) (argsL := [(.int p2)]) (rest := []) (lenOf own_pd3 rfl) rfl (by show 2 * 0 + _ ≤ _; exact Nat.le_of_eq rfl) (hb hby at_6) (fun _ _ => ⟨rfl, e176, (by decide : 0 + 1 ≤ _), (by decide : 0 + 1 ≤ _)⟩)
        dsimp only [Pt.U, Pt.locs, Pt.cells, Pt.slots] at X177 l177 y177 z177 st177 hQ177
        subst l177 y177 z177
        obtain ⟨r177, rfl, N177q, K177c, er177, fr177⟩ := hQ177
        have N177 := Fr.app N176 N177q
        have OL177 : Old Z n0 T177.heap := OL0.keep K177c all0
        have KK177 : Keep h0 T177.heap [] := KK0.trans K177c all0
        obtain ⟨_, _, ⟨T178, L178, k178, n178⟩, -, X178, ⟨Lc178, hQ178, l178, y178, z178⟩, st178⟩ := Jvm.LawKit.callS X177 hx (y := own_m4) hown (mvT hZ (hw _ (List.mem_of_getElem? (i := 8) rfl))) (mvT hZ (hw _ (List.mem_of_getElem? (i := 9) rfl))) (mvT hZ (hw _ (List.mem_of_getElem? (i := 10) rfl))) (mvT hZ (hw _ (List.mem_of_getElem? (i := 11) rfl))) (by decide) (backOf (W := 0) (rmV l Z a0 hw [] T177.heap n0 A K p3 EN OL177) hZ (hw _ (List.mem_of_getElem? (i := 11) rfl)) (hw _ (List.mem_of_getElem? (i := 10) rfl)) (by decide) (by decide)) (g := (mkF m 12 #[.val (.int p1), .val (.int p2), .val (.int p3), .val (.ref (A 2)), .val (.ref r177), .unset, .unset, .unset, .unset] [(.int p3)])) rfl (by rw [hml]; rfl) (argsL := [(.int p3)]) (rest := []) (lenOf own_pd3 rfl) rfl (by show 2 * 0 + _ ≤ _; exact Nat.le_of_eq rfl) (hb hby at_12) (fun _ _ => ⟨rfl, rfl, (by decide : 1 + 1 ≤ _), (by decide : 1 + 1 ≤ _)⟩)
        dsimp only [Pt.U, Pt.locs, Pt.cells, Pt.slots] at X178 l178 y178 z178 st178 hQ178
        subst l178 y178 z178
        obtain ⟨r178, rfl, N178q, K178c, er178, fr178⟩ := hQ178
        have N178 := Fr.app N177 N178q
        have OL178 : Old Z n0 T178.heap := OL177.keep K178c all0
        have KK178 : Keep h0 T178.heap [] := KK177.trans K178c all0
        obtain ⟨cq179, kq179, q179a, q179b, q179c⟩ := isOf hZ rfl (EN.1.2.2.2.2.2.1.ext OL178.2)
        obtain ⟨_, _, ⟨T179, L179, k179, n179⟩, -, X179, ⟨Lc179, hQ179, l179, y179, z179⟩, st179⟩ := X178.virtualBack hx (y := own_m2) (z := own_m2) hown (mvT hZ (hw _ (List.mem_of_getElem? (i := 15) rfl))) (mvT hZ (hw _ (List.mem_of_getElem? (i := 16) rfl))) (notFace_of_selects (args := #[]) (mvT hZ (hw _ (List.mem_of_getElem? (i := 18) rfl)))) (mvT hZ (hw _ (List.mem_of_getElem? (i := 18) rfl))) (mvT hZ (hw _ (List.mem_of_getElem? (i := 17) rfl))) (by decide) (backOf (W := 0) (rm56 l Z a0 hw [] T178.heap n0 p1 p2 p3 A K EN OL178) hZ (hw _ (List.mem_of_getElem? (i := 19) rfl)) (hw _ (List.mem_of_getElem? (i := 6) rfl)) (by decide) (by decide)) q179a q179c (g := (mkF m 18 #[.val (.int p1), .val (.int p2), .val (.int p3), .val (.ref (A 2)), .val (.ref r177), .val (.ref r178), .unset, .unset, .unset] [(.ref (A 2))])) rfl (by rw [hml]; rfl) (Steps.refl _) (argsL := []) (rest := []) (lenOf own_pd5 rfl) rfl (by show 2 * 0 + _ ≤ _; exact Nat.le_of_eq rfl) (hb hby at_18) (fun _ _ => ⟨rfl, rfl, (by decide : 2 + 0 ≤ _), (by decide : 2 + 0 ≤ _)⟩)
        dsimp only [Pt.U, Pt.locs, Pt.cells, Pt.slots] at X179 l179 y179 z179 st179 hQ179
        subst l179 y179 z179
        obtain ⟨rfl, N179q, e179⟩ := hQ179
        have N179 := Fr.app N178 N179q
        have fx183 : Exa Z T178.heap r177 "java/lang/Integer" := (er177.keep K178c)
        have fx184 : Fld Z T178.heap r177 "java/lang/Integer" "value" "I" (.int p2) := (fr177.keep K178c nin0)
        obtain ⟨cq185, kq185, q185a, q185b, q185c⟩ := isOf hZ e179 (EN.1.2.2.2.2.2.1.ext OL178.2)
        obtain ⟨_, _, ⟨T185, L185, k185, n185⟩, -, X185, ⟨Lc185, hQ185, l185, y185, z185⟩, st185⟩ := X179.virtualBack hx (y := own_m0) (z := own_m0) hown (mvT hZ (hw _ (List.mem_of_getElem? (i := 31) rfl))) (mvT hZ (hw _ (List.mem_of_getElem? (i := 32) rfl))) (notFace_of_selects (args := #[]) (mvT hZ (hw _ (List.mem_of_getElem? (i := 34) rfl)))) (mvT hZ (hw _ (List.mem_of_getElem? (i := 34) rfl))) (mvT hZ (hw _ (List.mem_of_getElem? (i := 33) rfl))) (by decide) (backOf (W := 0) (rm62 l Z a0 hw [] T178.heap n0 p1 p2 p3 A K r177 r178 EN OL178 fx183 er178 fx184 fr178 hp_155 hp_175) hZ (hw _ (List.mem_of_getElem? (i := 35) rfl)) (hw _ (List.mem_of_getElem? (i := 6) rfl)) (by decide) (by decide)) q185a q185c (g := (mkF m 35 #[.val (.int p1), .val (.int p2), .val (.int p3), .val (.ref (A 2)), .val (.ref r177), .val (.ref r178), .val (.ref (A 2)), .unset, .unset] [(.ref r178), (.ref r177), (.ref (A 2))])) rfl (by rw [hml]; rfl) (Steps.refl _) (argsL := [(.ref r177), (.ref r178)]) (rest := []) (lenOf own_pd10 rfl) rfl (by show 2 * 0 + _ ≤ _; exact Nat.le_of_eq rfl) (hb hby at_35) (fun _ _ => ⟨rfl, e179, (by decide : 2 + 0 ≤ _), (by decide : 2 + 0 ≤ _)⟩)
        dsimp only [Pt.U, Pt.locs, Pt.cells, Pt.slots] at X185 l185 y185 z185 st185 hQ185
        subst l185 y185 z185
        obtain ⟨rfl, N185q, e185⟩ := hQ185
        have N185 := Fr.app N179 N185q
        obtain ⟨cq188, kq188, q188a, q188b, q188c⟩ := isOf hZ e185 (EN.1.2.2.2.2.2.1.ext OL178.2)
        obtain ⟨_, _, ⟨T188, L188, k188, n188⟩, -, X188, ⟨Lc188, hQ188, l188, y188, z188⟩, st188⟩ := X185.virtualBack hx (y := own_m0) (z := own_m0) hown (mvT hZ (hw _ (List.mem_of_getElem? (i := 31) rfl))) (mvT hZ (hw _ (List.mem_of_getElem? (i := 32) rfl))) (notFace_of_selects (args := #[]) (mvT hZ (hw _ (List.mem_of_getElem? (i := 34) rfl)))) (mvT hZ (hw _ (List.mem_of_getElem? (i := 34) rfl))) (mvT hZ (hw _ (List.mem_of_getElem? (i := 33) rfl))) (by decide) (backOf (W := 1) (rm64 l Z a0 hw [] T178.heap n0 p1 p2 p3 A K r177 r178 EN OL178 er178 fx183 fr178 fx184 hp_155 hp_175) hZ (hw _ (List.mem_of_getElem? (i := 35) rfl)) (hw _ (List.mem_of_getElem? (i := 6) rfl)) (by decide) (by decide)) q188a q188c (g := (mkF m 44 #[.val (.int p1), .val (.int p2), .val (.int p3), .val (.ref (A 2)), .val (.ref r177), .val (.ref r178), .val (.ref (A 2)), .unset, .unset] [(.ref r177), (.ref r178), (.ref (A 2)), (.int (1 : Int32))])) rfl (by rw [hml]; rfl) (Steps.refl _) (argsL := [(.ref r178), (.ref r177)]) (rest := [(.int (1 : Int32))]) (lenOf own_pd10 rfl) rfl (by show 2 * 0 + _ ≤ _; exact Nat.le_of_eq rfl) (hb hby at_44) (fun _ _ => ⟨rfl, e185, (by decide : 2 + 0 ≤ _), (by decide : 2 + 0 ≤ _)⟩)
        dsimp only [Pt.U, Pt.locs, Pt.cells, Pt.slots] at X188 l188 y188 z188 st188 hQ188
        subst l188 y188 z188
        obtain ⟨rfl, N188q, e188⟩ := hQ188
        have N188 := Fr.app N185 N188q
        obtain ⟨cq189, kq189, q189a, q189b, q189c⟩ := isOf hZ e188 (EN.1.2.2.2.2.2.1.ext OL178.2)
        obtain ⟨_, _, ⟨T189, L189, k189, n189⟩, -, X189, ⟨Lc189, hQ189, l189, y189, z189⟩, st189⟩ := X188.virtualBack hx (y := own_m2) (z := own_m2) hown (mvT hZ (hw _ (List.mem_of_getElem? (i := 15) rfl))) (mvT hZ (hw _ (List.mem_of_getElem? (i := 16) rfl))) (notFace_of_selects (args := #[]) (mvT hZ (hw _ (List.mem_of_getElem? (i := 18) rfl)))) (mvT hZ (hw _ (List.mem_of_getElem? (i := 18) rfl))) (mvT hZ (hw _ (List.mem_of_getElem? (i := 17) rfl))) (by decide) (backOf (W := 0) (rm56 l Z a0 hw [] T178.heap n0 p1 p2 p3 A K EN OL178) hZ (hw _ (List.mem_of_getElem? (i := 19) rfl)) (hw _ (List.mem_of_getElem? (i := 6) rfl)) (by decide) (by decide)) q189a q189c (g := (mkF m 59 #[.val (.int p1), .val (.int p2), .val (.int p3), .val (.ref (A 2)), .val (.ref r177), .val (.ref r178), .val (.ref (A 2)), .val (.int (1 : Int32)), .unset] [(.ref (A 2))])) rfl (by rw [hml]; rfl) (Steps.refl _) (argsL := []) (rest := []) (lenOf own_pd5 rfl) rfl (by show 2 * 0 + _ ≤ _; exact Nat.le_of_eq rfl) (hb hby at_59) (fun _ _ => ⟨rfl, e188, (by decide : 2 + 0 ≤ _), (by decide : 2 + 0 ≤ _)⟩)
        dsimp only [Pt.U, Pt.locs, Pt.cells, Pt.slots] at X189 l189 y189 z189 st189 hQ189
        subst l189 y189 z189
        obtain ⟨rfl, N189q, e189⟩ := hQ189
        have N189 := Fr.app N188 N189q
        obtain ⟨fs, hr, hrun, hended, hW, hsame⟩ := X189.leave (v := some (.int (1 : Int32))) (fun h => by rw [Bd.returns] at h; cases h)
        refine ⟨_, _, pre0 _ ?_, hrun, hended, _, _, rfl, ?_, ⟨_, rfl⟩, hW, hsame.mono (by decide) (by decide)⟩
        · show Steps p.tables e below (s₁.setTop (mkF m 0 #[.val (.int p1), .val (.int p2), .val (.int p3), .unset, .unset, .unset, .unset, .unset, .unset] [])) _
          refine XS.iloadN X0.here hx rfl (hb hby at_0) rfl ?_
          show Steps p.tables e below (s₁.setTop (mkF m 1 #[.val (.int p1), .val (.int p2), .val (.int p3), .unset, .unset, .unset, .unset, .unset, .unset] [(.int p1)])) _
          refine st176 _ ?_
          show Steps p.tables e below (T176.setTop (mkF m 4 #[.val (.int p1), .val (.int p2), .val (.int p3), .unset, .unset, .unset, .unset, .unset, .unset] [(.ref (A 2))])) _
          refine XS.astoreN X176.here hx rfl (hb hby at_4) rfl rfl (l' := #[.val (.int p1), .val (.int p2), .val (.int p3), .val (.ref (A 2)), .unset, .unset, .unset, .unset, .unset]) rfl ?_
          show Steps p.tables e below (T176.setTop (mkF m 5 #[.val (.int p1), .val (.int p2), .val (.int p3), .val (.ref (A 2)), .unset, .unset, .unset, .unset, .unset] [])) _
          refine XS.iloadN X176.here hx rfl (hb hby at_5) rfl ?_
          show Steps p.tables e below (T176.setTop (mkF m 6 #[.val (.int p1), .val (.int p2), .val (.int p3), .val (.ref (A 2)), .unset, .unset, .unset, .unset, .unset] [(.int p2)])) _
          refine st177 _ ?_
          show Steps p.tables e below (T177.setTop (mkF m 9 #[.val (.int p1), .val (.int p2), .val (.int p3), .val (.ref (A 2)), .unset, .unset, .unset, .unset, .unset] [(.ref r177)])) _
          refine XS.astore X177.here hx rfl (hb hby at_9) rfl rfl (l' := #[.val (.int p1), .val (.int p2), .val (.int p3), .val (.ref (A 2)), .val (.ref r177), .unset, .unset, .unset, .unset]) rfl ?_
          show Steps p.tables e below (T177.setTop (mkF m 11 #[.val (.int p1), .val (.int p2), .val (.int p3), .val (.ref (A 2)), .val (.ref r177), .unset, .unset, .unset, .unset] [])) _
          refine XS.iloadN X177.here hx rfl (hb hby at_11) rfl ?_
          show Steps p.tables e below (T177.setTop (mkF m 12 #[.val (.int p1), .val (.int p2), .val (.int p3), .val (.ref (A 2)), .val (.ref r177), .unset, .unset, .unset, .unset] [(.int p3)])) _
          refine st178 _ ?_
          show Steps p.tables e below (T178.setTop (mkF m 15 #[.val (.int p1), .val (.int p2), .val (.int p3), .val (.ref (A 2)), .val (.ref r177), .unset, .unset, .unset, .unset] [(.ref r178)])) _
          refine XS.astore X178.here hx rfl (hb hby at_15) rfl rfl (l' := #[.val (.int p1), .val (.int p2), .val (.int p3), .val (.ref (A 2)), .val (.ref r177), .val (.ref r178), .unset, .unset, .unset]) rfl ?_
          show Steps p.tables e below (T178.setTop (mkF m 17 #[.val (.int p1), .val (.int p2), .val (.int p3), .val (.ref (A 2)), .val (.ref r177), .val (.ref r178), .unset, .unset, .unset] [])) _
          refine XS.aloadN X178.here hx rfl (hb hby at_17) rfl rfl ?_
          show Steps p.tables e below (T178.setTop (mkF m 18 #[.val (.int p1), .val (.int p2), .val (.int p3), .val (.ref (A 2)), .val (.ref r177), .val (.ref r178), .unset, .unset, .unset] [(.ref (A 2))])) _
          refine st179.trans ?_
          show Steps p.tables e below (T179.setTop (mkF m 21 #[.val (.int p1), .val (.int p2), .val (.int p3), .val (.ref (A 2)), .val (.ref r177), .val (.ref r178), .unset, .unset, .unset] [(.ref (A 2))])) _
          refine XS.astore X179.here hx rfl (hb hby at_21) rfl rfl (l' := #[.val (.int p1), .val (.int p2), .val (.int p3), .val (.ref (A 2)), .val (.ref r177), .val (.ref r178), .val (.ref (A 2)), .unset, .unset]) rfl ?_
          show Steps p.tables e below (T179.setTop (mkF m 23 #[.val (.int p1), .val (.int p2), .val (.int p3), .val (.ref (A 2)), .val (.ref r177), .val (.ref r178), .val (.ref (A 2)), .unset, .unset] [])) _
          refine XS.aload X179.here hx rfl (hb hby at_23) rfl rfl ?_
          show Steps p.tables e below (T179.setTop (mkF m 25 #[.val (.int p1), .val (.int p2), .val (.int p3), .val (.ref (A 2)), .val (.ref r177), .val (.ref r178), .val (.ref (A 2)), .unset, .unset] [(.ref (A 2))])) _
          refine XS.ifnonnullYes X179.here hx rfl (pc0 := 25) (pc' := 30) rfl (hb hby at_25) rfl (by decide) (by decide) ?_
          show Steps p.tables e below (T179.setTop (mkF m 30 #[.val (.int p1), .val (.int p2), .val (.int p3), .val (.ref (A 2)), .val (.ref r177), .val (.ref r178), .val (.ref (A 2)), .unset, .unset] [])) _
          refine XS.aloadN X179.here hx rfl (hb hby at_30) rfl rfl ?_
          show Steps p.tables e below (T179.setTop (mkF m 31 #[.val (.int p1), .val (.int p2), .val (.int p3), .val (.ref (A 2)), .val (.ref r177), .val (.ref r178), .val (.ref (A 2)), .unset, .unset] [(.ref (A 2))])) _
          refine XS.aload X179.here hx rfl (hb hby at_31) rfl rfl ?_
          show Steps p.tables e below (T179.setTop (mkF m 33 #[.val (.int p1), .val (.int p2), .val (.int p3), .val (.ref (A 2)), .val (.ref r177), .val (.ref r178), .val (.ref (A 2)), .unset, .unset] [(.ref r177), (.ref (A 2))])) _
          refine XS.aload X179.here hx rfl (hb hby at_33) rfl rfl ?_
          show Steps p.tables e below (T179.setTop (mkF m 35 #[.val (.int p1), .val (.int p2), .val (.int p3), .val (.ref (A 2)), .val (.ref r177), .val (.ref r178), .val (.ref (A 2)), .unset, .unset] [(.ref r178), (.ref r177), (.ref (A 2))])) _
          refine st185.trans ?_
          show Steps p.tables e below (T185.setTop (mkF m 38 #[.val (.int p1), .val (.int p2), .val (.int p3), .val (.ref (A 2)), .val (.ref r177), .val (.ref r178), .val (.ref (A 2)), .unset, .unset] [(.int (1 : Int32))])) _
          refine XS.aload X185.here hx rfl (hb hby at_38) rfl rfl ?_
          show Steps p.tables e below (T185.setTop (mkF m 40 #[.val (.int p1), .val (.int p2), .val (.int p3), .val (.ref (A 2)), .val (.ref r177), .val (.ref r178), .val (.ref (A 2)), .unset, .unset] [(.ref (A 2)), (.int (1 : Int32))])) _
          refine XS.aload X185.here hx rfl (hb hby at_40) rfl rfl ?_
          show Steps p.tables e below (T185.setTop (mkF m 42 #[.val (.int p1), .val (.int p2), .val (.int p3), .val (.ref (A 2)), .val (.ref r177), .val (.ref r178), .val (.ref (A 2)), .unset, .unset] [(.ref r178), (.ref (A 2)), (.int (1 : Int32))])) _
          refine XS.aload X185.here hx rfl (hb hby at_42) rfl rfl ?_
          show Steps p.tables e below (T185.setTop (mkF m 44 #[.val (.int p1), .val (.int p2), .val (.int p3), .val (.ref (A 2)), .val (.ref r177), .val (.ref r178), .val (.ref (A 2)), .unset, .unset] [(.ref r177), (.ref r178), (.ref (A 2)), (.int (1 : Int32))])) _
          refine st188.trans ?_
          show Steps p.tables e below (T188.setTop (mkF m 47 #[.val (.int p1), .val (.int p2), .val (.int p3), .val (.ref (A 2)), .val (.ref r177), .val (.ref r178), .val (.ref (A 2)), .unset, .unset] [(.int (1 : Int32)), (.int (1 : Int32))])) _
          refine XS.icmpNo X188.here hx rfl (hb hby at_47) rfl (teq (by decide : (1 : Int32) = (1 : Int32))).2 ?_
          show Steps p.tables e below (T188.setTop (mkF m 50 #[.val (.int p1), .val (.int p2), .val (.int p3), .val (.ref (A 2)), .val (.ref r177), .val (.ref r178), .val (.ref (A 2)), .unset, .unset] [])) _
          refine XS.iconst X188.here hx rfl (hb hby at_50) ?_
          show Steps p.tables e below (T188.setTop (mkF m 51 #[.val (.int p1), .val (.int p2), .val (.int p3), .val (.ref (A 2)), .val (.ref r177), .val (.ref r178), .val (.ref (A 2)), .unset, .unset] [(.int (1 : Int32))])) _
          refine XS.goto X188.here hx rfl (pc0 := 51) (pc' := 55) rfl (hb hby at_51) (by decide) (by decide) ?_
          show Steps p.tables e below (T188.setTop (mkF m 55 #[.val (.int p1), .val (.int p2), .val (.int p3), .val (.ref (A 2)), .val (.ref r177), .val (.ref r178), .val (.ref (A 2)), .unset, .unset] [(.int (1 : Int32))])) _
          refine XS.istore X188.here hx rfl (hb hby at_55) rfl (l' := #[.val (.int p1), .val (.int p2), .val (.int p3), .val (.ref (A 2)), .val (.ref r177), .val (.ref r178), .val (.ref (A 2)), .val (.int (1 : Int32)), .unset]) rfl ?_
          show Steps p.tables e below (T188.setTop (mkF m 57 #[.val (.int p1), .val (.int p2), .val (.int p3), .val (.ref (A 2)), .val (.ref r177), .val (.ref r178), .val (.ref (A 2)), .val (.int (1 : Int32)), .unset] [])) _
          refine XS.aload X188.here hx rfl (hb hby at_57) rfl rfl ?_
          show Steps p.tables e below (T188.setTop (mkF m 59 #[.val (.int p1), .val (.int p2), .val (.int p3), .val (.ref (A 2)), .val (.ref r177), .val (.ref r178), .val (.ref (A 2)), .val (.int (1 : Int32)), .unset] [(.ref (A 2))])) _
          refine st189.trans ?_
          show Steps p.tables e below (T189.setTop (mkF m 62 #[.val (.int p1), .val (.int p2), .val (.int p3), .val (.ref (A 2)), .val (.ref r177), .val (.ref r178), .val (.ref (A 2)), .val (.int (1 : Int32)), .unset] [(.ref (A 2))])) _
          refine XS.aloadN X189.here hx rfl (hb hby at_62) rfl rfl ?_
          show Steps p.tables e below (T189.setTop (mkF m 63 #[.val (.int p1), .val (.int p2), .val (.int p3), .val (.ref (A 2)), .val (.ref r177), .val (.ref r178), .val (.ref (A 2)), .val (.int (1 : Int32)), .unset] [(.ref (A 2)), (.ref (A 2))])) _
          refine Jvm.RoadKit.acmp (g := (mkF m 63 #[.val (.int p1), .val (.int p2), .val (.int p3), .val (.ref (A 2)), .val (.ref r177), .val (.ref r178), .val (.ref (A 2)), .val (.int (1 : Int32)), .unset] [(.ref (A 2)), (.ref (A 2))])) X189 hx rfl rfl rfl (pc0 := 63) (pc' := 66) (same := true) rfl (hb hby at_63) rfl (decide_eq_true rfl) (by decide) (by decide) ?_
          show Steps p.tables e below (T189.setTop (mkF m 66 #[.val (.int p1), .val (.int p2), .val (.int p3), .val (.ref (A 2)), .val (.ref r177), .val (.ref r178), .val (.ref (A 2)), .val (.int (1 : Int32)), .unset] [])) _
          refine XS.iconst X189.here hx rfl (hb hby at_66) ?_
          show Steps p.tables e below (T189.setTop (mkF m 67 #[.val (.int p1), .val (.int p2), .val (.int p3), .val (.ref (A 2)), .val (.ref r177), .val (.ref r178), .val (.ref (A 2)), .val (.int (1 : Int32)), .unset] [(.int (1 : Int32))])) _
          refine XS.goto X189.here hx rfl (pc0 := 67) (pc' := 71) rfl (hb hby at_67) (by decide) (by decide) ?_
          show Steps p.tables e below (T189.setTop (mkF m 71 #[.val (.int p1), .val (.int p2), .val (.int p3), .val (.ref (A 2)), .val (.ref r177), .val (.ref r178), .val (.ref (A 2)), .val (.int (1 : Int32)), .unset] [(.int (1 : Int32))])) _
          refine XS.istore X189.here hx rfl (hb hby at_71) rfl (l' := #[.val (.int p1), .val (.int p2), .val (.int p3), .val (.ref (A 2)), .val (.ref r177), .val (.ref r178), .val (.ref (A 2)), .val (.int (1 : Int32)), .val (.int (1 : Int32))]) rfl ?_
          show Steps p.tables e below (T189.setTop (mkF m 73 #[.val (.int p1), .val (.int p2), .val (.int p3), .val (.ref (A 2)), .val (.ref r177), .val (.ref r178), .val (.ref (A 2)), .val (.int (1 : Int32)), .val (.int (1 : Int32))] [])) _
          refine XS.iload X189.here hx rfl (hb hby at_73) rfl ?_
          show Steps p.tables e below (T189.setTop (mkF m 75 #[.val (.int p1), .val (.int p2), .val (.int p3), .val (.ref (A 2)), .val (.ref r177), .val (.ref r178), .val (.ref (A 2)), .val (.int (1 : Int32)), .val (.int (1 : Int32))] [(.int (1 : Int32))])) _
          refine XS.ifNo X189.here hx rfl (hb hby at_75) rfl ((if0 _ _).trans (feq (by decide : ¬ ((1 : Int32) = (0 : Int32)))).1) ?_
          show Steps p.tables e below (T189.setTop (mkF m 78 #[.val (.int p1), .val (.int p2), .val (.int p3), .val (.ref (A 2)), .val (.ref r177), .val (.ref r178), .val (.ref (A 2)), .val (.int (1 : Int32)), .val (.int (1 : Int32))] [])) _
          refine XS.iload X189.here hx rfl (hb hby at_78) rfl ?_
          show Steps p.tables e below (T189.setTop (mkF m 80 #[.val (.int p1), .val (.int p2), .val (.int p3), .val (.ref (A 2)), .val (.ref r177), .val (.ref r178), .val (.ref (A 2)), .val (.int (1 : Int32)), .val (.int (1 : Int32))] [(.int (1 : Int32))])) _
          refine XS.ifNo X189.here hx rfl (hb hby at_80) rfl ((if0 _ _).trans (feq (by decide : ¬ ((1 : Int32) = (0 : Int32)))).1) ?_
          show Steps p.tables e below (T189.setTop (mkF m 83 #[.val (.int p1), .val (.int p2), .val (.int p3), .val (.ref (A 2)), .val (.ref r177), .val (.ref r178), .val (.ref (A 2)), .val (.int (1 : Int32)), .val (.int (1 : Int32))] [])) _
          refine XS.iconst X189.here hx rfl (hb hby at_83) ?_
          show Steps p.tables e below (T189.setTop (mkF m 84 #[.val (.int p1), .val (.int p2), .val (.int p3), .val (.ref (A 2)), .val (.ref r177), .val (.ref r178), .val (.ref (A 2)), .val (.int (1 : Int32)), .val (.int (1 : Int32))] [(.int (1 : Int32))])) _
          refine XS.goto X189.here hx rfl (pc0 := 84) (pc' := 88) rfl (hb hby at_84) (by decide) (by decide) ?_
          show Steps p.tables e below (T189.setTop (mkF m 88 #[.val (.int p1), .val (.int p2), .val (.int p3), .val (.ref (A 2)), .val (.ref r177), .val (.ref r178), .val (.ref (A 2)), .val (.int (1 : Int32)), .val (.int (1 : Int32))] [(.int (1 : Int32))])) _
          exact retN X189 hx (t := .boolean) Bd.returns (by simp) (hb hby at_88) hr
        · show LQ n0 _ T189.heap _
          exact ⟨rfl, N189, trivial⟩
      · obtain ⟨_, _, ⟨T190, L190, k190, n190⟩, -, X190, ⟨Lc190, hQ190, l190, y190, z190⟩, st190⟩ := Jvm.LawKit.callS X0 hx (y := own_m7) hown (mvT hZ (hw _ (List.mem_of_getElem? (i := 0) rfl))) (mvT hZ (hw _ (List.mem_of_getElem? (i := 1) rfl))) (mvT hZ (hw _ (List.mem_of_getElem? (i := 2) rfl))) (mvT hZ (hw _ (List.mem_of_getElem? (i := 3) rfl))) (by decide) (backOf (W := 0) (rm55 l Z a0 hw [] h0 n0 p1 p2 p3 A K EN OL0 hk16) hZ (hw _ (List.mem_of_getElem? (i := 3) rfl)) (hw _ (List.mem_of_getElem? (i := 2) rfl)) (by decide) (by decide)) (g := (mkF m 1 #[.val (.int p1), .val (.int p2), .val (.int p3), .unset, .unset, .unset, .unset, .unset, .unset] [(.int p1)])) rfl (by rw [hml]; rfl) (argsL := [(.int p1)]) (rest := []) (lenOf own_pd2 rfl) rfl (by show 2 * 0 + _ ≤ _; exact Nat.le_of_eq rfl) (hb hby at_1) (fun _ _ => ⟨rfl, e0, (by decide : 0 + 0 ≤ _), (by decide : 0 + 0 ≤ _)⟩)
        dsimp only [Pt.U, Pt.locs, Pt.cells, Pt.slots] at X190 l190 y190 z190 st190 hQ190
        subst l190 y190 z190
        obtain ⟨rfl, N190q, e190⟩ := hQ190
        have N190 := Fr.app N0 N190q
        obtain ⟨_, _, ⟨T191, L191, k191, n191⟩, -, X191, ⟨Lc191, hQ191, l191, y191, z191⟩, st191⟩ := Jvm.LawKit.callS X190 hx (y := own_m4) hown (mvT hZ (hw _ (List.mem_of_getElem? (i := 8) rfl))) (mvT hZ (hw _ (List.mem_of_getElem? (i := 9) rfl))) (mvT hZ (hw _ (List.mem_of_getElem? (i := 10) rfl))) (mvT hZ (hw _ (List.mem_of_getElem? (i := 11) rfl))) (by decide) (backOf (W := 0) (rmV l Z a0 hw [] h0 n0 A K p2 EN OL0) hZ (hw _ (List.mem_of_getElem? (i := 11) rfl)) (hw _ (List.mem_of_getElem? (i := 10) rfl)) (by decide) (by decide)) (g := (mkF m 6 #[.val (.int p1), .val (.int p2), .val (.int p3), .val (.ref (A 2)), .unset, .unset, .unset, .unset, .unset] [(.int p2)])) rfl (by rw [hml]; rfl) (argsL := [(.int p2)]) (rest := []) (lenOf own_pd3 rfl) rfl (by show 2 * 0 + _ ≤ _; exact Nat.le_of_eq rfl) (hb hby at_6) (fun _ _ => ⟨rfl, e190, (by decide : 0 + 1 ≤ _), (by decide : 0 + 1 ≤ _)⟩)
        dsimp only [Pt.U, Pt.locs, Pt.cells, Pt.slots] at X191 l191 y191 z191 st191 hQ191
        subst l191 y191 z191
        obtain ⟨r191, rfl, N191q, K191c, er191, fr191⟩ := hQ191
        have N191 := Fr.app N190 N191q
        have OL191 : Old Z n0 T191.heap := OL0.keep K191c all0
        have KK191 : Keep h0 T191.heap [] := KK0.trans K191c all0
        obtain ⟨_, _, ⟨T192, L192, k192, n192⟩, -, X192, ⟨Lc192, hQ192, l192, y192, z192⟩, st192⟩ := Jvm.LawKit.callS X191 hx (y := own_m4) hown (mvT hZ (hw _ (List.mem_of_getElem? (i := 8) rfl))) (mvT hZ (hw _ (List.mem_of_getElem? (i := 9) rfl))) (mvT hZ (hw _ (List.mem_of_getElem? (i := 10) rfl))) (mvT hZ (hw _ (List.mem_of_getElem? (i := 11) rfl))) (by decide) (backOf (W := 0) (rmV l Z a0 hw [] T191.heap n0 A K p3 EN OL191) hZ (hw _ (List.mem_of_getElem? (i := 11) rfl)) (hw _ (List.mem_of_getElem? (i := 10) rfl)) (by decide) (by decide)) (g := (mkF m 12 #[.val (.int p1), .val (.int p2), .val (.int p3), .val (.ref (A 2)), .val (.ref r191), .unset, .unset, .unset, .unset] [(.int p3)])) rfl (by rw [hml]; rfl) (argsL := [(.int p3)]) (rest := []) (lenOf own_pd3 rfl) rfl (by show 2 * 0 + _ ≤ _; exact Nat.le_of_eq rfl) (hb hby at_12) (fun _ _ => ⟨rfl, rfl, (by decide : 1 + 1 ≤ _), (by decide : 1 + 1 ≤ _)⟩)
        dsimp only [Pt.U, Pt.locs, Pt.cells, Pt.slots] at X192 l192 y192 z192 st192 hQ192
        subst l192 y192 z192
        obtain ⟨r192, rfl, N192q, K192c, er192, fr192⟩ := hQ192
        have N192 := Fr.app N191 N192q
        have OL192 : Old Z n0 T192.heap := OL191.keep K192c all0
        have KK192 : Keep h0 T192.heap [] := KK191.trans K192c all0
        obtain ⟨cq193, kq193, q193a, q193b, q193c⟩ := isOf hZ rfl (EN.1.2.2.2.2.2.1.ext OL192.2)
        obtain ⟨_, _, ⟨T193, L193, k193, n193⟩, -, X193, ⟨Lc193, hQ193, l193, y193, z193⟩, st193⟩ := X192.virtualBack hx (y := own_m2) (z := own_m2) hown (mvT hZ (hw _ (List.mem_of_getElem? (i := 15) rfl))) (mvT hZ (hw _ (List.mem_of_getElem? (i := 16) rfl))) (notFace_of_selects (args := #[]) (mvT hZ (hw _ (List.mem_of_getElem? (i := 18) rfl)))) (mvT hZ (hw _ (List.mem_of_getElem? (i := 18) rfl))) (mvT hZ (hw _ (List.mem_of_getElem? (i := 17) rfl))) (by decide) (backOf (W := 0) (rm56 l Z a0 hw [] T192.heap n0 p1 p2 p3 A K EN OL192) hZ (hw _ (List.mem_of_getElem? (i := 19) rfl)) (hw _ (List.mem_of_getElem? (i := 6) rfl)) (by decide) (by decide)) q193a q193c (g := (mkF m 18 #[.val (.int p1), .val (.int p2), .val (.int p3), .val (.ref (A 2)), .val (.ref r191), .val (.ref r192), .unset, .unset, .unset] [(.ref (A 2))])) rfl (by rw [hml]; rfl) (Steps.refl _) (argsL := []) (rest := []) (lenOf own_pd5 rfl) rfl (by show 2 * 0 + _ ≤ _; exact Nat.le_of_eq rfl) (hb hby at_18) (fun _ _ => ⟨rfl, rfl, (by decide : 2 + 0 ≤ _), (by decide : 2 + 0 ≤ _)⟩)
        dsimp only [Pt.U, Pt.locs, Pt.cells, Pt.slots] at X193 l193 y193 z193 st193 hQ193
        subst l193 y193 z193
        obtain ⟨rfl, N193q, e193⟩ := hQ193
        have N193 := Fr.app N192 N193q
        have fx196 : Exa Z T192.heap r191 "java/lang/Integer" := (er191.keep K192c)
        have fx197 : Fld Z T192.heap r191 "java/lang/Integer" "value" "I" (.int p2) := (fr191.keep K192c nin0)
        obtain ⟨cq198, kq198, q198a, q198b, q198c⟩ := isOf hZ e193 (EN.1.2.2.2.2.2.1.ext OL192.2)
        obtain ⟨_, _, ⟨T198, L198, k198, n198⟩, -, X198, ⟨Lc198, hQ198, l198, y198, z198⟩, st198⟩ := X193.virtualBack hx (y := own_m0) (z := own_m0) hown (mvT hZ (hw _ (List.mem_of_getElem? (i := 31) rfl))) (mvT hZ (hw _ (List.mem_of_getElem? (i := 32) rfl))) (notFace_of_selects (args := #[]) (mvT hZ (hw _ (List.mem_of_getElem? (i := 34) rfl)))) (mvT hZ (hw _ (List.mem_of_getElem? (i := 34) rfl))) (mvT hZ (hw _ (List.mem_of_getElem? (i := 33) rfl))) (by decide) (backOf (W := 0) (rm65 l Z a0 hw [] T192.heap n0 p1 p2 p3 A K r191 r192 EN OL192 fx196 er192 fx197 fr192 hp_155 hp_175) hZ (hw _ (List.mem_of_getElem? (i := 35) rfl)) (hw _ (List.mem_of_getElem? (i := 6) rfl)) (by decide) (by decide)) q198a q198c (g := (mkF m 35 #[.val (.int p1), .val (.int p2), .val (.int p3), .val (.ref (A 2)), .val (.ref r191), .val (.ref r192), .val (.ref (A 2)), .unset, .unset] [(.ref r192), (.ref r191), (.ref (A 2))])) rfl (by rw [hml]; rfl) (Steps.refl _) (argsL := [(.ref r191), (.ref r192)]) (rest := []) (lenOf own_pd10 rfl) rfl (by show 2 * 0 + _ ≤ _; exact Nat.le_of_eq rfl) (hb hby at_35) (fun _ _ => ⟨rfl, e193, (by decide : 2 + 0 ≤ _), (by decide : 2 + 0 ≤ _)⟩)
        dsimp only [Pt.U, Pt.locs, Pt.cells, Pt.slots] at X198 l198 y198 z198 st198 hQ198
        subst l198 y198 z198
        obtain ⟨rfl, N198q, e198⟩ := hQ198
        have N198 := Fr.app N193 N198q
        obtain ⟨cq201, kq201, q201a, q201b, q201c⟩ := isOf hZ e198 (EN.1.2.2.2.2.2.1.ext OL192.2)
        obtain ⟨_, _, ⟨T201, L201, k201, n201⟩, -, X201, ⟨Lc201, hQ201, l201, y201, z201⟩, st201⟩ := X198.virtualBack hx (y := own_m0) (z := own_m0) hown (mvT hZ (hw _ (List.mem_of_getElem? (i := 31) rfl))) (mvT hZ (hw _ (List.mem_of_getElem? (i := 32) rfl))) (notFace_of_selects (args := #[]) (mvT hZ (hw _ (List.mem_of_getElem? (i := 34) rfl)))) (mvT hZ (hw _ (List.mem_of_getElem? (i := 34) rfl))) (mvT hZ (hw _ (List.mem_of_getElem? (i := 33) rfl))) (by decide) (backOf (W := 1) (rm66 l Z a0 hw [] T192.heap n0 p1 p2 p3 A K r191 r192 EN OL192 er192 fx196 fr192 fx197 hp_155 hp_175) hZ (hw _ (List.mem_of_getElem? (i := 35) rfl)) (hw _ (List.mem_of_getElem? (i := 6) rfl)) (by decide) (by decide)) q201a q201c (g := (mkF m 44 #[.val (.int p1), .val (.int p2), .val (.int p3), .val (.ref (A 2)), .val (.ref r191), .val (.ref r192), .val (.ref (A 2)), .unset, .unset] [(.ref r191), (.ref r192), (.ref (A 2)), (.int (0 : Int32))])) rfl (by rw [hml]; rfl) (Steps.refl _) (argsL := [(.ref r192), (.ref r191)]) (rest := [(.int (0 : Int32))]) (lenOf own_pd10 rfl) rfl (by show 2 * 0 + _ ≤ _; exact Nat.le_of_eq rfl) (hb hby at_44) (fun _ _ => ⟨rfl, e198, (by decide : 2 + 0 ≤ _), (by decide : 2 + 0 ≤ _)⟩)
        dsimp only [Pt.U, Pt.locs, Pt.cells, Pt.slots] at X201 l201 y201 z201 st201 hQ201
        subst l201 y201 z201
        obtain ⟨rfl, N201q, e201⟩ := hQ201
        have N201 := Fr.app N198 N201q
        obtain ⟨cq202, kq202, q202a, q202b, q202c⟩ := isOf hZ e201 (EN.1.2.2.2.2.2.1.ext OL192.2)
        obtain ⟨_, _, ⟨T202, L202, k202, n202⟩, -, X202, ⟨Lc202, hQ202, l202, y202, z202⟩, st202⟩ := X201.virtualBack hx (y := own_m2) (z := own_m2) hown (mvT hZ (hw _ (List.mem_of_getElem? (i := 15) rfl))) (mvT hZ (hw _ (List.mem_of_getElem? (i := 16) rfl))) (notFace_of_selects (args := #[]) (mvT hZ (hw _ (List.mem_of_getElem? (i := 18) rfl)))) (mvT hZ (hw _ (List.mem_of_getElem? (i := 18) rfl))) (mvT hZ (hw _ (List.mem_of_getElem? (i := 17) rfl))) (by decide) (backOf (W := 0) (rm56 l Z a0 hw [] T192.heap n0 p1 p2 p3 A K EN OL192) hZ (hw _ (List.mem_of_getElem? (i := 19) rfl)) (hw _ (List.mem_of_getElem? (i := 6) rfl)) (by decide) (by decide)) q202a q202c (g := (mkF m 59 #[.val (.int p1), .val (.int p2), .val (.int p3), .val (.ref (A 2)), .val (.ref r191), .val (.ref r192), .val (.ref (A 2)), .val (.int (1 : Int32)), .unset] [(.ref (A 2))])) rfl (by rw [hml]; rfl) (Steps.refl _) (argsL := []) (rest := []) (lenOf own_pd5 rfl) rfl (by show 2 * 0 + _ ≤ _; exact Nat.le_of_eq rfl) (hb hby at_59) (fun _ _ => ⟨rfl, e201, (by decide : 2 + 0 ≤ _), (by decide : 2 + 0 ≤ _)⟩)
        dsimp only [Pt.U, Pt.locs, Pt.cells, Pt.slots] at X202 l202 y202 z202 st202 hQ202
        subst l202 y202 z202
        obtain ⟨rfl, N202q, e202⟩ := hQ202
        have N202 := Fr.app N201 N202q
        obtain ⟨fs, hr, hrun, hended, hW, hsame⟩ := X202.leave (v := some (.int (1 : Int32))) (fun h => by rw [Bd.returns] at h; cases h)
        refine ⟨_, _, pre0 _ ?_, hrun, hended, _, _, rfl, ?_, ⟨_, rfl⟩, hW, hsame.mono (by decide) (by decide)⟩
        · show Steps p.tables e below (s₁.setTop (mkF m 0 #[.val (.int p1), .val (.int p2), .val (.int p3), .unset, .unset, .unset, .unset, .unset, .unset] [])) _
          refine XS.iloadN X0.here hx rfl (hb hby at_0) rfl ?_
          show Steps p.tables e below (s₁.setTop (mkF m 1 #[.val (.int p1), .val (.int p2), .val (.int p3), .unset, .unset, .unset, .unset, .unset, .unset] [(.int p1)])) _
          refine st190 _ ?_
          show Steps p.tables e below (T190.setTop (mkF m 4 #[.val (.int p1), .val (.int p2), .val (.int p3), .unset, .unset, .unset, .unset, .unset, .unset] [(.ref (A 2))])) _
          refine XS.astoreN X190.here hx rfl (hb hby at_4) rfl rfl (l' := #[.val (.int p1), .val (.int p2), .val (.int p3), .val (.ref (A 2)), .unset, .unset, .unset, .unset, .unset]) rfl ?_
          show Steps p.tables e below (T190.setTop (mkF m 5 #[.val (.int p1), .val (.int p2), .val (.int p3), .val (.ref (A 2)), .unset, .unset, .unset, .unset, .unset] [])) _
          refine XS.iloadN X190.here hx rfl (hb hby at_5) rfl ?_
          show Steps p.tables e below (T190.setTop (mkF m 6 #[.val (.int p1), .val (.int p2), .val (.int p3), .val (.ref (A 2)), .unset, .unset, .unset, .unset, .unset] [(.int p2)])) _
          refine st191 _ ?_
          show Steps p.tables e below (T191.setTop (mkF m 9 #[.val (.int p1), .val (.int p2), .val (.int p3), .val (.ref (A 2)), .unset, .unset, .unset, .unset, .unset] [(.ref r191)])) _
          refine XS.astore X191.here hx rfl (hb hby at_9) rfl rfl (l' := #[.val (.int p1), .val (.int p2), .val (.int p3), .val (.ref (A 2)), .val (.ref r191), .unset, .unset, .unset, .unset]) rfl ?_
          show Steps p.tables e below (T191.setTop (mkF m 11 #[.val (.int p1), .val (.int p2), .val (.int p3), .val (.ref (A 2)), .val (.ref r191), .unset, .unset, .unset, .unset] [])) _
          refine XS.iloadN X191.here hx rfl (hb hby at_11) rfl ?_
          show Steps p.tables e below (T191.setTop (mkF m 12 #[.val (.int p1), .val (.int p2), .val (.int p3), .val (.ref (A 2)), .val (.ref r191), .unset, .unset, .unset, .unset] [(.int p3)])) _
          refine st192 _ ?_
          show Steps p.tables e below (T192.setTop (mkF m 15 #[.val (.int p1), .val (.int p2), .val (.int p3), .val (.ref (A 2)), .val (.ref r191), .unset, .unset, .unset, .unset] [(.ref r192)])) _
          refine XS.astore X192.here hx rfl (hb hby at_15) rfl rfl (l' := #[.val (.int p1), .val (.int p2), .val (.int p3), .val (.ref (A 2)), .val (.ref r191), .val (.ref r192), .unset, .unset, .unset]) rfl ?_
          show Steps p.tables e below (T192.setTop (mkF m 17 #[.val (.int p1), .val (.int p2), .val (.int p3), .val (.ref (A 2)), .val (.ref r191), .val (.ref r192), .unset, .unset, .unset] [])) _
          refine XS.aloadN X192.here hx rfl (hb hby at_17) rfl rfl ?_
          show Steps p.tables e below (T192.setTop (mkF m 18 #[.val (.int p1), .val (.int p2), .val (.int p3), .val (.ref (A 2)), .val (.ref r191), .val (.ref r192), .unset, .unset, .unset] [(.ref (A 2))])) _
          refine st193.trans ?_
          show Steps p.tables e below (T193.setTop (mkF m 21 #[.val (.int p1), .val (.int p2), .val (.int p3), .val (.ref (A 2)), .val (.ref r191), .val (.ref r192), .unset, .unset, .unset] [(.ref (A 2))])) _
          refine XS.astore X193.here hx rfl (hb hby at_21) rfl rfl (l' := #[.val (.int p1), .val (.int p2), .val (.int p3), .val (.ref (A 2)), .val (.ref r191), .val (.ref r192), .val (.ref (A 2)), .unset, .unset]) rfl ?_
          show Steps p.tables e below (T193.setTop (mkF m 23 #[.val (.int p1), .val (.int p2), .val (.int p3), .val (.ref (A 2)), .val (.ref r191), .val (.ref r192), .val (.ref (A 2)), .unset, .unset] [])) _
          refine XS.aload X193.here hx rfl (hb hby at_23) rfl rfl ?_
          show Steps p.tables e below (T193.setTop (mkF m 25 #[.val (.int p1), .val (.int p2), .val (.int p3), .val (.ref (A 2)), .val (.ref r191), .val (.ref r192), .val (.ref (A 2)), .unset, .unset] [(.ref (A 2))])) _
          refine XS.ifnonnullYes X193.here hx rfl (pc0 := 25) (pc' := 30) rfl (hb hby at_25) rfl (by decide) (by decide) ?_
          show Steps p.tables e below (T193.setTop (mkF m 30 #[.val (.int p1), .val (.int p2), .val (.int p3), .val (.ref (A 2)), .val (.ref r191), .val (.ref r192), .val (.ref (A 2)), .unset, .unset] [])) _
          refine XS.aloadN X193.here hx rfl (hb hby at_30) rfl rfl ?_
          show Steps p.tables e below (T193.setTop (mkF m 31 #[.val (.int p1), .val (.int p2), .val (.int p3), .val (.ref (A 2)), .val (.ref r191), .val (.ref r192), .val (.ref (A 2)), .unset, .unset] [(.ref (A 2))])) _
          refine XS.aload X193.here hx rfl (hb hby at_31) rfl rfl ?_
          show Steps p.tables e below (T193.setTop (mkF m 33 #[.val (.int p1), .val (.int p2), .val (.int p3), .val (.ref (A 2)), .val (.ref r191), .val (.ref r192), .val (.ref (A 2)), .unset, .unset] [(.ref r191), (.ref (A 2))])) _
          refine XS.aload X193.here hx rfl (hb hby at_33) rfl rfl ?_
          show Steps p.tables e below (T193.setTop (mkF m 35 #[.val (.int p1), .val (.int p2), .val (.int p3), .val (.ref (A 2)), .val (.ref r191), .val (.ref r192), .val (.ref (A 2)), .unset, .unset] [(.ref r192), (.ref r191), (.ref (A 2))])) _
          refine st198.trans ?_
          show Steps p.tables e below (T198.setTop (mkF m 38 #[.val (.int p1), .val (.int p2), .val (.int p3), .val (.ref (A 2)), .val (.ref r191), .val (.ref r192), .val (.ref (A 2)), .unset, .unset] [(.int (0 : Int32))])) _
          refine XS.aload X198.here hx rfl (hb hby at_38) rfl rfl ?_
          show Steps p.tables e below (T198.setTop (mkF m 40 #[.val (.int p1), .val (.int p2), .val (.int p3), .val (.ref (A 2)), .val (.ref r191), .val (.ref r192), .val (.ref (A 2)), .unset, .unset] [(.ref (A 2)), (.int (0 : Int32))])) _
          refine XS.aload X198.here hx rfl (hb hby at_40) rfl rfl ?_
          show Steps p.tables e below (T198.setTop (mkF m 42 #[.val (.int p1), .val (.int p2), .val (.int p3), .val (.ref (A 2)), .val (.ref r191), .val (.ref r192), .val (.ref (A 2)), .unset, .unset] [(.ref r192), (.ref (A 2)), (.int (0 : Int32))])) _
          refine XS.aload X198.here hx rfl (hb hby at_42) rfl rfl ?_
          show Steps p.tables e below (T198.setTop (mkF m 44 #[.val (.int p1), .val (.int p2), .val (.int p3), .val (.ref (A 2)), .val (.ref r191), .val (.ref r192), .val (.ref (A 2)), .unset, .unset] [(.ref r191), (.ref r192), (.ref (A 2)), (.int (0 : Int32))])) _
          refine st201.trans ?_
          show Steps p.tables e below (T201.setTop (mkF m 47 #[.val (.int p1), .val (.int p2), .val (.int p3), .val (.ref (A 2)), .val (.ref r191), .val (.ref r192), .val (.ref (A 2)), .unset, .unset] [(.int (0 : Int32)), (.int (0 : Int32))])) _
          refine XS.icmpNo X201.here hx rfl (hb hby at_47) rfl (teq (by decide : (0 : Int32) = (0 : Int32))).2 ?_
          show Steps p.tables e below (T201.setTop (mkF m 50 #[.val (.int p1), .val (.int p2), .val (.int p3), .val (.ref (A 2)), .val (.ref r191), .val (.ref r192), .val (.ref (A 2)), .unset, .unset] [])) _
          refine XS.iconst X201.here hx rfl (hb hby at_50) ?_
          show Steps p.tables e below (T201.setTop (mkF m 51 #[.val (.int p1), .val (.int p2), .val (.int p3), .val (.ref (A 2)), .val (.ref r191), .val (.ref r192), .val (.ref (A 2)), .unset, .unset] [(.int (1 : Int32))])) _
          refine XS.goto X201.here hx rfl (pc0 := 51) (pc' := 55) rfl (hb hby at_51) (by decide) (by decide) ?_
          show Steps p.tables e below (T201.setTop (mkF m 55 #[.val (.int p1), .val (.int p2), .val (.int p3), .val (.ref (A 2)), .val (.ref r191), .val (.ref r192), .val (.ref (A 2)), .unset, .unset] [(.int (1 : Int32))])) _
          refine XS.istore X201.here hx rfl (hb hby at_55) rfl (l' := #[.val (.int p1), .val (.int p2), .val (.int p3), .val (.ref (A 2)), .val (.ref r191), .val (.ref r192), .val (.ref (A 2)), .val (.int (1 : Int32)), .unset]) rfl ?_
          show Steps p.tables e below (T201.setTop (mkF m 57 #[.val (.int p1), .val (.int p2), .val (.int p3), .val (.ref (A 2)), .val (.ref r191), .val (.ref r192), .val (.ref (A 2)), .val (.int (1 : Int32)), .unset] [])) _
          refine XS.aload X201.here hx rfl (hb hby at_57) rfl rfl ?_
          show Steps p.tables e below (T201.setTop (mkF m 59 #[.val (.int p1), .val (.int p2), .val (.int p3), .val (.ref (A 2)), .val (.ref r191), .val (.ref r192), .val (.ref (A 2)), .val (.int (1 : Int32)), .unset] [(.ref (A 2))])) _
          refine st202.trans ?_
          show Steps p.tables e below (T202.setTop (mkF m 62 #[.val (.int p1), .val (.int p2), .val (.int p3), .val (.ref (A 2)), .val (.ref r191), .val (.ref r192), .val (.ref (A 2)), .val (.int (1 : Int32)), .unset] [(.ref (A 2))])) _
          refine XS.aloadN X202.here hx rfl (hb hby at_62) rfl rfl ?_
          show Steps p.tables e below (T202.setTop (mkF m 63 #[.val (.int p1), .val (.int p2), .val (.int p3), .val (.ref (A 2)), .val (.ref r191), .val (.ref r192), .val (.ref (A 2)), .val (.int (1 : Int32)), .unset] [(.ref (A 2)), (.ref (A 2))])) _
          refine Jvm.RoadKit.acmp (g := (mkF m 63 #[.val (.int p1), .val (.int p2), .val (.int p3), .val (.ref (A 2)), .val (.ref r191), .val (.ref r192), .val (.ref (A 2)), .val (.int (1 : Int32)), .unset] [(.ref (A 2)), (.ref (A 2))])) X202 hx rfl rfl rfl (pc0 := 63) (pc' := 66) (same := true) rfl (hb hby at_63) rfl (decide_eq_true rfl) (by decide) (by decide) ?_
          show Steps p.tables e below (T202.setTop (mkF m 66 #[.val (.int p1), .val (.int p2), .val (.int p3), .val (.ref (A 2)), .val (.ref r191), .val (.ref r192), .val (.ref (A 2)), .val (.int (1 : Int32)), .unset] [])) _
          refine XS.iconst X202.here hx rfl (hb hby at_66) ?_
          show Steps p.tables e below (T202.setTop (mkF m 67 #[.val (.int p1), .val (.int p2), .val (.int p3), .val (.ref (A 2)), .val (.ref r191), .val (.ref r192), .val (.ref (A 2)), .val (.int (1 : Int32)), .unset] [(.int (1 : Int32))])) _
          refine XS.goto X202.here hx rfl (pc0 := 67) (pc' := 71) rfl (hb hby at_67) (by decide) (by decide) ?_
          show Steps p.tables e below (T202.setTop (mkF m 71 #[.val (.int p1), .val (.int p2), .val (.int p3), .val (.ref (A 2)), .val (.ref r191), .val (.ref r192), .val (.ref (A 2)), .val (.int (1 : Int32)), .unset] [(.int (1 : Int32))])) _
          refine XS.istore X202.here hx rfl (hb hby at_71) rfl (l' := #[.val (.int p1), .val (.int p2), .val (.int p3), .val (.ref (A 2)), .val (.ref r191), .val (.ref r192), .val (.ref (A 2)), .val (.int (1 : Int32)), .val (.int (1 : Int32))]) rfl ?_
          show Steps p.tables e below (T202.setTop (mkF m 73 #[.val (.int p1), .val (.int p2), .val (.int p3), .val (.ref (A 2)), .val (.ref r191), .val (.ref r192), .val (.ref (A 2)), .val (.int (1 : Int32)), .val (.int (1 : Int32))] [])) _
          refine XS.iload X202.here hx rfl (hb hby at_73) rfl ?_
          show Steps p.tables e below (T202.setTop (mkF m 75 #[.val (.int p1), .val (.int p2), .val (.int p3), .val (.ref (A 2)), .val (.ref r191), .val (.ref r192), .val (.ref (A 2)), .val (.int (1 : Int32)), .val (.int (1 : Int32))] [(.int (1 : Int32))])) _
          refine XS.ifNo X202.here hx rfl (hb hby at_75) rfl ((if0 _ _).trans (feq (by decide : ¬ ((1 : Int32) = (0 : Int32)))).1) ?_
          show Steps p.tables e below (T202.setTop (mkF m 78 #[.val (.int p1), .val (.int p2), .val (.int p3), .val (.ref (A 2)), .val (.ref r191), .val (.ref r192), .val (.ref (A 2)), .val (.int (1 : Int32)), .val (.int (1 : Int32))] [])) _
          refine XS.iload X202.here hx rfl (hb hby at_78) rfl ?_
          show Steps p.tables e below (T202.setTop (mkF m 80 #[.val (.int p1), .val (.int p2), .val (.int p3), .val (.ref (A 2)), .val (.ref r191), .val (.ref r192), .val (.ref (A 2)), .val (.int (1 : Int32)), .val (.int (1 : Int32))] [(.int (1 : Int32))])) _
          refine XS.ifNo X202.here hx rfl (hb hby at_80) rfl ((if0 _ _).trans (feq (by decide : ¬ ((1 : Int32) = (0 : Int32)))).1) ?_
          show Steps p.tables e below (T202.setTop (mkF m 83 #[.val (.int p1), .val (.int p2), .val (.int p3), .val (.ref (A 2)), .val (.ref r191), .val (.ref r192), .val (.ref (A 2)), .val (.int (1 : Int32)), .val (.int (1 : Int32))] [])) _
          refine XS.iconst X202.here hx rfl (hb hby at_83) ?_
          show Steps p.tables e below (T202.setTop (mkF m 84 #[.val (.int p1), .val (.int p2), .val (.int p3), .val (.ref (A 2)), .val (.ref r191), .val (.ref r192), .val (.ref (A 2)), .val (.int (1 : Int32)), .val (.int (1 : Int32))] [(.int (1 : Int32))])) _
          refine XS.goto X202.here hx rfl (pc0 := 84) (pc' := 88) rfl (hb hby at_84) (by decide) (by decide) ?_
          show Steps p.tables e below (T202.setTop (mkF m 88 #[.val (.int p1), .val (.int p2), .val (.int p3), .val (.ref (A 2)), .val (.ref r191), .val (.ref r192), .val (.ref (A 2)), .val (.int (1 : Int32)), .val (.int (1 : Int32))] [(.int (1 : Int32))])) _
          exact retN X202 hx (t := .boolean) Bd.returns (by simp) (hb hby at_88) hr
        · show LQ n0 _ T202.heap _
          exact ⟨rfl, N202, trivial⟩
  | 3, _, hk16 =>
    by_cases hp_203 : p2 < p3
    · obtain ⟨_, _, ⟨T205, L205, k205, n205⟩, -, X205, ⟨Lc205, hQ205, l205, y205, z205⟩, st205⟩ := Jvm.LawKit.callS X0 hx (y := own_m7) hown (mvT hZ (hw _ (List.mem_of_getElem? (i := 0) rfl))) (mvT hZ (hw _ (List.mem_of_getElem? (i := 1) rfl))) (mvT hZ (hw _ (List.mem_of_getElem? (i := 2) rfl))) (mvT hZ (hw _ (List.mem_of_getElem? (i := 3) rfl))) (by decide) (backOf (W := 0) (rm67 l Z a0 hw [] h0 n0 p1 p2 p3 A K EN OL0 hk16) hZ (hw _ (List.mem_of_getElem? (i := 3) rfl)) (hw _ (List.mem_of_getElem? (i := 2) rfl)) (by decide) (by decide)) (g := (mkF m 1 #[.val (.int p1), .val (.int p2), .val (.int p3), .unset, .unset, .unset, .unset, .unset, .unset] [(.int p1)])) rfl (by rw [hml]; rfl) (argsL := [(.int p1)]) (rest := []) (lenOf own_pd2 rfl) rfl (by show 2 * 0 + _ ≤ _; exact Nat.le_of_eq rfl) (hb hby at_1) (fun _ _ => ⟨rfl, e0, (by decide : 0 + 0 ≤ _), (by decide : 0 + 0 ≤ _)⟩)
      dsimp only [Pt.U, Pt.locs, Pt.cells, Pt.slots] at X205 l205 y205 z205 st205 hQ205
      subst l205 y205 z205
      obtain ⟨rfl, N205q, e205⟩ := hQ205
      have N205 := Fr.app N0 N205q
      obtain ⟨_, _, ⟨T206, L206, k206, n206⟩, -, X206, ⟨Lc206, hQ206, l206, y206, z206⟩, st206⟩ := Jvm.LawKit.callS X205 hx (y := own_m4) hown (mvT hZ (hw _ (List.mem_of_getElem? (i := 8) rfl))) (mvT hZ (hw _ (List.mem_of_getElem? (i := 9) rfl))) (mvT hZ (hw _ (List.mem_of_getElem? (i := 10) rfl))) (mvT hZ (hw _ (List.mem_of_getElem? (i := 11) rfl))) (by decide) (backOf (W := 0) (rmV l Z a0 hw [] h0 n0 A K p2 EN OL0) hZ (hw _ (List.mem_of_getElem? (i := 11) rfl)) (hw _ (List.mem_of_getElem? (i := 10) rfl)) (by decide) (by decide)) (g := (mkF m 6 #[.val (.int p1), .val (.int p2), .val (.int p3), .val (.ref (A 3)), .unset, .unset, .unset, .unset, .unset] [(.int p2)])) rfl (by rw [hml]; rfl) (argsL := [(.int p2)]) (rest := []) (lenOf own_pd3 rfl) rfl (by show 2 * 0 + _ ≤ _; exact Nat.le_of_eq rfl) (hb hby at_6) (fun _ _ => ⟨rfl, e205, (by decide : 0 + 1 ≤ _), (by decide : 0 + 1 ≤ _)⟩)
      dsimp only [Pt.U, Pt.locs, Pt.cells, Pt.slots] at X206 l206 y206 z206 st206 hQ206
      subst l206 y206 z206
      obtain ⟨r206, rfl, N206q, K206c, er206, fr206⟩ := hQ206
      have N206 := Fr.app N205 N206q
      have OL206 : Old Z n0 T206.heap := OL0.keep K206c all0
      have KK206 : Keep h0 T206.heap [] := KK0.trans K206c all0
      obtain ⟨_, _, ⟨T207, L207, k207, n207⟩, -, X207, ⟨Lc207, hQ207, l207, y207, z207⟩, st207⟩ := Jvm.LawKit.callS X206 hx (y := own_m4) hown (mvT hZ (hw _ (List.mem_of_getElem? (i := 8) rfl))) (mvT hZ (hw _ (List.mem_of_getElem? (i := 9) rfl))) (mvT hZ (hw _ (List.mem_of_getElem? (i := 10) rfl))) (mvT hZ (hw _ (List.mem_of_getElem? (i := 11) rfl))) (by decide) (backOf (W := 0) (rmV l Z a0 hw [] T206.heap n0 A K p3 EN OL206) hZ (hw _ (List.mem_of_getElem? (i := 11) rfl)) (hw _ (List.mem_of_getElem? (i := 10) rfl)) (by decide) (by decide)) (g := (mkF m 12 #[.val (.int p1), .val (.int p2), .val (.int p3), .val (.ref (A 3)), .val (.ref r206), .unset, .unset, .unset, .unset] [(.int p3)])) rfl (by rw [hml]; rfl) (argsL := [(.int p3)]) (rest := []) (lenOf own_pd3 rfl) rfl (by show 2 * 0 + _ ≤ _; exact Nat.le_of_eq rfl) (hb hby at_12) (fun _ _ => ⟨rfl, rfl, (by decide : 1 + 1 ≤ _), (by decide : 1 + 1 ≤ _)⟩)
      dsimp only [Pt.U, Pt.locs, Pt.cells, Pt.slots] at X207 l207 y207 z207 st207 hQ207
      subst l207 y207 z207
      obtain ⟨r207, rfl, N207q, K207c, er207, fr207⟩ := hQ207
      have N207 := Fr.app N206 N207q
      have OL207 : Old Z n0 T207.heap := OL206.keep K207c all0
      have KK207 : Keep h0 T207.heap [] := KK206.trans K207c all0
      obtain ⟨cq208, kq208, q208a, q208b, q208c⟩ := isOf hZ rfl (EN.1.2.2.2.2.2.2.2.1.ext OL207.2)
      obtain ⟨_, _, ⟨T208, L208, k208, n208⟩, -, X208, ⟨Lc208, hQ208, l208, y208, z208⟩, st208⟩ := X207.virtualBack hx (y := own_m2) (z := own_m2) hown (mvT hZ (hw _ (List.mem_of_getElem? (i := 15) rfl))) (mvT hZ (hw _ (List.mem_of_getElem? (i := 16) rfl))) (notFace_of_selects (args := #[]) (mvT hZ (hw _ (List.mem_of_getElem? (i := 18) rfl)))) (mvT hZ (hw _ (List.mem_of_getElem? (i := 18) rfl))) (mvT hZ (hw _ (List.mem_of_getElem? (i := 17) rfl))) (by decide) (backOf (W := 0) (rm46 l Z a0 hw [] T207.heap n0 p1 p2 p3 A K EN OL207) hZ (hw _ (List.mem_of_getElem? (i := 19) rfl)) (hw _ (List.mem_of_getElem? (i := 6) rfl)) (by decide) (by decide)) q208a q208c (g := (mkF m 18 #[.val (.int p1), .val (.int p2), .val (.int p3), .val (.ref (A 3)), .val (.ref r206), .val (.ref r207), .unset, .unset, .unset] [(.ref (A 3))])) rfl (by rw [hml]; rfl) (Steps.refl _) (argsL := []) (rest := []) (lenOf own_pd5 rfl) rfl (by show 2 * 0 + _ ≤ _; exact Nat.le_of_eq rfl) (hb hby at_18) (fun _ _ => ⟨rfl, rfl, (by decide : 2 + 0 ≤ _), (by decide : 2 + 0 ≤ _)⟩)
      dsimp only [Pt.U, Pt.locs, Pt.cells, Pt.slots] at X208 l208 y208 z208 st208 hQ208
      subst l208 y208 z208
      obtain ⟨rfl, N208q, e208⟩ := hQ208
      have N208 := Fr.app N207 N208q
      have fx211 : Exa Z T207.heap r206 "java/lang/Integer" := (er206.keep K207c)
      have fx212 : Fld Z T207.heap r206 "java/lang/Integer" "value" "I" (.int p2) := (fr206.keep K207c nin0)
      obtain ⟨cq213, kq213, q213a, q213b, q213c⟩ := isOf hZ e208 (EN.1.2.2.2.2.2.2.2.1.ext OL207.2)
      obtain ⟨_, _, ⟨T213, L213, k213, n213⟩, -, X213, ⟨Lc213, hQ213, l213, y213, z213⟩, st213⟩ := X208.virtualBack hx (y := own_m0) (z := own_m0) hown (mvT hZ (hw _ (List.mem_of_getElem? (i := 31) rfl))) (mvT hZ (hw _ (List.mem_of_getElem? (i := 32) rfl))) (notFace_of_selects (args := #[]) (mvT hZ (hw _ (List.mem_of_getElem? (i := 34) rfl)))) (mvT hZ (hw _ (List.mem_of_getElem? (i := 34) rfl))) (mvT hZ (hw _ (List.mem_of_getElem? (i := 33) rfl))) (by decide) (backOf (W := 0) (rm68 l Z a0 hw [] T207.heap n0 p1 p2 p3 A K r206 r207 EN OL207 fx211 er207 fx212 fr207 hp_203) hZ (hw _ (List.mem_of_getElem? (i := 35) rfl)) (hw _ (List.mem_of_getElem? (i := 6) rfl)) (by decide) (by decide)) q213a q213c (g := (mkF m 35 #[.val (.int p1), .val (.int p2), .val (.int p3), .val (.ref (A 3)), .val (.ref r206), .val (.ref r207), .val (.ref (A 1)), .unset, .unset] [(.ref r207), (.ref r206), (.ref (A 3))])) rfl (by rw [hml]; rfl) (Steps.refl _) (argsL := [(.ref r206), (.ref r207)]) (rest := []) (lenOf own_pd10 rfl) rfl (by show 2 * 0 + _ ≤ _; exact Nat.le_of_eq rfl) (hb hby at_35) (fun _ _ => ⟨rfl, e208, (by decide : 2 + 0 ≤ _), (by decide : 2 + 0 ≤ _)⟩)
      dsimp only [Pt.U, Pt.locs, Pt.cells, Pt.slots] at X213 l213 y213 z213 st213 hQ213
      subst l213 y213 z213
      obtain ⟨rfl, N213q, e213⟩ := hQ213
      have N213 := Fr.app N208 N213q
      obtain ⟨cq216, kq216, q216a, q216b, q216c⟩ := isOf hZ e213 (EN.1.2.2.2.1.ext OL207.2)
      obtain ⟨_, _, ⟨T216, L216, k216, n216⟩, -, X216, ⟨Lc216, hQ216, l216, y216, z216⟩, st216⟩ := X213.virtualBack hx (y := own_m0) (z := own_m0) hown (mvT hZ (hw _ (List.mem_of_getElem? (i := 31) rfl))) (mvT hZ (hw _ (List.mem_of_getElem? (i := 32) rfl))) (notFace_of_selects (args := #[]) (mvT hZ (hw _ (List.mem_of_getElem? (i := 34) rfl)))) (mvT hZ (hw _ (List.mem_of_getElem? (i := 34) rfl))) (mvT hZ (hw _ (List.mem_of_getElem? (i := 33) rfl))) (by decide) (backOf (W := 1) (rm69 l Z a0 hw [] T207.heap n0 p1 p2 p3 A K r206 r207 EN OL207 er207 fx211 fr207 fx212 hp_203) hZ (hw _ (List.mem_of_getElem? (i := 35) rfl)) (hw _ (List.mem_of_getElem? (i := 6) rfl)) (by decide) (by decide)) q216a q216c (g := (mkF m 44 #[.val (.int p1), .val (.int p2), .val (.int p3), .val (.ref (A 3)), .val (.ref r206), .val (.ref r207), .val (.ref (A 1)), .unset, .unset] [(.ref r206), (.ref r207), (.ref (A 1)), (.int (0 : Int32))])) rfl (by rw [hml]; rfl) (Steps.refl _) (argsL := [(.ref r207), (.ref r206)]) (rest := [(.int (0 : Int32))]) (lenOf own_pd10 rfl) rfl (by show 2 * 0 + _ ≤ _; exact Nat.le_of_eq rfl) (hb hby at_44) (fun _ _ => ⟨rfl, e213, (by decide : 2 + 0 ≤ _), (by decide : 2 + 0 ≤ _)⟩)
      dsimp only [Pt.U, Pt.locs, Pt.cells, Pt.slots] at X216 l216 y216 z216 st216 hQ216
      subst l216 y216 z216
      obtain ⟨rfl, N216q, e216⟩ := hQ216
      have N216 := Fr.app N213 N216q
      obtain ⟨cq217, kq217, q217a, q217b, q217c⟩ := isOf hZ e216 (EN.1.2.2.2.1.ext OL207.2)
      obtain ⟨_, _, ⟨T217, L217, k217, n217⟩, -, X217, ⟨Lc217, hQ217, l217, y217, z217⟩, st217⟩ := X216.virtualBack hx (y := own_m2) (z := own_m2) hown (mvT hZ (hw _ (List.mem_of_getElem? (i := 15) rfl))) (mvT hZ (hw _ (List.mem_of_getElem? (i := 16) rfl))) (notFace_of_selects (args := #[]) (mvT hZ (hw _ (List.mem_of_getElem? (i := 18) rfl)))) (mvT hZ (hw _ (List.mem_of_getElem? (i := 18) rfl))) (mvT hZ (hw _ (List.mem_of_getElem? (i := 17) rfl))) (by decide) (backOf (W := 0) (rm39 l Z a0 hw [] T207.heap n0 p1 p2 p3 A K EN OL207) hZ (hw _ (List.mem_of_getElem? (i := 19) rfl)) (hw _ (List.mem_of_getElem? (i := 6) rfl)) (by decide) (by decide)) q217a q217c (g := (mkF m 59 #[.val (.int p1), .val (.int p2), .val (.int p3), .val (.ref (A 3)), .val (.ref r206), .val (.ref r207), .val (.ref (A 1)), .val (.int (1 : Int32)), .unset] [(.ref (A 1))])) rfl (by rw [hml]; rfl) (Steps.refl _) (argsL := []) (rest := []) (lenOf own_pd5 rfl) rfl (by show 2 * 0 + _ ≤ _; exact Nat.le_of_eq rfl) (hb hby at_59) (fun _ _ => ⟨rfl, e216, (by decide : 2 + 0 ≤ _), (by decide : 2 + 0 ≤ _)⟩)
      dsimp only [Pt.U, Pt.locs, Pt.cells, Pt.slots] at X217 l217 y217 z217 st217 hQ217
      subst l217 y217 z217
      obtain ⟨rfl, N217q, e217⟩ := hQ217
      have N217 := Fr.app N216 N217q
      obtain ⟨fs, hr, hrun, hended, hW, hsame⟩ := X217.leave (v := some (.int (1 : Int32))) (fun h => by rw [Bd.returns] at h; cases h)
      refine ⟨_, _, pre0 _ ?_, hrun, hended, _, _, rfl, ?_, ⟨_, rfl⟩, hW, hsame.mono (by decide) (by decide)⟩
      · show Steps p.tables e below (s₁.setTop (mkF m 0 #[.val (.int p1), .val (.int p2), .val (.int p3), .unset, .unset, .unset, .unset, .unset, .unset] [])) _
        refine XS.iloadN X0.here hx rfl (hb hby at_0) rfl ?_
        show Steps p.tables e below (s₁.setTop (mkF m 1 #[.val (.int p1), .val (.int p2), .val (.int p3), .unset, .unset, .unset, .unset, .unset, .unset] [(.int p1)])) _
        refine st205 _ ?_
        show Steps p.tables e below (T205.setTop (mkF m 4 #[.val (.int p1), .val (.int p2), .val (.int p3), .unset, .unset, .unset, .unset, .unset, .unset] [(.ref (A 3))])) _
        refine XS.astoreN X205.here hx rfl (hb hby at_4) rfl rfl (l' := #[.val (.int p1), .val (.int p2), .val (.int p3), .val (.ref (A 3)), .unset, .unset, .unset, .unset, .unset]) rfl ?_
        show Steps p.tables e below (T205.setTop (mkF m 5 #[.val (.int p1), .val (.int p2), .val (.int p3), .val (.ref (A 3)), .unset, .unset, .unset, .unset, .unset] [])) _
        refine XS.iloadN X205.here hx rfl (hb hby at_5) rfl ?_
        show Steps p.tables e below (T205.setTop (mkF m 6 #[.val (.int p1), .val (.int p2), .val (.int p3), .val (.ref (A 3)), .unset, .unset, .unset, .unset, .unset] [(.int p2)])) _
        refine st206 _ ?_
        show Steps p.tables e below (T206.setTop (mkF m 9 #[.val (.int p1), .val (.int p2), .val (.int p3), .val (.ref (A 3)), .unset, .unset, .unset, .unset, .unset] [(.ref r206)])) _
        refine XS.astore X206.here hx rfl (hb hby at_9) rfl rfl (l' := #[.val (.int p1), .val (.int p2), .val (.int p3), .val (.ref (A 3)), .val (.ref r206), .unset, .unset, .unset, .unset]) rfl ?_
        show Steps p.tables e below (T206.setTop (mkF m 11 #[.val (.int p1), .val (.int p2), .val (.int p3), .val (.ref (A 3)), .val (.ref r206), .unset, .unset, .unset, .unset] [])) _
        refine XS.iloadN X206.here hx rfl (hb hby at_11) rfl ?_
        show Steps p.tables e below (T206.setTop (mkF m 12 #[.val (.int p1), .val (.int p2), .val (.int p3), .val (.ref (A 3)), .val (.ref r206), .unset, .unset, .unset, .unset] [(.int p3)])) _
        refine st207 _ ?_
        show Steps p.tables e below (T207.setTop (mkF m 15 #[.val (.int p1), .val (.int p2), .val (.int p3), .val (.ref (A 3)), .val (.ref r206), .unset, .unset, .unset, .unset] [(.ref r207)])) _
        refine XS.astore X207.here hx rfl (hb hby at_15) rfl rfl (l' := #[.val (.int p1), .val (.int p2), .val (.int p3), .val (.ref (A 3)), .val (.ref r206), .val (.ref r207), .unset, .unset, .unset]) rfl ?_
        show Steps p.tables e below (T207.setTop (mkF m 17 #[.val (.int p1), .val (.int p2), .val (.int p3), .val (.ref (A 3)), .val (.ref r206), .val (.ref r207), .unset, .unset, .unset] [])) _
        refine XS.aloadN X207.here hx rfl (hb hby at_17) rfl rfl ?_
        show Steps p.tables e below (T207.setTop (mkF m 18 #[.val (.int p1), .val (.int p2), .val (.int p3), .val (.ref (A 3)), .val (.ref r206), .val (.ref r207), .unset, .unset, .unset] [(.ref (A 3))])) _
        refine st208.trans ?_
        show Steps p.tables e below (T208.setTop (mkF m 21 #[.val (.int p1), .val (.int p2), .val (.int p3), .val (.ref (A 3)), .val (.ref r206), .val (.ref r207), .unset, .unset, .unset] [(.ref (A 1))])) _
        refine XS.astore X208.here hx rfl (hb hby at_21) rfl rfl (l' := #[.val (.int p1), .val (.int p2), .val (.int p3), .val (.ref (A 3)), .val (.ref r206), .val (.ref r207), .val (.ref (A 1)), .unset, .unset]) rfl ?_
        show Steps p.tables e below (T208.setTop (mkF m 23 #[.val (.int p1), .val (.int p2), .val (.int p3), .val (.ref (A 3)), .val (.ref r206), .val (.ref r207), .val (.ref (A 1)), .unset, .unset] [])) _
        refine XS.aload X208.here hx rfl (hb hby at_23) rfl rfl ?_
        show Steps p.tables e below (T208.setTop (mkF m 25 #[.val (.int p1), .val (.int p2), .val (.int p3), .val (.ref (A 3)), .val (.ref r206), .val (.ref r207), .val (.ref (A 1)), .unset, .unset] [(.ref (A 1))])) _
        refine XS.ifnonnullYes X208.here hx rfl (pc0 := 25) (pc' := 30) rfl (hb hby at_25) rfl (by decide) (by decide) ?_
        show Steps p.tables e below (T208.setTop (mkF m 30 #[.val (.int p1), .val (.int p2), .val (.int p3), .val (.ref (A 3)), .val (.ref r206), .val (.ref r207), .val (.ref (A 1)), .unset, .unset] [])) _
        refine XS.aloadN X208.here hx rfl (hb hby at_30) rfl rfl ?_
        show Steps p.tables e below (T208.setTop (mkF m 31 #[.val (.int p1), .val (.int p2), .val (.int p3), .val (.ref (A 3)), .val (.ref r206), .val (.ref r207), .val (.ref (A 1)), .unset, .unset] [(.ref (A 3))])) _
        refine XS.aload X208.here hx rfl (hb hby at_31) rfl rfl ?_
        show Steps p.tables e below (T208.setTop (mkF m 33 #[.val (.int p1), .val (.int p2), .val (.int p3), .val (.ref (A 3)), .val (.ref r206), .val (.ref r207), .val (.ref (A 1)), .unset, .unset] [(.ref r206), (.ref (A 3))])) _
        refine XS.aload X208.here hx rfl (hb hby at_33) rfl rfl ?_
        show Steps p.tables e below (T208.setTop (mkF m 35 #[.val (.int p1), .val (.int p2), .val (.int p3), .val (.ref (A 3)), .val (.ref r206), .val (.ref r207), .val (.ref (A 1)), .unset, .unset] [(.ref r207), (.ref r206), (.ref (A 3))])) _
        refine st213.trans ?_
        show Steps p.tables e below (T213.setTop (mkF m 38 #[.val (.int p1), .val (.int p2), .val (.int p3), .val (.ref (A 3)), .val (.ref r206), .val (.ref r207), .val (.ref (A 1)), .unset, .unset] [(.int (0 : Int32))])) _
        refine XS.aload X213.here hx rfl (hb hby at_38) rfl rfl ?_
        show Steps p.tables e below (T213.setTop (mkF m 40 #[.val (.int p1), .val (.int p2), .val (.int p3), .val (.ref (A 3)), .val (.ref r206), .val (.ref r207), .val (.ref (A 1)), .unset, .unset] [(.ref (A 1)), (.int (0 : Int32))])) _
        refine XS.aload X213.here hx rfl (hb hby at_40) rfl rfl ?_
        show Steps p.tables e below (T213.setTop (mkF m 42 #[.val (.int p1), .val (.int p2), .val (.int p3), .val (.ref (A 3)), .val (.ref r206), .val (.ref r207), .val (.ref (A 1)), .unset, .unset] [(.ref r207), (.ref (A 1)), (.int (0 : Int32))])) _
        refine XS.aload X213.here hx rfl (hb hby at_42) rfl rfl ?_
        show Steps p.tables e below (T213.setTop (mkF m 44 #[.val (.int p1), .val (.int p2), .val (.int p3), .val (.ref (A 3)), .val (.ref r206), .val (.ref r207), .val (.ref (A 1)), .unset, .unset] [(.ref r206), (.ref r207), (.ref (A 1)), (.int (0 : Int32))])) _
        refine st216.trans ?_
        show Steps p.tables e below (T216.setTop (mkF m 47 #[.val (.int p1), .val (.int p2), .val (.int p3), .val (.ref (A 3)), .val (.ref r206), .val (.ref r207), .val (.ref (A 1)), .unset, .unset] [(.int (0 : Int32)), (.int (0 : Int32))])) _
        refine XS.icmpNo X216.here hx rfl (hb hby at_47) rfl (teq (by decide : (0 : Int32) = (0 : Int32))).2 ?_
        show Steps p.tables e below (T216.setTop (mkF m 50 #[.val (.int p1), .val (.int p2), .val (.int p3), .val (.ref (A 3)), .val (.ref r206), .val (.ref r207), .val (.ref (A 1)), .unset, .unset] [])) _
        refine XS.iconst X216.here hx rfl (hb hby at_50) ?_
        show Steps p.tables e below (T216.setTop (mkF m 51 #[.val (.int p1), .val (.int p2), .val (.int p3), .val (.ref (A 3)), .val (.ref r206), .val (.ref r207), .val (.ref (A 1)), .unset, .unset] [(.int (1 : Int32))])) _
        refine XS.goto X216.here hx rfl (pc0 := 51) (pc' := 55) rfl (hb hby at_51) (by decide) (by decide) ?_
        show Steps p.tables e below (T216.setTop (mkF m 55 #[.val (.int p1), .val (.int p2), .val (.int p3), .val (.ref (A 3)), .val (.ref r206), .val (.ref r207), .val (.ref (A 1)), .unset, .unset] [(.int (1 : Int32))])) _
        refine XS.istore X216.here hx rfl (hb hby at_55) rfl (l' := #[.val (.int p1), .val (.int p2), .val (.int p3), .val (.ref (A 3)), .val (.ref r206), .val (.ref r207), .val (.ref (A 1)), .val (.int (1 : Int32)), .unset]) rfl ?_
        show Steps p.tables e below (T216.setTop (mkF m 57 #[.val (.int p1), .val (.int p2), .val (.int p3), .val (.ref (A 3)), .val (.ref r206), .val (.ref r207), .val (.ref (A 1)), .val (.int (1 : Int32)), .unset] [])) _
        refine XS.aload X216.here hx rfl (hb hby at_57) rfl rfl ?_
        show Steps p.tables e below (T216.setTop (mkF m 59 #[.val (.int p1), .val (.int p2), .val (.int p3), .val (.ref (A 3)), .val (.ref r206), .val (.ref r207), .val (.ref (A 1)), .val (.int (1 : Int32)), .unset] [(.ref (A 1))])) _
        refine st217.trans ?_
        show Steps p.tables e below (T217.setTop (mkF m 62 #[.val (.int p1), .val (.int p2), .val (.int p3), .val (.ref (A 3)), .val (.ref r206), .val (.ref r207), .val (.ref (A 1)), .val (.int (1 : Int32)), .unset] [(.ref (A 3))])) _
        refine XS.aloadN X217.here hx rfl (hb hby at_62) rfl rfl ?_
        show Steps p.tables e below (T217.setTop (mkF m 63 #[.val (.int p1), .val (.int p2), .val (.int p3), .val (.ref (A 3)), .val (.ref r206), .val (.ref r207), .val (.ref (A 1)), .val (.int (1 : Int32)), .unset] [(.ref (A 3)), (.ref (A 3))])) _
        refine Jvm.RoadKit.acmp (g := (mkF m 63 #[.val (.int p1), .val (.int p2), .val (.int p3), .val (.ref (A 3)), .val (.ref r206), .val (.ref r207), .val (.ref (A 1)), .val (.int (1 : Int32)), .unset] [(.ref (A 3)), (.ref (A 3))])) X217 hx rfl rfl rfl (pc0 := 63) (pc' := 66) (same := true) rfl (hb hby at_63) rfl (decide_eq_true rfl) (by decide) (by decide) ?_
        show Steps p.tables e below (T217.setTop (mkF m 66 #[.val (.int p1), .val (.int p2), .val (.int p3), .val (.ref (A 3)), .val (.ref r206), .val (.ref r207), .val (.ref (A 1)), .val (.int (1 : Int32)), .unset] [])) _
        refine XS.iconst X217.here hx rfl (hb hby at_66) ?_
        show Steps p.tables e below (T217.setTop (mkF m 67 #[.val (.int p1), .val (.int p2), .val (.int p3), .val (.ref (A 3)), .val (.ref r206), .val (.ref r207), .val (.ref (A 1)), .val (.int (1 : Int32)), .unset] [(.int (1 : Int32))])) _
        refine XS.goto X217.here hx rfl (pc0 := 67) (pc' := 71) rfl (hb hby at_67) (by decide) (by decide) ?_
        show Steps p.tables e below (T217.setTop (mkF m 71 #[.val (.int p1), .val (.int p2), .val (.int p3), .val (.ref (A 3)), .val (.ref r206), .val (.ref r207), .val (.ref (A 1)), .val (.int (1 : Int32)), .unset] [(.int (1 : Int32))])) _
        refine XS.istore X217.here hx rfl (hb hby at_71) rfl (l' := #[.val (.int p1), .val (.int p2), .val (.int p3), .val (.ref (A 3)), .val (.ref r206), .val (.ref r207), .val (.ref (A 1)), .val (.int (1 : Int32)), .val (.int (1 : Int32))]) rfl ?_
        show Steps p.tables e below (T217.setTop (mkF m 73 #[.val (.int p1), .val (.int p2), .val (.int p3), .val (.ref (A 3)), .val (.ref r206), .val (.ref r207), .val (.ref (A 1)), .val (.int (1 : Int32)), .val (.int (1 : Int32))] [])) _
        refine XS.iload X217.here hx rfl (hb hby at_73) rfl ?_
        show Steps p.tables e below (T217.setTop (mkF m 75 #[.val (.int p1), .val (.int p2), .val (.int p3), .val (.ref (A 3)), .val (.ref r206), .val (.ref r207), .val (.ref (A 1)), .val (.int (1 : Int32)), .val (.int (1 : Int32))] [(.int (1 : Int32))])) _
        refine XS.ifNo X217.here hx rfl (hb hby at_75) rfl ((if0 _ _).trans (feq (by decide : ¬ ((1 : Int32) = (0 : Int32)))).1) ?_
        show Steps p.tables e below (T217.setTop (mkF m 78 #[.val (.int p1), .val (.int p2), .val (.int p3), .val (.ref (A 3)), .val (.ref r206), .val (.ref r207), .val (.ref (A 1)), .val (.int (1 : Int32)), .val (.int (1 : Int32))] [])) _
        refine XS.iload X217.here hx rfl (hb hby at_78) rfl ?_
        show Steps p.tables e below (T217.setTop (mkF m 80 #[.val (.int p1), .val (.int p2), .val (.int p3), .val (.ref (A 3)), .val (.ref r206), .val (.ref r207), .val (.ref (A 1)), .val (.int (1 : Int32)), .val (.int (1 : Int32))] [(.int (1 : Int32))])) _
        refine XS.ifNo X217.here hx rfl (hb hby at_80) rfl ((if0 _ _).trans (feq (by decide : ¬ ((1 : Int32) = (0 : Int32)))).1) ?_
        show Steps p.tables e below (T217.setTop (mkF m 83 #[.val (.int p1), .val (.int p2), .val (.int p3), .val (.ref (A 3)), .val (.ref r206), .val (.ref r207), .val (.ref (A 1)), .val (.int (1 : Int32)), .val (.int (1 : Int32))] [])) _
        refine XS.iconst X217.here hx rfl (hb hby at_83) ?_
        show Steps p.tables e below (T217.setTop (mkF m 84 #[.val (.int p1), .val (.int p2), .val (.int p3), .val (.ref (A 3)), .val (.ref r206), .val (.ref r207), .val (.ref (A 1)), .val (.int (1 : Int32)), .val (.int (1 : Int32))] [(.int (1 : Int32))])) _
        refine XS.goto X217.here hx rfl (pc0 := 84) (pc' := 88) rfl (hb hby at_84) (by decide) (by decide) ?_
        show Steps p.tables e below (T217.setTop (mkF m 88 #[.val (.int p1), .val (.int p2), .val (.int p3), .val (.ref (A 3)), .val (.ref r206), .val (.ref r207), .val (.ref (A 1)), .val (.int (1 : Int32)), .val (.int (1 : Int32))] [(.int (1 : Int32))])) _
        exact retN X217 hx (t := .boolean) Bd.returns (by simp) (hb hby at_88) hr
      · show LQ n0 _ T217.heap _
        exact ⟨rfl, N217, trivial⟩
    · by_cases hp_218 : p2 = p3
      · obtain ⟨_, _, ⟨T219, L219, k219, n219⟩, -, X219, ⟨Lc219, hQ219, l219, y219, z219⟩, st219⟩ := Jvm.LawKit.callS X0 hx (y := own_m7) hown (mvT hZ (hw _ (List.mem_of_getElem? (i := 0) rfl))) (mvT hZ (hw _ (List.mem_of_getElem? (i := 1) rfl))) (mvT hZ (hw _ (List.mem_of_getElem? (i := 2) rfl))) (mvT hZ (hw _ (List.mem_of_getElem? (i := 3) rfl))) (by decide) (backOf (W := 0) (rm67 l Z a0 hw [] h0 n0 p1 p2 p3 A K EN OL0 hk16) hZ (hw _ (List.mem_of_getElem? (i := 3) rfl)) (hw _ (List.mem_of_getElem? (i := 2) rfl)) (by decide) (by decide)) (g := (mkF m 1 #[.val (.int p1), .val (.int p2), .val (.int p3), .unset, .unset, .unset, .unset, .unset, .unset] [(.int p1)])) rfl (by rw [hml]; rfl) (argsL := [(.int p1)]) (rest := []) (lenOf own_pd2 rfl) rfl (by show 2 * 0 + _ ≤ _; exact Nat.le_of_eq rfl) (hb hby at_1) (fun _ _ => ⟨rfl, e0, (by decide : 0 + 0 ≤ _), (by decide : 0 + 0 ≤ _)⟩)
        dsimp only [Pt.U, Pt.locs, Pt.cells, Pt.slots] at X219 l219 y219 z219 st219 hQ219
        subst l219 y219 z219
        obtain ⟨rfl, N219q, e219⟩ := hQ219
        have N219 := Fr.app N0 N219q
        obtain ⟨_, _, ⟨T220, L220, k220, n220⟩, -, X220, ⟨Lc220, hQ220, l220, y220, z220⟩, st220⟩ := Jvm.LawKit.callS X219 hx (y := own_m4) hown (mvT hZ (hw _ (List.mem_of_getElem? (i := 8) rfl))) (mvT hZ (hw _ (List.mem_of_getElem? (i := 9) rfl))) (mvT hZ (hw _ (List.mem_of_getElem? (i := 10) rfl))) (mvT hZ (hw _ (List.mem_of_getElem? (i := 11) rfl))) (by decide) (backOf (W := 0) (rmV l Z a0 hw [] h0 n0 A K p2 EN OL0) hZ (hw _ (List.mem_of_getElem? (i := 11) rfl)) (hw _ (List.mem_of_getElem? (i := 10) rfl)) (by decide) (by decide)) (g := (mkF m 6 #[.val (.int p1), .val (.int p2), .val (.int p3), .val (.ref (A 3)), .unset, .unset, .unset, .unset, .unset] [(.int p2)])) rfl (by rw [hml]; rfl) (argsL := [(.int p2)]) (rest := []) (lenOf own_pd3 rfl) rfl (by show 2 * 0 + _ ≤ _; exact Nat.le_of_eq rfl) (hb hby at_6) (fun _ _ => ⟨rfl, e219, (by decide : 0 + 1 ≤ _), (by decide : 0 + 1 ≤ _)⟩)
        dsimp only [Pt.U, Pt.locs, Pt.cells, Pt.slots] at X220 l220 y220 z220 st220 hQ220
        subst l220 y220 z220
        obtain ⟨r220, rfl, N220q, K220c, er220, fr220⟩ := hQ220
        have N220 := Fr.app N219 N220q
        have OL220 : Old Z n0 T220.heap := OL0.keep K220c all0
        have KK220 : Keep h0 T220.heap [] := KK0.trans K220c all0
        obtain ⟨_, _, ⟨T221, L221, k221, n221⟩, -, X221, ⟨Lc221, hQ221, l221, y221, z221⟩, st221⟩ := Jvm.LawKit.callS X220 hx (y := own_m4) hown (mvT hZ (hw _ (List.mem_of_getElem? (i := 8) rfl))) (mvT hZ (hw _ (List.mem_of_getElem? (i := 9) rfl))) (mvT hZ (hw _ (List.mem_of_getElem? (i := 10) rfl))) (mvT hZ (hw _ (List.mem_of_getElem? (i := 11) rfl))) (by decide) (backOf (W := 0) (rmV l Z a0 hw [] T220.heap n0 A K p3 EN OL220) hZ (hw _ (List.mem_of_getElem? (i := 11) rfl)) (hw _ (List.mem_of_getElem? (i := 10) rfl)) (by decide) (by decide)) (g := (mkF m 12 #[.val (.int p1), .val (.int p2), .val (.int p3), .val (.ref (A 3)), .val (.ref r220), .unset, .unset, .unset, .unset] [(.int p3)])) rfl (by rw [hml]; rfl) (argsL := [(.int p3)]) (rest := []) (lenOf own_pd3 rfl) rfl (by show 2 * 0 + _ ≤ _; exact Nat.le_of_eq rfl) (hb hby at_12) (fun _ _ => ⟨rfl, rfl, (by decide : 1 + 1 ≤ _), (by decide : 1 + 1 ≤ _)⟩)
        dsimp only [Pt.U, Pt.locs, Pt.cells, Pt.slots] at X221 l221 y221 z221 st221 hQ221
        subst l221 y221 z221
        obtain ⟨r221, rfl, N221q, K221c, er221, fr221⟩ := hQ221
        have N221 := Fr.app N220 N221q
        have OL221 : Old Z n0 T221.heap := OL220.keep K221c all0
        have KK221 : Keep h0 T221.heap [] := KK220.trans K221c all0
        obtain ⟨cq222, kq222, q222a, q222b, q222c⟩ := isOf hZ rfl (EN.1.2.2.2.2.2.2.2.1.ext OL221.2)
        obtain ⟨_, _, ⟨T222, L222, k222, n222⟩, -, X222, ⟨Lc222, hQ222, l222, y222, z222⟩, st222⟩ := X221.virtualBack hx (y := own_m2) (z := own_m2) hown (mvT hZ (hw _ (List.mem_of_getElem? (i := 15) rfl))) (mvT hZ (hw _ (List.mem_of_getElem? (i := 16) rfl))) (notFace_of_selects (args := #[]) (mvT hZ (hw _ (List.mem_of_getElem? (i := 18) rfl)))) (mvT hZ (hw _ (List.mem_of_getElem? (i := 18) rfl))) (mvT hZ (hw _ (List.mem_of_getElem? (i := 17) rfl))) (by decide) (backOf (W := 0) (rm46 l Z a0 hw [] T221.heap n0 p1 p2 p3 A K EN OL221) hZ (hw _ (List.mem_of_getElem? (i := 19) rfl)) (hw _ (List.mem_of_getElem? (i := 6) rfl)) (by decide) (by decide)) q222a q222c (g := (mkF m 18 #[.val (.int p1), .val (.int p2), .val (.int p3), .val (.ref (A 3)), .val (.ref r220), .val (.ref r221), .unset, .unset, .unset] [(.ref (A 3))])) rfl (by rw [hml]; rfl) (Steps.refl _) (argsL := []) (rest := []) (lenOf own_pd5 rfl) rfl (by show 2 * 0 + _ ≤ _; exact Nat.le_of_eq rfl) (hb hby at_18) (fun _ _ => ⟨rfl, rfl, (by decide : 2 + 0 ≤ _), (by decide : 2 + 0 ≤ _)⟩)
        dsimp only [Pt.U, Pt.locs, Pt.cells, Pt.slots] at X222 l222 y222 z222 st222 hQ222
        subst l222 y222 z222
        obtain ⟨rfl, N222q, e222⟩ := hQ222
        have N222 := Fr.app N221 N222q
        have fx225 : Exa Z T221.heap r220 "java/lang/Integer" := (er220.keep K221c)
        have fx226 : Fld Z T221.heap r220 "java/lang/Integer" "value" "I" (.int p2) := (fr220.keep K221c nin0)
        obtain ⟨cq227, kq227, q227a, q227b, q227c⟩ := isOf hZ e222 (EN.1.2.2.2.2.2.2.2.1.ext OL221.2)
        obtain ⟨_, _, ⟨T227, L227, k227, n227⟩, -, X227, ⟨Lc227, hQ227, l227, y227, z227⟩, st227⟩ := X222.virtualBack hx (y := own_m0) (z := own_m0) hown (mvT hZ (hw _ (List.mem_of_getElem? (i := 31) rfl))) (mvT hZ (hw _ (List.mem_of_getElem? (i := 32) rfl))) (notFace_of_selects (args := #[]) (mvT hZ (hw _ (List.mem_of_getElem? (i := 34) rfl)))) (mvT hZ (hw _ (List.mem_of_getElem? (i := 34) rfl))) (mvT hZ (hw _ (List.mem_of_getElem? (i := 33) rfl))) (by decide) (backOf (W := 0) (rm70 l Z a0 hw [] T221.heap n0 p1 p2 p3 A K r220 r221 EN OL221 fx225 er221 fx226 fr221 hp_203 hp_218) hZ (hw _ (List.mem_of_getElem? (i := 35) rfl)) (hw _ (List.mem_of_getElem? (i := 6) rfl)) (by decide) (by decide)) q227a q227c (g := (mkF m 35 #[.val (.int p1), .val (.int p2), .val (.int p3), .val (.ref (A 3)), .val (.ref r220), .val (.ref r221), .val (.ref (A 1)), .unset, .unset] [(.ref r221), (.ref r220), (.ref (A 3))])) rfl (by rw [hml]; rfl) (Steps.refl _) (argsL := [(.ref r220), (.ref r221)]) (rest := []) (lenOf own_pd10 rfl) rfl (by show 2 * 0 + _ ≤ _; exact Nat.le_of_eq rfl) (hb hby at_35) (fun _ _ => ⟨rfl, e222, (by decide : 2 + 0 ≤ _), (by decide : 2 + 0 ≤ _)⟩)
        dsimp only [Pt.U, Pt.locs, Pt.cells, Pt.slots] at X227 l227 y227 z227 st227 hQ227
        subst l227 y227 z227
        obtain ⟨rfl, N227q, e227⟩ := hQ227
        have N227 := Fr.app N222 N227q
        obtain ⟨cq230, kq230, q230a, q230b, q230c⟩ := isOf hZ e227 (EN.1.2.2.2.1.ext OL221.2)
        obtain ⟨_, _, ⟨T230, L230, k230, n230⟩, -, X230, ⟨Lc230, hQ230, l230, y230, z230⟩, st230⟩ := X227.virtualBack hx (y := own_m0) (z := own_m0) hown (mvT hZ (hw _ (List.mem_of_getElem? (i := 31) rfl))) (mvT hZ (hw _ (List.mem_of_getElem? (i := 32) rfl))) (notFace_of_selects (args := #[]) (mvT hZ (hw _ (List.mem_of_getElem? (i := 34) rfl)))) (mvT hZ (hw _ (List.mem_of_getElem? (i := 34) rfl))) (mvT hZ (hw _ (List.mem_of_getElem? (i := 33) rfl))) (by decide) (backOf (W := 1) (rm71 l Z a0 hw [] T221.heap n0 p1 p2 p3 A K r220 r221 EN OL221 er221 fx225 fr221 fx226 hp_203 hp_218) hZ (hw _ (List.mem_of_getElem? (i := 35) rfl)) (hw _ (List.mem_of_getElem? (i := 6) rfl)) (by decide) (by decide)) q230a q230c (g := (mkF m 44 #[.val (.int p1), .val (.int p2), .val (.int p3), .val (.ref (A 3)), .val (.ref r220), .val (.ref r221), .val (.ref (A 1)), .unset, .unset] [(.ref r220), (.ref r221), (.ref (A 1)), (.int (1 : Int32))])) rfl (by rw [hml]; rfl) (Steps.refl _) (argsL := [(.ref r221), (.ref r220)]) (rest := [(.int (1 : Int32))]) (lenOf own_pd10 rfl) rfl (by show 2 * 0 + _ ≤ _; exact Nat.le_of_eq rfl) (hb hby at_44) (fun _ _ => ⟨rfl, e227, (by decide : 2 + 0 ≤ _), (by decide : 2 + 0 ≤ _)⟩)
        dsimp only [Pt.U, Pt.locs, Pt.cells, Pt.slots] at X230 l230 y230 z230 st230 hQ230
        subst l230 y230 z230
        obtain ⟨rfl, N230q, e230⟩ := hQ230
        have N230 := Fr.app N227 N230q
        obtain ⟨cq231, kq231, q231a, q231b, q231c⟩ := isOf hZ e230 (EN.1.2.2.2.1.ext OL221.2)
        obtain ⟨_, _, ⟨T231, L231, k231, n231⟩, -, X231, ⟨Lc231, hQ231, l231, y231, z231⟩, st231⟩ := X230.virtualBack hx (y := own_m2) (z := own_m2) hown (mvT hZ (hw _ (List.mem_of_getElem? (i := 15) rfl))) (mvT hZ (hw _ (List.mem_of_getElem? (i := 16) rfl))) (notFace_of_selects (args := #[]) (mvT hZ (hw _ (List.mem_of_getElem? (i := 18) rfl)))) (mvT hZ (hw _ (List.mem_of_getElem? (i := 18) rfl))) (mvT hZ (hw _ (List.mem_of_getElem? (i := 17) rfl))) (by decide) (backOf (W := 0) (rm39 l Z a0 hw [] T221.heap n0 p1 p2 p3 A K EN OL221) hZ (hw _ (List.mem_of_getElem? (i := 19) rfl)) (hw _ (List.mem_of_getElem? (i := 6) rfl)) (by decide) (by decide)) q231a q231c (g := (mkF m 59 #[.val (.int p1), .val (.int p2), .val (.int p3), .val (.ref (A 3)), .val (.ref r220), .val (.ref r221), .val (.ref (A 1)), .val (.int (1 : Int32)), .unset] [(.ref (A 1))])) rfl (by rw [hml]; rfl) (Steps.refl _) (argsL := []) (rest := []) (lenOf own_pd5 rfl) rfl (by show 2 * 0 + _ ≤ _; exact Nat.le_of_eq rfl) (hb hby at_59) (fun _ _ => ⟨rfl, e230, (by decide : 2 + 0 ≤ _), (by decide : 2 + 0 ≤ _)⟩)
        dsimp only [Pt.U, Pt.locs, Pt.cells, Pt.slots] at X231 l231 y231 z231 st231 hQ231
        subst l231 y231 z231
        obtain ⟨rfl, N231q, e231⟩ := hQ231
        have N231 := Fr.app N230 N231q
        obtain ⟨fs, hr, hrun, hended, hW, hsame⟩ := X231.leave (v := some (.int (1 : Int32))) (fun h => by rw [Bd.returns] at h; cases h)
        refine ⟨_, _, pre0 _ ?_, hrun, hended, _, _, rfl, ?_, ⟨_, rfl⟩, hW, hsame.mono (by decide) (by decide)⟩
        · show Steps p.tables e below (s₁.setTop (mkF m 0 #[.val (.int p1), .val (.int p2), .val (.int p3), .unset, .unset, .unset, .unset, .unset, .unset] [])) _
          refine XS.iloadN X0.here hx rfl (hb hby at_0) rfl ?_
          show Steps p.tables e below (s₁.setTop (mkF m 1 #[.val (.int p1), .val (.int p2), .val (.int p3), .unset, .unset, .unset, .unset, .unset, .unset] [(.int p1)])) _
          refine st219 _ ?_
          show Steps p.tables e below (T219.setTop (mkF m 4 #[.val (.int p1), .val (.int p2), .val (.int p3), .unset, .unset, .unset, .unset, .unset, .unset] [(.ref (A 3))])) _
          refine XS.astoreN X219.here hx rfl (hb hby at_4) rfl rfl (l' := #[.val (.int p1), .val (.int p2), .val (.int p3), .val (.ref (A 3)), .unset, .unset, .unset, .unset, .unset]) rfl ?_
          show Steps p.tables e below (T219.setTop (mkF m 5 #[.val (.int p1), .val (.int p2), .val (.int p3), .val (.ref (A 3)), .unset, .unset, .unset, .unset, .unset] [])) _
          refine XS.iloadN X219.here hx rfl (hb hby at_5) rfl ?_
          show Steps p.tables e below (T219.setTop (mkF m 6 #[.val (.int p1), .val (.int p2), .val (.int p3), .val (.ref (A 3)), .unset, .unset, .unset, .unset, .unset] [(.int p2)])) _
          refine st220 _ ?_
          show Steps p.tables e below (T220.setTop (mkF m 9 #[.val (.int p1), .val (.int p2), .val (.int p3), .val (.ref (A 3)), .unset, .unset, .unset, .unset, .unset] [(.ref r220)])) _
          refine XS.astore X220.here hx rfl (hb hby at_9) rfl rfl (l' := #[.val (.int p1), .val (.int p2), .val (.int p3), .val (.ref (A 3)), .val (.ref r220), .unset, .unset, .unset, .unset]) rfl ?_
          show Steps p.tables e below (T220.setTop (mkF m 11 #[.val (.int p1), .val (.int p2), .val (.int p3), .val (.ref (A 3)), .val (.ref r220), .unset, .unset, .unset, .unset] [])) _
          refine XS.iloadN X220.here hx rfl (hb hby at_11) rfl ?_
          show Steps p.tables e below (T220.setTop (mkF m 12 #[.val (.int p1), .val (.int p2), .val (.int p3), .val (.ref (A 3)), .val (.ref r220), .unset, .unset, .unset, .unset] [(.int p3)])) _
          refine st221 _ ?_
          show Steps p.tables e below (T221.setTop (mkF m 15 #[.val (.int p1), .val (.int p2), .val (.int p3), .val (.ref (A 3)), .val (.ref r220), .unset, .unset, .unset, .unset] [(.ref r221)])) _
          refine XS.astore X221.here hx rfl (hb hby at_15) rfl rfl (l' := #[.val (.int p1), .val (.int p2), .val (.int p3), .val (.ref (A 3)), .val (.ref r220), .val (.ref r221), .unset, .unset, .unset]) rfl ?_
          show Steps p.tables e below (T221.setTop (mkF m 17 #[.val (.int p1), .val (.int p2), .val (.int p3), .val (.ref (A 3)), .val (.ref r220), .val (.ref r221), .unset, .unset, .unset] [])) _
          refine XS.aloadN X221.here hx rfl (hb hby at_17) rfl rfl ?_
          show Steps p.tables e below (T221.setTop (mkF m 18 #[.val (.int p1), .val (.int p2), .val (.int p3), .val (.ref (A 3)), .val (.ref r220), .val (.ref r221), .unset, .unset, .unset] [(.ref (A 3))])) _
          refine st222.trans ?_
          show Steps p.tables e below (T222.setTop (mkF m 21 #[.val (.int p1), .val (.int p2), .val (.int p3), .val (.ref (A 3)), .val (.ref r220), .val (.ref r221), .unset, .unset, .unset] [(.ref (A 1))])) _
          refine XS.astore X222.here hx rfl (hb hby at_21) rfl rfl (l' := #[.val (.int p1), .val (.int p2), .val (.int p3), .val (.ref (A 3)), .val (.ref r220), .val (.ref r221), .val (.ref (A 1)), .unset, .unset]) rfl ?_
          show Steps p.tables e below (T222.setTop (mkF m 23 #[.val (.int p1), .val (.int p2), .val (.int p3), .val (.ref (A 3)), .val (.ref r220), .val (.ref r221), .val (.ref (A 1)), .unset, .unset] [])) _
          refine XS.aload X222.here hx rfl (hb hby at_23) rfl rfl ?_
          show Steps p.tables e below (T222.setTop (mkF m 25 #[.val (.int p1), .val (.int p2), .val (.int p3), .val (.ref (A 3)), .val (.ref r220), .val (.ref r221), .val (.ref (A 1)), .unset, .unset] [(.ref (A 1))])) _
          refine XS.ifnonnullYes X222.here hx rfl (pc0 := 25) (pc' := 30) rfl (hb hby at_25) rfl (by decide) (by decide) ?_
          show Steps p.tables e below (T222.setTop (mkF m 30 #[.val (.int p1), .val (.int p2), .val (.int p3), .val (.ref (A 3)), .val (.ref r220), .val (.ref r221), .val (.ref (A 1)), .unset, .unset] [])) _
          refine XS.aloadN X222.here hx rfl (hb hby at_30) rfl rfl ?_
          show Steps p.tables e below (T222.setTop (mkF m 31 #[.val (.int p1), .val (.int p2), .val (.int p3), .val (.ref (A 3)), .val (.ref r220), .val (.ref r221), .val (.ref (A 1)), .unset, .unset] [(.ref (A 3))])) _
          refine XS.aload X222.here hx rfl (hb hby at_31) rfl rfl ?_
          show Steps p.tables e below (T222.setTop (mkF m 33 #[.val (.int p1), .val (.int p2), .val (.int p3), .val (.ref (A 3)), .val (.ref r220), .val (.ref r221), .val (.ref (A 1)), .unset, .unset] [(.ref r220), (.ref (A 3))])) _
          refine XS.aload X222.here hx rfl (hb hby at_33) rfl rfl ?_
          show Steps p.tables e below (T222.setTop (mkF m 35 #[.val (.int p1), .val (.int p2), .val (.int p3), .val (.ref (A 3)), .val (.ref r220), .val (.ref r221), .val (.ref (A 1)), .unset, .unset] [(.ref r221), (.ref r220), (.ref (A 3))])) _
          refine st227.trans ?_
          show Steps p.tables e below (T227.setTop (mkF m 38 #[.val (.int p1), .val (.int p2), .val (.int p3), .val (.ref (A 3)), .val (.ref r220), .val (.ref r221), .val (.ref (A 1)), .unset, .unset] [(.int (1 : Int32))])) _
          refine XS.aload X227.here hx rfl (hb hby at_38) rfl rfl ?_
          show Steps p.tables e below (T227.setTop (mkF m 40 #[.val (.int p1), .val (.int p2), .val (.int p3), .val (.ref (A 3)), .val (.ref r220), .val (.ref r221), .val (.ref (A 1)), .unset, .unset] [(.ref (A 1)), (.int (1 : Int32))])) _
          refine XS.aload X227.here hx rfl (hb hby at_40) rfl rfl ?_
          show Steps p.tables e below (T227.setTop (mkF m 42 #[.val (.int p1), .val (.int p2), .val (.int p3), .val (.ref (A 3)), .val (.ref r220), .val (.ref r221), .val (.ref (A 1)), .unset, .unset] [(.ref r221), (.ref (A 1)), (.int (1 : Int32))])) _
          refine XS.aload X227.here hx rfl (hb hby at_42) rfl rfl ?_
          show Steps p.tables e below (T227.setTop (mkF m 44 #[.val (.int p1), .val (.int p2), .val (.int p3), .val (.ref (A 3)), .val (.ref r220), .val (.ref r221), .val (.ref (A 1)), .unset, .unset] [(.ref r220), (.ref r221), (.ref (A 1)), (.int (1 : Int32))])) _
          refine st230.trans ?_
          show Steps p.tables e below (T230.setTop (mkF m 47 #[.val (.int p1), .val (.int p2), .val (.int p3), .val (.ref (A 3)), .val (.ref r220), .val (.ref r221), .val (.ref (A 1)), .unset, .unset] [(.int (1 : Int32)), (.int (1 : Int32))])) _
          refine XS.icmpNo X230.here hx rfl (hb hby at_47) rfl (teq (by decide : (1 : Int32) = (1 : Int32))).2 ?_
          show Steps p.tables e below (T230.setTop (mkF m 50 #[.val (.int p1), .val (.int p2), .val (.int p3), .val (.ref (A 3)), .val (.ref r220), .val (.ref r221), .val (.ref (A 1)), .unset, .unset] [])) _
          refine XS.iconst X230.here hx rfl (hb hby at_50) ?_
          show Steps p.tables e below (T230.setTop (mkF m 51 #[.val (.int p1), .val (.int p2), .val (.int p3), .val (.ref (A 3)), .val (.ref r220), .val (.ref r221), .val (.ref (A 1)), .unset, .unset] [(.int (1 : Int32))])) _
          refine XS.goto X230.here hx rfl (pc0 := 51) (pc' := 55) rfl (hb hby at_51) (by decide) (by decide) ?_
          show Steps p.tables e below (T230.setTop (mkF m 55 #[.val (.int p1), .val (.int p2), .val (.int p3), .val (.ref (A 3)), .val (.ref r220), .val (.ref r221), .val (.ref (A 1)), .unset, .unset] [(.int (1 : Int32))])) _
          refine XS.istore X230.here hx rfl (hb hby at_55) rfl (l' := #[.val (.int p1), .val (.int p2), .val (.int p3), .val (.ref (A 3)), .val (.ref r220), .val (.ref r221), .val (.ref (A 1)), .val (.int (1 : Int32)), .unset]) rfl ?_
          show Steps p.tables e below (T230.setTop (mkF m 57 #[.val (.int p1), .val (.int p2), .val (.int p3), .val (.ref (A 3)), .val (.ref r220), .val (.ref r221), .val (.ref (A 1)), .val (.int (1 : Int32)), .unset] [])) _
          refine XS.aload X230.here hx rfl (hb hby at_57) rfl rfl ?_
          show Steps p.tables e below (T230.setTop (mkF m 59 #[.val (.int p1), .val (.int p2), .val (.int p3), .val (.ref (A 3)), .val (.ref r220), .val (.ref r221), .val (.ref (A 1)), .val (.int (1 : Int32)), .unset] [(.ref (A 1))])) _
          refine st231.trans ?_
          show Steps p.tables e below (T231.setTop (mkF m 62 #[.val (.int p1), .val (.int p2), .val (.int p3), .val (.ref (A 3)), .val (.ref r220), .val (.ref r221), .val (.ref (A 1)), .val (.int (1 : Int32)), .unset] [(.ref (A 3))])) _
          refine XS.aloadN X231.here hx rfl (hb hby at_62) rfl rfl ?_
          show Steps p.tables e below (T231.setTop (mkF m 63 #[.val (.int p1), .val (.int p2), .val (.int p3), .val (.ref (A 3)), .val (.ref r220), .val (.ref r221), .val (.ref (A 1)), .val (.int (1 : Int32)), .unset] [(.ref (A 3)), (.ref (A 3))])) _
          refine Jvm.RoadKit.acmp (g := (mkF m 63 #[.val (.int p1), .val (.int p2), .val (.int p3), .val (.ref (A 3)), .val (.ref r220), .val (.ref r221), .val (.ref (A 1)), .val (.int (1 : Int32)), .unset] [(.ref (A 3)), (.ref (A 3))])) X231 hx rfl rfl rfl (pc0 := 63) (pc' := 66) (same := true) rfl (hb hby at_63) rfl (decide_eq_true rfl) (by decide) (by decide) ?_
          show Steps p.tables e below (T231.setTop (mkF m 66 #[.val (.int p1), .val (.int p2), .val (.int p3), .val (.ref (A 3)), .val (.ref r220), .val (.ref r221), .val (.ref (A 1)), .val (.int (1 : Int32)), .unset] [])) _
          refine XS.iconst X231.here hx rfl (hb hby at_66) ?_
          show Steps p.tables e below (T231.setTop (mkF m 67 #[.val (.int p1), .val (.int p2), .val (.int p3), .val (.ref (A 3)), .val (.ref r220), .val (.ref r221), .val (.ref (A 1)), .val (.int (1 : Int32)), .unset] [(.int (1 : Int32))])) _
          refine XS.goto X231.here hx rfl (pc0 := 67) (pc' := 71) rfl (hb hby at_67) (by decide) (by decide) ?_
          show Steps p.tables e below (T231.setTop (mkF m 71 #[.val (.int p1), .val (.int p2), .val (.int p3), .val (.ref (A 3)), .val (.ref r220), .val (.ref r221), .val (.ref (A 1)), .val (.int (1 : Int32)), .unset] [(.int (1 : Int32))])) _
          refine XS.istore X231.here hx rfl (hb hby at_71) rfl (l' := #[.val (.int p1), .val (.int p2), .val (.int p3), .val (.ref (A 3)), .val (.ref r220), .val (.ref r221), .val (.ref (A 1)), .val (.int (1 : Int32)), .val (.int (1 : Int32))]) rfl ?_
          show Steps p.tables e below (T231.setTop (mkF m 73 #[.val (.int p1), .val (.int p2), .val (.int p3), .val (.ref (A 3)), .val (.ref r220), .val (.ref r221), .val (.ref (A 1)), .val (.int (1 : Int32)), .val (.int (1 : Int32))] [])) _
          refine XS.iload X231.here hx rfl (hb hby at_73) rfl ?_
          show Steps p.tables e below (T231.setTop (mkF m 75 #[.val (.int p1), .val (.int p2), .val (.int p3), .val (.ref (A 3)), .val (.ref r220), .val (.ref r221), .val (.ref (A 1)), .val (.int (1 : Int32)), .val (.int (1 : Int32))] [(.int (1 : Int32))])) _
          refine XS.ifNo X231.here hx rfl (hb hby at_75) rfl ((if0 _ _).trans (feq (by decide : ¬ ((1 : Int32) = (0 : Int32)))).1) ?_
          show Steps p.tables e below (T231.setTop (mkF m 78 #[.val (.int p1), .val (.int p2), .val (.int p3), .val (.ref (A 3)), .val (.ref r220), .val (.ref r221), .val (.ref (A 1)), .val (.int (1 : Int32)), .val (.int (1 : Int32))] [])) _
          refine XS.iload X231.here hx rfl (hb hby at_78) rfl ?_
          show Steps p.tables e below (T231.setTop (mkF m 80 #[.val (.int p1), .val (.int p2), .val (.int p3), .val (.ref (A 3)), .val (.ref r220), .val (.ref r221), .val (.ref (A 1)), .val (.int (1 : Int32)), .val (.int (1 : Int32))] [(.int (1 : Int32))])) _
          refine XS.ifNo X231.here hx rfl (hb hby at_80) rfl ((if0 _ _).trans (feq (by decide : ¬ ((1 : Int32) = (0 : Int32)))).1) ?_
          show Steps p.tables e below (T231.setTop (mkF m 83 #[.val (.int p1), .val (.int p2), .val (.int p3), .val (.ref (A 3)), .val (.ref r220), .val (.ref r221), .val (.ref (A 1)), .val (.int (1 : Int32)), .val (.int (1 : Int32))] [])) _
          refine XS.iconst X231.here hx rfl (hb hby at_83) ?_
          show Steps p.tables e below (T231.setTop (mkF m 84 #[.val (.int p1), .val (.int p2), .val (.int p3), .val (.ref (A 3)), .val (.ref r220), .val (.ref r221), .val (.ref (A 1)), .val (.int (1 : Int32)), .val (.int (1 : Int32))] [(.int (1 : Int32))])) _
          refine XS.goto X231.here hx rfl (pc0 := 84) (pc' := 88) rfl (hb hby at_84) (by decide) (by decide) ?_
          show Steps p.tables e below (T231.setTop (mkF m 88 #[.val (.int p1), .val (.int p2), .val (.int p3), .val (.ref (A 3)), .val (.ref r220), .val (.ref r221), .val (.ref (A 1)), .val (.int (1 : Int32)), .val (.int (1 : Int32))] [(.int (1 : Int32))])) _
          exact retN X231 hx (t := .boolean) Bd.returns (by simp) (hb hby at_88) hr
        · show LQ n0 _ T231.heap _
          exact ⟨rfl, N231, trivial⟩
      · obtain ⟨_, _, ⟨T232, L232, k232, n232⟩, -, X232, ⟨Lc232, hQ232, l232, y232, z232⟩, st232⟩ := Jvm.LawKit.callS X0 hx (y := own_m7) hown (mvT hZ (hw _ (List.mem_of_getElem? (i := 0) rfl))) (mvT hZ (hw _ (List.mem_of_getElem? (i := 1) rfl))) (mvT hZ (hw _ (List.mem_of_getElem? (i := 2) rfl))) (mvT hZ (hw _ (List.mem_of_getElem? (i := 3) rfl))) (by decide) (backOf (W := 0) (rm67 l Z a0 hw [] h0 n0 p1 p2 p3 A K EN OL0 hk16) hZ (hw _ (List.mem_of_getElem? (i := 3) rfl)) (hw _ (List.mem_of_getElem? (i := 2) rfl)) (by decide) (by decide)) (g := (mkF m 1 #[.val (.int p1), .val (.int p2), .val (.int p3), .unset, .unset, .unset, .unset, .unset, .unset] [(.int p1)])) rfl (by rw [hml]; rfl) (argsL := [(.int p1)]) (rest := []) (lenOf own_pd2 rfl) rfl (by show 2 * 0 + _ ≤ _; exact Nat.le_of_eq rfl) (hb hby at_1) (fun _ _ => ⟨rfl, e0, (by decide : 0 + 0 ≤ _), (by decide : 0 + 0 ≤ _)⟩)
        dsimp only [Pt.U, Pt.locs, Pt.cells, Pt.slots] at X232 l232 y232 z232 st232 hQ232
        subst l232 y232 z232
        obtain ⟨rfl, N232q, e232⟩ := hQ232
        have N232 := Fr.app N0 N232q
        obtain ⟨_, _, ⟨T233, L233, k233, n233⟩, -, X233, ⟨Lc233, hQ233, l233, y233, z233⟩, st233⟩ := Jvm.LawKit.callS X232 hx (y := own_m4) hown (mvT hZ (hw _ (List.mem_of_getElem? (i := 8) rfl))) (mvT hZ (hw _ (List.mem_of_getElem? (i := 9) rfl))) (mvT hZ (hw _ (List.mem_of_getElem? (i := 10) rfl))) (mvT hZ (hw _ (List.mem_of_getElem? (i := 11) rfl))) (by decide) (backOf (W := 0) (rmV l Z a0 hw [] h0 n0 A K p2 EN OL0) hZ (hw _ (List.mem_of_getElem? (i := 11) rfl)) (hw _ (List.mem_of_getElem? (i := 10) rfl)) (by decide) (by decide)) (g := (mkF m 6 #[.val (.int p1), .val (.int p2), .val (.int p3), .val (.ref (A 3)), .unset, .unset, .unset, .unset, .unset] [(.int p2)])) rfl (by rw [hml]; rfl) (argsL := [(.int p2)]) (rest := []) (lenOf own_pd3 rfl) rfl (by show 2 * 0 + _ ≤ _; exact Nat.le_of_eq rfl) (hb hby at_6) (fun _ _ => ⟨rfl, e232, (by decide : 0 + 1 ≤ _), (by decide : 0 + 1 ≤ _)⟩)
        dsimp only [Pt.U, Pt.locs, Pt.cells, Pt.slots] at X233 l233 y233 z233 st233 hQ233
        subst l233 y233 z233
        obtain ⟨r233, rfl, N233q, K233c, er233, fr233⟩ := hQ233
        have N233 := Fr.app N232 N233q
        have OL233 : Old Z n0 T233.heap := OL0.keep K233c all0
        have KK233 : Keep h0 T233.heap [] := KK0.trans K233c all0
        obtain ⟨_, _, ⟨T234, L234, k234, n234⟩, -, X234, ⟨Lc234, hQ234, l234, y234, z234⟩, st234⟩ := Jvm.LawKit.callS X233 hx (y := own_m4) hown (mvT hZ (hw _ (List.mem_of_getElem? (i := 8) rfl))) (mvT hZ (hw _ (List.mem_of_getElem? (i := 9) rfl))) (mvT hZ (hw _ (List.mem_of_getElem? (i := 10) rfl))) (mvT hZ (hw _ (List.mem_of_getElem? (i := 11) rfl))) (by decide) (backOf (W := 0) (rmV l Z a0 hw [] T233.heap n0 A K p3 EN OL233) hZ (hw _ (List.mem_of_getElem? (i := 11) rfl)) (hw _ (List.mem_of_getElem? (i := 10) rfl)) (by decide) (by decide)) (g := (mkF m 12 #[.val (.int p1), .val (.int p2), .val (.int p3), .val (.ref (A 3)), .val (.ref r233), .unset, .unset, .unset, .unset] [(.int p3)])) rfl (by rw [hml]; rfl) (argsL := [(.int p3)]) (rest := []) (lenOf own_pd3 rfl) rfl (by show 2 * 0 + _ ≤ _; exact Nat.le_of_eq rfl) (hb hby at_12) (fun _ _ => ⟨rfl, rfl, (by decide : 1 + 1 ≤ _), (by decide : 1 + 1 ≤ _)⟩)
        dsimp only [Pt.U, Pt.locs, Pt.cells, Pt.slots] at X234 l234 y234 z234 st234 hQ234
        subst l234 y234 z234
        obtain ⟨r234, rfl, N234q, K234c, er234, fr234⟩ := hQ234
        have N234 := Fr.app N233 N234q
        have OL234 : Old Z n0 T234.heap := OL233.keep K234c all0
        have KK234 : Keep h0 T234.heap [] := KK233.trans K234c all0
        obtain ⟨cq235, kq235, q235a, q235b, q235c⟩ := isOf hZ rfl (EN.1.2.2.2.2.2.2.2.1.ext OL234.2)
        obtain ⟨_, _, ⟨T235, L235, k235, n235⟩, -, X235, ⟨Lc235, hQ235, l235, y235, z235⟩, st235⟩ := X234.virtualBack hx (y := own_m2) (z := own_m2) hown (mvT hZ (hw _ (List.mem_of_getElem? (i := 15) rfl))) (mvT hZ (hw _ (List.mem_of_getElem? (i := 16) rfl))) (notFace_of_selects (args := #[]) (mvT hZ (hw _ (List.mem_of_getElem? (i := 18) rfl)))) (mvT hZ (hw _ (List.mem_of_getElem? (i := 18) rfl))) (mvT hZ (hw _ (List.mem_of_getElem? (i := 17) rfl))) (by decide) (backOf (W := 0) (rm46 l Z a0 hw [] T234.heap n0 p1 p2 p3 A K EN OL234) hZ (hw _ (List.mem_of_getElem? (i := 19) rfl)) (hw _ (List.mem_of_getElem? (i := 6) rfl)) (by decide) (by decide)) q235a q235c (g := (mkF m 18 #[.val (.int p1), .val (.int p2), .val (.int p3), .val (.ref (A 3)), .val (.ref r233), .val (.ref r234), .unset, .unset, .unset] [(.ref (A 3))])) rfl (by rw [hml]; rfl) (Steps.refl _) (argsL := []) (rest := []) (lenOf own_pd5 rfl) rfl (by show 2 * 0 + _ ≤ _; exact Nat.le_of_eq rfl) (hb hby at_18) (fun _ _ => ⟨rfl, rfl, (by decide : 2 + 0 ≤ _), (by decide : 2 + 0 ≤ _)⟩)
        dsimp only [Pt.U, Pt.locs, Pt.cells, Pt.slots] at X235 l235 y235 z235 st235 hQ235
        subst l235 y235 z235
        obtain ⟨rfl, N235q, e235⟩ := hQ235
        have N235 := Fr.app N234 N235q
        have fx238 : Exa Z T234.heap r233 "java/lang/Integer" := (er233.keep K234c)
        have fx239 : Fld Z T234.heap r233 "java/lang/Integer" "value" "I" (.int p2) := (fr233.keep K234c nin0)
        obtain ⟨cq240, kq240, q240a, q240b, q240c⟩ := isOf hZ e235 (EN.1.2.2.2.2.2.2.2.1.ext OL234.2)
        obtain ⟨_, _, ⟨T240, L240, k240, n240⟩, -, X240, ⟨Lc240, hQ240, l240, y240, z240⟩, st240⟩ := X235.virtualBack hx (y := own_m0) (z := own_m0) hown (mvT hZ (hw _ (List.mem_of_getElem? (i := 31) rfl))) (mvT hZ (hw _ (List.mem_of_getElem? (i := 32) rfl))) (notFace_of_selects (args := #[]) (mvT hZ (hw _ (List.mem_of_getElem? (i := 34) rfl)))) (mvT hZ (hw _ (List.mem_of_getElem? (i := 34) rfl))) (mvT hZ (hw _ (List.mem_of_getElem? (i := 33) rfl))) (by decide) (backOf (W := 0) (rm72 l Z a0 hw [] T234.heap n0 p1 p2 p3 A K r233 r234 EN OL234 fx238 er234 fx239 fr234 hp_203 hp_218) hZ (hw _ (List.mem_of_getElem? (i := 35) rfl)) (hw _ (List.mem_of_getElem? (i := 6) rfl)) (by decide) (by decide)) q240a q240c (g := (mkF m 35 #[.val (.int p1), .val (.int p2), .val (.int p3), .val (.ref (A 3)), .val (.ref r233), .val (.ref r234), .val (.ref (A 1)), .unset, .unset] [(.ref r234), (.ref r233), (.ref (A 3))])) rfl (by rw [hml]; rfl) (Steps.refl _) (argsL := [(.ref r233), (.ref r234)]) (rest := []) (lenOf own_pd10 rfl) rfl (by show 2 * 0 + _ ≤ _; exact Nat.le_of_eq rfl) (hb hby at_35) (fun _ _ => ⟨rfl, e235, (by decide : 2 + 0 ≤ _), (by decide : 2 + 0 ≤ _)⟩)
        dsimp only [Pt.U, Pt.locs, Pt.cells, Pt.slots] at X240 l240 y240 z240 st240 hQ240
        subst l240 y240 z240
        obtain ⟨rfl, N240q, e240⟩ := hQ240
        have N240 := Fr.app N235 N240q
        obtain ⟨cq243, kq243, q243a, q243b, q243c⟩ := isOf hZ e240 (EN.1.2.2.2.1.ext OL234.2)
        obtain ⟨_, _, ⟨T243, L243, k243, n243⟩, -, X243, ⟨Lc243, hQ243, l243, y243, z243⟩, st243⟩ := X240.virtualBack hx (y := own_m0) (z := own_m0) hown (mvT hZ (hw _ (List.mem_of_getElem? (i := 31) rfl))) (mvT hZ (hw _ (List.mem_of_getElem? (i := 32) rfl))) (notFace_of_selects (args := #[]) (mvT hZ (hw _ (List.mem_of_getElem? (i := 34) rfl)))) (mvT hZ (hw _ (List.mem_of_getElem? (i := 34) rfl))) (mvT hZ (hw _ (List.mem_of_getElem? (i := 33) rfl))) (by decide) (backOf (W := 1) (rm73 l Z a0 hw [] T234.heap n0 p1 p2 p3 A K r233 r234 EN OL234 er234 fx238 fr234 fx239 hp_203 hp_218) hZ (hw _ (List.mem_of_getElem? (i := 35) rfl)) (hw _ (List.mem_of_getElem? (i := 6) rfl)) (by decide) (by decide)) q243a q243c (g := (mkF m 44 #[.val (.int p1), .val (.int p2), .val (.int p3), .val (.ref (A 3)), .val (.ref r233), .val (.ref r234), .val (.ref (A 1)), .unset, .unset] [(.ref r233), (.ref r234), (.ref (A 1)), (.int (1 : Int32))])) rfl (by rw [hml]; rfl) (Steps.refl _) (argsL := [(.ref r234), (.ref r233)]) (rest := [(.int (1 : Int32))]) (lenOf own_pd10 rfl) rfl (by show 2 * 0 + _ ≤ _; exact Nat.le_of_eq rfl) (hb hby at_44) (fun _ _ => ⟨rfl, e240, (by decide : 2 + 0 ≤ _), (by decide : 2 + 0 ≤ _)⟩)
        dsimp only [Pt.U, Pt.locs, Pt.cells, Pt.slots] at X243 l243 y243 z243 st243 hQ243
        subst l243 y243 z243
        obtain ⟨rfl, N243q, e243⟩ := hQ243
        have N243 := Fr.app N240 N243q
        obtain ⟨cq244, kq244, q244a, q244b, q244c⟩ := isOf hZ e243 (EN.1.2.2.2.1.ext OL234.2)
        obtain ⟨_, _, ⟨T244, L244, k244, n244⟩, -, X244, ⟨Lc244, hQ244, l244, y244, z244⟩, st244⟩ := X243.virtualBack hx (y := own_m2) (z := own_m2) hown (mvT hZ (hw _ (List.mem_of_getElem? (i := 15) rfl))) (mvT hZ (hw _ (List.mem_of_getElem? (i := 16) rfl))) (notFace_of_selects (args := #[]) (mvT hZ (hw _ (List.mem_of_getElem? (i := 18) rfl)))) (mvT hZ (hw _ (List.mem_of_getElem? (i := 18) rfl))) (mvT hZ (hw _ (List.mem_of_getElem? (i := 17) rfl))) (by decide) (backOf (W := 0) (rm39 l Z a0 hw [] T234.heap n0 p1 p2 p3 A K EN OL234) hZ (hw _ (List.mem_of_getElem? (i := 19) rfl)) (hw _ (List.mem_of_getElem? (i := 6) rfl)) (by decide) (by decide)) q244a q244c (g := (mkF m 59 #[.val (.int p1), .val (.int p2), .val (.int p3), .val (.ref (A 3)), .val (.ref r233), .val (.ref r234), .val (.ref (A 1)), .val (.int (1 : Int32)), .unset] [(.ref (A 1))])) rfl (by rw [hml]; rfl) (Steps.refl _) (argsL := []) (rest := []) (lenOf own_pd5 rfl) rfl (by show 2 * 0 + _ ≤ _; exact Nat.le_of_eq rfl) (hb hby at_59) (fun _ _ => ⟨rfl, e243, (by decide : 2 + 0 ≤ _), (by decide : 2 + 0 ≤ _)⟩)
        dsimp only [Pt.U, Pt.locs, Pt.cells, Pt.slots] at X244 l244 y244 z244 st244 hQ244
        subst l244 y244 z244
        obtain ⟨rfl, N244q, e244⟩ := hQ244
        have N244 := Fr.app N243 N244q
        obtain ⟨fs, hr, hrun, hended, hW, hsame⟩ := X244.leave (v := some (.int (1 : Int32))) (fun h => by rw [Bd.returns] at h; cases h)
        refine ⟨_, _, pre0 _ ?_, hrun, hended, _, _, rfl, ?_, ⟨_, rfl⟩, hW, hsame.mono (by decide) (by decide)⟩
        · show Steps p.tables e below (s₁.setTop (mkF m 0 #[.val (.int p1), .val (.int p2), .val (.int p3), .unset, .unset, .unset, .unset, .unset, .unset] [])) _
          refine XS.iloadN X0.here hx rfl (hb hby at_0) rfl ?_
          show Steps p.tables e below (s₁.setTop (mkF m 1 #[.val (.int p1), .val (.int p2), .val (.int p3), .unset, .unset, .unset, .unset, .unset, .unset] [(.int p1)])) _
          refine st232 _ ?_
          show Steps p.tables e below (T232.setTop (mkF m 4 #[.val (.int p1), .val (.int p2), .val (.int p3), .unset, .unset, .unset, .unset, .unset, .unset] [(.ref (A 3))])) _
          refine XS.astoreN X232.here hx rfl (hb hby at_4) rfl rfl (l' := #[.val (.int p1), .val (.int p2), .val (.int p3), .val (.ref (A 3)), .unset, .unset, .unset, .unset, .unset]) rfl ?_
          show Steps p.tables e below (T232.setTop (mkF m 5 #[.val (.int p1), .val (.int p2), .val (.int p3), .val (.ref (A 3)), .unset, .unset, .unset, .unset, .unset] [])) _
          refine XS.iloadN X232.here hx rfl (hb hby at_5) rfl ?_
          show Steps p.tables e below (T232.setTop (mkF m 6 #[.val (.int p1), .val (.int p2), .val (.int p3), .val (.ref (A 3)), .unset, .unset, .unset, .unset, .unset] [(.int p2)])) _
          refine st233 _ ?_
          show Steps p.tables e below (T233.setTop (mkF m 9 #[.val (.int p1), .val (.int p2), .val (.int p3), .val (.ref (A 3)), .unset, .unset, .unset, .unset, .unset] [(.ref r233)])) _
          refine XS.astore X233.here hx rfl (hb hby at_9) rfl rfl (l' := #[.val (.int p1), .val (.int p2), .val (.int p3), .val (.ref (A 3)), .val (.ref r233), .unset, .unset, .unset, .unset]) rfl ?_
          show Steps p.tables e below (T233.setTop (mkF m 11 #[.val (.int p1), .val (.int p2), .val (.int p3), .val (.ref (A 3)), .val (.ref r233), .unset, .unset, .unset, .unset] [])) _
          refine XS.iloadN X233.here hx rfl (hb hby at_11) rfl ?_
          show Steps p.tables e below (T233.setTop (mkF m 12 #[.val (.int p1), .val (.int p2), .val (.int p3), .val (.ref (A 3)), .val (.ref r233), .unset, .unset, .unset, .unset] [(.int p3)])) _
          refine st234 _ ?_
          show Steps p.tables e below (T234.setTop (mkF m 15 #[.val (.int p1), .val (.int p2), .val (.int p3), .val (.ref (A 3)), .val (.ref r233), .unset, .unset, .unset, .unset] [(.ref r234)])) _
          refine XS.astore X234.here hx rfl (hb hby at_15) rfl rfl (l' := #[.val (.int p1), .val (.int p2), .val (.int p3), .val (.ref (A 3)), .val (.ref r233), .val (.ref r234), .unset, .unset, .unset]) rfl ?_
          show Steps p.tables e below (T234.setTop (mkF m 17 #[.val (.int p1), .val (.int p2), .val (.int p3), .val (.ref (A 3)), .val (.ref r233), .val (.ref r234), .unset, .unset, .unset] [])) _
          refine XS.aloadN X234.here hx rfl (hb hby at_17) rfl rfl ?_
          show Steps p.tables e below (T234.setTop (mkF m 18 #[.val (.int p1), .val (.int p2), .val (.int p3), .val (.ref (A 3)), .val (.ref r233), .val (.ref r234), .unset, .unset, .unset] [(.ref (A 3))])) _
          refine st235.trans ?_
          show Steps p.tables e below (T235.setTop (mkF m 21 #[.val (.int p1), .val (.int p2), .val (.int p3), .val (.ref (A 3)), .val (.ref r233), .val (.ref r234), .unset, .unset, .unset] [(.ref (A 1))])) _
          refine XS.astore X235.here hx rfl (hb hby at_21) rfl rfl (l' := #[.val (.int p1), .val (.int p2), .val (.int p3), .val (.ref (A 3)), .val (.ref r233), .val (.ref r234), .val (.ref (A 1)), .unset, .unset]) rfl ?_
          show Steps p.tables e below (T235.setTop (mkF m 23 #[.val (.int p1), .val (.int p2), .val (.int p3), .val (.ref (A 3)), .val (.ref r233), .val (.ref r234), .val (.ref (A 1)), .unset, .unset] [])) _
          refine XS.aload X235.here hx rfl (hb hby at_23) rfl rfl ?_
          show Steps p.tables e below (T235.setTop (mkF m 25 #[.val (.int p1), .val (.int p2), .val (.int p3), .val (.ref (A 3)), .val (.ref r233), .val (.ref r234), .val (.ref (A 1)), .unset, .unset] [(.ref (A 1))])) _
          refine XS.ifnonnullYes X235.here hx rfl (pc0 := 25) (pc' := 30) rfl (hb hby at_25) rfl (by decide) (by decide) ?_
          show Steps p.tables e below (T235.setTop (mkF m 30 #[.val (.int p1), .val (.int p2), .val (.int p3), .val (.ref (A 3)), .val (.ref r233), .val (.ref r234), .val (.ref (A 1)), .unset, .unset] [])) _
          refine XS.aloadN X235.here hx rfl (hb hby at_30) rfl rfl ?_
          show Steps p.tables e below (T235.setTop (mkF m 31 #[.val (.int p1), .val (.int p2), .val (.int p3), .val (.ref (A 3)), .val (.ref r233), .val (.ref r234), .val (.ref (A 1)), .unset, .unset] [(.ref (A 3))])) _
          refine XS.aload X235.here hx rfl (hb hby at_31) rfl rfl ?_
          show Steps p.tables e below (T235.setTop (mkF m 33 #[.val (.int p1), .val (.int p2), .val (.int p3), .val (.ref (A 3)), .val (.ref r233), .val (.ref r234), .val (.ref (A 1)), .unset, .unset] [(.ref r233), (.ref (A 3))])) _
          refine XS.aload X235.here hx rfl (hb hby at_33) rfl rfl ?_
          show Steps p.tables e below (T235.setTop (mkF m 35 #[.val (.int p1), .val (.int p2), .val (.int p3), .val (.ref (A 3)), .val (.ref r233), .val (.ref r234), .val (.ref (A 1)), .unset, .unset] [(.ref r234), (.ref r233), (.ref (A 3))])) _
          refine st240.trans ?_
          show Steps p.tables e below (T240.setTop (mkF m 38 #[.val (.int p1), .val (.int p2), .val (.int p3), .val (.ref (A 3)), .val (.ref r233), .val (.ref r234), .val (.ref (A 1)), .unset, .unset] [(.int (1 : Int32))])) _
          refine XS.aload X240.here hx rfl (hb hby at_38) rfl rfl ?_
          show Steps p.tables e below (T240.setTop (mkF m 40 #[.val (.int p1), .val (.int p2), .val (.int p3), .val (.ref (A 3)), .val (.ref r233), .val (.ref r234), .val (.ref (A 1)), .unset, .unset] [(.ref (A 1)), (.int (1 : Int32))])) _
          refine XS.aload X240.here hx rfl (hb hby at_40) rfl rfl ?_
          show Steps p.tables e below (T240.setTop (mkF m 42 #[.val (.int p1), .val (.int p2), .val (.int p3), .val (.ref (A 3)), .val (.ref r233), .val (.ref r234), .val (.ref (A 1)), .unset, .unset] [(.ref r234), (.ref (A 1)), (.int (1 : Int32))])) _
          refine XS.aload X240.here hx rfl (hb hby at_42) rfl rfl ?_
          show Steps p.tables e below (T240.setTop (mkF m 44 #[.val (.int p1), .val (.int p2), .val (.int p3), .val (.ref (A 3)), .val (.ref r233), .val (.ref r234), .val (.ref (A 1)), .unset, .unset] [(.ref r233), (.ref r234), (.ref (A 1)), (.int (1 : Int32))])) _
          refine st243.trans ?_
          show Steps p.tables e below (T243.setTop (mkF m 47 #[.val (.int p1), .val (.int p2), .val (.int p3), .val (.ref (A 3)), .val (.ref r233), .val (.ref r234), .val (.ref (A 1)), .unset, .unset] [(.int (1 : Int32)), (.int (1 : Int32))])) _
          refine XS.icmpNo X243.here hx rfl (hb hby at_47) rfl (teq (by decide : (1 : Int32) = (1 : Int32))).2 ?_
          show Steps p.tables e below (T243.setTop (mkF m 50 #[.val (.int p1), .val (.int p2), .val (.int p3), .val (.ref (A 3)), .val (.ref r233), .val (.ref r234), .val (.ref (A 1)), .unset, .unset] [])) _
          refine XS.iconst X243.here hx rfl (hb hby at_50) ?_
          show Steps p.tables e below (T243.setTop (mkF m 51 #[.val (.int p1), .val (.int p2), .val (.int p3), .val (.ref (A 3)), .val (.ref r233), .val (.ref r234), .val (.ref (A 1)), .unset, .unset] [(.int (1 : Int32))])) _
          refine XS.goto X243.here hx rfl (pc0 := 51) (pc' := 55) rfl (hb hby at_51) (by decide) (by decide) ?_
          show Steps p.tables e below (T243.setTop (mkF m 55 #[.val (.int p1), .val (.int p2), .val (.int p3), .val (.ref (A 3)), .val (.ref r233), .val (.ref r234), .val (.ref (A 1)), .unset, .unset] [(.int (1 : Int32))])) _
          refine XS.istore X243.here hx rfl (hb hby at_55) rfl (l' := #[.val (.int p1), .val (.int p2), .val (.int p3), .val (.ref (A 3)), .val (.ref r233), .val (.ref r234), .val (.ref (A 1)), .val (.int (1 : Int32)), .unset]) rfl ?_
          show Steps p.tables e below (T243.setTop (mkF m 57 #[.val (.int p1), .val (.int p2), .val (.int p3), .val (.ref (A 3)), .val (.ref r233), .val (.ref r234), .val (.ref (A 1)), .val (.int (1 : Int32)), .unset] [])) _
          refine XS.aload X243.here hx rfl (hb hby at_57) rfl rfl ?_
          show Steps p.tables e below (T243.setTop (mkF m 59 #[.val (.int p1), .val (.int p2), .val (.int p3), .val (.ref (A 3)), .val (.ref r233), .val (.ref r234), .val (.ref (A 1)), .val (.int (1 : Int32)), .unset] [(.ref (A 1))])) _
          refine st244.trans ?_
          show Steps p.tables e below (T244.setTop (mkF m 62 #[.val (.int p1), .val (.int p2), .val (.int p3), .val (.ref (A 3)), .val (.ref r233), .val (.ref r234), .val (.ref (A 1)), .val (.int (1 : Int32)), .unset] [(.ref (A 3))])) _
          refine XS.aloadN X244.here hx rfl (hb hby at_62) rfl rfl ?_
          show Steps p.tables e below (T244.setTop (mkF m 63 #[.val (.int p1), .val (.int p2), .val (.int p3), .val (.ref (A 3)), .val (.ref r233), .val (.ref r234), .val (.ref (A 1)), .val (.int (1 : Int32)), .unset] [(.ref (A 3)), (.ref (A 3))])) _
          refine Jvm.RoadKit.acmp (g := (mkF m 63 #[.val (.int p1), .val (.int p2), .val (.int p3), .val (.ref (A 3)), .val (.ref r233), .val (.ref r234), .val (.ref (A 1)), .val (.int (1 : Int32)), .unset] [(.ref (A 3)), (.ref (A 3))])) X244 hx rfl rfl rfl (pc0 := 63) (pc' := 66) (same := true) rfl (hb hby at_63) rfl (decide_eq_true rfl) (by decide) (by decide) ?_
          show Steps p.tables e below (T244.setTop (mkF m 66 #[.val (.int p1), .val (.int p2), .val (.int p3), .val (.ref (A 3)), .val (.ref r233), .val (.ref r234), .val (.ref (A 1)), .val (.int (1 : Int32)), .unset] [])) _
          refine XS.iconst X244.here hx rfl (hb hby at_66) ?_
          show Steps p.tables e below (T244.setTop (mkF m 67 #[.val (.int p1), .val (.int p2), .val (.int p3), .val (.ref (A 3)), .val (.ref r233), .val (.ref r234), .val (.ref (A 1)), .val (.int (1 : Int32)), .unset] [(.int (1 : Int32))])) _
          refine XS.goto X244.here hx rfl (pc0 := 67) (pc' := 71) rfl (hb hby at_67) (by decide) (by decide) ?_
          show Steps p.tables e below (T244.setTop (mkF m 71 #[.val (.int p1), .val (.int p2), .val (.int p3), .val (.ref (A 3)), .val (.ref r233), .val (.ref r234), .val (.ref (A 1)), .val (.int (1 : Int32)), .unset] [(.int (1 : Int32))])) _
          refine XS.istore X244.here hx rfl (hb hby at_71) rfl (l' := #[.val (.int p1), .val (.int p2), .val (.int p3), .val (.ref (A 3)), .val (.ref r233), .val (.ref r234), .val (.ref (A 1)), .val (.int (1 : Int32)), .val (.int (1 : Int32))]) rfl ?_
          show Steps p.tables e below (T244.setTop (mkF m 73 #[.val (.int p1), .val (.int p2), .val (.int p3), .val (.ref (A 3)), .val (.ref r233), .val (.ref r234), .val (.ref (A 1)), .val (.int (1 : Int32)), .val (.int (1 : Int32))] [])) _
          refine XS.iload X244.here hx rfl (hb hby at_73) rfl ?_
          show Steps p.tables e below (T244.setTop (mkF m 75 #[.val (.int p1), .val (.int p2), .val (.int p3), .val (.ref (A 3)), .val (.ref r233), .val (.ref r234), .val (.ref (A 1)), .val (.int (1 : Int32)), .val (.int (1 : Int32))] [(.int (1 : Int32))])) _
          refine XS.ifNo X244.here hx rfl (hb hby at_75) rfl ((if0 _ _).trans (feq (by decide : ¬ ((1 : Int32) = (0 : Int32)))).1) ?_
          show Steps p.tables e below (T244.setTop (mkF m 78 #[.val (.int p1), .val (.int p2), .val (.int p3), .val (.ref (A 3)), .val (.ref r233), .val (.ref r234), .val (.ref (A 1)), .val (.int (1 : Int32)), .val (.int (1 : Int32))] [])) _
          refine XS.iload X244.here hx rfl (hb hby at_78) rfl ?_
          show Steps p.tables e below (T244.setTop (mkF m 80 #[.val (.int p1), .val (.int p2), .val (.int p3), .val (.ref (A 3)), .val (.ref r233), .val (.ref r234), .val (.ref (A 1)), .val (.int (1 : Int32)), .val (.int (1 : Int32))] [(.int (1 : Int32))])) _
          refine XS.ifNo X244.here hx rfl (hb hby at_80) rfl ((if0 _ _).trans (feq (by decide : ¬ ((1 : Int32) = (0 : Int32)))).1) ?_
          show Steps p.tables e below (T244.setTop (mkF m 83 #[.val (.int p1), .val (.int p2), .val (.int p3), .val (.ref (A 3)), .val (.ref r233), .val (.ref r234), .val (.ref (A 1)), .val (.int (1 : Int32)), .val (.int (1 : Int32))] [])) _
          refine XS.iconst X244.here hx rfl (hb hby at_83) ?_
          show Steps p.tables e below (T244.setTop (mkF m 84 #[.val (.int p1), .val (.int p2), .val (.int p3), .val (.ref (A 3)), .val (.ref r233), .val (.ref r234), .val (.ref (A 1)), .val (.int (1 : Int32)), .val (.int (1 : Int32))] [(.int (1 : Int32))])) _
          refine XS.goto X244.here hx rfl (pc0 := 84) (pc' := 88) rfl (hb hby at_84) (by decide) (by decide) ?_
          show Steps p.tables e below (T244.setTop (mkF m 88 #[.val (.int p1), .val (.int p2), .val (.int p3), .val (.ref (A 3)), .val (.ref r233), .val (.ref r234), .val (.ref (A 1)), .val (.int (1 : Int32)), .val (.int (1 : Int32))] [(.int (1 : Int32))])) _
          exact retN X244 hx (t := .boolean) Bd.returns (by simp) (hb hby at_88) hr
        · show LQ n0 _ T244.heap _
          exact ⟨rfl, N244, trivial⟩
  | 4, _, hk16 =>
    by_cases hp_245 : p2 < p3
    · obtain ⟨_, _, ⟨T247, L247, k247, n247⟩, -, X247, ⟨Lc247, hQ247, l247, y247, z247⟩, st247⟩ := Jvm.LawKit.callS X0 hx (y := own_m7) hown (mvT hZ (hw _ (List.mem_of_getElem? (i := 0) rfl))) (mvT hZ (hw _ (List.mem_of_getElem? (i := 1) rfl))) (mvT hZ (hw _ (List.mem_of_getElem? (i := 2) rfl))) (mvT hZ (hw _ (List.mem_of_getElem? (i := 3) rfl))) (by decide) (backOf (W := 0) (rm74 l Z a0 hw [] h0 n0 p1 p2 p3 A K EN OL0 hk16) hZ (hw _ (List.mem_of_getElem? (i := 3) rfl)) (hw _ (List.mem_of_getElem? (i := 2) rfl)) (by decide) (by decide)) (g := (mkF m 1 #[.val (.int p1), .val (.int p2), .val (.int p3), .unset, .unset, .unset, .unset, .unset, .unset] [(.int p1)])) rfl (by rw [hml]; rfl) (argsL := [(.int p1)]) (rest := []) (lenOf own_pd2 rfl) rfl (by show 2 * 0 + _ ≤ _; exact Nat.le_of_eq rfl) (hb hby at_1) (fun _ _ => ⟨rfl, e0, (by decide : 0 + 0 ≤ _), (by decide : 0 + 0 ≤ _)⟩)
      dsimp only [Pt.U, Pt.locs, Pt.cells, Pt.slots] at X247 l247 y247 z247 st247 hQ247
      subst l247 y247 z247
      obtain ⟨rfl, N247q, e247⟩ := hQ247
      have N247 := Fr.app N0 N247q
      obtain ⟨_, _, ⟨T248, L248, k248, n248⟩, -, X248, ⟨Lc248, hQ248, l248, y248, z248⟩, st248⟩ := Jvm.LawKit.callS X247 hx (y := own_m4) hown (mvT hZ (hw _ (List.mem_of_getElem? (i := 8) rfl))) (mvT hZ (hw _ (List.mem_of_getElem? (i := 9) rfl))) (mvT hZ (hw _ (List.mem_of_getElem? (i := 10) rfl))) (mvT hZ (hw _ (List.mem_of_getElem? (i := 11) rfl))) (by decide) (backOf (W := 0) (rmV l Z a0 hw [] h0 n0 A K p2 EN OL0) hZ (hw _ (List.mem_of_getElem? (i := 11) rfl)) (hw _ (List.mem_of_getElem? (i := 10) rfl)) (by decide) (by decide)) (g := (mkF m 6 #[.val (.int p1), .val (.int p2), .val (.int p3), .val (.ref (A 4)), .unset, .unset, .unset, .unset, .unset] [(.int p2)])) rfl (by rw [hml]; rfl) (argsL := [(.int p2)]) (rest := []) (lenOf own_pd3 rfl) rfl (by show 2 * 0 + _ ≤ _; exact Nat.le_of_eq rfl) (hb hby at_6) (fun _ _ => ⟨rfl, e247, (by decide : 0 + 1 ≤ _), (by decide : 0 + 1 ≤ _)⟩)
      dsimp only [Pt.U, Pt.locs, Pt.cells, Pt.slots] at X248 l248 y248 z248 st248 hQ248
      subst l248 y248 z248
      obtain ⟨r248, rfl, N248q, K248c, er248, fr248⟩ := hQ248
      have N248 := Fr.app N247 N248q
      have OL248 : Old Z n0 T248.heap := OL0.keep K248c all0
      have KK248 : Keep h0 T248.heap [] := KK0.trans K248c all0
      obtain ⟨_, _, ⟨T249, L249, k249, n249⟩, -, X249, ⟨Lc249, hQ249, l249, y249, z249⟩, st249⟩ := Jvm.LawKit.callS X248 hx (y := own_m4) hown (mvT hZ (hw _ (List.mem_of_getElem? (i := 8) rfl))) (mvT hZ (hw _ (List.mem_of_getElem? (i := 9) rfl))) (mvT hZ (hw _ (List.mem_of_getElem? (i := 10) rfl))) (mvT hZ (hw _ (List.mem_of_getElem? (i := 11) rfl))) (by decide) (backOf (W := 0) (rmV l Z a0 hw [] T248.heap n0 A K p3 EN OL248) hZ (hw _ (List.mem_of_getElem? (i := 11) rfl)) (hw _ (List.mem_of_getElem? (i := 10) rfl)) (by decide) (by decide)) (g := (mkF m 12 #[.val (.int p1), .val (.int p2), .val (.int p3), .val (.ref (A 4)), .val (.ref r248), .unset, .unset, .unset, .unset] [(.int p3)])) rfl (by rw [hml]; rfl) (argsL := [(.int p3)]) (rest := []) (lenOf own_pd3 rfl) rfl (by show 2 * 0 + _ ≤ _; exact Nat.le_of_eq rfl) (hb hby at_12) (fun _ _ => ⟨rfl, rfl, (by decide : 1 + 1 ≤ _), (by decide : 1 + 1 ≤ _)⟩)
      dsimp only [Pt.U, Pt.locs, Pt.cells, Pt.slots] at X249 l249 y249 z249 st249 hQ249
      subst l249 y249 z249
      obtain ⟨r249, rfl, N249q, K249c, er249, fr249⟩ := hQ249
      have N249 := Fr.app N248 N249q
      have OL249 : Old Z n0 T249.heap := OL248.keep K249c all0
      have KK249 : Keep h0 T249.heap [] := KK248.trans K249c all0
      obtain ⟨cq250, kq250, q250a, q250b, q250c⟩ := isOf hZ rfl (EN.2.1.2.1.ext OL249.2)
      obtain ⟨_, _, ⟨T250, L250, k250, n250⟩, -, X250, ⟨Lc250, hQ250, l250, y250, z250⟩, st250⟩ := X249.virtualBack hx (y := own_m2) (z := own_m2) hown (mvT hZ (hw _ (List.mem_of_getElem? (i := 15) rfl))) (mvT hZ (hw _ (List.mem_of_getElem? (i := 16) rfl))) (notFace_of_selects (args := #[]) (mvT hZ (hw _ (List.mem_of_getElem? (i := 18) rfl)))) (mvT hZ (hw _ (List.mem_of_getElem? (i := 18) rfl))) (mvT hZ (hw _ (List.mem_of_getElem? (i := 17) rfl))) (by decide) (backOf (W := 0) (rm17 l Z a0 hw [] T249.heap n0 p1 p2 p3 A K EN OL249) hZ (hw _ (List.mem_of_getElem? (i := 19) rfl)) (hw _ (List.mem_of_getElem? (i := 6) rfl)) (by decide) (by decide)) q250a q250c (g := (mkF m 18 #[.val (.int p1), .val (.int p2), .val (.int p3), .val (.ref (A 4)), .val (.ref r248), .val (.ref r249), .unset, .unset, .unset] [(.ref (A 4))])) rfl (by rw [hml]; rfl) (Steps.refl _) (argsL := []) (rest := []) (lenOf own_pd5 rfl) rfl (by show 2 * 0 + _ ≤ _; exact Nat.le_of_eq rfl) (hb hby at_18) (fun _ _ => ⟨rfl, rfl, (by decide : 2 + 0 ≤ _), (by decide : 2 + 0 ≤ _)⟩)
      dsimp only [Pt.U, Pt.locs, Pt.cells, Pt.slots] at X250 l250 y250 z250 st250 hQ250
      subst l250 y250 z250
      obtain ⟨rfl, N250q, e250⟩ := hQ250
      have N250 := Fr.app N249 N250q
      have fx253 : Exa Z T249.heap r248 "java/lang/Integer" := (er248.keep K249c)
      have fx254 : Fld Z T249.heap r248 "java/lang/Integer" "value" "I" (.int p2) := (fr248.keep K249c nin0)
      obtain ⟨cq255, kq255, q255a, q255b, q255c⟩ := isOf hZ e250 (EN.2.1.2.1.ext OL249.2)
      obtain ⟨_, _, ⟨T255, L255, k255, n255⟩, -, X255, ⟨Lc255, hQ255, l255, y255, z255⟩, st255⟩ := X250.virtualBack hx (y := own_m0) (z := own_m0) hown (mvT hZ (hw _ (List.mem_of_getElem? (i := 31) rfl))) (mvT hZ (hw _ (List.mem_of_getElem? (i := 32) rfl))) (notFace_of_selects (args := #[]) (mvT hZ (hw _ (List.mem_of_getElem? (i := 34) rfl)))) (mvT hZ (hw _ (List.mem_of_getElem? (i := 34) rfl))) (mvT hZ (hw _ (List.mem_of_getElem? (i := 33) rfl))) (by decide) (backOf (W := 0) (rm75 l Z a0 hw [] T249.heap n0 p1 p2 p3 A K r248 r249 EN OL249 fx253 er249 fx254 fr249 hp_245) hZ (hw _ (List.mem_of_getElem? (i := 35) rfl)) (hw _ (List.mem_of_getElem? (i := 6) rfl)) (by decide) (by decide)) q255a q255c (g := (mkF m 35 #[.val (.int p1), .val (.int p2), .val (.int p3), .val (.ref (A 4)), .val (.ref r248), .val (.ref r249), .val (.ref (A 0)), .unset, .unset] [(.ref r249), (.ref r248), (.ref (A 4))])) rfl (by rw [hml]; rfl) (Steps.refl _) (argsL := [(.ref r248), (.ref r249)]) (rest := []) (lenOf own_pd10 rfl) rfl (by show 2 * 0 + _ ≤ _; exact Nat.le_of_eq rfl) (hb hby at_35) (fun _ _ => ⟨rfl, e250, (by decide : 2 + 0 ≤ _), (by decide : 2 + 0 ≤ _)⟩)
      dsimp only [Pt.U, Pt.locs, Pt.cells, Pt.slots] at X255 l255 y255 z255 st255 hQ255
      subst l255 y255 z255
      obtain ⟨rfl, N255q, e255⟩ := hQ255
      have N255 := Fr.app N250 N255q
      obtain ⟨cq258, kq258, q258a, q258b, q258c⟩ := isOf hZ e255 (EN.1.2.1.ext OL249.2)
      obtain ⟨_, _, ⟨T258, L258, k258, n258⟩, -, X258, ⟨Lc258, hQ258, l258, y258, z258⟩, st258⟩ := X255.virtualBack hx (y := own_m0) (z := own_m0) hown (mvT hZ (hw _ (List.mem_of_getElem? (i := 31) rfl))) (mvT hZ (hw _ (List.mem_of_getElem? (i := 32) rfl))) (notFace_of_selects (args := #[]) (mvT hZ (hw _ (List.mem_of_getElem? (i := 34) rfl)))) (mvT hZ (hw _ (List.mem_of_getElem? (i := 34) rfl))) (mvT hZ (hw _ (List.mem_of_getElem? (i := 33) rfl))) (by decide) (backOf (W := 1) (rm76 l Z a0 hw [] T249.heap n0 p1 p2 p3 A K r248 r249 EN OL249 er249 fx253 fr249 fx254 hp_245) hZ (hw _ (List.mem_of_getElem? (i := 35) rfl)) (hw _ (List.mem_of_getElem? (i := 6) rfl)) (by decide) (by decide)) q258a q258c (g := (mkF m 44 #[.val (.int p1), .val (.int p2), .val (.int p3), .val (.ref (A 4)), .val (.ref r248), .val (.ref r249), .val (.ref (A 0)), .unset, .unset] [(.ref r248), (.ref r249), (.ref (A 0)), (.int (0 : Int32))])) rfl (by rw [hml]; rfl) (Steps.refl _) (argsL := [(.ref r249), (.ref r248)]) (rest := [(.int (0 : Int32))]) (lenOf own_pd10 rfl) rfl (by show 2 * 0 + _ ≤ _; exact Nat.le_of_eq rfl) (hb hby at_44) (fun _ _ => ⟨rfl, e255, (by decide : 2 + 0 ≤ _), (by decide : 2 + 0 ≤ _)⟩)
      dsimp only [Pt.U, Pt.locs, Pt.cells, Pt.slots] at X258 l258 y258 z258 st258 hQ258
      subst l258 y258 z258
      obtain ⟨rfl, N258q, e258⟩ := hQ258
      have N258 := Fr.app N255 N258q
      obtain ⟨cq259, kq259, q259a, q259b, q259c⟩ := isOf hZ e258 (EN.1.2.1.ext OL249.2)
      obtain ⟨_, _, ⟨T259, L259, k259, n259⟩, -, X259, ⟨Lc259, hQ259, l259, y259, z259⟩, st259⟩ := X258.virtualBack hx (y := own_m2) (z := own_m2) hown (mvT hZ (hw _ (List.mem_of_getElem? (i := 15) rfl))) (mvT hZ (hw _ (List.mem_of_getElem? (i := 16) rfl))) (notFace_of_selects (args := #[]) (mvT hZ (hw _ (List.mem_of_getElem? (i := 18) rfl)))) (mvT hZ (hw _ (List.mem_of_getElem? (i := 18) rfl))) (mvT hZ (hw _ (List.mem_of_getElem? (i := 17) rfl))) (by decide) (backOf (W := 0) (rm4 l Z a0 hw [] T249.heap n0 p1 p2 p3 A K EN OL249) hZ (hw _ (List.mem_of_getElem? (i := 19) rfl)) (hw _ (List.mem_of_getElem? (i := 6) rfl)) (by decide) (by decide)) q259a q259c (g := (mkF m 59 #[.val (.int p1), .val (.int p2), .val (.int p3), .val (.ref (A 4)), .val (.ref r248), .val (.ref r249), .val (.ref (A 0)), .val (.int (1 : Int32)), .unset] [(.ref (A 0))])) rfl (by rw [hml]; rfl) (Steps.refl _) (argsL := []) (rest := []) (lenOf own_pd5 rfl) rfl (by show 2 * 0 + _ ≤ _; exact Nat.le_of_eq rfl) (hb hby at_59) (fun _ _ => ⟨rfl, e258, (by decide : 2 + 0 ≤ _), (by decide : 2 + 0 ≤ _)⟩)
      dsimp only [Pt.U, Pt.locs, Pt.cells, Pt.slots] at X259 l259 y259 z259 st259 hQ259
      subst l259 y259 z259
      obtain ⟨rfl, N259q, e259⟩ := hQ259
      have N259 := Fr.app N258 N259q
      obtain ⟨fs, hr, hrun, hended, hW, hsame⟩ := X259.leave (v := some (.int (1 : Int32))) (fun h => by rw [Bd.returns] at h; cases h)
      refine ⟨_, _, pre0 _ ?_, hrun, hended, _, _, rfl, ?_, ⟨_, rfl⟩, hW, hsame.mono (by decide) (by decide)⟩
      · show Steps p.tables e below (s₁.setTop (mkF m 0 #[.val (.int p1), .val (.int p2), .val (.int p3), .unset, .unset, .unset, .unset, .unset, .unset] [])) _
        refine XS.iloadN X0.here hx rfl (hb hby at_0) rfl ?_
        show Steps p.tables e below (s₁.setTop (mkF m 1 #[.val (.int p1), .val (.int p2), .val (.int p3), .unset, .unset, .unset, .unset, .unset, .unset] [(.int p1)])) _
        refine st247 _ ?_
        show Steps p.tables e below (T247.setTop (mkF m 4 #[.val (.int p1), .val (.int p2), .val (.int p3), .unset, .unset, .unset, .unset, .unset, .unset] [(.ref (A 4))])) _
        refine XS.astoreN X247.here hx rfl (hb hby at_4) rfl rfl (l' := #[.val (.int p1), .val (.int p2), .val (.int p3), .val (.ref (A 4)), .unset, .unset, .unset, .unset, .unset]) rfl ?_
        show Steps p.tables e below (T247.setTop (mkF m 5 #[.val (.int p1), .val (.int p2), .val (.int p3), .val (.ref (A 4)), .unset, .unset, .unset, .unset, .unset] [])) _
        refine XS.iloadN X247.here hx rfl (hb hby at_5) rfl ?_
        show Steps p.tables e below (T247.setTop (mkF m 6 #[.val (.int p1), .val (.int p2), .val (.int p3), .val (.ref (A 4)), .unset, .unset, .unset, .unset, .unset] [(.int p2)])) _
        refine st248 _ ?_
        show Steps p.tables e below (T248.setTop (mkF m 9 #[.val (.int p1), .val (.int p2), .val (.int p3), .val (.ref (A 4)), .unset, .unset, .unset, .unset, .unset] [(.ref r248)])) _
        refine XS.astore X248.here hx rfl (hb hby at_9) rfl rfl (l' := #[.val (.int p1), .val (.int p2), .val (.int p3), .val (.ref (A 4)), .val (.ref r248), .unset, .unset, .unset, .unset]) rfl ?_
        show Steps p.tables e below (T248.setTop (mkF m 11 #[.val (.int p1), .val (.int p2), .val (.int p3), .val (.ref (A 4)), .val (.ref r248), .unset, .unset, .unset, .unset] [])) _
        refine XS.iloadN X248.here hx rfl (hb hby at_11) rfl ?_
        show Steps p.tables e below (T248.setTop (mkF m 12 #[.val (.int p1), .val (.int p2), .val (.int p3), .val (.ref (A 4)), .val (.ref r248), .unset, .unset, .unset, .unset] [(.int p3)])) _
        refine st249 _ ?_
        show Steps p.tables e below (T249.setTop (mkF m 15 #[.val (.int p1), .val (.int p2), .val (.int p3), .val (.ref (A 4)), .val (.ref r248), .unset, .unset, .unset, .unset] [(.ref r249)])) _
        refine XS.astore X249.here hx rfl (hb hby at_15) rfl rfl (l' := #[.val (.int p1), .val (.int p2), .val (.int p3), .val (.ref (A 4)), .val (.ref r248), .val (.ref r249), .unset, .unset, .unset]) rfl ?_
        show Steps p.tables e below (T249.setTop (mkF m 17 #[.val (.int p1), .val (.int p2), .val (.int p3), .val (.ref (A 4)), .val (.ref r248), .val (.ref r249), .unset, .unset, .unset] [])) _
        refine XS.aloadN X249.here hx rfl (hb hby at_17) rfl rfl ?_
        show Steps p.tables e below (T249.setTop (mkF m 18 #[.val (.int p1), .val (.int p2), .val (.int p3), .val (.ref (A 4)), .val (.ref r248), .val (.ref r249), .unset, .unset, .unset] [(.ref (A 4))])) _
        refine st250.trans ?_
        show Steps p.tables e below (T250.setTop (mkF m 21 #[.val (.int p1), .val (.int p2), .val (.int p3), .val (.ref (A 4)), .val (.ref r248), .val (.ref r249), .unset, .unset, .unset] [(.ref (A 0))])) _
        refine XS.astore X250.here hx rfl (hb hby at_21) rfl rfl (l' := #[.val (.int p1), .val (.int p2), .val (.int p3), .val (.ref (A 4)), .val (.ref r248), .val (.ref r249), .val (.ref (A 0)), .unset, .unset]) rfl ?_
        show Steps p.tables e below (T250.setTop (mkF m 23 #[.val (.int p1), .val (.int p2), .val (.int p3), .val (.ref (A 4)), .val (.ref r248), .val (.ref r249), .val (.ref (A 0)), .unset, .unset] [])) _
        refine XS.aload X250.here hx rfl (hb hby at_23) rfl rfl ?_
        show Steps p.tables e below (T250.setTop (mkF m 25 #[.val (.int p1), .val (.int p2), .val (.int p3), .val (.ref (A 4)), .val (.ref r248), .val (.ref r249), .val (.ref (A 0)), .unset, .unset] [(.ref (A 0))])) _
        refine XS.ifnonnullYes X250.here hx rfl (pc0 := 25) (pc' := 30) rfl (hb hby at_25) rfl (by decide) (by decide) ?_
        show Steps p.tables e below (T250.setTop (mkF m 30 #[.val (.int p1), .val (.int p2), .val (.int p3), .val (.ref (A 4)), .val (.ref r248), .val (.ref r249), .val (.ref (A 0)), .unset, .unset] [])) _
        refine XS.aloadN X250.here hx rfl (hb hby at_30) rfl rfl ?_
        show Steps p.tables e below (T250.setTop (mkF m 31 #[.val (.int p1), .val (.int p2), .val (.int p3), .val (.ref (A 4)), .val (.ref r248), .val (.ref r249), .val (.ref (A 0)), .unset, .unset] [(.ref (A 4))])) _
        refine XS.aload X250.here hx rfl (hb hby at_31) rfl rfl ?_
        show Steps p.tables e below (T250.setTop (mkF m 33 #[.val (.int p1), .val (.int p2), .val (.int p3), .val (.ref (A 4)), .val (.ref r248), .val (.ref r249), .val (.ref (A 0)), .unset, .unset] [(.ref r248), (.ref (A 4))])) _
        refine XS.aload X250.here hx rfl (hb hby at_33) rfl rfl ?_
        show Steps p.tables e below (T250.setTop (mkF m 35 #[.val (.int p1), .val (.int p2), .val (.int p3), .val (.ref (A 4)), .val (.ref r248), .val (.ref r249), .val (.ref (A 0)), .unset, .unset] [(.ref r249), (.ref r248), (.ref (A 4))])) _
        refine st255.trans ?_
        show Steps p.tables e below (T255.setTop (mkF m 38 #[.val (.int p1), .val (.int p2), .val (.int p3), .val (.ref (A 4)), .val (.ref r248), .val (.ref r249), .val (.ref (A 0)), .unset, .unset] [(.int (0 : Int32))])) _
        refine XS.aload X255.here hx rfl (hb hby at_38) rfl rfl ?_
        show Steps p.tables e below (T255.setTop (mkF m 40 #[.val (.int p1), .val (.int p2), .val (.int p3), .val (.ref (A 4)), .val (.ref r248), .val (.ref r249), .val (.ref (A 0)), .unset, .unset] [(.ref (A 0)), (.int (0 : Int32))])) _
        refine XS.aload X255.here hx rfl (hb hby at_40) rfl rfl ?_
        show Steps p.tables e below (T255.setTop (mkF m 42 #[.val (.int p1), .val (.int p2), .val (.int p3), .val (.ref (A 4)), .val (.ref r248), .val (.ref r249), .val (.ref (A 0)), .unset, .unset] [(.ref r249), (.ref (A 0)), (.int (0 : Int32))])) _
        refine XS.aload X255.here hx rfl (hb hby at_42) rfl rfl ?_
        show Steps p.tables e below (T255.setTop (mkF m 44 #[.val (.int p1), .val (.int p2), .val (.int p3), .val (.ref (A 4)), .val (.ref r248), .val (.ref r249), .val (.ref (A 0)), .unset, .unset] [(.ref r248), (.ref r249), (.ref (A 0)), (.int (0 : Int32))])) _
        refine st258.trans ?_
        show Steps p.tables e below (T258.setTop (mkF m 47 #[.val (.int p1), .val (.int p2), .val (.int p3), .val (.ref (A 4)), .val (.ref r248), .val (.ref r249), .val (.ref (A 0)), .unset, .unset] [(.int (0 : Int32)), (.int (0 : Int32))])) _
        refine XS.icmpNo X258.here hx rfl (hb hby at_47) rfl (teq (by decide : (0 : Int32) = (0 : Int32))).2 ?_
        show Steps p.tables e below (T258.setTop (mkF m 50 #[.val (.int p1), .val (.int p2), .val (.int p3), .val (.ref (A 4)), .val (.ref r248), .val (.ref r249), .val (.ref (A 0)), .unset, .unset] [])) _
        refine XS.iconst X258.here hx rfl (hb hby at_50) ?_
        show Steps p.tables e below (T258.setTop (mkF m 51 #[.val (.int p1), .val (.int p2), .val (.int p3), .val (.ref (A 4)), .val (.ref r248), .val (.ref r249), .val (.ref (A 0)), .unset, .unset] [(.int (1 : Int32))])) _
        refine XS.goto X258.here hx rfl (pc0 := 51) (pc' := 55) rfl (hb hby at_51) (by decide) (by decide) ?_
        show Steps p.tables e below (T258.setTop (mkF m 55 #[.val (.int p1), .val (.int p2), .val (.int p3), .val (.ref (A 4)), .val (.ref r248), .val (.ref r249), .val (.ref (A 0)), .unset, .unset] [(.int (1 : Int32))])) _
        refine XS.istore X258.here hx rfl (hb hby at_55) rfl (l' := #[.val (.int p1), .val (.int p2), .val (.int p3), .val (.ref (A 4)), .val (.ref r248), .val (.ref r249), .val (.ref (A 0)), .val (.int (1 : Int32)), .unset]) rfl ?_
        show Steps p.tables e below (T258.setTop (mkF m 57 #[.val (.int p1), .val (.int p2), .val (.int p3), .val (.ref (A 4)), .val (.ref r248), .val (.ref r249), .val (.ref (A 0)), .val (.int (1 : Int32)), .unset] [])) _
        refine XS.aload X258.here hx rfl (hb hby at_57) rfl rfl ?_
        show Steps p.tables e below (T258.setTop (mkF m 59 #[.val (.int p1), .val (.int p2), .val (.int p3), .val (.ref (A 4)), .val (.ref r248), .val (.ref r249), .val (.ref (A 0)), .val (.int (1 : Int32)), .unset] [(.ref (A 0))])) _
        refine st259.trans ?_
        show Steps p.tables e below (T259.setTop (mkF m 62 #[.val (.int p1), .val (.int p2), .val (.int p3), .val (.ref (A 4)), .val (.ref r248), .val (.ref r249), .val (.ref (A 0)), .val (.int (1 : Int32)), .unset] [(.ref (A 4))])) _
        refine XS.aloadN X259.here hx rfl (hb hby at_62) rfl rfl ?_
        show Steps p.tables e below (T259.setTop (mkF m 63 #[.val (.int p1), .val (.int p2), .val (.int p3), .val (.ref (A 4)), .val (.ref r248), .val (.ref r249), .val (.ref (A 0)), .val (.int (1 : Int32)), .unset] [(.ref (A 4)), (.ref (A 4))])) _
        refine Jvm.RoadKit.acmp (g := (mkF m 63 #[.val (.int p1), .val (.int p2), .val (.int p3), .val (.ref (A 4)), .val (.ref r248), .val (.ref r249), .val (.ref (A 0)), .val (.int (1 : Int32)), .unset] [(.ref (A 4)), (.ref (A 4))])) X259 hx rfl rfl rfl (pc0 := 63) (pc' := 66) (same := true) rfl (hb hby at_63) rfl (decide_eq_true rfl) (by decide) (by decide) ?_
        show Steps p.tables e below (T259.setTop (mkF m 66 #[.val (.int p1), .val (.int p2), .val (.int p3), .val (.ref (A 4)), .val (.ref r248), .val (.ref r249), .val (.ref (A 0)), .val (.int (1 : Int32)), .unset] [])) _
        refine XS.iconst X259.here hx rfl (hb hby at_66) ?_
        show Steps p.tables e below (T259.setTop (mkF m 67 #[.val (.int p1), .val (.int p2), .val (.int p3), .val (.ref (A 4)), .val (.ref r248), .val (.ref r249), .val (.ref (A 0)), .val (.int (1 : Int32)), .unset] [(.int (1 : Int32))])) _
        refine XS.goto X259.here hx rfl (pc0 := 67) (pc' := 71) rfl (hb hby at_67) (by decide) (by decide) ?_
        show Steps p.tables e below (T259.setTop (mkF m 71 #[.val (.int p1), .val (.int p2), .val (.int p3), .val (.ref (A 4)), .val (.ref r248), .val (.ref r249), .val (.ref (A 0)), .val (.int (1 : Int32)), .unset] [(.int (1 : Int32))])) _
        refine XS.istore X259.here hx rfl (hb hby at_71) rfl (l' := #[.val (.int p1), .val (.int p2), .val (.int p3), .val (.ref (A 4)), .val (.ref r248), .val (.ref r249), .val (.ref (A 0)), .val (.int (1 : Int32)), .val (.int (1 : Int32))]) rfl ?_
        show Steps p.tables e below (T259.setTop (mkF m 73 #[.val (.int p1), .val (.int p2), .val (.int p3), .val (.ref (A 4)), .val (.ref r248), .val (.ref r249), .val (.ref (A 0)), .val (.int (1 : Int32)), .val (.int (1 : Int32))] [])) _
        refine XS.iload X259.here hx rfl (hb hby at_73) rfl ?_
        show Steps p.tables e below (T259.setTop (mkF m 75 #[.val (.int p1), .val (.int p2), .val (.int p3), .val (.ref (A 4)), .val (.ref r248), .val (.ref r249), .val (.ref (A 0)), .val (.int (1 : Int32)), .val (.int (1 : Int32))] [(.int (1 : Int32))])) _
        refine XS.ifNo X259.here hx rfl (hb hby at_75) rfl ((if0 _ _).trans (feq (by decide : ¬ ((1 : Int32) = (0 : Int32)))).1) ?_
        show Steps p.tables e below (T259.setTop (mkF m 78 #[.val (.int p1), .val (.int p2), .val (.int p3), .val (.ref (A 4)), .val (.ref r248), .val (.ref r249), .val (.ref (A 0)), .val (.int (1 : Int32)), .val (.int (1 : Int32))] [])) _
        refine XS.iload X259.here hx rfl (hb hby at_78) rfl ?_
        show Steps p.tables e below (T259.setTop (mkF m 80 #[.val (.int p1), .val (.int p2), .val (.int p3), .val (.ref (A 4)), .val (.ref r248), .val (.ref r249), .val (.ref (A 0)), .val (.int (1 : Int32)), .val (.int (1 : Int32))] [(.int (1 : Int32))])) _
        refine XS.ifNo X259.here hx rfl (hb hby at_80) rfl ((if0 _ _).trans (feq (by decide : ¬ ((1 : Int32) = (0 : Int32)))).1) ?_
        show Steps p.tables e below (T259.setTop (mkF m 83 #[.val (.int p1), .val (.int p2), .val (.int p3), .val (.ref (A 4)), .val (.ref r248), .val (.ref r249), .val (.ref (A 0)), .val (.int (1 : Int32)), .val (.int (1 : Int32))] [])) _
        refine XS.iconst X259.here hx rfl (hb hby at_83) ?_
        show Steps p.tables e below (T259.setTop (mkF m 84 #[.val (.int p1), .val (.int p2), .val (.int p3), .val (.ref (A 4)), .val (.ref r248), .val (.ref r249), .val (.ref (A 0)), .val (.int (1 : Int32)), .val (.int (1 : Int32))] [(.int (1 : Int32))])) _
        refine XS.goto X259.here hx rfl (pc0 := 84) (pc' := 88) rfl (hb hby at_84) (by decide) (by decide) ?_
        show Steps p.tables e below (T259.setTop (mkF m 88 #[.val (.int p1), .val (.int p2), .val (.int p3), .val (.ref (A 4)), .val (.ref r248), .val (.ref r249), .val (.ref (A 0)), .val (.int (1 : Int32)), .val (.int (1 : Int32))] [(.int (1 : Int32))])) _
        exact retN X259 hx (t := .boolean) Bd.returns (by simp) (hb hby at_88) hr
      · show LQ n0 _ T259.heap _
        exact ⟨rfl, N259, trivial⟩
    · by_cases hp_260 : p2 = p3
      · obtain ⟨_, _, ⟨T261, L261, k261, n261⟩, -, X261, ⟨Lc261, hQ261, l261, y261, z261⟩, st261⟩ := Jvm.LawKit.callS X0 hx (y := own_m7) hown (mvT hZ (hw _ (List.mem_of_getElem? (i := 0) rfl))) (mvT hZ (hw _ (List.mem_of_getElem? (i := 1) rfl))) (mvT hZ (hw _ (List.mem_of_getElem? (i := 2) rfl))) (mvT hZ (hw _ (List.mem_of_getElem? (i := 3) rfl))) (by decide) (backOf (W := 0) (rm74 l Z a0 hw [] h0 n0 p1 p2 p3 A K EN OL0 hk16) hZ (hw _ (List.mem_of_getElem? (i := 3) rfl)) (hw _ (List.mem_of_getElem? (i := 2) rfl)) (by decide) (by decide)) (g := (mkF m 1 #[.val (.int p1), .val (.int p2), .val (.int p3), .unset, .unset, .unset, .unset, .unset, .unset] [(.int p1)])) rfl (by rw [hml]; rfl) (argsL := [(.int p1)]) (rest := []) (lenOf own_pd2 rfl) rfl (by show 2 * 0 + _ ≤ _; exact Nat.le_of_eq rfl) (hb hby at_1) (fun _ _ => ⟨rfl, e0, (by decide : 0 + 0 ≤ _), (by decide : 0 + 0 ≤ _)⟩)
        dsimp only [Pt.U, Pt.locs, Pt.cells, Pt.slots] at X261 l261 y261 z261 st261 hQ261
        subst l261 y261 z261
        obtain ⟨rfl, N261q, e261⟩ := hQ261
        have N261 := Fr.app N0 N261q
        obtain ⟨_, _, ⟨T262, L262, k262, n262⟩, -, X262, ⟨Lc262, hQ262, l262, y262, z262⟩, st262⟩ := Jvm.LawKit.callS X261 hx (y := own_m4) hown (mvT hZ (hw _ (List.mem_of_getElem? (i := 8) rfl))) (mvT hZ (hw _ (List.mem_of_getElem? (i := 9) rfl))) (mvT hZ (hw _ (List.mem_of_getElem? (i := 10) rfl))) (mvT hZ (hw _ (List.mem_of_getElem? (i := 11) rfl))) (by decide) (backOf (W := 0) (rmV l Z a0 hw [] h0 n0 A K p2 EN OL0) hZ (hw _ (List.mem_of_getElem? (i := 11) rfl)) (hw _ (List.mem_of_getElem? (i := 10) rfl)) (by decide) (by decide)) (g := (mkF m 6 #[.val (.int p1), .val (.int p2), .val (.int p3), .val (.ref (A 4)), .unset, .unset, .unset, .unset, .unset] [(.int p2)])) rfl (by rw [hml]; rfl) (argsL := [(.int p2)]) (rest := []) (lenOf own_pd3 rfl) rfl (by show 2 * 0 + _ ≤ _; exact Nat.le_of_eq rfl) (hb hby at_6) (fun _ _ => ⟨rfl, e261, (by decide : 0 + 1 ≤ _), (by decide : 0 + 1 ≤ _)⟩)
        dsimp only [Pt.U, Pt.locs, Pt.cells, Pt.slots] at X262 l262 y262 z262 st262 hQ262
        subst l262 y262 z262
        obtain ⟨r262, rfl, N262q, K262c, er262, fr262⟩ := hQ262
        have N262 := Fr.app N261 N262q
        have OL262 : Old Z n0 T262.heap := OL0.keep K262c all0
        have KK262 : Keep h0 T262.heap [] := KK0.trans K262c all0
        obtain ⟨_, _, ⟨T263, L263, k263, n263⟩, -, X263, ⟨Lc263, hQ263, l263, y263, z263⟩, st263⟩ := Jvm.LawKit.callS X262 hx (y := own_m4) hown (mvT hZ (hw _ (List.mem_of_getElem? (i := 8) rfl))) (mvT hZ (hw _ (List.mem_of_getElem? (i := 9) rfl))) (mvT hZ (hw _ (List.mem_of_getElem? (i := 10) rfl))) (mvT hZ (hw _ (List.mem_of_getElem? (i := 11) rfl))) (by decide) (backOf (W := 0) (rmV l Z a0 hw [] T262.heap n0 A K p3 EN OL262) hZ (hw _ (List.mem_of_getElem? (i := 11) rfl)) (hw _ (List.mem_of_getElem? (i := 10) rfl)) (by decide) (by decide)) (g := (mkF m 12 #[.val (.int p1), .val (.int p2), .val (.int p3), .val (.ref (A 4)), .val (.ref r262), .unset, .unset, .unset, .unset] [(.int p3)])) rfl (by rw [hml]; rfl) (argsL := [(.int p3)]) (rest := []) (lenOf own_pd3 rfl) rfl (by show 2 * 0 + _ ≤ _; exact Nat.le_of_eq rfl) (hb hby at_12) (fun _ _ => ⟨rfl, rfl, (by decide : 1 + 1 ≤ _), (by decide : 1 + 1 ≤ _)⟩)
        dsimp only [Pt.U, Pt.locs, Pt.cells, Pt.slots] at X263 l263 y263 z263 st263 hQ263
        subst l263 y263 z263
        obtain ⟨r263, rfl, N263q, K263c, er263, fr263⟩ := hQ263
        have N263 := Fr.app N262 N263q
        have OL263 : Old Z n0 T263.heap := OL262.keep K263c all0
        have KK263 : Keep h0 T263.heap [] := KK262.trans K263c all0
        obtain ⟨cq264, kq264, q264a, q264b, q264c⟩ := isOf hZ rfl (EN.2.1.2.1.ext OL263.2)
        obtain ⟨_, _, ⟨T264, L264, k264, n264⟩, -, X264, ⟨Lc264, hQ264, l264, y264, z264⟩, st264⟩ := X263.virtualBack hx (y := own_m2) (z := own_m2) hown (mvT hZ (hw _ (List.mem_of_getElem? (i := 15) rfl))) (mvT hZ (hw _ (List.mem_of_getElem? (i := 16) rfl))) (notFace_of_selects (args := #[]) (mvT hZ (hw _ (List.mem_of_getElem? (i := 18) rfl)))) (mvT hZ (hw _ (List.mem_of_getElem? (i := 18) rfl))) (mvT hZ (hw _ (List.mem_of_getElem? (i := 17) rfl))) (by decide) (backOf (W := 0) (rm17 l Z a0 hw [] T263.heap n0 p1 p2 p3 A K EN OL263) hZ (hw _ (List.mem_of_getElem? (i := 19) rfl)) (hw _ (List.mem_of_getElem? (i := 6) rfl)) (by decide) (by decide)) q264a q264c (g := (mkF m 18 #[.val (.int p1), .val (.int p2), .val (.int p3), .val (.ref (A 4)), .val (.ref r262), .val (.ref r263), .unset, .unset, .unset] [(.ref (A 4))])) rfl (by rw [hml]; rfl) (Steps.refl _) (argsL := []) (rest := []) (lenOf own_pd5 rfl) rfl (by show 2 * 0 + _ ≤ _; exact Nat.le_of_eq rfl) (hb hby at_18) (fun _ _ => ⟨rfl, rfl, (by decide : 2 + 0 ≤ _), (by decide : 2 + 0 ≤ _)⟩)
        dsimp only [Pt.U, Pt.locs, Pt.cells, Pt.slots] at X264 l264 y264 z264 st264 hQ264
        subst l264 y264 z264
        obtain ⟨rfl, N264q, e264⟩ := hQ264
        have N264 := Fr.app N263 N264q
        have fx267 : Exa Z T263.heap r262 "java/lang/Integer" := (er262.keep K263c)
        have fx268 : Fld Z T263.heap r262 "java/lang/Integer" "value" "I" (.int p2) := (fr262.keep K263c nin0)
        obtain ⟨cq269, kq269, q269a, q269b, q269c⟩ := isOf hZ e264 (EN.2.1.2.1.ext OL263.2)
        obtain ⟨_, _, ⟨T269, L269, k269, n269⟩, -, X269, ⟨Lc269, hQ269, l269, y269, z269⟩, st269⟩ := X264.virtualBack hx (y := own_m0) (z := own_m0) hown (mvT hZ (hw _ (List.mem_of_getElem? (i := 31) rfl))) (mvT hZ (hw _ (List.mem_of_getElem? (i := 32) rfl))) (notFace_of_selects (args := #[]) (mvT hZ (hw _ (List.mem_of_getElem? (i := 34) rfl)))) (mvT hZ (hw _ (List.mem_of_getElem? (i := 34) rfl))) (mvT hZ (hw _ (List.mem_of_getElem? (i := 33) rfl))) (by decide) (backOf (W := 0) (rm77 l Z a0 hw [] T263.heap n0 p1 p2 p3 A K r262 r263 EN OL263 fx267 er263 fx268 fr263 hp_245 hp_260) hZ (hw _ (List.mem_of_getElem? (i := 35) rfl)) (hw _ (List.mem_of_getElem? (i := 6) rfl)) (by decide) (by decide)) q269a q269c (g := (mkF m 35 #[.val (.int p1), .val (.int p2), .val (.int p3), .val (.ref (A 4)), .val (.ref r262), .val (.ref r263), .val (.ref (A 0)), .unset, .unset] [(.ref r263), (.ref r262), (.ref (A 4))])) rfl (by rw [hml]; rfl) (Steps.refl _) (argsL := [(.ref r262), (.ref r263)]) (rest := []) (lenOf own_pd10 rfl) rfl (by show 2 * 0 + _ ≤ _; exact Nat.le_of_eq rfl) (hb hby at_35) (fun _ _ => ⟨rfl, e264, (by decide : 2 + 0 ≤ _), (by decide : 2 + 0 ≤ _)⟩)
        dsimp only [Pt.U, Pt.locs, Pt.cells, Pt.slots] at X269 l269 y269 z269 st269 hQ269
        subst l269 y269 z269
        obtain ⟨rfl, N269q, e269⟩ := hQ269
        have N269 := Fr.app N264 N269q
        obtain ⟨cq272, kq272, q272a, q272b, q272c⟩ := isOf hZ e269 (EN.1.2.1.ext OL263.2)
        obtain ⟨_, _, ⟨T272, L272, k272, n272⟩, -, X272, ⟨Lc272, hQ272, l272, y272, z272⟩, st272⟩ := X269.virtualBack hx (y := own_m0) (z := own_m0) hown (mvT hZ (hw _ (List.mem_of_getElem? (i := 31) rfl))) (mvT hZ (hw _ (List.mem_of_getElem? (i := 32) rfl))) (notFace_of_selects (args := #[]) (mvT hZ (hw _ (List.mem_of_getElem? (i := 34) rfl)))) (mvT hZ (hw _ (List.mem_of_getElem? (i := 34) rfl))) (mvT hZ (hw _ (List.mem_of_getElem? (i := 33) rfl))) (by decide) (backOf (W := 1) (rm78 l Z a0 hw [] T263.heap n0 p1 p2 p3 A K r262 r263 EN OL263 er263 fx267 fr263 fx268 hp_245 hp_260) hZ (hw _ (List.mem_of_getElem? (i := 35) rfl)) (hw _ (List.mem_of_getElem? (i := 6) rfl)) (by decide) (by decide)) q272a q272c (g := (mkF m 44 #[.val (.int p1), .val (.int p2), .val (.int p3), .val (.ref (A 4)), .val (.ref r262), .val (.ref r263), .val (.ref (A 0)), .unset, .unset] [(.ref r262), (.ref r263), (.ref (A 0)), (.int (0 : Int32))])) rfl (by rw [hml]; rfl) (Steps.refl _) (argsL := [(.ref r263), (.ref r262)]) (rest := [(.int (0 : Int32))]) (lenOf own_pd10 rfl) rfl (by show 2 * 0 + _ ≤ _; exact Nat.le_of_eq rfl) (hb hby at_44) (fun _ _ => ⟨rfl, e269, (by decide : 2 + 0 ≤ _), (by decide : 2 + 0 ≤ _)⟩)
        dsimp only [Pt.U, Pt.locs, Pt.cells, Pt.slots] at X272 l272 y272 z272 st272 hQ272
        subst l272 y272 z272
        obtain ⟨rfl, N272q, e272⟩ := hQ272
        have N272 := Fr.app N269 N272q
        obtain ⟨cq273, kq273, q273a, q273b, q273c⟩ := isOf hZ e272 (EN.1.2.1.ext OL263.2)
        obtain ⟨_, _, ⟨T273, L273, k273, n273⟩, -, X273, ⟨Lc273, hQ273, l273, y273, z273⟩, st273⟩ := X272.virtualBack hx (y := own_m2) (z := own_m2) hown (mvT hZ (hw _ (List.mem_of_getElem? (i := 15) rfl))) (mvT hZ (hw _ (List.mem_of_getElem? (i := 16) rfl))) (notFace_of_selects (args := #[]) (mvT hZ (hw _ (List.mem_of_getElem? (i := 18) rfl)))) (mvT hZ (hw _ (List.mem_of_getElem? (i := 18) rfl))) (mvT hZ (hw _ (List.mem_of_getElem? (i := 17) rfl))) (by decide) (backOf (W := 0) (rm4 l Z a0 hw [] T263.heap n0 p1 p2 p3 A K EN OL263) hZ (hw _ (List.mem_of_getElem? (i := 19) rfl)) (hw _ (List.mem_of_getElem? (i := 6) rfl)) (by decide) (by decide)) q273a q273c (g := (mkF m 59 #[.val (.int p1), .val (.int p2), .val (.int p3), .val (.ref (A 4)), .val (.ref r262), .val (.ref r263), .val (.ref (A 0)), .val (.int (1 : Int32)), .unset] [(.ref (A 0))])) rfl (by rw [hml]; rfl) (Steps.refl _) (argsL := []) (rest := []) (lenOf own_pd5 rfl) rfl (by show 2 * 0 + _ ≤ _; exact Nat.le_of_eq rfl) (hb hby at_59) (fun _ _ => ⟨rfl, e272, (by decide : 2 + 0 ≤ _), (by decide : 2 + 0 ≤ _)⟩)
        dsimp only [Pt.U, Pt.locs, Pt.cells, Pt.slots] at X273 l273 y273 z273 st273 hQ273
        subst l273 y273 z273
        obtain ⟨rfl, N273q, e273⟩ := hQ273
        have N273 := Fr.app N272 N273q
        obtain ⟨fs, hr, hrun, hended, hW, hsame⟩ := X273.leave (v := some (.int (1 : Int32))) (fun h => by rw [Bd.returns] at h; cases h)
        refine ⟨_, _, pre0 _ ?_, hrun, hended, _, _, rfl, ?_, ⟨_, rfl⟩, hW, hsame.mono (by decide) (by decide)⟩
        · show Steps p.tables e below (s₁.setTop (mkF m 0 #[.val (.int p1), .val (.int p2), .val (.int p3), .unset, .unset, .unset, .unset, .unset, .unset] [])) _
          refine XS.iloadN X0.here hx rfl (hb hby at_0) rfl ?_
          show Steps p.tables e below (s₁.setTop (mkF m 1 #[.val (.int p1), .val (.int p2), .val (.int p3), .unset, .unset, .unset, .unset, .unset, .unset] [(.int p1)])) _
          refine st261 _ ?_
          show Steps p.tables e below (T261.setTop (mkF m 4 #[.val (.int p1), .val (.int p2), .val (.int p3), .unset, .unset, .unset, .unset, .unset, .unset] [(.ref (A 4))])) _
          refine XS.astoreN X261.here hx rfl (hb hby at_4) rfl rfl (l' := #[.val (.int p1), .val (.int p2), .val (.int p3), .val (.ref (A 4)), .unset, .unset, .unset, .unset, .unset]) rfl ?_
          show Steps p.tables e below (T261.setTop (mkF m 5 #[.val (.int p1), .val (.int p2), .val (.int p3), .val (.ref (A 4)), .unset, .unset, .unset, .unset, .unset] [])) _
          refine XS.iloadN X261.here hx rfl (hb hby at_5) rfl ?_
          show Steps p.tables e below (T261.setTop (mkF m 6 #[.val (.int p1), .val (.int p2), .val (.int p3), .val (.ref (A 4)), .unset, .unset, .unset, .unset, .unset] [(.int p2)])) _
          refine st262 _ ?_
          show Steps p.tables e below (T262.setTop (mkF m 9 #[.val (.int p1), .val (.int p2), .val (.int p3), .val (.ref (A 4)), .unset, .unset, .unset, .unset, .unset] [(.ref r262)])) _
          refine XS.astore X262.here hx rfl (hb hby at_9) rfl rfl (l' := #[.val (.int p1), .val (.int p2), .val (.int p3), .val (.ref (A 4)), .val (.ref r262), .unset, .unset, .unset, .unset]) rfl ?_
          show Steps p.tables e below (T262.setTop (mkF m 11 #[.val (.int p1), .val (.int p2), .val (.int p3), .val (.ref (A 4)), .val (.ref r262), .unset, .unset, .unset, .unset] [])) _
          refine XS.iloadN X262.here hx rfl (hb hby at_11) rfl ?_
          show Steps p.tables e below (T262.setTop (mkF m 12 #[.val (.int p1), .val (.int p2), .val (.int p3), .val (.ref (A 4)), .val (.ref r262), .unset, .unset, .unset, .unset] [(.int p3)])) _
          refine st263 _ ?_
          show Steps p.tables e below (T263.setTop (mkF m 15 #[.val (.int p1), .val (.int p2), .val (.int p3), .val (.ref (A 4)), .val (.ref r262), .unset, .unset, .unset, .unset] [(.ref r263)])) _
          refine XS.astore X263.here hx rfl (hb hby at_15) rfl rfl (l' := #[.val (.int p1), .val (.int p2), .val (.int p3), .val (.ref (A 4)), .val (.ref r262), .val (.ref r263), .unset, .unset, .unset]) rfl ?_
          show Steps p.tables e below (T263.setTop (mkF m 17 #[.val (.int p1), .val (.int p2), .val (.int p3), .val (.ref (A 4)), .val (.ref r262), .val (.ref r263), .unset, .unset, .unset] [])) _
          refine XS.aloadN X263.here hx rfl (hb hby at_17) rfl rfl ?_
          show Steps p.tables e below (T263.setTop (mkF m 18 #[.val (.int p1), .val (.int p2), .val (.int p3), .val (.ref (A 4)), .val (.ref r262), .val (.ref r263), .unset, .unset, .unset] [(.ref (A 4))])) _
          refine st264.trans ?_
          show Steps p.tables e below (T264.setTop (mkF m 21 #[.val (.int p1), .val (.int p2), .val (.int p3), .val (.ref (A 4)), .val (.ref r262), .val (.ref r263), .unset, .unset, .unset] [(.ref (A 0))])) _
          refine XS.astore X264.here hx rfl (hb hby at_21) rfl rfl (l' := #[.val (.int p1), .val (.int p2), .val (.int p3), .val (.ref (A 4)), .val (.ref r262), .val (.ref r263), .val (.ref (A 0)), .unset, .unset]) rfl ?_
          show Steps p.tables e below (T264.setTop (mkF m 23 #[.val (.int p1), .val (.int p2), .val (.int p3), .val (.ref (A 4)), .val (.ref r262), .val (.ref r263), .val (.ref (A 0)), .unset, .unset] [])) _
          refine XS.aload X264.here hx rfl (hb hby at_23) rfl rfl ?_
          show Steps p.tables e below (T264.setTop (mkF m 25 #[.val (.int p1), .val (.int p2), .val (.int p3), .val (.ref (A 4)), .val (.ref r262), .val (.ref r263), .val (.ref (A 0)), .unset, .unset] [(.ref (A 0))])) _
          refine XS.ifnonnullYes X264.here hx rfl (pc0 := 25) (pc' := 30) rfl (hb hby at_25) rfl (by decide) (by decide) ?_
          show Steps p.tables e below (T264.setTop (mkF m 30 #[.val (.int p1), .val (.int p2), .val (.int p3), .val (.ref (A 4)), .val (.ref r262), .val (.ref r263), .val (.ref (A 0)), .unset, .unset] [])) _
          refine XS.aloadN X264.here hx rfl (hb hby at_30) rfl rfl ?_
          show Steps p.tables e below (T264.setTop (mkF m 31 #[.val (.int p1), .val (.int p2), .val (.int p3), .val (.ref (A 4)), .val (.ref r262), .val (.ref r263), .val (.ref (A 0)), .unset, .unset] [(.ref (A 4))])) _
          refine XS.aload X264.here hx rfl (hb hby at_31) rfl rfl ?_
          show Steps p.tables e below (T264.setTop (mkF m 33 #[.val (.int p1), .val (.int p2), .val (.int p3), .val (.ref (A 4)), .val (.ref r262), .val (.ref r263), .val (.ref (A 0)), .unset, .unset] [(.ref r262), (.ref (A 4))])) _
          refine XS.aload X264.here hx rfl (hb hby at_33) rfl rfl ?_
          show Steps p.tables e below (T264.setTop (mkF m 35 #[.val (.int p1), .val (.int p2), .val (.int p3), .val (.ref (A 4)), .val (.ref r262), .val (.ref r263), .val (.ref (A 0)), .unset, .unset] [(.ref r263), (.ref r262), (.ref (A 4))])) _
          refine st269.trans ?_
          show Steps p.tables e below (T269.setTop (mkF m 38 #[.val (.int p1), .val (.int p2), .val (.int p3), .val (.ref (A 4)), .val (.ref r262), .val (.ref r263), .val (.ref (A 0)), .unset, .unset] [(.int (0 : Int32))])) _
          refine XS.aload X269.here hx rfl (hb hby at_38) rfl rfl ?_
          show Steps p.tables e below (T269.setTop (mkF m 40 #[.val (.int p1), .val (.int p2), .val (.int p3), .val (.ref (A 4)), .val (.ref r262), .val (.ref r263), .val (.ref (A 0)), .unset, .unset] [(.ref (A 0)), (.int (0 : Int32))])) _
          refine XS.aload X269.here hx rfl (hb hby at_40) rfl rfl ?_
          show Steps p.tables e below (T269.setTop (mkF m 42 #[.val (.int p1), .val (.int p2), .val (.int p3), .val (.ref (A 4)), .val (.ref r262), .val (.ref r263), .val (.ref (A 0)), .unset, .unset] [(.ref r263), (.ref (A 0)), (.int (0 : Int32))])) _
          refine XS.aload X269.here hx rfl (hb hby at_42) rfl rfl ?_
          show Steps p.tables e below (T269.setTop (mkF m 44 #[.val (.int p1), .val (.int p2), .val (.int p3), .val (.ref (A 4)), .val (.ref r262), .val (.ref r263), .val (.ref (A 0)), .unset, .unset] [(.ref r262), (.ref r263), (.ref (A 0)), (.int (0 : Int32))])) _
          refine st272.trans ?_
          show Steps p.tables e below (T272.setTop (mkF m 47 #[.val (.int p1), .val (.int p2), .val (.int p3), .val (.ref (A 4)), .val (.ref r262), .val (.ref r263), .val (.ref (A 0)), .unset, .unset] [(.int (0 : Int32)), (.int (0 : Int32))])) _
          refine XS.icmpNo X272.here hx rfl (hb hby at_47) rfl (teq (by decide : (0 : Int32) = (0 : Int32))).2 ?_
          show Steps p.tables e below (T272.setTop (mkF m 50 #[.val (.int p1), .val (.int p2), .val (.int p3), .val (.ref (A 4)), .val (.ref r262), .val (.ref r263), .val (.ref (A 0)), .unset, .unset] [])) _
          refine XS.iconst X272.here hx rfl (hb hby at_50) ?_
          show Steps p.tables e below (T272.setTop (mkF m 51 #[.val (.int p1), .val (.int p2), .val (.int p3), .val (.ref (A 4)), .val (.ref r262), .val (.ref r263), .val (.ref (A 0)), .unset, .unset] [(.int (1 : Int32))])) _
          refine XS.goto X272.here hx rfl (pc0 := 51) (pc' := 55) rfl (hb hby at_51) (by decide) (by decide) ?_
          show Steps p.tables e below (T272.setTop (mkF m 55 #[.val (.int p1), .val (.int p2), .val (.int p3), .val (.ref (A 4)), .val (.ref r262), .val (.ref r263), .val (.ref (A 0)), .unset, .unset] [(.int (1 : Int32))])) _
          refine XS.istore X272.here hx rfl (hb hby at_55) rfl (l' := #[.val (.int p1), .val (.int p2), .val (.int p3), .val (.ref (A 4)), .val (.ref r262), .val (.ref r263), .val (.ref (A 0)), .val (.int (1 : Int32)), .unset]) rfl ?_
          show Steps p.tables e below (T272.setTop (mkF m 57 #[.val (.int p1), .val (.int p2), .val (.int p3), .val (.ref (A 4)), .val (.ref r262), .val (.ref r263), .val (.ref (A 0)), .val (.int (1 : Int32)), .unset] [])) _
          refine XS.aload X272.here hx rfl (hb hby at_57) rfl rfl ?_
          show Steps p.tables e below (T272.setTop (mkF m 59 #[.val (.int p1), .val (.int p2), .val (.int p3), .val (.ref (A 4)), .val (.ref r262), .val (.ref r263), .val (.ref (A 0)), .val (.int (1 : Int32)), .unset] [(.ref (A 0))])) _
          refine st273.trans ?_
          show Steps p.tables e below (T273.setTop (mkF m 62 #[.val (.int p1), .val (.int p2), .val (.int p3), .val (.ref (A 4)), .val (.ref r262), .val (.ref r263), .val (.ref (A 0)), .val (.int (1 : Int32)), .unset] [(.ref (A 4))])) _
          refine XS.aloadN X273.here hx rfl (hb hby at_62) rfl rfl ?_
          show Steps p.tables e below (T273.setTop (mkF m 63 #[.val (.int p1), .val (.int p2), .val (.int p3), .val (.ref (A 4)), .val (.ref r262), .val (.ref r263), .val (.ref (A 0)), .val (.int (1 : Int32)), .unset] [(.ref (A 4)), (.ref (A 4))])) _
          refine Jvm.RoadKit.acmp (g := (mkF m 63 #[.val (.int p1), .val (.int p2), .val (.int p3), .val (.ref (A 4)), .val (.ref r262), .val (.ref r263), .val (.ref (A 0)), .val (.int (1 : Int32)), .unset] [(.ref (A 4)), (.ref (A 4))])) X273 hx rfl rfl rfl (pc0 := 63) (pc' := 66) (same := true) rfl (hb hby at_63) rfl (decide_eq_true rfl) (by decide) (by decide) ?_
          show Steps p.tables e below (T273.setTop (mkF m 66 #[.val (.int p1), .val (.int p2), .val (.int p3), .val (.ref (A 4)), .val (.ref r262), .val (.ref r263), .val (.ref (A 0)), .val (.int (1 : Int32)), .unset] [])) _
          refine XS.iconst X273.here hx rfl (hb hby at_66) ?_
          show Steps p.tables e below (T273.setTop (mkF m 67 #[.val (.int p1), .val (.int p2), .val (.int p3), .val (.ref (A 4)), .val (.ref r262), .val (.ref r263), .val (.ref (A 0)), .val (.int (1 : Int32)), .unset] [(.int (1 : Int32))])) _
          refine XS.goto X273.here hx rfl (pc0 := 67) (pc' := 71) rfl (hb hby at_67) (by decide) (by decide) ?_
          show Steps p.tables e below (T273.setTop (mkF m 71 #[.val (.int p1), .val (.int p2), .val (.int p3), .val (.ref (A 4)), .val (.ref r262), .val (.ref r263), .val (.ref (A 0)), .val (.int (1 : Int32)), .unset] [(.int (1 : Int32))])) _
          refine XS.istore X273.here hx rfl (hb hby at_71) rfl (l' := #[.val (.int p1), .val (.int p2), .val (.int p3), .val (.ref (A 4)), .val (.ref r262), .val (.ref r263), .val (.ref (A 0)), .val (.int (1 : Int32)), .val (.int (1 : Int32))]) rfl ?_
          show Steps p.tables e below (T273.setTop (mkF m 73 #[.val (.int p1), .val (.int p2), .val (.int p3), .val (.ref (A 4)), .val (.ref r262), .val (.ref r263), .val (.ref (A 0)), .val (.int (1 : Int32)), .val (.int (1 : Int32))] [])) _
          refine XS.iload X273.here hx rfl (hb hby at_73) rfl ?_
          show Steps p.tables e below (T273.setTop (mkF m 75 #[.val (.int p1), .val (.int p2), .val (.int p3), .val (.ref (A 4)), .val (.ref r262), .val (.ref r263), .val (.ref (A 0)), .val (.int (1 : Int32)), .val (.int (1 : Int32))] [(.int (1 : Int32))])) _
          refine XS.ifNo X273.here hx rfl (hb hby at_75) rfl ((if0 _ _).trans (feq (by decide : ¬ ((1 : Int32) = (0 : Int32)))).1) ?_
          show Steps p.tables e below (T273.setTop (mkF m 78 #[.val (.int p1), .val (.int p2), .val (.int p3), .val (.ref (A 4)), .val (.ref r262), .val (.ref r263), .val (.ref (A 0)), .val (.int (1 : Int32)), .val (.int (1 : Int32))] [])) _
          refine XS.iload X273.here hx rfl (hb hby at_78) rfl ?_
          show Steps p.tables e below (T273.setTop (mkF m 80 #[.val (.int p1), .val (.int p2), .val (.int p3), .val (.ref (A 4)), .val (.ref r262), .val (.ref r263), .val (.ref (A 0)), .val (.int (1 : Int32)), .val (.int (1 : Int32))] [(.int (1 : Int32))])) _
          refine XS.ifNo X273.here hx rfl (hb hby at_80) rfl ((if0 _ _).trans (feq (by decide : ¬ ((1 : Int32) = (0 : Int32)))).1) ?_
          show Steps p.tables e below (T273.setTop (mkF m 83 #[.val (.int p1), .val (.int p2), .val (.int p3), .val (.ref (A 4)), .val (.ref r262), .val (.ref r263), .val (.ref (A 0)), .val (.int (1 : Int32)), .val (.int (1 : Int32))] [])) _
          refine XS.iconst X273.here hx rfl (hb hby at_83) ?_
          show Steps p.tables e below (T273.setTop (mkF m 84 #[.val (.int p1), .val (.int p2), .val (.int p3), .val (.ref (A 4)), .val (.ref r262), .val (.ref r263), .val (.ref (A 0)), .val (.int (1 : Int32)), .val (.int (1 : Int32))] [(.int (1 : Int32))])) _
          refine XS.goto X273.here hx rfl (pc0 := 84) (pc' := 88) rfl (hb hby at_84) (by decide) (by decide) ?_
          show Steps p.tables e below (T273.setTop (mkF m 88 #[.val (.int p1), .val (.int p2), .val (.int p3), .val (.ref (A 4)), .val (.ref r262), .val (.ref r263), .val (.ref (A 0)), .val (.int (1 : Int32)), .val (.int (1 : Int32))] [(.int (1 : Int32))])) _
          exact retN X273 hx (t := .boolean) Bd.returns (by simp) (hb hby at_88) hr
        · show LQ n0 _ T273.heap _
          exact ⟨rfl, N273, trivial⟩
      · obtain ⟨_, _, ⟨T274, L274, k274, n274⟩, -, X274, ⟨Lc274, hQ274, l274, y274, z274⟩, st274⟩ := Jvm.LawKit.callS X0 hx (y := own_m7) hown (mvT hZ (hw _ (List.mem_of_getElem? (i := 0) rfl))) (mvT hZ (hw _ (List.mem_of_getElem? (i := 1) rfl))) (mvT hZ (hw _ (List.mem_of_getElem? (i := 2) rfl))) (mvT hZ (hw _ (List.mem_of_getElem? (i := 3) rfl))) (by decide) (backOf (W := 0) (rm74 l Z a0 hw [] h0 n0 p1 p2 p3 A K EN OL0 hk16) hZ (hw _ (List.mem_of_getElem? (i := 3) rfl)) (hw _ (List.mem_of_getElem? (i := 2) rfl)) (by decide) (by decide)) (g := (mkF m 1 #[.val (.int p1), .val (.int p2), .val (.int p3), .unset, .unset, .unset, .unset, .unset, .unset] [(.int p1)])) rfl (by rw [hml]; rfl) (argsL := [(.int p1)]) (rest := []) (lenOf own_pd2 rfl) rfl (by show 2 * 0 + _ ≤ _; exact Nat.le_of_eq rfl) (hb hby at_1) (fun _ _ => ⟨rfl, e0, (by decide : 0 + 0 ≤ _), (by decide : 0 + 0 ≤ _)⟩)
        dsimp only [Pt.U, Pt.locs, Pt.cells, Pt.slots] at X274 l274 y274 z274 st274 hQ274
        subst l274 y274 z274
        obtain ⟨rfl, N274q, e274⟩ := hQ274
        have N274 := Fr.app N0 N274q
        obtain ⟨_, _, ⟨T275, L275, k275, n275⟩, -, X275, ⟨Lc275, hQ275, l275, y275, z275⟩, st275⟩ := Jvm.LawKit.callS X274 hx (y := own_m4) hown (mvT hZ (hw _ (List.mem_of_getElem? (i := 8) rfl))) (mvT hZ (hw _ (List.mem_of_getElem? (i := 9) rfl))) (mvT hZ (hw _ (List.mem_of_getElem? (i := 10) rfl))) (mvT hZ (hw _ (List.mem_of_getElem? (i := 11) rfl))) (by decide) (backOf (W := 0) (rmV l Z a0 hw [] h0 n0 A K p2 EN OL0) hZ (hw _ (List.mem_of_getElem? (i := 11) rfl)) (hw _ (List.mem_of_getElem? (i := 10) rfl)) (by decide) (by decide)) (g := (mkF m 6 #[.val (.int p1), .val (.int p2), .val (.int p3), .val (.ref (A 4)), .unset, .unset, .unset, .unset, .unset] [(.int p2)])) rfl (by rw [hml]; rfl) (argsL := [(.int p2)]) (rest := []) (lenOf own_pd3 rfl) rfl (by show 2 * 0 + _ ≤ _; exact Nat.le_of_eq rfl) (hb hby at_6) (fun _ _ => ⟨rfl, e274, (by decide : 0 + 1 ≤ _), (by decide : 0 + 1 ≤ _)⟩)
        dsimp only [Pt.U, Pt.locs, Pt.cells, Pt.slots] at X275 l275 y275 z275 st275 hQ275
        subst l275 y275 z275
        obtain ⟨r275, rfl, N275q, K275c, er275, fr275⟩ := hQ275
        have N275 := Fr.app N274 N275q
        have OL275 : Old Z n0 T275.heap := OL0.keep K275c all0
        have KK275 : Keep h0 T275.heap [] := KK0.trans K275c all0
        obtain ⟨_, _, ⟨T276, L276, k276, n276⟩, -, X276, ⟨Lc276, hQ276, l276, y276, z276⟩, st276⟩ := Jvm.LawKit.callS X275 hx (y := own_m4) hown (mvT hZ (hw _ (List.mem_of_getElem? (i := 8) rfl))) (mvT hZ (hw _ (List.mem_of_getElem? (i := 9) rfl))) (mvT hZ (hw _ (List.mem_of_getElem? (i := 10) rfl))) (mvT hZ (hw _ (List.mem_of_getElem? (i := 11) rfl))) (by decide) (backOf (W := 0) (rmV l Z a0 hw [] T275.heap n0 A K p3 EN OL275) hZ (hw _ (List.mem_of_getElem? (i := 11) rfl)) (hw _ (List.mem_of_getElem? (i := 10) rfl)) (by decide) (by decide)) (g := (mkF m 12 #[.val (.int p1), .val (.int p2), .val (.int p3), .val (.ref (A 4)), .val (.ref r275), .unset, .unset, .unset, .unset] [(.int p3)])) rfl (by rw [hml]; rfl) (argsL := [(.int p3)]) (rest := []) (lenOf own_pd3 rfl) rfl (by show 2 * 0 + _ ≤ _; exact Nat.le_of_eq rfl) (hb hby at_12) (fun _ _ => ⟨rfl, rfl, (by decide : 1 + 1 ≤ _), (by decide : 1 + 1 ≤ _)⟩)
        dsimp only [Pt.U, Pt.locs, Pt.cells, Pt.slots] at X276 l276 y276 z276 st276 hQ276
        subst l276 y276 z276
        obtain ⟨r276, rfl, N276q, K276c, er276, fr276⟩ := hQ276
        have N276 := Fr.app N275 N276q
        have OL276 : Old Z n0 T276.heap := OL275.keep K276c all0
        have KK276 : Keep h0 T276.heap [] := KK275.trans K276c all0
        obtain ⟨cq277, kq277, q277a, q277b, q277c⟩ := isOf hZ rfl (EN.2.1.2.1.ext OL276.2)
        obtain ⟨_, _, ⟨T277, L277, k277, n277⟩, -, X277, ⟨Lc277, hQ277, l277, y277, z277⟩, st277⟩ := X276.virtualBack hx (y := own_m2) (z := own_m2) hown (mvT hZ (hw _ (List.mem_of_getElem? (i := 15) rfl))) (mvT hZ (hw _ (List.mem_of_getElem? (i := 16) rfl))) (notFace_of_selects (args := #[]) (mvT hZ (hw _ (List.mem_of_getElem? (i := 18) rfl)))) (mvT hZ (hw _ (List.mem_of_getElem? (i := 18) rfl))) (mvT hZ (hw _ (List.mem_of_getElem? (i := 17) rfl))) (by decide) (backOf (W := 0) (rm17 l Z a0 hw [] T276.heap n0 p1 p2 p3 A K EN OL276) hZ (hw _ (List.mem_of_getElem? (i := 19) rfl)) (hw _ (List.mem_of_getElem? (i := 6) rfl)) (by decide) (by decide)) q277a q277c (g := (mkF m 18 #[.val (.int p1), .val (.int p2), .val (.int p3), .val (.ref (A 4)), .val (.ref r275), .val (.ref r276), .unset, .unset, .unset] [(.ref (A 4))])) rfl (by rw [hml]; rfl) (Steps.refl _) (argsL := []) (rest := []) (lenOf own_pd5 rfl) rfl (by show 2 * 0 + _ ≤ _; exact Nat.le_of_eq rfl) (hb hby at_18) (fun _ _ => ⟨rfl, rfl, (by decide : 2 + 0 ≤ _), (by decide : 2 + 0 ≤ _)⟩)
        dsimp only [Pt.U, Pt.locs, Pt.cells, Pt.slots] at X277 l277 y277 z277 st277 hQ277
        subst l277 y277 z277
        obtain ⟨rfl, N277q, e277⟩ := hQ277
        have N277 := Fr.app N276 N277q
        have fx280 : Exa Z T276.heap r275 "java/lang/Integer" := (er275.keep K276c)
        have fx281 : Fld Z T276.heap r275 "java/lang/Integer" "value" "I" (.int p2) := (fr275.keep K276c nin0)
        obtain ⟨cq282, kq282, q282a, q282b, q282c⟩ := isOf hZ e277 (EN.2.1.2.1.ext OL276.2)
        obtain ⟨_, _, ⟨T282, L282, k282, n282⟩, -, X282, ⟨Lc282, hQ282, l282, y282, z282⟩, st282⟩ := X277.virtualBack hx (y := own_m0) (z := own_m0) hown (mvT hZ (hw _ (List.mem_of_getElem? (i := 31) rfl))) (mvT hZ (hw _ (List.mem_of_getElem? (i := 32) rfl))) (notFace_of_selects (args := #[]) (mvT hZ (hw _ (List.mem_of_getElem? (i := 34) rfl)))) (mvT hZ (hw _ (List.mem_of_getElem? (i := 34) rfl))) (mvT hZ (hw _ (List.mem_of_getElem? (i := 33) rfl))) (by decide) (backOf (W := 0) (rm79 l Z a0 hw [] T276.heap n0 p1 p2 p3 A K r275 r276 EN OL276 fx280 er276 fx281 fr276 hp_245 hp_260) hZ (hw _ (List.mem_of_getElem? (i := 35) rfl)) (hw _ (List.mem_of_getElem? (i := 6) rfl)) (by decide) (by decide)) q282a q282c (g := (mkF m 35 #[.val (.int p1), .val (.int p2), .val (.int p3), .val (.ref (A 4)), .val (.ref r275), .val (.ref r276), .val (.ref (A 0)), .unset, .unset] [(.ref r276), (.ref r275), (.ref (A 4))])) rfl (by rw [hml]; rfl) (Steps.refl _) (argsL := [(.ref r275), (.ref r276)]) (rest := []) (lenOf own_pd10 rfl) rfl (by show 2 * 0 + _ ≤ _; exact Nat.le_of_eq rfl) (hb hby at_35) (fun _ _ => ⟨rfl, e277, (by decide : 2 + 0 ≤ _), (by decide : 2 + 0 ≤ _)⟩)
        dsimp only [Pt.U, Pt.locs, Pt.cells, Pt.slots] at X282 l282 y282 z282 st282 hQ282
        subst l282 y282 z282
        obtain ⟨rfl, N282q, e282⟩ := hQ282
        have N282 := Fr.app N277 N282q
        obtain ⟨cq285, kq285, q285a, q285b, q285c⟩ := isOf hZ e282 (EN.1.2.1.ext OL276.2)
        obtain ⟨_, _, ⟨T285, L285, k285, n285⟩, -, X285, ⟨Lc285, hQ285, l285, y285, z285⟩, st285⟩ := X282.virtualBack hx (y := own_m0) (z := own_m0) hown (mvT hZ (hw _ (List.mem_of_getElem? (i := 31) rfl))) (mvT hZ (hw _ (List.mem_of_getElem? (i := 32) rfl))) (notFace_of_selects (args := #[]) (mvT hZ (hw _ (List.mem_of_getElem? (i := 34) rfl)))) (mvT hZ (hw _ (List.mem_of_getElem? (i := 34) rfl))) (mvT hZ (hw _ (List.mem_of_getElem? (i := 33) rfl))) (by decide) (backOf (W := 1) (rm80 l Z a0 hw [] T276.heap n0 p1 p2 p3 A K r275 r276 EN OL276 er276 fx280 fr276 fx281 hp_245 hp_260) hZ (hw _ (List.mem_of_getElem? (i := 35) rfl)) (hw _ (List.mem_of_getElem? (i := 6) rfl)) (by decide) (by decide)) q285a q285c (g := (mkF m 44 #[.val (.int p1), .val (.int p2), .val (.int p3), .val (.ref (A 4)), .val (.ref r275), .val (.ref r276), .val (.ref (A 0)), .unset, .unset] [(.ref r275), (.ref r276), (.ref (A 0)), (.int (1 : Int32))])) rfl (by rw [hml]; rfl) (Steps.refl _) (argsL := [(.ref r276), (.ref r275)]) (rest := [(.int (1 : Int32))]) (lenOf own_pd10 rfl) rfl (by show 2 * 0 + _ ≤ _; exact Nat.le_of_eq rfl) (hb hby at_44) (fun _ _ => ⟨rfl, e282, (by decide : 2 + 0 ≤ _), (by decide : 2 + 0 ≤ _)⟩)
        dsimp only [Pt.U, Pt.locs, Pt.cells, Pt.slots] at X285 l285 y285 z285 st285 hQ285
        subst l285 y285 z285
        obtain ⟨rfl, N285q, e285⟩ := hQ285
        have N285 := Fr.app N282 N285q
        obtain ⟨cq286, kq286, q286a, q286b, q286c⟩ := isOf hZ e285 (EN.1.2.1.ext OL276.2)
        obtain ⟨_, _, ⟨T286, L286, k286, n286⟩, -, X286, ⟨Lc286, hQ286, l286, y286, z286⟩, st286⟩ := X285.virtualBack hx (y := own_m2) (z := own_m2) hown (mvT hZ (hw _ (List.mem_of_getElem? (i := 15) rfl))) (mvT hZ (hw _ (List.mem_of_getElem? (i := 16) rfl))) (notFace_of_selects (args := #[]) (mvT hZ (hw _ (List.mem_of_getElem? (i := 18) rfl)))) (mvT hZ (hw _ (List.mem_of_getElem? (i := 18) rfl))) (mvT hZ (hw _ (List.mem_of_getElem? (i := 17) rfl))) (by decide) (backOf (W := 0) (rm4 l Z a0 hw [] T276.heap n0 p1 p2 p3 A K EN OL276) hZ (hw _ (List.mem_of_getElem? (i := 19) rfl)) (hw _ (List.mem_of_getElem? (i := 6) rfl)) (by decide) (by decide)) q286a q286c (g := (mkF m 59 #[.val (.int p1), .val (.int p2), .val (.int p3), .val (.ref (A 4)), .val (.ref r275), .val (.ref r276), .val (.ref (A 0)), .val (.int (1 : Int32)), .unset] [(.ref (A 0))])) rfl (by rw [hml]; rfl) (Steps.refl _) (argsL := []) (rest := []) (lenOf own_pd5 rfl) rfl (by show 2 * 0 + _ ≤ _; exact Nat.le_of_eq rfl) (hb hby at_59) (fun _ _ => ⟨rfl, e285, (by decide : 2 + 0 ≤ _), (by decide : 2 + 0 ≤ _)⟩)
        dsimp only [Pt.U, Pt.locs, Pt.cells, Pt.slots] at X286 l286 y286 z286 st286 hQ286
        subst l286 y286 z286
        obtain ⟨rfl, N286q, e286⟩ := hQ286
        have N286 := Fr.app N285 N286q
        obtain ⟨fs, hr, hrun, hended, hW, hsame⟩ := X286.leave (v := some (.int (1 : Int32))) (fun h => by rw [Bd.returns] at h; cases h)
        refine ⟨_, _, pre0 _ ?_, hrun, hended, _, _, rfl, ?_, ⟨_, rfl⟩, hW, hsame.mono (by decide) (by decide)⟩
        · show Steps p.tables e below (s₁.setTop (mkF m 0 #[.val (.int p1), .val (.int p2), .val (.int p3), .unset, .unset, .unset, .unset, .unset, .unset] [])) _
          refine XS.iloadN X0.here hx rfl (hb hby at_0) rfl ?_
          show Steps p.tables e below (s₁.setTop (mkF m 1 #[.val (.int p1), .val (.int p2), .val (.int p3), .unset, .unset, .unset, .unset, .unset, .unset] [(.int p1)])) _
          refine st274 _ ?_
          show Steps p.tables e below (T274.setTop (mkF m 4 #[.val (.int p1), .val (.int p2), .val (.int p3), .unset, .unset, .unset, .unset, .unset, .unset] [(.ref (A 4))])) _
          refine XS.astoreN X274.here hx rfl (hb hby at_4) rfl rfl (l' := #[.val (.int p1), .val (.int p2), .val (.int p3), .val (.ref (A 4)), .unset, .unset, .unset, .unset, .unset]) rfl ?_
          show Steps p.tables e below (T274.setTop (mkF m 5 #[.val (.int p1), .val (.int p2), .val (.int p3), .val (.ref (A 4)), .unset, .unset, .unset, .unset, .unset] [])) _
          refine XS.iloadN X274.here hx rfl (hb hby at_5) rfl ?_
          show Steps p.tables e below (T274.setTop (mkF m 6 #[.val (.int p1), .val (.int p2), .val (.int p3), .val (.ref (A 4)), .unset, .unset, .unset, .unset, .unset] [(.int p2)])) _
          refine st275 _ ?_
          show Steps p.tables e below (T275.setTop (mkF m 9 #[.val (.int p1), .val (.int p2), .val (.int p3), .val (.ref (A 4)), .unset, .unset, .unset, .unset, .unset] [(.ref r275)])) _
          refine XS.astore X275.here hx rfl (hb hby at_9) rfl rfl (l' := #[.val (.int p1), .val (.int p2), .val (.int p3), .val (.ref (A 4)), .val (.ref r275), .unset, .unset, .unset, .unset]) rfl ?_
          show Steps p.tables e below (T275.setTop (mkF m 11 #[.val (.int p1), .val (.int p2), .val (.int p3), .val (.ref (A 4)), .val (.ref r275), .unset, .unset, .unset, .unset] [])) _
          refine XS.iloadN X275.here hx rfl (hb hby at_11) rfl ?_
          show Steps p.tables e below (T275.setTop (mkF m 12 #[.val (.int p1), .val (.int p2), .val (.int p3), .val (.ref (A 4)), .val (.ref r275), .unset, .unset, .unset, .unset] [(.int p3)])) _
          refine st276 _ ?_
          show Steps p.tables e below (T276.setTop (mkF m 15 #[.val (.int p1), .val (.int p2), .val (.int p3), .val (.ref (A 4)), .val (.ref r275), .unset, .unset, .unset, .unset] [(.ref r276)])) _
          refine XS.astore X276.here hx rfl (hb hby at_15) rfl rfl (l' := #[.val (.int p1), .val (.int p2), .val (.int p3), .val (.ref (A 4)), .val (.ref r275), .val (.ref r276), .unset, .unset, .unset]) rfl ?_
          show Steps p.tables e below (T276.setTop (mkF m 17 #[.val (.int p1), .val (.int p2), .val (.int p3), .val (.ref (A 4)), .val (.ref r275), .val (.ref r276), .unset, .unset, .unset] [])) _
          refine XS.aloadN X276.here hx rfl (hb hby at_17) rfl rfl ?_
          show Steps p.tables e below (T276.setTop (mkF m 18 #[.val (.int p1), .val (.int p2), .val (.int p3), .val (.ref (A 4)), .val (.ref r275), .val (.ref r276), .unset, .unset, .unset] [(.ref (A 4))])) _
          refine st277.trans ?_
          show Steps p.tables e below (T277.setTop (mkF m 21 #[.val (.int p1), .val (.int p2), .val (.int p3), .val (.ref (A 4)), .val (.ref r275), .val (.ref r276), .unset, .unset, .unset] [(.ref (A 0))])) _
          refine XS.astore X277.here hx rfl (hb hby at_21) rfl rfl (l' := #[.val (.int p1), .val (.int p2), .val (.int p3), .val (.ref (A 4)), .val (.ref r275), .val (.ref r276), .val (.ref (A 0)), .unset, .unset]) rfl ?_
          show Steps p.tables e below (T277.setTop (mkF m 23 #[.val (.int p1), .val (.int p2), .val (.int p3), .val (.ref (A 4)), .val (.ref r275), .val (.ref r276), .val (.ref (A 0)), .unset, .unset] [])) _
          refine XS.aload X277.here hx rfl (hb hby at_23) rfl rfl ?_
          show Steps p.tables e below (T277.setTop (mkF m 25 #[.val (.int p1), .val (.int p2), .val (.int p3), .val (.ref (A 4)), .val (.ref r275), .val (.ref r276), .val (.ref (A 0)), .unset, .unset] [(.ref (A 0))])) _
          refine XS.ifnonnullYes X277.here hx rfl (pc0 := 25) (pc' := 30) rfl (hb hby at_25) rfl (by decide) (by decide) ?_
          show Steps p.tables e below (T277.setTop (mkF m 30 #[.val (.int p1), .val (.int p2), .val (.int p3), .val (.ref (A 4)), .val (.ref r275), .val (.ref r276), .val (.ref (A 0)), .unset, .unset] [])) _
          refine XS.aloadN X277.here hx rfl (hb hby at_30) rfl rfl ?_
          show Steps p.tables e below (T277.setTop (mkF m 31 #[.val (.int p1), .val (.int p2), .val (.int p3), .val (.ref (A 4)), .val (.ref r275), .val (.ref r276), .val (.ref (A 0)), .unset, .unset] [(.ref (A 4))])) _
          refine XS.aload X277.here hx rfl (hb hby at_31) rfl rfl ?_
          show Steps p.tables e below (T277.setTop (mkF m 33 #[.val (.int p1), .val (.int p2), .val (.int p3), .val (.ref (A 4)), .val (.ref r275), .val (.ref r276), .val (.ref (A 0)), .unset, .unset] [(.ref r275), (.ref (A 4))])) _
          refine XS.aload X277.here hx rfl (hb hby at_33) rfl rfl ?_
          show Steps p.tables e below (T277.setTop (mkF m 35 #[.val (.int p1), .val (.int p2), .val (.int p3), .val (.ref (A 4)), .val (.ref r275), .val (.ref r276), .val (.ref (A 0)), .unset, .unset] [(.ref r276), (.ref r275), (.ref (A 4))])) _
          refine st282.trans ?_
          show Steps p.tables e below (T282.setTop (mkF m 38 #[.val (.int p1), .val (.int p2), .val (.int p3), .val (.ref (A 4)), .val (.ref r275), .val (.ref r276), .val (.ref (A 0)), .unset, .unset] [(.int (1 : Int32))])) _
          refine XS.aload X282.here hx rfl (hb hby at_38) rfl rfl ?_
          show Steps p.tables e below (T282.setTop (mkF m 40 #[.val (.int p1), .val (.int p2), .val (.int p3), .val (.ref (A 4)), .val (.ref r275), .val (.ref r276), .val (.ref (A 0)), .unset, .unset] [(.ref (A 0)), (.int (1 : Int32))])) _
          refine XS.aload X282.here hx rfl (hb hby at_40) rfl rfl ?_
          show Steps p.tables e below (T282.setTop (mkF m 42 #[.val (.int p1), .val (.int p2), .val (.int p3), .val (.ref (A 4)), .val (.ref r275), .val (.ref r276), .val (.ref (A 0)), .unset, .unset] [(.ref r276), (.ref (A 0)), (.int (1 : Int32))])) _
          refine XS.aload X282.here hx rfl (hb hby at_42) rfl rfl ?_
          show Steps p.tables e below (T282.setTop (mkF m 44 #[.val (.int p1), .val (.int p2), .val (.int p3), .val (.ref (A 4)), .val (.ref r275), .val (.ref r276), .val (.ref (A 0)), .unset, .unset] [(.ref r275), (.ref r276), (.ref (A 0)), (.int (1 : Int32))])) _
          refine st285.trans ?_
          show Steps p.tables e below (T285.setTop (mkF m 47 #[.val (.int p1), .val (.int p2), .val (.int p3), .val (.ref (A 4)), .val (.ref r275), .val (.ref r276), .val (.ref (A 0)), .unset, .unset] [(.int (1 : Int32)), (.int (1 : Int32))])) _
          refine XS.icmpNo X285.here hx rfl (hb hby at_47) rfl (teq (by decide : (1 : Int32) = (1 : Int32))).2 ?_
          show Steps p.tables e below (T285.setTop (mkF m 50 #[.val (.int p1), .val (.int p2), .val (.int p3), .val (.ref (A 4)), .val (.ref r275), .val (.ref r276), .val (.ref (A 0)), .unset, .unset] [])) _
          refine XS.iconst X285.here hx rfl (hb hby at_50) ?_
          show Steps p.tables e below (T285.setTop (mkF m 51 #[.val (.int p1), .val (.int p2), .val (.int p3), .val (.ref (A 4)), .val (.ref r275), .val (.ref r276), .val (.ref (A 0)), .unset, .unset] [(.int (1 : Int32))])) _
          refine XS.goto X285.here hx rfl (pc0 := 51) (pc' := 55) rfl (hb hby at_51) (by decide) (by decide) ?_
          show Steps p.tables e below (T285.setTop (mkF m 55 #[.val (.int p1), .val (.int p2), .val (.int p3), .val (.ref (A 4)), .val (.ref r275), .val (.ref r276), .val (.ref (A 0)), .unset, .unset] [(.int (1 : Int32))])) _
          refine XS.istore X285.here hx rfl (hb hby at_55) rfl (l' := #[.val (.int p1), .val (.int p2), .val (.int p3), .val (.ref (A 4)), .val (.ref r275), .val (.ref r276), .val (.ref (A 0)), .val (.int (1 : Int32)), .unset]) rfl ?_
          show Steps p.tables e below (T285.setTop (mkF m 57 #[.val (.int p1), .val (.int p2), .val (.int p3), .val (.ref (A 4)), .val (.ref r275), .val (.ref r276), .val (.ref (A 0)), .val (.int (1 : Int32)), .unset] [])) _
          refine XS.aload X285.here hx rfl (hb hby at_57) rfl rfl ?_
          show Steps p.tables e below (T285.setTop (mkF m 59 #[.val (.int p1), .val (.int p2), .val (.int p3), .val (.ref (A 4)), .val (.ref r275), .val (.ref r276), .val (.ref (A 0)), .val (.int (1 : Int32)), .unset] [(.ref (A 0))])) _
          refine st286.trans ?_
          show Steps p.tables e below (T286.setTop (mkF m 62 #[.val (.int p1), .val (.int p2), .val (.int p3), .val (.ref (A 4)), .val (.ref r275), .val (.ref r276), .val (.ref (A 0)), .val (.int (1 : Int32)), .unset] [(.ref (A 4))])) _
          refine XS.aloadN X286.here hx rfl (hb hby at_62) rfl rfl ?_
          show Steps p.tables e below (T286.setTop (mkF m 63 #[.val (.int p1), .val (.int p2), .val (.int p3), .val (.ref (A 4)), .val (.ref r275), .val (.ref r276), .val (.ref (A 0)), .val (.int (1 : Int32)), .unset] [(.ref (A 4)), (.ref (A 4))])) _
          refine Jvm.RoadKit.acmp (g := (mkF m 63 #[.val (.int p1), .val (.int p2), .val (.int p3), .val (.ref (A 4)), .val (.ref r275), .val (.ref r276), .val (.ref (A 0)), .val (.int (1 : Int32)), .unset] [(.ref (A 4)), (.ref (A 4))])) X286 hx rfl rfl rfl (pc0 := 63) (pc' := 66) (same := true) rfl (hb hby at_63) rfl (decide_eq_true rfl) (by decide) (by decide) ?_
          show Steps p.tables e below (T286.setTop (mkF m 66 #[.val (.int p1), .val (.int p2), .val (.int p3), .val (.ref (A 4)), .val (.ref r275), .val (.ref r276), .val (.ref (A 0)), .val (.int (1 : Int32)), .unset] [])) _
          refine XS.iconst X286.here hx rfl (hb hby at_66) ?_
          show Steps p.tables e below (T286.setTop (mkF m 67 #[.val (.int p1), .val (.int p2), .val (.int p3), .val (.ref (A 4)), .val (.ref r275), .val (.ref r276), .val (.ref (A 0)), .val (.int (1 : Int32)), .unset] [(.int (1 : Int32))])) _
          refine XS.goto X286.here hx rfl (pc0 := 67) (pc' := 71) rfl (hb hby at_67) (by decide) (by decide) ?_
          show Steps p.tables e below (T286.setTop (mkF m 71 #[.val (.int p1), .val (.int p2), .val (.int p3), .val (.ref (A 4)), .val (.ref r275), .val (.ref r276), .val (.ref (A 0)), .val (.int (1 : Int32)), .unset] [(.int (1 : Int32))])) _
          refine XS.istore X286.here hx rfl (hb hby at_71) rfl (l' := #[.val (.int p1), .val (.int p2), .val (.int p3), .val (.ref (A 4)), .val (.ref r275), .val (.ref r276), .val (.ref (A 0)), .val (.int (1 : Int32)), .val (.int (1 : Int32))]) rfl ?_
          show Steps p.tables e below (T286.setTop (mkF m 73 #[.val (.int p1), .val (.int p2), .val (.int p3), .val (.ref (A 4)), .val (.ref r275), .val (.ref r276), .val (.ref (A 0)), .val (.int (1 : Int32)), .val (.int (1 : Int32))] [])) _
          refine XS.iload X286.here hx rfl (hb hby at_73) rfl ?_
          show Steps p.tables e below (T286.setTop (mkF m 75 #[.val (.int p1), .val (.int p2), .val (.int p3), .val (.ref (A 4)), .val (.ref r275), .val (.ref r276), .val (.ref (A 0)), .val (.int (1 : Int32)), .val (.int (1 : Int32))] [(.int (1 : Int32))])) _
          refine XS.ifNo X286.here hx rfl (hb hby at_75) rfl ((if0 _ _).trans (feq (by decide : ¬ ((1 : Int32) = (0 : Int32)))).1) ?_
          show Steps p.tables e below (T286.setTop (mkF m 78 #[.val (.int p1), .val (.int p2), .val (.int p3), .val (.ref (A 4)), .val (.ref r275), .val (.ref r276), .val (.ref (A 0)), .val (.int (1 : Int32)), .val (.int (1 : Int32))] [])) _
          refine XS.iload X286.here hx rfl (hb hby at_78) rfl ?_
          show Steps p.tables e below (T286.setTop (mkF m 80 #[.val (.int p1), .val (.int p2), .val (.int p3), .val (.ref (A 4)), .val (.ref r275), .val (.ref r276), .val (.ref (A 0)), .val (.int (1 : Int32)), .val (.int (1 : Int32))] [(.int (1 : Int32))])) _
          refine XS.ifNo X286.here hx rfl (hb hby at_80) rfl ((if0 _ _).trans (feq (by decide : ¬ ((1 : Int32) = (0 : Int32)))).1) ?_
          show Steps p.tables e below (T286.setTop (mkF m 83 #[.val (.int p1), .val (.int p2), .val (.int p3), .val (.ref (A 4)), .val (.ref r275), .val (.ref r276), .val (.ref (A 0)), .val (.int (1 : Int32)), .val (.int (1 : Int32))] [])) _
          refine XS.iconst X286.here hx rfl (hb hby at_83) ?_
          show Steps p.tables e below (T286.setTop (mkF m 84 #[.val (.int p1), .val (.int p2), .val (.int p3), .val (.ref (A 4)), .val (.ref r275), .val (.ref r276), .val (.ref (A 0)), .val (.int (1 : Int32)), .val (.int (1 : Int32))] [(.int (1 : Int32))])) _
          refine XS.goto X286.here hx rfl (pc0 := 84) (pc' := 88) rfl (hb hby at_84) (by decide) (by decide) ?_
          show Steps p.tables e below (T286.setTop (mkF m 88 #[.val (.int p1), .val (.int p2), .val (.int p3), .val (.ref (A 4)), .val (.ref r275), .val (.ref r276), .val (.ref (A 0)), .val (.int (1 : Int32)), .val (.int (1 : Int32))] [(.int (1 : Int32))])) _
          exact retN X286 hx (t := .boolean) Bd.returns (by simp) (hb hby at_88) hr
        · show LQ n0 _ T286.heap _
          exact ⟨rfl, N286, trivial⟩
  | kk + 5, h, _ => exact absurd h (by omega)
set_option maxRecDepth 65536 in
set_option maxHeartbeats 40000000 in
theorem comes_1 {Post : Tables → Env → Array Value → State → Outcome → State → Prop} (hpost : ∀ tb e args s v u, (limb_1_1.after args s (.returned v) u = true ∧ limb_1_2.after args s (.returned v) u = true ∧ True) → FrameEnd s (.returned v) u (Jvm.fieldLocs frame_1_writes args s ++ Jvm.arrayLocs frame_1_arrays args s ++ Jvm.staticLocs frame_1_statics s) 16 128 → Post tb e args s (.returned v) u) :
    ArmFor flags0 classFile x code maxLocals ret World_1 tables_1 room_1 Calls_1 rest_1 Pre_1 Post := by
  intro l hfl _ _ p e ha hc hk s m args below hf hA hF happ hP
  obtain ⟨hcalls, hrest, hpre⟩ := hP
  obtain ⟨-, -, -, hnamed, -, -, -, hat⟩ := (Spec.applies_iff hf).mp happ
  obtain ⟨hg, hn⟩ := and_e (Cond.before_iff.mp (show (Jvm.Cond.and given_1 narrow_1).before args s = true from hpre))
  obtain ⟨gA0, gB0⟩ := and_e hg
  obtain ⟨gA1, gB1⟩ := and_e gB0
  obtain ⟨gA2, gB2⟩ := and_e gB1
  obtain ⟨w0, w1, w2, rfl⟩ : ∃ w0 w1 w2 : Value, args = #[w0, w1, w2] := by
    have hs : args.size = 3 := by simpa [Cond.value, given_1] using gA0
    obtain ⟨L⟩ := args
    match L, hs with
    | [w0, w1, w2], _ => exact ⟨w0, w1, w2, rfl⟩
  have hw := fun d (hd : d ∈ tables_1) => atoms_spec (ws := Jvm.Cond.code x code maxLocals ret :: tables_1) hat d (List.mem_cons_of_mem _ hd)
  have hfit : Fit s := fun {y c} hc i hi => by
    obtain ⟨ha, rfl⟩ := Array.getElem?_eq_some_iff.mp hc
    have q := List.all_eq_true.mp ((Array.all_eq_true_iff_forall_mem.mp hF) _ (Array.getElem_mem ha)) i (List.mem_range.mpr hi)
    simpa [Array.getElem?_eq_getElem hi] using q
  obtain ⟨hsets, hown0⟩ := atoms_of _ (rest_1_c_eq ▸ (show rest_1_c.before _ s = true from hrest))
  have hr0 := Cond.before_iff.mp hown0
  obtain ⟨i0, ei0⟩ := is_v gA1
  obtain rfl : w0 = (.int i0) := Option.some.inj ei0
  obtain ⟨i1, ei1⟩ := is_v gA2
  obtain rfl : w1 = (.int i1) := Option.some.inj ei1
  obtain ⟨i2, ei2⟩ := is_v gB2
  obtain rfl : w2 = (.int i2) := Option.some.inj ei2
  obtain ⟨hx0, hr0⟩ := and_e hn
  obtain ⟨hx1, hr1⟩ := and_e hr0
  obtain ⟨hx2, hr2⟩ := and_e hr1
  obtain ⟨hx3, hr3⟩ := and_e hr2
  obtain ⟨hx4, hr4⟩ := and_e hr3
  obtain ⟨hx5, hr5⟩ := and_e hr4
  obtain ⟨hx6, hr6⟩ := and_e hr5
  obtain ⟨hx7, hr7⟩ := and_e hr6
  obtain ⟨hx8, hr8⟩ := and_e hr7
  obtain ⟨aS0, eS0⟩ := exa_v hx0
  obtain ⟨aS1, eS1⟩ := exa_v hx4
  obtain ⟨aS2, eS2⟩ := exa_v hx8
  obtain ⟨aS3, eS3⟩ := exa_v hx6
  obtain ⟨aS4, eS4⟩ := exa_v hx2
  obtain ⟨aS5, eS5⟩ := exa_v (Cond.before_iff.mp (hsets _ (List.mem_of_getElem? (i := 5) rfl)))
  obtain ⟨cS5, ArS5, szS5, lnS5⟩ := own_len eS5 (Cond.before_iff.mp (hsets _ (List.mem_of_getElem? (i := 4) rfl))) (Cond.before_iff.mp (hsets _ (List.mem_of_getElem? (i := 6) rfl))) (by decide)
  have EN : own_St s (fun n => [aS0, aS1, aS2, aS3, aS4, aS5].getD n 0) (fun n => [].getD n 0) := ⟨⟨Sta.start eS0 (Or.inr ⟨(hw _ (List.mem_of_getElem? (i := 6) rfl)), (hw _ (List.mem_of_getElem? (i := 7) rfl))⟩), Exa.start eS0 hx0, Sta.start eS1 (Or.inr ⟨(hw _ (List.mem_of_getElem? (i := 6) rfl)), (hw _ (List.mem_of_getElem? (i := 63) rfl))⟩), Exa.start eS1 hx4, Sta.start eS2 (Or.inr ⟨(hw _ (List.mem_of_getElem? (i := 6) rfl)), (hw _ (List.mem_of_getElem? (i := 83) rfl))⟩), Exa.start eS2 hx8, Sta.start eS3 (Or.inr ⟨(hw _ (List.mem_of_getElem? (i := 6) rfl)), (hw _ (List.mem_of_getElem? (i := 65) rfl))⟩), Exa.start eS3 hx6, trivial⟩, ⟨Sta.start eS4 (Or.inr ⟨(hw _ (List.mem_of_getElem? (i := 6) rfl)), (hw _ (List.mem_of_getElem? (i := 30) rfl))⟩), Exa.start eS4 hx2, Sta.start eS5 (Or.inr ⟨(hw _ (List.mem_of_getElem? (i := 13) rfl)), (hsets _ (List.mem_of_getElem? (i := 2) rfl))⟩), Exa.start eS5 (Cond.before_iff.mp (hsets _ (List.mem_of_getElem? (i := 5) rfl))), own_fld eS0 (own_eqv (Term.int_eval _) hx1), own_fld eS4 (own_eqv (Term.int_eval _) hx3), own_fld eS1 (own_eqv (Term.int_eval _) hx5), own_fld eS3 (own_eqv (Term.int_eval _) hx7), trivial⟩, ⟨own_fld eS2 (own_eqv (Term.int_eval _) hr8), Sta.start (own_eqv (Term.int_eval _) (Cond.before_iff.mp (hsets _ (List.mem_of_getElem? (i := 3) rfl)))) (Or.inl (hsets _ (List.mem_of_getElem? (i := 1) rfl))), own_bxstart (fun _ => eS5) ArS5 szS5 lnS5 (Cond.before_iff.mp (hsets _ (List.mem_of_getElem? (i := 7) rfl))), trivial⟩, trivial⟩
  obtain ⟨n, o, h1, h2, h3, _, L, rfl, hQ, hq⟩ := rm0 l s _ hw tables_1 s.heap s.heap.size i0 i1 i2 (fun n => [aS0, aS1, aS2, aS3, aS4, aS5].getD n 0) (fun n => [].getD n 0) EN (Old.start s) p e ha hc hk s m _ below hf ((Spec.applies_iff_loose hf).mp happ).1 ⟨rfl, State.Warmed39.refl s, rfl⟩ trivial
  obtain ⟨rfl, N, -⟩ := hQ
  refine ⟨n, _, h1, h2, h3, hpost _ _ _ _ _ _ ⟨Cond.after_iff.mpr rfl, Cond.after_iff.mpr (eq_i res_at (Term.int_eval (1)) rfl), trivial⟩ ⟨hq.1, hq.2.1, (hq.2.2.sift fun y hy => Or.inr (N y hy)).mono (by decide) (by decide)⟩⟩
theorem main_1_1 : Claimed_1_1 := comes_1 fun _ _ _ _ _ _ h hF => ⟨h.1, hF⟩
theorem main_1_2 : Claimed_1_2 := comes_1 fun _ _ _ _ _ _ h hF => ⟨h.2.1, hF⟩
end Jvm.Pilot.@@N@@
namespace Jvm.Pilot.@@N@@
open Jvm Jvm.ClassFile Sem Op Lib Jvm.Free Jvm.Stand Jvm.Pilot.@@N@@.Jvm.D
/-! MADE BY PROGRAM (witnessworld.py) out of the Statement's table words and the real class files: 17 classes; the members and pool entries that the words name. The judged class is class 1, her method 2. -/
namespace start1
open Jvm.ClassFile
def u (s : String) : CpInfo := .utf8 (stringToUtf16 s)
/-- a pool by its gaps: so many unusable entries, then the entry; so many at the end -/
def gap : Nat → List CpInfo → List CpInfo
  | 0, r => r
  | n + 1, r => .unusable :: gap n r
def poolList (es : List (Nat × CpInfo)) (last : Nat) : List CpInfo := es.foldr (fun e r => gap e.1 (e.2 :: r)) (gap last [])
def pool (es : List (Nat × CpInfo)) (last : Nat) : Array CpInfo := ⟨poolList es last⟩
def fileOf (pool : Array CpInfo) (this : Nat) (attrs : Array Attribute := #[]) (ms : Array MethodInfo := #[]) (fl : Nat := 33) (sup : Nat := 0) (ifs : Array Nat := #[]) (fds : Array FieldInfo := #[]) : ClassFile where
  minorVersion := 0
  majorVersion := 65
  constantPool := pool
  accessFlags := fl
  thisClass := this
  superClass := sup
  interfaces := ifs
  fields := fds
  methods := ms
  attributes := attrs
def plain (name : String) (sup : Option ClassId) : Class where
  name := name
  kind := .ordinary
  loader := none
  accessFlags := 33
  super := sup
  interfaces := #[]
  cf := none
  fields := #[]
  methods := #[]
  instanceTypes := #[]
  staticTypes := #[]
  resolved := #[]
  callSites := []
  init := .initialized
  statics := none
  mirror := none

def pool0 : Array CpInfo := pool [(5, u "<init>"), (0, u "()V"), (1, .class_ 10), (1, u "java/lang/Object")] 113

def k0c0 : Code := { maxStack := 0, maxLocals := 1, code := object_method_1_code, exceptionTable := #[], attributes := #[] }
def k0m0 : Method := { name := "<init>", desc := "()V", sig := { parameters := [], returnType := none }, accessFlags := 1, code := some k0c0 }
/-- java/lang/Object -/
def k0 : Class := { plain "java/lang/Object" none with
  accessFlags := 33
  interfaces := #[]
  cf := some (fileOf pool0 8 #[] #[{ accessFlags := 1, nameIndex := 5, descriptorIndex := 6, attributes := #[] }] 33 0 #[] #[])
  fields := #[]
  methods := #[k0m0]
  instanceTypes := #[]
  staticTypes := #[]
  resolved := Array.replicate 124 none
  statics := none }

def pool1 : Array CpInfo := pool [(2, .class_ 4), (1, u "java/lang/Object"), (0, u "<init>"), (0, u "()V"), (0, .integer 2147483647), (0, .fieldref 9 10), (0, .class_ 11), (0, .nameAndType 12 13), (0, u "com/example/measurewright/measurewright/Comparison"), (0, u "LESS"), (0, u "Lcom/example/measurewright/measurewright/Comparison;"), (0, .fieldref 9 15), (0, .nameAndType 16 13), (0, u "AT_MOST"), (0, .fieldref 9 18), (0, .nameAndType 19 13), (0, u "EQUAL"), (0, .fieldref 9 21), (0, .nameAndType 22 13), (0, u "AT_LEAST"), (0, .fieldref 9 24), (0, .nameAndType 25 13), (0, u "GREATER"), (0, .methodref 27 28), (0, .class_ 29), (0, .nameAndType 30 31), (0, u "com/example/measurewright/measurewright/ComparisonConversePinLaw"), (0, u "pick"), (0, u "(I)Lcom/example/measurewright/measurewright/Comparison;"), (0, .methodref 33 34), (0, .class_ 35), (0, .nameAndType 36 37), (0, u "java/lang/Integer"), (0, u "valueOf"), (0, u "(I)Ljava/lang/Integer;"), (0, .methodref 9 39), (0, .nameAndType 40 41), (0, u "converse"), (0, u "()Lcom/example/measurewright/measurewright/Comparison;"), (0, .methodref 9 43), (0, .nameAndType 44 45), (0, u "holds"), (0, u "(Ljava/lang/Comparable;Ljava/lang/Comparable;)Z"), (3, u "law"), (0, u "(III)Z")] 2

def k1m0 : Method := { name := "<init>", desc := "()V", sig := { parameters := [], returnType := none }, accessFlags := 2, code := none }
def k1c1 : Code := { maxStack := 2, maxLocals := 2, code := method_2_code, exceptionTable := #[], attributes := #[] }
def k1m1 : Method := { name := "pick", desc := "(I)Lcom/example/measurewright/measurewright/Comparison;", sig := { parameters := [.int], returnType := some (.object "com/example/measurewright/measurewright/Comparison") }, accessFlags := 10, code := some k1c1 }
def k1c2 : Code := { maxStack := 4, maxLocals := 9, code := code, exceptionTable := #[], attributes := #[] }
def k1m2 : Method := { name := "law", desc := "(III)Z", sig := { parameters := [.int, .int, .int], returnType := some .boolean }, accessFlags := 9, code := some k1c2 }
/-- com/example/measurewright/measurewright/ComparisonConversePinLaw -/
def k1 : Class := { plain "com/example/measurewright/measurewright/ComparisonConversePinLaw" (some 0) with
  accessFlags := 49
  interfaces := #[]
  cf := some (fileOf pool1 27 #[] #[{ accessFlags := 2, nameIndex := 5, descriptorIndex := 6, attributes := #[] }, { accessFlags := 10, nameIndex := 30, descriptorIndex := 31, attributes := #[] }, { accessFlags := 9, nameIndex := 49, descriptorIndex := 50, attributes := #[] }] 49 2 #[] #[])
  fields := #[]
  methods := #[k1m0, k1m1, k1m2]
  instanceTypes := #[]
  staticTypes := #[]
  resolved := Array.replicate 53 none
  statics := none }

def pool2 : Array CpInfo := pool [(1, .class_ 2), (0, u "java/lang/constant/Constable"), (0, .class_ 4), (0, u "java/lang/Object")] 6

/-- java/lang/constant/Constable -/
def k2 : Class := { plain "java/lang/constant/Constable" (some 0) with
  accessFlags := 1537
  interfaces := #[]
  cf := some (fileOf pool2 1 #[] #[] 1537 3 #[] #[])
  fields := #[]
  methods := #[]
  instanceTypes := #[]
  staticTypes := #[]
  resolved := Array.replicate 11 none
  statics := none }

def pool3 : Array CpInfo := pool [(1, .class_ 2), (0, u "java/lang/Comparable"), (0, .class_ 4), (0, u "java/lang/Object"), (0, u "compareTo"), (0, u "(Ljava/lang/Object;)I")] 5

def k3m0 : Method := { name := "compareTo", desc := "(Ljava/lang/Object;)I", sig := { parameters := [(.object "java/lang/Object")], returnType := some .int }, accessFlags := 1025, code := none }
/-- java/lang/Comparable -/
def k3 : Class := { plain "java/lang/Comparable" (some 0) with
  accessFlags := 1537
  interfaces := #[]
  cf := some (fileOf pool3 1 #[] #[{ accessFlags := 1025, nameIndex := 5, descriptorIndex := 6, attributes := #[] }] 1537 3 #[] #[])
  fields := #[]
  methods := #[k3m0]
  instanceTypes := #[]
  staticTypes := #[]
  resolved := Array.replicate 12 none
  statics := none }

def pool4 : Array CpInfo := pool [(1, .class_ 2), (0, u "java/io/Serializable"), (0, .class_ 4), (0, u "java/lang/Object")] 2

/-- java/io/Serializable -/
def k4 : Class := { plain "java/io/Serializable" (some 0) with
  accessFlags := 1537
  interfaces := #[]
  cf := some (fileOf pool4 1 #[] #[] 1537 3 #[] #[])
  fields := #[]
  methods := #[]
  instanceTypes := #[]
  staticTypes := #[]
  resolved := Array.replicate 7 none
  statics := none }

def pool5 : Array CpInfo := pool [(2, .class_ 4), (1, u "java/lang/Enum"), (0, u "name"), (0, u "Ljava/lang/String;"), (0, .fieldref 2 8), (0, .nameAndType 9 10), (0, u "ordinal"), (0, u "I"), (1, .class_ 14), (1, u "java/lang/Object"), (4, u "hash"), (86, .class_ 108), (1, u "java/lang/Enum$EnumDesc"), (2, .class_ 112), (0, u "java/lang/constant/Constable"), (0, .class_ 114), (0, u "java/lang/Comparable"), (0, .class_ 116), (0, u "java/io/Serializable"), (9, u "()I")] 77

def k5c0 : Code := { maxStack := 1, maxLocals := 1, code := jdk_37_method_2_code, exceptionTable := #[], attributes := #[] }
def k5m0 : Method := { name := "ordinal", desc := "()I", sig := { parameters := [], returnType := some .int }, accessFlags := 17, code := some k5c0 }
/-- java/lang/Enum -/
def k5 : Class := { plain "java/lang/Enum" (some 0) with
  accessFlags := 1057
  interfaces := #[2, 3, 4]
  cf := some (fileOf pool5 2 #[.nestMembers #[106]] #[{ accessFlags := 17, nameIndex := 9, descriptorIndex := 126, attributes := #[] }] 1057 12 #[111, 113, 115] #[{ accessFlags := 18, nameIndex := 5, descriptorIndex := 6, attributes := #[] }, { accessFlags := 18, nameIndex := 9, descriptorIndex := 10, attributes := #[] }, { accessFlags := 2, nameIndex := 19, descriptorIndex := 10, attributes := #[] }])
  fields := #[{ name := "name", type := (.object "java/lang/String"), accessFlags := 18, slot := 0, constantValue := 0 }, { name := "ordinal", type := .int, accessFlags := 18, slot := 1, constantValue := 0 }, { name := "hash", type := .int, accessFlags := 2, slot := 2, constantValue := 0 }]
  methods := #[k5m0]
  instanceTypes := #[(.object "java/lang/String"), .int, .int]
  staticTypes := #[]
  resolved := Array.replicate 204 none
  statics := none }

def pool6 : Array CpInfo := pool [(1, .class_ 2), (0, u "com/example/measurewright/measurewright/Comparison"), (0, .fieldref 1 4), (0, .nameAndType 5 6), (0, u "LESS"), (0, u "Lcom/example/measurewright/measurewright/Comparison;"), (0, .fieldref 1 8), (0, .nameAndType 9 6), (0, u "AT_MOST"), (0, .fieldref 1 11), (0, .nameAndType 12 6), (0, u "EQUAL"), (0, .fieldref 1 14), (0, .nameAndType 15 6), (0, u "AT_LEAST"), (0, .fieldref 1 17), (0, .nameAndType 18 6), (0, u "GREATER"), (2, u "$VALUES"), (0, u "[Lcom/example/measurewright/measurewright/Comparison;"), (6, .class_ 31), (1, u "java/lang/Enum"), (8, u "symbol"), (0, u "Ljava/lang/String;"), (0, .interfaceMethodref 43 44), (0, .class_ 45), (0, .nameAndType 46 47), (0, u "java/lang/Comparable"), (0, u "compareTo"), (0, u "(Ljava/lang/Object;)I"), (0, .methodref 1 49), (0, .nameAndType 50 51), (0, u "satisfiedBy"), (0, u "(I)Z"), (0, .methodref 1 53), (0, .nameAndType 54 55), (0, u "ordinal"), (0, u "()I"), (35, u "holds"), (0, u "(Ljava/lang/Comparable;Ljava/lang/Comparable;)Z"), (2, u "converse"), (0, u "()Lcom/example/measurewright/measurewright/Comparison;")] 8

def k6c0 : Code := { maxStack := 3, maxLocals := 3, code := prog_3_method_5_code, exceptionTable := #[], attributes := #[] }
def k6m0 : Method := { name := "holds", desc := "(Ljava/lang/Comparable;Ljava/lang/Comparable;)Z", sig := { parameters := [(.object "java/lang/Comparable"), (.object "java/lang/Comparable")], returnType := some .boolean }, accessFlags := 0, code := some k6c0 }
def k6c1 : Code := { maxStack := 4, maxLocals := 2, code := prog_3_method_6_code, exceptionTable := #[], attributes := #[] }
def k6m1 : Method := { name := "satisfiedBy", desc := "(I)Z", sig := { parameters := [.int], returnType := some .boolean }, accessFlags := 2, code := some k6c1 }
def k6c2 : Code := { maxStack := 4, maxLocals := 1, code := prog_3_method_7_code, exceptionTable := #[], attributes := #[] }
def k6m2 : Method := { name := "converse", desc := "()Lcom/example/measurewright/measurewright/Comparison;", sig := { parameters := [], returnType := some (.object "com/example/measurewright/measurewright/Comparison") }, accessFlags := 0, code := some k6c2 }
/-- com/example/measurewright/measurewright/Comparison -/
def k6 : Class := { plain "com/example/measurewright/measurewright/Comparison" (some 5) with
  accessFlags := 16432
  interfaces := #[]
  cf := some (fileOf pool6 1 #[] #[{ accessFlags := 0, nameIndex := 91, descriptorIndex := 92, attributes := #[] }, { accessFlags := 2, nameIndex := 50, descriptorIndex := 51, attributes := #[] }, { accessFlags := 0, nameIndex := 95, descriptorIndex := 96, attributes := #[] }] 16432 29 #[] #[{ accessFlags := 16409, nameIndex := 5, descriptorIndex := 6, attributes := #[] }, { accessFlags := 16409, nameIndex := 9, descriptorIndex := 6, attributes := #[] }, { accessFlags := 16409, nameIndex := 12, descriptorIndex := 6, attributes := #[] }, { accessFlags := 16409, nameIndex := 15, descriptorIndex := 6, attributes := #[] }, { accessFlags := 16409, nameIndex := 18, descriptorIndex := 6, attributes := #[] }, { accessFlags := 18, nameIndex := 40, descriptorIndex := 41, attributes := #[] }, { accessFlags := 4122, nameIndex := 21, descriptorIndex := 22, attributes := #[] }])
  fields := #[{ name := "LESS", type := (.object "com/example/measurewright/measurewright/Comparison"), accessFlags := 16409, slot := 0, constantValue := 0 }, { name := "AT_MOST", type := (.object "com/example/measurewright/measurewright/Comparison"), accessFlags := 16409, slot := 1, constantValue := 0 }, { name := "EQUAL", type := (.object "com/example/measurewright/measurewright/Comparison"), accessFlags := 16409, slot := 2, constantValue := 0 }, { name := "AT_LEAST", type := (.object "com/example/measurewright/measurewright/Comparison"), accessFlags := 16409, slot := 3, constantValue := 0 }, { name := "GREATER", type := (.object "com/example/measurewright/measurewright/Comparison"), accessFlags := 16409, slot := 4, constantValue := 0 }, { name := "symbol", type := (.object "java/lang/String"), accessFlags := 18, slot := 3, constantValue := 0 }, { name := "$VALUES", type := (.array (.object "com/example/measurewright/measurewright/Comparison")), accessFlags := 4122, slot := 5, constantValue := 0 }]
  methods := #[k6m0, k6m1, k6m2]
  instanceTypes := #[(.object "java/lang/String"), .int, .int, (.object "java/lang/String")]
  staticTypes := #[(.object "com/example/measurewright/measurewright/Comparison"), (.object "com/example/measurewright/measurewright/Comparison"), (.object "com/example/measurewright/measurewright/Comparison"), (.object "com/example/measurewright/measurewright/Comparison"), (.object "com/example/measurewright/measurewright/Comparison"), (.array (.object "com/example/measurewright/measurewright/Comparison"))]
  resolved := Array.replicate 105 none
  statics := some 0 }

def pool7 : Array CpInfo := pool [(1, .methodref 2 3), (0, .class_ 4), (0, .nameAndType 5 6), (0, u "java/lang/Object"), (0, u "<init>"), (0, u "()V"), (1, .class_ 10), (1, u "java/lang/Number"), (2, .class_ 14), (0, u "java/io/Serializable"), (0, u "serialVersionUID"), (0, u "J")] 20

def k7c0 : Code := { maxStack := 1, maxLocals := 1, code := jdk_18_method_1_code, exceptionTable := #[], attributes := #[] }
def k7m0 : Method := { name := "<init>", desc := "()V", sig := { parameters := [], returnType := none }, accessFlags := 1, code := some k7c0 }
/-- java/lang/Number -/
def k7 : Class := { plain "java/lang/Number" (some 0) with
  accessFlags := 1057
  interfaces := #[4]
  cf := some (fileOf pool7 8 #[] #[{ accessFlags := 1, nameIndex := 5, descriptorIndex := 6, attributes := #[] }] 1057 2 #[13] #[{ accessFlags := 26, nameIndex := 15, descriptorIndex := 16, attributes := #[] }])
  fields := #[{ name := "serialVersionUID", type := .long, accessFlags := 26, slot := 0, constantValue := 0 }]
  methods := #[k7m0]
  instanceTypes := #[]
  staticTypes := #[.long]
  resolved := Array.replicate 37 none
  statics := none }

def pool8 : Array CpInfo := pool [(1, .class_ 2), (0, u "java/lang/constant/ConstantDesc"), (0, .class_ 4), (0, u "java/lang/Object")] 32

/-- java/lang/constant/ConstantDesc -/
def k8 : Class := { plain "java/lang/constant/ConstantDesc" (some 0) with
  accessFlags := 1537
  interfaces := #[]
  cf := some (fileOf pool8 1 #[] #[] 1537 3 #[] #[])
  fields := #[]
  methods := #[]
  instanceTypes := #[]
  staticTypes := #[]
  resolved := Array.replicate 37 none
  statics := none }

def pool9 : Array CpInfo := pool [(1, .class_ 2), (0, u "java/lang/Integer"), (16, u "digits"), (0, u "[C"), (39, u "(II)I"), (6, u "<init>"), (17, u "DigitOnes"), (0, u "[B"), (2, u "DigitTens"), (10, .nameAndType 67 101), (0, u "()V"), (85, u "valueOf"), (0, u "(I)Ljava/lang/Integer;"), (0, .class_ 190), (0, u "java/lang/Integer$IntegerCache"), (0, .fieldref 189 192), (0, .nameAndType 193 194), (0, u "high"), (0, u "I"), (0, .fieldref 189 196), (0, .nameAndType 197 198), (0, u "cache"), (0, u "[Ljava/lang/Integer;"), (0, .methodref 1 200), (0, .nameAndType 67 201), (0, u "(I)V"), (0, .methodref 203 100), (0, .class_ 204), (0, u "java/lang/Number"), (0, .fieldref 1 206), (0, .nameAndType 207 194), (0, u "value"), (51, .methodref 1 260), (0, .nameAndType 261 60), (0, u "compare"), (22, .methodref 1 285), (0, .nameAndType 286 287), (0, u "compareTo"), (0, u "(Ljava/lang/Integer;)I"), (14, u "TYPE"), (0, u "Ljava/lang/Class;"), (0, .class_ 305), (0, u "java/lang/Comparable"), (0, .class_ 307), (0, u "java/lang/constant/Constable"), (0, .class_ 309), (0, u "java/lang/constant/ConstantDesc"), (0, u "MIN_VALUE"), (1, u "MAX_VALUE"), (3, u "SIZE"), (1, u "BYTES"), (1, u "serialVersionUID"), (0, u "J"), (113, u "(Ljava/lang/Object;)I")] 17

def k9c0 : Code := { maxStack := 3, maxLocals := 1, code := jdk_33_method_22_code, exceptionTable := #[], attributes := #[] }
def k9m0 : Method := { name := "valueOf", desc := "(I)Ljava/lang/Integer;", sig := { parameters := [.int], returnType := some (.object "java/lang/Integer") }, accessFlags := 9, code := some k9c0 }
def k9c1 : Code := { maxStack := 2, maxLocals := 2, code := jdk_33_method_23_code, exceptionTable := #[], attributes := #[] }
def k9m1 : Method := { name := "<init>", desc := "(I)V", sig := { parameters := [.int], returnType := none }, accessFlags := 1, code := some k9c1 }
def k9c2 : Code := { maxStack := 2, maxLocals := 2, code := jdk_33_method_39_code, exceptionTable := #[], attributes := #[] }
def k9m2 : Method := { name := "compareTo", desc := "(Ljava/lang/Integer;)I", sig := { parameters := [(.object "java/lang/Integer")], returnType := some .int }, accessFlags := 1, code := some k9c2 }
def k9c3 : Code := { maxStack := 2, maxLocals := 2, code := jdk_33_method_40_code, exceptionTable := #[], attributes := #[] }
def k9m3 : Method := { name := "compare", desc := "(II)I", sig := { parameters := [.int, .int], returnType := some .int }, accessFlags := 9, code := some k9c3 }
def k9c4 : Code := { maxStack := 2, maxLocals := 2, code := jdk_33_method_63_code, exceptionTable := #[], attributes := #[] }
def k9m4 : Method := { name := "compareTo", desc := "(Ljava/lang/Object;)I", sig := { parameters := [(.object "java/lang/Object")], returnType := some .int }, accessFlags := 4161, code := some k9c4 }
/-- java/lang/Integer -/
def k9 : Class := { plain "java/lang/Integer" (some 7) with
  accessFlags := 49
  interfaces := #[3, 2, 8]
  cf := some (fileOf pool9 1 #[.nestMembers #[189]] #[{ accessFlags := 9, nameIndex := 187, descriptorIndex := 188, attributes := #[] }, { accessFlags := 1, nameIndex := 67, descriptorIndex := 201, attributes := #[] }, { accessFlags := 1, nameIndex := 286, descriptorIndex := 287, attributes := #[] }, { accessFlags := 9, nameIndex := 261, descriptorIndex := 60, attributes := #[] }, { accessFlags := 4161, nameIndex := 286, descriptorIndex := 435, attributes := #[] }] 49 203 #[304, 306, 308] #[{ accessFlags := 25, nameIndex := 310, descriptorIndex := 194, attributes := #[] }, { accessFlags := 25, nameIndex := 312, descriptorIndex := 194, attributes := #[] }, { accessFlags := 25, nameIndex := 302, descriptorIndex := 303, attributes := #[] }, { accessFlags := 24, nameIndex := 19, descriptorIndex := 20, attributes := #[] }, { accessFlags := 24, nameIndex := 89, descriptorIndex := 86, attributes := #[] }, { accessFlags := 24, nameIndex := 85, descriptorIndex := 86, attributes := #[] }, { accessFlags := 18, nameIndex := 207, descriptorIndex := 194, attributes := #[] }, { accessFlags := 25, nameIndex := 316, descriptorIndex := 194, attributes := #[] }, { accessFlags := 25, nameIndex := 318, descriptorIndex := 194, attributes := #[] }, { accessFlags := 26, nameIndex := 320, descriptorIndex := 321, attributes := #[] }])
  fields := #[{ name := "MIN_VALUE", type := .int, accessFlags := 25, slot := 0, constantValue := 0 }, { name := "MAX_VALUE", type := .int, accessFlags := 25, slot := 1, constantValue := 0 }, { name := "TYPE", type := (.object "java/lang/Class"), accessFlags := 25, slot := 2, constantValue := 0 }, { name := "digits", type := (.array .char), accessFlags := 24, slot := 3, constantValue := 0 }, { name := "DigitTens", type := (.array .byte), accessFlags := 24, slot := 4, constantValue := 0 }, { name := "DigitOnes", type := (.array .byte), accessFlags := 24, slot := 5, constantValue := 0 }, { name := "value", type := .int, accessFlags := 18, slot := 0, constantValue := 0 }, { name := "SIZE", type := .int, accessFlags := 25, slot := 6, constantValue := 0 }, { name := "BYTES", type := .int, accessFlags := 25, slot := 7, constantValue := 0 }, { name := "serialVersionUID", type := .long, accessFlags := 26, slot := 8, constantValue := 0 }]
  methods := #[k9m0, k9m1, k9m2, k9m3, k9m4]
  instanceTypes := #[.int]
  staticTypes := #[.int, .int, (.object "java/lang/Class"), (.array .char), (.array .byte), (.array .byte), .int, .int, .long]
  resolved := Array.replicate 453 none
  statics := none }

def pool10 : Array CpInfo := pool [(2, .class_ 4), (1, u "java/lang/Object"), (0, u "<init>"), (0, u "()V"), (0, .class_ 8), (0, u "java/lang/Integer"), (7, .class_ 18), (1, u "java/lang/Integer$IntegerCache"), (0, u "$assertionsDisabled"), (0, u "Z"), (26, u "high"), (0, u "I"), (8, u "archivedCache"), (0, u "[Ljava/lang/Integer;"), (12, u "cache"), (0, u "low")] 27

def k10m0 : Method := { name := "<init>", desc := "()V", sig := { parameters := [], returnType := none }, accessFlags := 2, code := none }
/-- java/lang/Integer$IntegerCache -/
def k10 : Class := { plain "java/lang/Integer$IntegerCache" (some 0) with
  accessFlags := 48
  interfaces := #[]
  cf := some (fileOf pool10 16 #[.nestHost 7] #[{ accessFlags := 2, nameIndex := 5, descriptorIndex := 6, attributes := #[] }] 48 2 #[] #[{ accessFlags := 24, nameIndex := 72, descriptorIndex := 48, attributes := #[] }, { accessFlags := 24, nameIndex := 47, descriptorIndex := 48, attributes := #[] }, { accessFlags := 24, nameIndex := 71, descriptorIndex := 58, attributes := #[] }, { accessFlags := 8, nameIndex := 57, descriptorIndex := 58, attributes := #[] }, { accessFlags := 4120, nameIndex := 19, descriptorIndex := 20, attributes := #[] }])
  fields := #[{ name := "low", type := .int, accessFlags := 24, slot := 0, constantValue := 0 }, { name := "high", type := .int, accessFlags := 24, slot := 1, constantValue := 0 }, { name := "cache", type := (.array (.object "java/lang/Integer")), accessFlags := 24, slot := 2, constantValue := 0 }, { name := "archivedCache", type := (.array (.object "java/lang/Integer")), accessFlags := 8, slot := 3, constantValue := 0 }, { name := "$assertionsDisabled", type := .boolean, accessFlags := 4120, slot := 4, constantValue := 0 }]
  methods := #[k10m0]
  instanceTypes := #[]
  staticTypes := #[.int, .int, (.array (.object "java/lang/Integer")), (.array (.object "java/lang/Integer")), .boolean]
  resolved := Array.replicate 100 none
  statics := some 1 }

def pool11 : Array CpInfo := pool [(1, u "java/lang/Cloneable"), (0, .class_ 1), (0, u "java/lang/Object"), (0, .class_ 3)] 3

/-- java/lang/Cloneable -/
def k11 : Class := { plain "java/lang/Cloneable" (some 0) with
  accessFlags := 1537
  interfaces := #[]
  cf := some (fileOf pool11 2 #[] #[] 1537 4 #[] #[])
  fields := #[]
  methods := #[]
  instanceTypes := #[]
  staticTypes := #[]
  resolved := Array.replicate 8 none
  statics := none }

/-- the primitive byte -/
def k12 : Class := { plain "byte" none with kind := .primitive 'B', accessFlags := 0x411 }
/-- [B -/
def k13 : Class := { plain "[B" (some 0) with kind := .array 12 .byte, interfaces := #[11, 4], accessFlags := 1041 }

/-- the primitive int -/
def k14 : Class := { plain "int" none with kind := .primitive 'I', accessFlags := 0x411 }
/-- [I -/
def k15 : Class := { plain "[I" (some 0) with kind := .array 14 .int, interfaces := #[11, 4], accessFlags := 1041 }

/-- [Ljava/lang/Integer; -/
def k16 : Class := { plain "[Ljava/lang/Integer;" (some 0) with kind := .array 9 (.object "java/lang/Integer"), interfaces := #[11, 4], accessFlags := 1041 }

def heap : Heap := #[{ cls := 6, slots := #[.ref 2, .ref 4, .ref 6, .ref 5, .ref 3, .null], vm := .statics 6 },
  { cls := 10, slots := #[.int 0, .int 127, .ref 263, .null, .int 0], vm := .statics 10 },
  { cls := 6, slots := #[.null, .int 0, .int 0, .null], vm := .none },
  { cls := 6, slots := #[.null, .int 4, .int 0, .null], vm := .none },
  { cls := 6, slots := #[.null, .int 1, .int 0, .null], vm := .none },
  { cls := 6, slots := #[.null, .int 3, .int 0, .null], vm := .none },
  { cls := 6, slots := #[.null, .int 2, .int 0, .null], vm := .none },
  { cls := 9, slots := #[.int (-128)], vm := .none },
  { cls := 9, slots := #[.int (-127)], vm := .none },
  { cls := 9, slots := #[.int (-126)], vm := .none },
  { cls := 9, slots := #[.int (-125)], vm := .none },
  { cls := 9, slots := #[.int (-124)], vm := .none },
  { cls := 9, slots := #[.int (-123)], vm := .none },
  { cls := 9, slots := #[.int (-122)], vm := .none },
  { cls := 9, slots := #[.int (-121)], vm := .none },
  { cls := 9, slots := #[.int (-120)], vm := .none },
  { cls := 9, slots := #[.int (-119)], vm := .none },
  { cls := 9, slots := #[.int (-118)], vm := .none },
  { cls := 9, slots := #[.int (-117)], vm := .none },
  { cls := 9, slots := #[.int (-116)], vm := .none },
  { cls := 9, slots := #[.int (-115)], vm := .none },
  { cls := 9, slots := #[.int (-114)], vm := .none },
  { cls := 9, slots := #[.int (-113)], vm := .none },
  { cls := 9, slots := #[.int (-112)], vm := .none },
  { cls := 9, slots := #[.int (-111)], vm := .none },
  { cls := 9, slots := #[.int (-110)], vm := .none },
  { cls := 9, slots := #[.int (-109)], vm := .none },
  { cls := 9, slots := #[.int (-108)], vm := .none },
  { cls := 9, slots := #[.int (-107)], vm := .none },
  { cls := 9, slots := #[.int (-106)], vm := .none },
  { cls := 9, slots := #[.int (-105)], vm := .none },
  { cls := 9, slots := #[.int (-104)], vm := .none },
  { cls := 9, slots := #[.int (-103)], vm := .none },
  { cls := 9, slots := #[.int (-102)], vm := .none },
  { cls := 9, slots := #[.int (-101)], vm := .none },
  { cls := 9, slots := #[.int (-100)], vm := .none },
  { cls := 9, slots := #[.int (-99)], vm := .none },
  { cls := 9, slots := #[.int (-98)], vm := .none },
  { cls := 9, slots := #[.int (-97)], vm := .none },
  { cls := 9, slots := #[.int (-96)], vm := .none },
  { cls := 9, slots := #[.int (-95)], vm := .none },
  { cls := 9, slots := #[.int (-94)], vm := .none },
  { cls := 9, slots := #[.int (-93)], vm := .none },
  { cls := 9, slots := #[.int (-92)], vm := .none },
  { cls := 9, slots := #[.int (-91)], vm := .none },
  { cls := 9, slots := #[.int (-90)], vm := .none },
  { cls := 9, slots := #[.int (-89)], vm := .none },
  { cls := 9, slots := #[.int (-88)], vm := .none },
  { cls := 9, slots := #[.int (-87)], vm := .none },
  { cls := 9, slots := #[.int (-86)], vm := .none },
  { cls := 9, slots := #[.int (-85)], vm := .none },
  { cls := 9, slots := #[.int (-84)], vm := .none },
  { cls := 9, slots := #[.int (-83)], vm := .none },
  { cls := 9, slots := #[.int (-82)], vm := .none },
  { cls := 9, slots := #[.int (-81)], vm := .none },
  { cls := 9, slots := #[.int (-80)], vm := .none },
  { cls := 9, slots := #[.int (-79)], vm := .none },
  { cls := 9, slots := #[.int (-78)], vm := .none },
  { cls := 9, slots := #[.int (-77)], vm := .none },
  { cls := 9, slots := #[.int (-76)], vm := .none },
  { cls := 9, slots := #[.int (-75)], vm := .none },
  { cls := 9, slots := #[.int (-74)], vm := .none },
  { cls := 9, slots := #[.int (-73)], vm := .none },
  { cls := 9, slots := #[.int (-72)], vm := .none },
  { cls := 9, slots := #[.int (-71)], vm := .none },
  { cls := 9, slots := #[.int (-70)], vm := .none },
  { cls := 9, slots := #[.int (-69)], vm := .none },
  { cls := 9, slots := #[.int (-68)], vm := .none },
  { cls := 9, slots := #[.int (-67)], vm := .none },
  { cls := 9, slots := #[.int (-66)], vm := .none },
  { cls := 9, slots := #[.int (-65)], vm := .none },
  { cls := 9, slots := #[.int (-64)], vm := .none },
  { cls := 9, slots := #[.int (-63)], vm := .none },
  { cls := 9, slots := #[.int (-62)], vm := .none },
  { cls := 9, slots := #[.int (-61)], vm := .none },
  { cls := 9, slots := #[.int (-60)], vm := .none },
  { cls := 9, slots := #[.int (-59)], vm := .none },
  { cls := 9, slots := #[.int (-58)], vm := .none },
  { cls := 9, slots := #[.int (-57)], vm := .none },
  { cls := 9, slots := #[.int (-56)], vm := .none },
  { cls := 9, slots := #[.int (-55)], vm := .none },
  { cls := 9, slots := #[.int (-54)], vm := .none },
  { cls := 9, slots := #[.int (-53)], vm := .none },
  { cls := 9, slots := #[.int (-52)], vm := .none },
  { cls := 9, slots := #[.int (-51)], vm := .none },
  { cls := 9, slots := #[.int (-50)], vm := .none },
  { cls := 9, slots := #[.int (-49)], vm := .none },
  { cls := 9, slots := #[.int (-48)], vm := .none },
  { cls := 9, slots := #[.int (-47)], vm := .none },
  { cls := 9, slots := #[.int (-46)], vm := .none },
  { cls := 9, slots := #[.int (-45)], vm := .none },
  { cls := 9, slots := #[.int (-44)], vm := .none },
  { cls := 9, slots := #[.int (-43)], vm := .none },
  { cls := 9, slots := #[.int (-42)], vm := .none },
  { cls := 9, slots := #[.int (-41)], vm := .none },
  { cls := 9, slots := #[.int (-40)], vm := .none },
  { cls := 9, slots := #[.int (-39)], vm := .none },
  { cls := 9, slots := #[.int (-38)], vm := .none },
  { cls := 9, slots := #[.int (-37)], vm := .none },
  { cls := 9, slots := #[.int (-36)], vm := .none },
  { cls := 9, slots := #[.int (-35)], vm := .none },
  { cls := 9, slots := #[.int (-34)], vm := .none },
  { cls := 9, slots := #[.int (-33)], vm := .none },
  { cls := 9, slots := #[.int (-32)], vm := .none },
  { cls := 9, slots := #[.int (-31)], vm := .none },
  { cls := 9, slots := #[.int (-30)], vm := .none },
  { cls := 9, slots := #[.int (-29)], vm := .none },
  { cls := 9, slots := #[.int (-28)], vm := .none },
  { cls := 9, slots := #[.int (-27)], vm := .none },
  { cls := 9, slots := #[.int (-26)], vm := .none },
  { cls := 9, slots := #[.int (-25)], vm := .none },
  { cls := 9, slots := #[.int (-24)], vm := .none },
  { cls := 9, slots := #[.int (-23)], vm := .none },
  { cls := 9, slots := #[.int (-22)], vm := .none },
  { cls := 9, slots := #[.int (-21)], vm := .none },
  { cls := 9, slots := #[.int (-20)], vm := .none },
  { cls := 9, slots := #[.int (-19)], vm := .none },
  { cls := 9, slots := #[.int (-18)], vm := .none },
  { cls := 9, slots := #[.int (-17)], vm := .none },
  { cls := 9, slots := #[.int (-16)], vm := .none },
  { cls := 9, slots := #[.int (-15)], vm := .none },
  { cls := 9, slots := #[.int (-14)], vm := .none },
  { cls := 9, slots := #[.int (-13)], vm := .none },
  { cls := 9, slots := #[.int (-12)], vm := .none },
  { cls := 9, slots := #[.int (-11)], vm := .none },
  { cls := 9, slots := #[.int (-10)], vm := .none },
  { cls := 9, slots := #[.int (-9)], vm := .none },
  { cls := 9, slots := #[.int (-8)], vm := .none },
  { cls := 9, slots := #[.int (-7)], vm := .none },
  { cls := 9, slots := #[.int (-6)], vm := .none },
  { cls := 9, slots := #[.int (-5)], vm := .none },
  { cls := 9, slots := #[.int (-4)], vm := .none },
  { cls := 9, slots := #[.int (-3)], vm := .none },
  { cls := 9, slots := #[.int (-2)], vm := .none },
  { cls := 9, slots := #[.int (-1)], vm := .none },
  { cls := 9, slots := #[.int 0], vm := .none },
  { cls := 9, slots := #[.int 1], vm := .none },
  { cls := 9, slots := #[.int 2], vm := .none },
  { cls := 9, slots := #[.int 3], vm := .none },
  { cls := 9, slots := #[.int 4], vm := .none },
  { cls := 9, slots := #[.int 5], vm := .none },
  { cls := 9, slots := #[.int 6], vm := .none },
  { cls := 9, slots := #[.int 7], vm := .none },
  { cls := 9, slots := #[.int 8], vm := .none },
  { cls := 9, slots := #[.int 9], vm := .none },
  { cls := 9, slots := #[.int 10], vm := .none },
  { cls := 9, slots := #[.int 11], vm := .none },
  { cls := 9, slots := #[.int 12], vm := .none },
  { cls := 9, slots := #[.int 13], vm := .none },
  { cls := 9, slots := #[.int 14], vm := .none },
  { cls := 9, slots := #[.int 15], vm := .none },
  { cls := 9, slots := #[.int 16], vm := .none },
  { cls := 9, slots := #[.int 17], vm := .none },
  { cls := 9, slots := #[.int 18], vm := .none },
  { cls := 9, slots := #[.int 19], vm := .none },
  { cls := 9, slots := #[.int 20], vm := .none },
  { cls := 9, slots := #[.int 21], vm := .none },
  { cls := 9, slots := #[.int 22], vm := .none },
  { cls := 9, slots := #[.int 23], vm := .none },
  { cls := 9, slots := #[.int 24], vm := .none },
  { cls := 9, slots := #[.int 25], vm := .none },
  { cls := 9, slots := #[.int 26], vm := .none },
  { cls := 9, slots := #[.int 27], vm := .none },
  { cls := 9, slots := #[.int 28], vm := .none },
  { cls := 9, slots := #[.int 29], vm := .none },
  { cls := 9, slots := #[.int 30], vm := .none },
  { cls := 9, slots := #[.int 31], vm := .none },
  { cls := 9, slots := #[.int 32], vm := .none },
  { cls := 9, slots := #[.int 33], vm := .none },
  { cls := 9, slots := #[.int 34], vm := .none },
  { cls := 9, slots := #[.int 35], vm := .none },
  { cls := 9, slots := #[.int 36], vm := .none },
  { cls := 9, slots := #[.int 37], vm := .none },
  { cls := 9, slots := #[.int 38], vm := .none },
  { cls := 9, slots := #[.int 39], vm := .none },
  { cls := 9, slots := #[.int 40], vm := .none },
  { cls := 9, slots := #[.int 41], vm := .none },
  { cls := 9, slots := #[.int 42], vm := .none },
  { cls := 9, slots := #[.int 43], vm := .none },
  { cls := 9, slots := #[.int 44], vm := .none },
  { cls := 9, slots := #[.int 45], vm := .none },
  { cls := 9, slots := #[.int 46], vm := .none },
  { cls := 9, slots := #[.int 47], vm := .none },
  { cls := 9, slots := #[.int 48], vm := .none },
  { cls := 9, slots := #[.int 49], vm := .none },
  { cls := 9, slots := #[.int 50], vm := .none },
  { cls := 9, slots := #[.int 51], vm := .none },
  { cls := 9, slots := #[.int 52], vm := .none },
  { cls := 9, slots := #[.int 53], vm := .none },
  { cls := 9, slots := #[.int 54], vm := .none },
  { cls := 9, slots := #[.int 55], vm := .none },
  { cls := 9, slots := #[.int 56], vm := .none },
  { cls := 9, slots := #[.int 57], vm := .none },
  { cls := 9, slots := #[.int 58], vm := .none },
  { cls := 9, slots := #[.int 59], vm := .none },
  { cls := 9, slots := #[.int 60], vm := .none },
  { cls := 9, slots := #[.int 61], vm := .none },
  { cls := 9, slots := #[.int 62], vm := .none },
  { cls := 9, slots := #[.int 63], vm := .none },
  { cls := 9, slots := #[.int 64], vm := .none },
  { cls := 9, slots := #[.int 65], vm := .none },
  { cls := 9, slots := #[.int 66], vm := .none },
  { cls := 9, slots := #[.int 67], vm := .none },
  { cls := 9, slots := #[.int 68], vm := .none },
  { cls := 9, slots := #[.int 69], vm := .none },
  { cls := 9, slots := #[.int 70], vm := .none },
  { cls := 9, slots := #[.int 71], vm := .none },
  { cls := 9, slots := #[.int 72], vm := .none },
  { cls := 9, slots := #[.int 73], vm := .none },
  { cls := 9, slots := #[.int 74], vm := .none },
  { cls := 9, slots := #[.int 75], vm := .none },
  { cls := 9, slots := #[.int 76], vm := .none },
  { cls := 9, slots := #[.int 77], vm := .none },
  { cls := 9, slots := #[.int 78], vm := .none },
  { cls := 9, slots := #[.int 79], vm := .none },
  { cls := 9, slots := #[.int 80], vm := .none },
  { cls := 9, slots := #[.int 81], vm := .none },
  { cls := 9, slots := #[.int 82], vm := .none },
  { cls := 9, slots := #[.int 83], vm := .none },
  { cls := 9, slots := #[.int 84], vm := .none },
  { cls := 9, slots := #[.int 85], vm := .none },
  { cls := 9, slots := #[.int 86], vm := .none },
  { cls := 9, slots := #[.int 87], vm := .none },
  { cls := 9, slots := #[.int 88], vm := .none },
  { cls := 9, slots := #[.int 89], vm := .none },
  { cls := 9, slots := #[.int 90], vm := .none },
  { cls := 9, slots := #[.int 91], vm := .none },
  { cls := 9, slots := #[.int 92], vm := .none },
  { cls := 9, slots := #[.int 93], vm := .none },
  { cls := 9, slots := #[.int 94], vm := .none },
  { cls := 9, slots := #[.int 95], vm := .none },
  { cls := 9, slots := #[.int 96], vm := .none },
  { cls := 9, slots := #[.int 97], vm := .none },
  { cls := 9, slots := #[.int 98], vm := .none },
  { cls := 9, slots := #[.int 99], vm := .none },
  { cls := 9, slots := #[.int 100], vm := .none },
  { cls := 9, slots := #[.int 101], vm := .none },
  { cls := 9, slots := #[.int 102], vm := .none },
  { cls := 9, slots := #[.int 103], vm := .none },
  { cls := 9, slots := #[.int 104], vm := .none },
  { cls := 9, slots := #[.int 105], vm := .none },
  { cls := 9, slots := #[.int 106], vm := .none },
  { cls := 9, slots := #[.int 107], vm := .none },
  { cls := 9, slots := #[.int 108], vm := .none },
  { cls := 9, slots := #[.int 109], vm := .none },
  { cls := 9, slots := #[.int 110], vm := .none },
  { cls := 9, slots := #[.int 111], vm := .none },
  { cls := 9, slots := #[.int 112], vm := .none },
  { cls := 9, slots := #[.int 113], vm := .none },
  { cls := 9, slots := #[.int 114], vm := .none },
  { cls := 9, slots := #[.int 115], vm := .none },
  { cls := 9, slots := #[.int 116], vm := .none },
  { cls := 9, slots := #[.int 117], vm := .none },
  { cls := 9, slots := #[.int 118], vm := .none },
  { cls := 9, slots := #[.int 119], vm := .none },
  { cls := 9, slots := #[.int 120], vm := .none },
  { cls := 9, slots := #[.int 121], vm := .none },
  { cls := 9, slots := #[.int 122], vm := .none },
  { cls := 9, slots := #[.int 123], vm := .none },
  { cls := 9, slots := #[.int 124], vm := .none },
  { cls := 9, slots := #[.int 125], vm := .none },
  { cls := 9, slots := #[.int 126], vm := .none },
  { cls := 9, slots := #[.int 127], vm := .none },
  { cls := 16, slots := #[.ref 7, .ref 8, .ref 9, .ref 10, .ref 11, .ref 12, .ref 13, .ref 14, .ref 15, .ref 16, .ref 17, .ref 18, .ref 19, .ref 20, .ref 21, .ref 22, .ref 23, .ref 24, .ref 25, .ref 26, .ref 27, .ref 28, .ref 29, .ref 30, .ref 31, .ref 32, .ref 33, .ref 34, .ref 35, .ref 36, .ref 37, .ref 38, .ref 39, .ref 40, .ref 41, .ref 42, .ref 43, .ref 44, .ref 45, .ref 46, .ref 47, .ref 48, .ref 49, .ref 50, .ref 51, .ref 52, .ref 53, .ref 54, .ref 55, .ref 56, .ref 57, .ref 58, .ref 59, .ref 60, .ref 61, .ref 62, .ref 63, .ref 64, .ref 65, .ref 66, .ref 67, .ref 68, .ref 69, .ref 70, .ref 71, .ref 72, .ref 73, .ref 74, .ref 75, .ref 76, .ref 77, .ref 78, .ref 79, .ref 80, .ref 81, .ref 82, .ref 83, .ref 84, .ref 85, .ref 86, .ref 87, .ref 88, .ref 89, .ref 90, .ref 91, .ref 92, .ref 93, .ref 94, .ref 95, .ref 96, .ref 97, .ref 98, .ref 99, .ref 100, .ref 101, .ref 102, .ref 103, .ref 104, .ref 105, .ref 106, .ref 107, .ref 108, .ref 109, .ref 110, .ref 111, .ref 112, .ref 113, .ref 114, .ref 115, .ref 116, .ref 117, .ref 118, .ref 119, .ref 120, .ref 121, .ref 122, .ref 123, .ref 124, .ref 125, .ref 126, .ref 127, .ref 128, .ref 129, .ref 130, .ref 131, .ref 132, .ref 133, .ref 134, .ref 135, .ref 136, .ref 137, .ref 138, .ref 139, .ref 140, .ref 141, .ref 142, .ref 143, .ref 144, .ref 145, .ref 146, .ref 147, .ref 148, .ref 149, .ref 150, .ref 151, .ref 152, .ref 153, .ref 154, .ref 155, .ref 156, .ref 157, .ref 158, .ref 159, .ref 160, .ref 161, .ref 162, .ref 163, .ref 164, .ref 165, .ref 166, .ref 167, .ref 168, .ref 169, .ref 170, .ref 171, .ref 172, .ref 173, .ref 174, .ref 175, .ref 176, .ref 177, .ref 178, .ref 179, .ref 180, .ref 181, .ref 182, .ref 183, .ref 184, .ref 185, .ref 186, .ref 187, .ref 188, .ref 189, .ref 190, .ref 191, .ref 192, .ref 193, .ref 194, .ref 195, .ref 196, .ref 197, .ref 198, .ref 199, .ref 200, .ref 201, .ref 202, .ref 203, .ref 204, .ref 205, .ref 206, .ref 207, .ref 208, .ref 209, .ref 210, .ref 211, .ref 212, .ref 213, .ref 214, .ref 215, .ref 216, .ref 217, .ref 218, .ref 219, .ref 220, .ref 221, .ref 222, .ref 223, .ref 224, .ref 225, .ref 226, .ref 227, .ref 228, .ref 229, .ref 230, .ref 231, .ref 232, .ref 233, .ref 234, .ref 235, .ref 236, .ref 237, .ref 238, .ref 239, .ref 240, .ref 241, .ref 242, .ref 243, .ref 244, .ref 245, .ref 246, .ref 247, .ref 248, .ref 249, .ref 250, .ref 251, .ref 252, .ref 253, .ref 254, .ref 255, .ref 256, .ref 257, .ref 258, .ref 259, .ref 260, .ref 261, .ref 262], vm := .none }]
def classes : Array Class := #[k0, k1, k2, k3, k4, k5, k6, k7, k8, k9, k10, k11, k12, k13, k14, k15, k16]
def interned : List (Array UInt16 × Addr) := []
def slotsUsed : Nat := 543
def theMethod : MethodId := ⟨1, 2⟩
def args0 : Array Value := #[.int 5, .int 6, .int 7]
def aboutOver (below : List Frame) : State where
  vm := { classes := classes, interned := interned.toArray }
  heap := heap
  slotsUsed := slotsUsed
  threads := #[{ frames := .invoking theMethod args0 :: below }]
def below0 : List Frame := [.native { method := ⟨0, 0⟩, args := #[] }]
def about1 : State := aboutOver below0
def p0 : Program := .bare "" "" ""
def e0 : Env := launch0.env 0 0 0
theorem w_frames : about1.frames = Frame.invoking theMethod args0 :: below0 := rfl
set_option maxRecDepth 65536 in
theorem w_args : argsFit about1.vm theMethod args0 = true := by decide +kernel
set_option maxRecDepth 65536 in
theorem w_heap : heapFits about1 = true := by decide +kernel
set_option maxRecDepth 65536 in
theorem w_runnable : about1.curStatus? = some .runnable := by decide +kernel
set_option maxRecDepth 65536 in
theorem w_alone : about1.alone = true := by decide +kernel
set_option maxRecDepth 65536 in
theorem w_named : about1.methodNamed? x = some theMethod := by decide +kernel
set_option maxRecDepth 65536 in
theorem w_hears : about1.hears theMethod below0 = true := by decide +kernel
set_option maxRecDepth 65536 in
theorem w_ripe : about1.ripe theMethod args0 below0 = true := by decide +kernel
theorem w_running : about1.status = .running := rfl
set_option maxRecDepth 65536 in
theorem w_room : about1.hasRoom e0.platform room_1 = true :=
  launch0.hasRoom_least _ room_1 (by decide +kernel) (by decide +kernel) (by decide +kernel) (by decide +kernel) (by decide +kernel) (by decide +kernel)
theorem allAtoms_all (ts : List Jvm.Cond) (a : Array Jvm.Value) (st : Jvm.State) : (allAtoms ts).before a st = ts.all (fun c => c.before a st) := by
  induction ts with
  | nil => rfl
  | cons c t ih =>
    show (Jvm.Cond.and c (allAtoms t)).before a st = _
    rw [Jvm.Cond.before_and, ih, List.all_cons]
def words1 : List Jvm.Cond := Jvm.Cond.code x code maxLocals ret :: tables_1
/-- a 'code' word, met by the world's own term for the bytes: nothing is compared byte by byte -/
theorem code_word {y : MethodName} {bytes : ByteArray} {mx : Nat} {rt : Option FieldType} {a : Array Value} {s : State} {m : MethodId} {meth : Method} {c : Code} (h1 : s.methodNamed? y = some m) (h2 : s.vm.method? m = some meth) (h3 : meth.code = some c) (h4 : c.code = bytes)
    (h5 : (c.maxLocals == mx && c.exceptionTable.isEmpty && decide (c.maxStack ≤ mostOperands) && decide (meth.sig.returnType = rt) && !meth.locks && decide (parseMethodDescriptor y.desc = some meth.sig)) = true) : (Jvm.Cond.code y bytes mx rt).before a s = true := by
  simp only [Bool.and_eq_true, beq_iff_eq, Bool.not_eq_true', decide_eq_true_eq] at h5
  obtain ⟨⟨⟨⟨⟨g1, g2⟩, g3⟩, g4⟩, g5⟩, g6⟩ := h5
  simp [Cond.before, Cond.holds, Cond.value, h1, h2, h3, h4, g1, g2, g3, g4, g5, g6]
def isCode : Jvm.Cond → Bool
  | .code _ _ _ _ => true
  | _ => false
theorem all_split {L : List Jvm.Cond} {P : Jvm.Cond → Bool} (h1 : L.all (fun c => isCode c || P c) = true) (h2 : ∀ c ∈ L.filter isCode, P c = true) : L.all P = true := by
  refine List.all_eq_true.mpr fun c hc => ?_
  have h := List.all_eq_true.mp h1 c hc
  rcases Bool.eq_false_or_eq_true (isCode c) with hi | hi
  · exact h2 c (List.mem_filter.mpr ⟨hc, hi⟩)
  · simpa [hi] using h
set_option maxRecDepth 65536 in
theorem w_c0 : (Jvm.Cond.code x code maxLocals ret).before args0 about1 = true := code_word (m := ⟨1, 2⟩) (meth := k1m2) (c := k1c2) (by decide +kernel) rfl rfl rfl (by decide +kernel)
set_option maxRecDepth 65536 in
theorem w_c1 : (Jvm.Cond.code ({ cls := "com/example/measurewright/measurewright/ComparisonConversePinLaw", name := "pick", desc := "(I)Lcom/example/measurewright/measurewright/Comparison;" } : Jvm.MethodName) method_2_code (2 : Nat) (Option.some (Jvm.ClassFile.FieldType.object "com/example/measurewright/measurewright/Comparison"))).before args0 about1 = true := code_word (m := ⟨1, 1⟩) (meth := k1m1) (c := k1c1) (by decide +kernel) rfl rfl rfl (by decide +kernel)
set_option maxRecDepth 65536 in
theorem w_c2 : (Jvm.Cond.code ({ cls := "java/lang/Integer", name := "valueOf", desc := "(I)Ljava/lang/Integer;" } : Jvm.MethodName) jdk_33_method_22_code (1 : Nat) (Option.some (Jvm.ClassFile.FieldType.object "java/lang/Integer"))).before args0 about1 = true := code_word (m := ⟨9, 0⟩) (meth := k9m0) (c := k9c0) (by decide +kernel) rfl rfl rfl (by decide +kernel)
set_option maxRecDepth 65536 in
theorem w_c3 : (Jvm.Cond.code ({ cls := "com/example/measurewright/measurewright/Comparison", name := "converse", desc := "()Lcom/example/measurewright/measurewright/Comparison;" } : Jvm.MethodName) prog_3_method_7_code (1 : Nat) (Option.some (Jvm.ClassFile.FieldType.object "com/example/measurewright/measurewright/Comparison"))).before args0 about1 = true := code_word (m := ⟨6, 2⟩) (meth := k6m2) (c := k6c2) (by decide +kernel) rfl rfl rfl (by decide +kernel)
set_option maxRecDepth 65536 in
theorem w_c4 : (Jvm.Cond.code ({ cls := "java/lang/Enum", name := "ordinal", desc := "()I" } : Jvm.MethodName) jdk_37_method_2_code (1 : Nat) (Option.some Jvm.ClassFile.FieldType.int)).before args0 about1 = true := code_word (m := ⟨5, 0⟩) (meth := k5m0) (c := k5c0) (by decide +kernel) rfl rfl rfl (by decide +kernel)
set_option maxRecDepth 65536 in
theorem w_c5 : (Jvm.Cond.code ({ cls := "com/example/measurewright/measurewright/Comparison", name := "holds", desc := "(Ljava/lang/Comparable;Ljava/lang/Comparable;)Z" } : Jvm.MethodName) prog_3_method_5_code (3 : Nat) (Option.some Jvm.ClassFile.FieldType.boolean)).before args0 about1 = true := code_word (m := ⟨6, 0⟩) (meth := k6m0) (c := k6c0) (by decide +kernel) rfl rfl rfl (by decide +kernel)
set_option maxRecDepth 65536 in
theorem w_c6 : (Jvm.Cond.code ({ cls := "java/lang/Integer", name := "compareTo", desc := "(Ljava/lang/Object;)I" } : Jvm.MethodName) jdk_33_method_63_code (2 : Nat) (Option.some Jvm.ClassFile.FieldType.int)).before args0 about1 = true := code_word (m := ⟨9, 4⟩) (meth := k9m4) (c := k9c4) (by decide +kernel) rfl rfl rfl (by decide +kernel)
set_option maxRecDepth 65536 in
theorem w_c7 : (Jvm.Cond.code ({ cls := "java/lang/Integer", name := "compareTo", desc := "(Ljava/lang/Integer;)I" } : Jvm.MethodName) jdk_33_method_39_code (2 : Nat) (Option.some Jvm.ClassFile.FieldType.int)).before args0 about1 = true := code_word (m := ⟨9, 2⟩) (meth := k9m2) (c := k9c2) (by decide +kernel) rfl rfl rfl (by decide +kernel)
set_option maxRecDepth 65536 in
theorem w_c8 : (Jvm.Cond.code ({ cls := "java/lang/Integer", name := "compare", desc := "(II)I" } : Jvm.MethodName) jdk_33_method_40_code (2 : Nat) (Option.some Jvm.ClassFile.FieldType.int)).before args0 about1 = true := code_word (m := ⟨9, 3⟩) (meth := k9m3) (c := k9c3) (by decide +kernel) rfl rfl rfl (by decide +kernel)
set_option maxRecDepth 65536 in
theorem w_c9 : (Jvm.Cond.code ({ cls := "com/example/measurewright/measurewright/Comparison", name := "satisfiedBy", desc := "(I)Z" } : Jvm.MethodName) prog_3_method_6_code (2 : Nat) (Option.some Jvm.ClassFile.FieldType.boolean)).before args0 about1 = true := code_word (m := ⟨6, 1⟩) (meth := k6m1) (c := k6c1) (by decide +kernel) rfl rfl rfl (by decide +kernel)
set_option maxRecDepth 65536 in
theorem w_c10 : (Jvm.Cond.code ({ cls := "java/lang/Integer", name := "<init>", desc := "(I)V" } : Jvm.MethodName) jdk_33_method_23_code (2 : Nat) (Option.none : Option Jvm.ClassFile.FieldType)).before args0 about1 = true := code_word (m := ⟨9, 1⟩) (meth := k9m1) (c := k9c1) (by decide +kernel) rfl rfl rfl (by decide +kernel)
set_option maxRecDepth 65536 in
theorem w_c11 : (Jvm.Cond.code ({ cls := "java/lang/Number", name := "<init>", desc := "()V" } : Jvm.MethodName) jdk_18_method_1_code (1 : Nat) (Option.none : Option Jvm.ClassFile.FieldType)).before args0 about1 = true := code_word (m := ⟨7, 0⟩) (meth := k7m0) (c := k7c0) (by decide +kernel) rfl rfl rfl (by decide +kernel)
set_option maxRecDepth 65536 in
theorem w_c12 : (Jvm.Cond.code ({ cls := "java/lang/Object", name := "<init>", desc := "()V" } : Jvm.MethodName) object_method_1_code (1 : Nat) (Option.none : Option Jvm.ClassFile.FieldType)).before args0 about1 = true := code_word (m := ⟨0, 0⟩) (meth := k0m0) (c := k0c0) (by decide +kernel) rfl rfl rfl (by decide +kernel)
def codes1 : List Jvm.Cond := [Jvm.Cond.code x code maxLocals ret, Jvm.Cond.code ({ cls := "com/example/measurewright/measurewright/ComparisonConversePinLaw", name := "pick", desc := "(I)Lcom/example/measurewright/measurewright/Comparison;" } : Jvm.MethodName) method_2_code (2 : Nat) (Option.some (Jvm.ClassFile.FieldType.object "com/example/measurewright/measurewright/Comparison")), Jvm.Cond.code ({ cls := "java/lang/Integer", name := "valueOf", desc := "(I)Ljava/lang/Integer;" } : Jvm.MethodName) jdk_33_method_22_code (1 : Nat) (Option.some (Jvm.ClassFile.FieldType.object "java/lang/Integer")), Jvm.Cond.code ({ cls := "com/example/measurewright/measurewright/Comparison", name := "converse", desc := "()Lcom/example/measurewright/measurewright/Comparison;" } : Jvm.MethodName) prog_3_method_7_code (1 : Nat) (Option.some (Jvm.ClassFile.FieldType.object "com/example/measurewright/measurewright/Comparison")), Jvm.Cond.code ({ cls := "java/lang/Enum", name := "ordinal", desc := "()I" } : Jvm.MethodName) jdk_37_method_2_code (1 : Nat) (Option.some Jvm.ClassFile.FieldType.int), Jvm.Cond.code ({ cls := "com/example/measurewright/measurewright/Comparison", name := "holds", desc := "(Ljava/lang/Comparable;Ljava/lang/Comparable;)Z" } : Jvm.MethodName) prog_3_method_5_code (3 : Nat) (Option.some Jvm.ClassFile.FieldType.boolean), Jvm.Cond.code ({ cls := "java/lang/Integer", name := "compareTo", desc := "(Ljava/lang/Object;)I" } : Jvm.MethodName) jdk_33_method_63_code (2 : Nat) (Option.some Jvm.ClassFile.FieldType.int), Jvm.Cond.code ({ cls := "java/lang/Integer", name := "compareTo", desc := "(Ljava/lang/Integer;)I" } : Jvm.MethodName) jdk_33_method_39_code (2 : Nat) (Option.some Jvm.ClassFile.FieldType.int), Jvm.Cond.code ({ cls := "java/lang/Integer", name := "compare", desc := "(II)I" } : Jvm.MethodName) jdk_33_method_40_code (2 : Nat) (Option.some Jvm.ClassFile.FieldType.int), Jvm.Cond.code ({ cls := "com/example/measurewright/measurewright/Comparison", name := "satisfiedBy", desc := "(I)Z" } : Jvm.MethodName) prog_3_method_6_code (2 : Nat) (Option.some Jvm.ClassFile.FieldType.boolean), Jvm.Cond.code ({ cls := "java/lang/Integer", name := "<init>", desc := "(I)V" } : Jvm.MethodName) jdk_33_method_23_code (2 : Nat) (Option.none : Option Jvm.ClassFile.FieldType), Jvm.Cond.code ({ cls := "java/lang/Number", name := "<init>", desc := "()V" } : Jvm.MethodName) jdk_18_method_1_code (1 : Nat) (Option.none : Option Jvm.ClassFile.FieldType), Jvm.Cond.code ({ cls := "java/lang/Object", name := "<init>", desc := "()V" } : Jvm.MethodName) object_method_1_code (1 : Nat) (Option.none : Option Jvm.ClassFile.FieldType)]
set_option maxRecDepth 65536 in
theorem codes_eq : words1.filter isCode = codes1 := rfl
theorem w_codes : ∀ c ∈ words1.filter isCode, c.before args0 about1 = true := by
  rw [codes_eq]
  intro c hc
  simp only [codes1, List.mem_cons, List.not_mem_nil, or_false] at hc
  rcases hc with rfl | rfl | rfl | rfl | rfl | rfl | rfl | rfl | rfl | rfl | rfl | rfl | rfl
  · exact w_c0
  · exact w_c1
  · exact w_c2
  · exact w_c3
  · exact w_c4
  · exact w_c5
  · exact w_c6
  · exact w_c7
  · exact w_c8
  · exact w_c9
  · exact w_c10
  · exact w_c11
  · exact w_c12
set_option maxRecDepth 65536 in
theorem w_t1 : (words1.take 24).all (fun c => isCode c || c.before args0 about1) = true := by decide +kernel
set_option maxRecDepth 65536 in
theorem w_t2 : ((words1.drop 24).take 24).all (fun c => isCode c || c.before args0 about1) = true := by decide +kernel
set_option maxRecDepth 65536 in
theorem w_t3 : (((words1.drop 24).drop 24).take 24).all (fun c => isCode c || c.before args0 about1) = true := by decide +kernel
set_option maxRecDepth 65536 in
theorem w_t4 : (((words1.drop 24).drop 24).drop 24).all (fun c => isCode c || c.before args0 about1) = true := by decide +kernel
theorem w_tables : (allAtoms (Jvm.Cond.code x code maxLocals ret :: tables_1)).before args0 about1 = true := by
  rw [allAtoms_all]
  show words1.all (fun c => c.before args0 about1) = true
  refine all_split ?_ w_codes
  rw [← List.take_append_drop 24 words1, List.all_append, w_t1, ← List.take_append_drop 24 (words1.drop 24), List.all_append, w_t2, ← List.take_append_drop 24 ((words1.drop 24).drop 24), List.all_append, w_t3, w_t4]
  rfl
set_option maxRecDepth 65536 in
theorem w_rest : rest_1_c.before args0 about1 = true := by decide +kernel
set_option maxRecDepth 65536 in
theorem w_case : (Jvm.Cond.and given_1 narrow_1).before args0 about1 = true := by decide +kernel
theorem w_applies : (headSpec (Jvm.Cond.code x code maxLocals ret :: tables_1) room_1).applies x e0.platform about1 = true :=
  (Spec.applies_iff w_frames).mpr ⟨w_running, w_runnable, w_alone, w_named, w_hears, w_ripe, w_room, w_tables⟩
theorem atStart : AtStart classFile x code maxLocals ret World_1 tables_1 room_1 Calls_1 rest_1 Pre_1 launch0 p0 e0 about1 theMethod args0 below0 :=
  ⟨lists_1, trivial, launch0.admits_env _ _ _, launch0.least_env, fairChoices_fair.cas, fairChoices_fair.clock, w_frames, w_args, w_heap, w_applies, trivial, w_rest, w_case⟩
end start1
theorem witness_1 : WitnessClaimed_1 := ⟨start1.p0, start1.e0, start1.about1, start1.theMethod, start1.args0, start1.below0, start1.atStart⟩
end Jvm.Pilot.@@N@@
