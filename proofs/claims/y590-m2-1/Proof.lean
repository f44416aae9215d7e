import JvmDerived
import JvmDerived.Pilot.@@N@@Statement
import JvmDerived.Pilot.@@N@@Code
set_option linter.unusedVariables false
set_option linter.unusedSimpArgs false
namespace Jvm.RoadKit
open Sem ClassFile Op Lib Jvm.Stand Jvm.Free Jvm.LawKit
section New
variable {p : Program} {l : Launch} {e : Env} {R : Room} {s : State} {m : MethodId} {args : Array Value} {below : List Frame} {meth : Method} {c : Code} {T : State} {locs : List Loc} {cells slots : Nat}
theorem retI (X : Stand p l e R s m args below meth c T locs cells slots) (hx : p.tables.exec = Jvm.exec) {pc : Nat} {Ls : Array Slot} {z : Int32} {rest : List Value} (hret : meth.sig.returnType = some .int) (hd : decode c.code pc = .ok (.ireturn, 1)) {fs : List Frame}
    (hl : ∀ (f : JFrame) (acts : List Action), f.method = m → f.locked = none → f.entered = [] → (doReturn e (T.setTop f) acts (some (.int z))).1 = T.setFrames fs) : Steps p.tables e below (T.setTop (mkF m pc Ls (.int z :: rest))) (T.setFrames fs) :=
  retOut X hx hret rfl (Or.inl ⟨rfl, Or.inl rfl, _, rfl⟩) hd hl
end New
end Jvm.RoadKit
namespace Jvm.Pilot.@@N@@
open Jvm Jvm.ClassFile Sem Op Lib Jvm.Free Jvm.Stand Jvm.LawKit Jvm.RoadKit Bundle Jvm.Pilot.@@N@@.Jvm.D
abbrev own_m0 : MethodName := ⟨"com/example/tallywire/tallywire/wire/FieldType", "isData", "()Z"⟩
abbrev own_m1 : MethodName := ⟨"com/example/tallywire/tallywire/wire/FieldTypeIsDataPinLaw", "typeAt", "(I)Lcom/example/tallywire/tallywire/wire/FieldType;"⟩
/-- what a body that writes nothing leaves: its value, no place written, the heap as it was -/
def PQ (w : Option Value) (h0 : Heap) (n0 : Nat) (v : Option Value) (h : Heap) (L : List Loc) : Prop := v = w ∧ Fr n0 L ∧ h = h0
def LQ (n0 : Nat) (v : Option Value) (h : Heap) (L : List Loc) : Prop := v = some (.int (1 : Int32)) ∧ Fr n0 L ∧ True
theorem own_pd0 : parseMethodDescriptor "(I)Lcom/example/tallywire/tallywire/wire/FieldType;" = some ⟨[.int], some (.object "com/example/tallywire/tallywire/wire/FieldType")⟩ := by decide +kernel
theorem own_pd1 : parseMethodDescriptor "()Z" = some ⟨[], some .boolean⟩ := by decide +kernel
theorem own_k (p : Int32) : ∃ n, n < 28 ∧ ((p &&& (2147483647 : Int32)) % (28 : Int32)) = Int32.ofNat n := by
  have q0 := c_and p 2147483647 (by decide)
  have q := (c_irem (p &&& (2147483647 : Int32)) (28 : Int32) 28 rfl).1 q0.1
  refine ⟨((p &&& (2147483647 : Int32)).toInt % 28).toNat, by omega, ?_⟩
  rw [← Int32.toInt_inj, q, Int32.toInt_ofNat_small (by omega)]
  omega
theorem own_eqv {s : State} {args : Array Value} {t u : Term} {w : Value} (hu : u.eval args s none [] s = some w) (h : (Cond.eq t u).value args s none s [] = some true) (hk : (match w with | .retAddr _ => false | .float _ => false | .double _ => false | _ => true) = true := by rfl) : t.eval args s none [] s = some w := by
  obtain ⟨x, y, e1, e2, -, -⟩ := cmp_v (Or.inl h)
  cases hu.symm.trans e2
  rw [e1]
  simp only [Cond.value, e1, hu] at h
  cases x <;> cases w <;> simp at h hk ⊢ <;> exact h
theorem own_fld {s : State} {args : Array Value} {t : Term} {C n d : String} {a : Addr} {v : Value} (ht : t.eval args s none [] s = some (.ref a)) (h : (Term.field t C n d).eval args s none [] s = some v) : Fld s s.heap a C n d v := Fld.start ((fld_at ht).symm.trans h)
theorem own_len {s : State} {args : Array Value} {t : Term} {ty : FieldType} {a : Addr} {n : Int32} (ht : t.eval args s none [] s = some (.ref a)) (ha : (Cond.arrayOf t ty).value args s none s [] = some true) (hl : (Cond.eq (.length t) (.int n)).value args s none s [] = some true) (hn : ¬ n < 0) :
    ∃ c : Cell, Arr s s.heap a c ty ∧ c.slots.size < 2 ^ 31 ∧ c.slots.size.toInt32 = n := by
  obtain ⟨c, A⟩ := Arr.start ht ha
  have e := own_eqv (Term.int_eval n) hl
  have A2 := A.fin (Vm.Alike.refl _)
  obtain ⟨x, c2, e1, e2, e3⟩ := Term.length_spec e
  cases ht.symm.trans e1
  cases A2.symm.trans e2
  have h31 := SBG.length_lt ht A2 e
  refine ⟨c, A, h31, ?_⟩
  have := len_f ht A2 h31
  rw [e] at this
  simpa using (Option.some.inj this).symm
theorem own_elem {s : State} {args : Array Value} {t : Term} {ty : FieldType} {a : Addr} {c : Cell} {j : Int32} {v : Value} (ht : t.eval args s none [] s = some (.ref a)) (A : Arr s s.heap a c ty) (h : (Term.elem t (.int j)).eval args s none [] s = some v) : c.slots[j.toNatClampNeg]? = some v := (elem_in h ht (Term.int_eval j) A.1).2
theorem own_all0 {s : State} {args : Array Value} {t : Term} {ty : FieldType} {a : Addr} {c : Cell} {k n : Int32} (ht : ∀ idx, t.eval args s none idx s = some (.ref a)) (A : Arr s s.heap a c ty) (h31 : c.slots.size < 2 ^ 31) (hn : c.slots.size.toInt32 = n)
    (h : (Cond.all t (.or (.lt (.index 0) (.int k)) (.eq (.elem t (.index 0)) (.int 0)))).value args s none s [] = some true) (j : Nat) (hj : j < n.toNatClampNeg) (hk : ¬ j.toInt32 < k) : c.slots[j]? = some (.int 0) := by
  have A2 := A.fin (Vm.Alike.refl _)
  have hsz : n.toNatClampNeg = c.slots.size := by rw [← hn]; simp only [Int32.toNatClampNeg, len_toInt h31]; rfl
  have hj2 : j < c.slots.size := hsz ▸ hj
  have q := Cond.all_elim (ht []) A2 h j hj2
  have e1 : (Term.index 0).eval args s none [j] s = some (.int j.toInt32) := rfl
  have l1 : (Cond.lt (.index 0) (.int k)).value args s none s [j] = some false := by
    simp [Cond.value, e1, Term.int_eval, hk]
  have q2 : (Cond.eq (.elem t (.index 0)) (.int 0)).value args s none s [j] = some true := by
    have q3 : (match (Cond.lt (.index 0) (.int k)).value args s none s [j] with | some false => (Cond.eq (.elem t (.index 0)) (.int 0)).value args s none s [j] | x => x) = some true := q
    rw [l1] at q3
    exact q3
  obtain ⟨x, y, e2, e3, -, -⟩ := cmp_v (Or.inl q2)
  cases (Term.int_eval (args := args) (first := s) (o := none) (idx := [j]) (s := s) 0).symm.trans e3
  have e4 : (Term.elem t (.index 0)).eval args s none [j] s = some (.int 0) := by
    simp only [Cond.value, e2, e3] at q2
    rw [e2]; cases x <;> simp at q2 ⊢; exact q2
  have e5 := elem_in e4 (ht [j]) e1 A.1
  have e6 : (Nat.toInt32 j).toNatClampNeg = j := by simp only [Int32.toNatClampNeg, len_toInt (Nat.lt_trans hj2 h31)]; rfl
  rw [e6] at e5
  exact e5.2
theorem own_csne {s : State} {args : Array Value} {t : Term} {v : Int32} (e : t.eval args s none [] s = some (.int v)) (h : (Cond.not (.eq t (.int 0))).value args s none s [] = some true) : ¬ (v = (0 : Int32)) := by
  have q := not_v h
  intro hv
  subst hv
  have q2 := Cond.eq_ints e (Term.int_eval (args := args) (first := s) (o := none) (idx := []) (s := s) 0)
  rw [q2] at q
  simp at q
theorem own_orref {s : State} {args : Array Value} {C f d : String} (h : (Cond.isRef (.static C f d)).value args s none s [] = some true) (hi : (Cond.initializedFor C f d).before args s = true ∨ ((Cond.initialized C).before args s = true ∧ (Cond.laysStatic C f d).before args s = true)) : (Sta s s.heap C f d .null) ∨ (∃ a, Sta s s.heap C f d (.ref a)) := by
  obtain ⟨x, e, hr⟩ := isR_v h
  rcases ref_cases hr with rfl | ⟨a, rfl⟩
  · exact Or.inl (Sta.start e hi)
  · exact Or.inr ⟨a, Sta.start e hi⟩
def own_St (Z : State) (A : Nat → Addr) (K : Nat → ClassId) : Prop := ((Sta Z Z.heap "com/example/tallywire/tallywire/wire/FieldType" "INT" "Lcom/example/tallywire/tallywire/wire/FieldType;" (.ref (A 0))) ∧ (Exa Z Z.heap (A 0) "com/example/tallywire/tallywire/wire/FieldType") ∧ (Sta Z Z.heap "com/example/tallywire/tallywire/wire/FieldType" "SEQNUM" "Lcom/example/tallywire/tallywire/wire/FieldType;" (.ref (A 1))) ∧ (Exa Z Z.heap (A 1) "com/example/tallywire/tallywire/wire/FieldType") ∧ (Sta Z Z.heap "com/example/tallywire/tallywire/wire/FieldType" "LENGTH" "Lcom/example/tallywire/tallywire/wire/FieldType;" (.ref (A 2))) ∧ (Exa Z Z.heap (A 2) "com/example/tallywire/tallywire/wire/FieldType") ∧ (Sta Z Z.heap "com/example/tallywire/tallywire/wire/FieldType" "NUMINGROUP" "Lcom/example/tallywire/tallywire/wire/FieldType;" (.ref (A 3))) ∧ (Exa Z Z.heap (A 3) "com/example/tallywire/tallywire/wire/FieldType") ∧ True) ∧ ((Sta Z Z.heap "com/example/tallywire/tallywire/wire/FieldType" "FLOAT" "Lcom/example/tallywire/tallywire/wire/FieldType;" (.ref (A 4))) ∧ (Exa Z Z.heap (A 4) "com/example/tallywire/tallywire/wire/FieldType") ∧ (Sta Z Z.heap "com/example/tallywire/tallywire/wire/FieldType" "QTY" "Lcom/example/tallywire/tallywire/wire/FieldType;" (.ref (A 5))) ∧ (Exa Z Z.heap (A 5) "com/example/tallywire/tallywire/wire/FieldType") ∧ (Sta Z Z.heap "com/example/tallywire/tallywire/wire/FieldType" "PRICE" "Lcom/example/tallywire/tallywire/wire/FieldType;" (.ref (A 6))) ∧ (Exa Z Z.heap (A 6) "com/example/tallywire/tallywire/wire/FieldType") ∧ (Sta Z Z.heap "com/example/tallywire/tallywire/wire/FieldType" "AMT" "Lcom/example/tallywire/tallywire/wire/FieldType;" (.ref (A 7))) ∧ (Exa Z Z.heap (A 7) "com/example/tallywire/tallywire/wire/FieldType") ∧ True) ∧ ((Sta Z Z.heap "com/example/tallywire/tallywire/wire/FieldType" "PERCENTAGE" "Lcom/example/tallywire/tallywire/wire/FieldType;" (.ref (A 8))) ∧ (Exa Z Z.heap (A 8) "com/example/tallywire/tallywire/wire/FieldType") ∧ (Sta Z Z.heap "com/example/tallywire/tallywire/wire/FieldType" "PRICEOFFSET" "Lcom/example/tallywire/tallywire/wire/FieldType;" (.ref (A 9))) ∧ (Exa Z Z.heap (A 9) "com/example/tallywire/tallywire/wire/FieldType") ∧ (Sta Z Z.heap "com/example/tallywire/tallywire/wire/FieldType" "CHAR" "Lcom/example/tallywire/tallywire/wire/FieldType;" (.ref (A 10))) ∧ (Exa Z Z.heap (A 10) "com/example/tallywire/tallywire/wire/FieldType") ∧ (Sta Z Z.heap "com/example/tallywire/tallywire/wire/FieldType" "BOOLEAN" "Lcom/example/tallywire/tallywire/wire/FieldType;" (.ref (A 11))) ∧ (Exa Z Z.heap (A 11) "com/example/tallywire/tallywire/wire/FieldType") ∧ True) ∧ ((Sta Z Z.heap "com/example/tallywire/tallywire/wire/FieldType" "STRING" "Lcom/example/tallywire/tallywire/wire/FieldType;" (.ref (A 12))) ∧ (Exa Z Z.heap (A 12) "com/example/tallywire/tallywire/wire/FieldType") ∧ (Sta Z Z.heap "com/example/tallywire/tallywire/wire/FieldType" "MULTIPLEVALUESTRING" "Lcom/example/tallywire/tallywire/wire/FieldType;" (.ref (A 13))) ∧ (Exa Z Z.heap (A 13) "com/example/tallywire/tallywire/wire/FieldType") ∧ (Sta Z Z.heap "com/example/tallywire/tallywire/wire/FieldType" "MULTIPLESTRINGVALUE" "Lcom/example/tallywire/tallywire/wire/FieldType;" (.ref (A 14))) ∧ (Exa Z Z.heap (A 14) "com/example/tallywire/tallywire/wire/FieldType") ∧ (Sta Z Z.heap "com/example/tallywire/tallywire/wire/FieldType" "MULTIPLECHARVALUE" "Lcom/example/tallywire/tallywire/wire/FieldType;" (.ref (A 15))) ∧ (Exa Z Z.heap (A 15) "com/example/tallywire/tallywire/wire/FieldType") ∧ True) ∧ ((Sta Z Z.heap "com/example/tallywire/tallywire/wire/FieldType" "EXCHANGE" "Lcom/example/tallywire/tallywire/wire/FieldType;" (.ref (A 16))) ∧ (Exa Z Z.heap (A 16) "com/example/tallywire/tallywire/wire/FieldType") ∧ (Sta Z Z.heap "com/example/tallywire/tallywire/wire/FieldType" "CURRENCY" "Lcom/example/tallywire/tallywire/wire/FieldType;" (.ref (A 17))) ∧ (Exa Z Z.heap (A 17) "com/example/tallywire/tallywire/wire/FieldType") ∧ (Sta Z Z.heap "com/example/tallywire/tallywire/wire/FieldType" "COUNTRY" "Lcom/example/tallywire/tallywire/wire/FieldType;" (.ref (A 18))) ∧ (Exa Z Z.heap (A 18) "com/example/tallywire/tallywire/wire/FieldType") ∧ (Sta Z Z.heap "com/example/tallywire/tallywire/wire/FieldType" "LOCALMKTDATE" "Lcom/example/tallywire/tallywire/wire/FieldType;" (.ref (A 19))) ∧ (Exa Z Z.heap (A 19) "com/example/tallywire/tallywire/wire/FieldType") ∧ True) ∧ ((Sta Z Z.heap "com/example/tallywire/tallywire/wire/FieldType" "UTCDATEONLY" "Lcom/example/tallywire/tallywire/wire/FieldType;" (.ref (A 20))) ∧ (Exa Z Z.heap (A 20) "com/example/tallywire/tallywire/wire/FieldType") ∧ (Sta Z Z.heap "com/example/tallywire/tallywire/wire/FieldType" "MONTHYEAR" "Lcom/example/tallywire/tallywire/wire/FieldType;" (.ref (A 21))) ∧ (Exa Z Z.heap (A 21) "com/example/tallywire/tallywire/wire/FieldType") ∧ (Sta Z Z.heap "com/example/tallywire/tallywire/wire/FieldType" "UTCTIMESTAMP" "Lcom/example/tallywire/tallywire/wire/FieldType;" (.ref (A 22))) ∧ (Exa Z Z.heap (A 22) "com/example/tallywire/tallywire/wire/FieldType") ∧ (Sta Z Z.heap "com/example/tallywire/tallywire/wire/FieldType" "UTCTIMEONLY" "Lcom/example/tallywire/tallywire/wire/FieldType;" (.ref (A 23))) ∧ (Exa Z Z.heap (A 23) "com/example/tallywire/tallywire/wire/FieldType") ∧ True) ∧ ((Sta Z Z.heap "com/example/tallywire/tallywire/wire/FieldType" "TZTIMEONLY" "Lcom/example/tallywire/tallywire/wire/FieldType;" (.ref (A 24))) ∧ (Exa Z Z.heap (A 24) "com/example/tallywire/tallywire/wire/FieldType") ∧ (Sta Z Z.heap "com/example/tallywire/tallywire/wire/FieldType" "TZTIMESTAMP" "Lcom/example/tallywire/tallywire/wire/FieldType;" (.ref (A 25))) ∧ (Exa Z Z.heap (A 25) "com/example/tallywire/tallywire/wire/FieldType") ∧ (Sta Z Z.heap "com/example/tallywire/tallywire/wire/FieldType" "DATA" "Lcom/example/tallywire/tallywire/wire/FieldType;" (.ref (A 26))) ∧ (Exa Z Z.heap (A 26) "com/example/tallywire/tallywire/wire/FieldType") ∧ (Sta Z Z.heap "com/example/tallywire/tallywire/wire/FieldType" "XMLDATA" "Lcom/example/tallywire/tallywire/wire/FieldType;" (.ref (A 27))) ∧ (Exa Z Z.heap (A 27) "com/example/tallywire/tallywire/wire/FieldType") ∧ True) ∧ ((Fld Z Z.heap (A 0) "java/lang/Enum" "ordinal" "I" (.int (0 : Int32))) ∧ (Fld Z Z.heap (A 26) "java/lang/Enum" "ordinal" "I" (.int (26 : Int32))) ∧ (Fld Z Z.heap (A 27) "java/lang/Enum" "ordinal" "I" (.int (27 : Int32))) ∧ (Fld Z Z.heap (A 3) "java/lang/Enum" "ordinal" "I" (.int (3 : Int32))) ∧ (Fld Z Z.heap (A 18) "java/lang/Enum" "ordinal" "I" (.int (18 : Int32))) ∧ (Fld Z Z.heap (A 7) "java/lang/Enum" "ordinal" "I" (.int (7 : Int32))) ∧ (Fld Z Z.heap (A 2) "java/lang/Enum" "ordinal" "I" (.int (2 : Int32))) ∧ (Fld Z Z.heap (A 11) "java/lang/Enum" "ordinal" "I" (.int (11 : Int32))) ∧ True) ∧ ((Fld Z Z.heap (A 24) "java/lang/Enum" "ordinal" "I" (.int (24 : Int32))) ∧ (Fld Z Z.heap (A 8) "java/lang/Enum" "ordinal" "I" (.int (8 : Int32))) ∧ (Fld Z Z.heap (A 1) "java/lang/Enum" "ordinal" "I" (.int (1 : Int32))) ∧ (Fld Z Z.heap (A 10) "java/lang/Enum" "ordinal" "I" (.int (10 : Int32))) ∧ (Fld Z Z.heap (A 9) "java/lang/Enum" "ordinal" "I" (.int (9 : Int32))) ∧ (Fld Z Z.heap (A 19) "java/lang/Enum" "ordinal" "I" (.int (19 : Int32))) ∧ (Fld Z Z.heap (A 16) "java/lang/Enum" "ordinal" "I" (.int (16 : Int32))) ∧ (Fld Z Z.heap (A 15) "java/lang/Enum" "ordinal" "I" (.int (15 : Int32))) ∧ True) ∧ ((Fld Z Z.heap (A 6) "java/lang/Enum" "ordinal" "I" (.int (6 : Int32))) ∧ (Fld Z Z.heap (A 20) "java/lang/Enum" "ordinal" "I" (.int (20 : Int32))) ∧ (Fld Z Z.heap (A 23) "java/lang/Enum" "ordinal" "I" (.int (23 : Int32))) ∧ (Fld Z Z.heap (A 13) "java/lang/Enum" "ordinal" "I" (.int (13 : Int32))) ∧ (Fld Z Z.heap (A 4) "java/lang/Enum" "ordinal" "I" (.int (4 : Int32))) ∧ (Fld Z Z.heap (A 22) "java/lang/Enum" "ordinal" "I" (.int (22 : Int32))) ∧ (Fld Z Z.heap (A 17) "java/lang/Enum" "ordinal" "I" (.int (17 : Int32))) ∧ (Fld Z Z.heap (A 14) "java/lang/Enum" "ordinal" "I" (.int (14 : Int32))) ∧ True) ∧ ((Fld Z Z.heap (A 5) "java/lang/Enum" "ordinal" "I" (.int (5 : Int32))) ∧ (Fld Z Z.heap (A 12) "java/lang/Enum" "ordinal" "I" (.int (12 : Int32))) ∧ (Fld Z Z.heap (A 25) "java/lang/Enum" "ordinal" "I" (.int (25 : Int32))) ∧ (Fld Z Z.heap (A 21) "java/lang/Enum" "ordinal" "I" (.int (21 : Int32))) ∧ True) ∧ True
theorem own_d_method_3_code_0 : decode method_3_code 0 = .ok (.iload_n 0, 1) := by decide +kernel
theorem own_d_method_3_code_1 : decode method_3_code 1 = .ok (.tableswitch 231 0 26 #[123, 127, 131, 135, 139, 143, 147, 151, 155, 159, 163, 167, 171, 175, 179, 183, 187, 191, 195, 199, 203, 207, 211, 215, 219, 223, 227], 123) := by decide +kernel
theorem own_d_method_3_code_124 : decode method_3_code 124 = .ok (.getstatic 20, 3) := by decide +kernel
theorem own_d_method_3_code_127 : decode method_3_code 127 = .ok (.areturn, 1) := by decide +kernel
theorem own_pn0 : plainName "com/example/tallywire/tallywire/wire/FieldTypeIsDataPinLaw" = true := by first | (simp [plainName, overriddenIn]; done) | decide +kernel
theorem own_ef_rm1 (m : MethodId) (p1 : Int32) (A : Nat → Addr) (K : Nat → ClassId)  : entryFrame m #[(.int (0 : Int32))] 1 = mkF m 0 #[.val (.int (0 : Int32))] [] := by first | (simp [entryFrame, mkF, argsToLocals, Value.category, maxLocals]; done) | rfl
set_option maxRecDepth 65536 in
set_option maxHeartbeats 40000000 in
theorem rm1 (l : Launch) (Z : State) (a0 : Array Value) (hw : ∀ d ∈ tables_1, d.before a0 Z = true) (ws : List Jvm.Cond) (h0 : Heap) (n0 : Nat) (p1 : Int32) (A : Nat → Addr) (K : Nat → ClassId)  (EN : own_St Z A K) (OL0 : Old Z n0 h0) :
    MetFree l own_m1 (head1 (Jvm.Cond.code own_m1 method_3_code 1 (some (.object "com/example/tallywire/tallywire/wire/FieldType")) :: ws) ({ frames := 0, cells := 0, slots := 0, locals := 0 } : Room)) (fun a U => a = #[(.int (0 : Int32))] ∧ Z.Warmed39 U.vm ∧ U.heap = h0) (fun _ _ _ _ _ => True) (fun _ U o U' => ∃ v L, o = .returned v ∧ (PQ (some (.ref (A 0))) h0 n0) v U'.heap L ∧ FrameEnd U o U' L ({ frames := 0, cells := 0, slots := 0, locals := 0 } : Room).cells ({ frames := 0, cells := 0, slots := 0, locals := 0 } : Room).slots) := by
  refine MetFree.of_bodySF (plainFor_of_name own_pn0) hisR ?_
  intro p e s m args below meth c s₁ Bd hml0 hP hK
  obtain ⟨rfl, hZ, hh⟩ := hP
  have hx := Bd.exec
  have hby := Bd.bytes
  have hml : c.maxLocals = 1 := hml0
  have hown : s.vm.findClass "com/example/tallywire/tallywire/wire/FieldTypeIsDataPinLaw" = some m.cls := findClass_of_methodNamed Bd.named
  have hnm := (name_of_methodNamed Bd.named Bd.method).1
  have X0 : Stand p l e ({ frames := 0, cells := 0, slots := 0, locals := 0 } : Room) s m #[(.int (0 : Int32))] below meth c s₁ [] 0 0 := Stand.of_body Bd
  have e0 : s₁.heap = h0 := by rw [← hh, Bd.state]; rfl
  have N0 := Fr.nil n0
  have pre0 : ∀ t, Steps p.tables e below (s₁.setTop (mkF m 0 #[.val (.int (0 : Int32))] [])) t → Steps p.tables e below (s₁.setTop (entryFrame m #[(.int (0 : Int32))] 1)) t := fun t k => castTop (own_ef_rm1 m p1 A K ) k
  have KK0 : Keep h0 h0 [] := Keep.refl _ _
  obtain ⟨T3, X3, e3, st3⟩ := getS2 X0 hx hZ hown (host := "") (Or.inl (hw _ (List.mem_of_getElem? (i := 5) rfl))) Via.refl e0 (EN.1.1.ext OL0.2) (g := (mkF m 124 #[.val (.int (0 : Int32))] [])) rfl (hb hby own_d_method_3_code_124)
  obtain ⟨fs, hr, hrun, hended, hW, hsame⟩ := X3.leave (v := some (.ref (A 0))) (fun h => by rw [Bd.returns] at h; cases h)
  refine ⟨_, _, pre0 _ ?_, hrun, hended, _, _, rfl, ?_, ⟨_, rfl⟩, hW, hsame.mono (by decide) (by decide)⟩
  · show Steps p.tables e below (s₁.setTop (mkF m 0 #[.val (.int (0 : Int32))] [])) _
    refine XS.iloadN X0.here hx rfl (hb hby own_d_method_3_code_0) rfl ?_
    show Steps p.tables e below (s₁.setTop (mkF m 1 #[.val (.int (0 : Int32))] [(.int (0 : Int32))])) _
    refine XS.tswIn X0.here hx rfl (pc0 := 1) (pc' := 124) rfl (hb hby own_d_method_3_code_1) rfl (by decide) (o := 123) (by decide) (by decide) (by decide) ?_
    show Steps p.tables e below (s₁.setTop (mkF m 124 #[.val (.int (0 : Int32))] [])) _
    refine st3 _ ?_
    show Steps p.tables e below (T3.setTop (mkF m 127 #[.val (.int (0 : Int32))] [(.ref (A 0))])) _
    exact retOut X3 hx Bd.returns rfl (Or.inr (Or.inr (Or.inr (Or.inr ⟨rfl, rfl, rfl⟩)))) (hb hby own_d_method_3_code_127) hr
  · show PQ (some (.ref (A 0))) h0 n0 _ T3.heap _
    rw [e3]
    exact ⟨rfl, N0, rfl⟩
theorem own_d_prog_40_method_4_code_0 : decode prog_40_method_4_code 0 = .ok (.aload_n 0, 1) := by decide +kernel
theorem own_d_prog_40_method_4_code_1 : decode prog_40_method_4_code 1 = .ok (.getstatic 82, 3) := by decide +kernel
theorem own_d_prog_40_method_4_code_4 : decode prog_40_method_4_code 4 = .ok (.if_acmp .eq 10, 3) := by decide +kernel
theorem own_d_prog_40_method_4_code_7 : decode prog_40_method_4_code 7 = .ok (.aload_n 0, 1) := by decide +kernel
theorem own_d_prog_40_method_4_code_8 : decode prog_40_method_4_code 8 = .ok (.getstatic 85, 3) := by decide +kernel
theorem own_d_prog_40_method_4_code_11 : decode prog_40_method_4_code 11 = .ok (.if_acmp .ne 7, 3) := by decide +kernel
theorem own_d_prog_40_method_4_code_18 : decode prog_40_method_4_code 18 = .ok (.iconst 0, 1) := by decide +kernel
theorem own_d_prog_40_method_4_code_19 : decode prog_40_method_4_code 19 = .ok (.ireturn, 1) := by decide +kernel
theorem own_pn1 : plainName "com/example/tallywire/tallywire/wire/FieldType" = true := by first | (simp [plainName, overriddenIn]; done) | decide +kernel
theorem own_ef_rm2 (m : MethodId) (p1 : Int32) (A : Nat → Addr) (K : Nat → ClassId)  : entryFrame m #[(.ref (A 0))] 1 = mkF m 0 #[.val (.ref (A 0))] [] := by first | (simp [entryFrame, mkF, argsToLocals, Value.category, maxLocals]; done) | rfl
set_option maxRecDepth 65536 in
set_option maxHeartbeats 40000000 in
theorem rm2 (l : Launch) (Z : State) (a0 : Array Value) (hw : ∀ d ∈ tables_1, d.before a0 Z = true) (ws : List Jvm.Cond) (h0 : Heap) (n0 : Nat) (p1 : Int32) (A : Nat → Addr) (K : Nat → ClassId)  (EN : own_St Z A K) (OL0 : Old Z n0 h0) :
    MetFree l own_m0 (head1 (Jvm.Cond.code own_m0 prog_40_method_4_code 1 (some .boolean) :: ws) ({ frames := 0, cells := 0, slots := 0, locals := 0 } : Room)) (fun a U => a = #[(.ref (A 0))] ∧ Z.Warmed39 U.vm ∧ U.heap = h0) (fun _ _ _ _ _ => True) (fun _ U o U' => ∃ v L, o = .returned v ∧ (PQ (some (.int (0 : Int32))) h0 n0) v U'.heap L ∧ FrameEnd U o U' L ({ frames := 0, cells := 0, slots := 0, locals := 0 } : Room).cells ({ frames := 0, cells := 0, slots := 0, locals := 0 } : Room).slots) := by
  refine MetFree.of_bodySF (plainFor_of_name own_pn1) hisR ?_
  intro p e s m args below meth c s₁ Bd hml0 hP hK
  obtain ⟨rfl, hZ, hh⟩ := hP
  have hx := Bd.exec
  have hby := Bd.bytes
  have hml : c.maxLocals = 1 := hml0
  have hown : s.vm.findClass "com/example/tallywire/tallywire/wire/FieldType" = some m.cls := findClass_of_methodNamed Bd.named
  have hnm := (name_of_methodNamed Bd.named Bd.method).1
  have X0 : Stand p l e ({ frames := 0, cells := 0, slots := 0, locals := 0 } : Room) s m #[(.ref (A 0))] below meth c s₁ [] 0 0 := Stand.of_body Bd
  have e0 : s₁.heap = h0 := by rw [← hh, Bd.state]; rfl
  have N0 := Fr.nil n0
  have pre0 : ∀ t, Steps p.tables e below (s₁.setTop (mkF m 0 #[.val (.ref (A 0))] [])) t → Steps p.tables e below (s₁.setTop (entryFrame m #[(.ref (A 0))] 1)) t := fun t k => castTop (own_ef_rm2 m p1 A K ) k
  have KK0 : Keep h0 h0 [] := Keep.refl _ _
  obtain ⟨T5, X5, e5, st5⟩ := getS2 X0 hx hZ hown (host := "") (Or.inl (hw _ (List.mem_of_getElem? (i := 13) rfl))) Via.refl e0 (EN.2.2.2.2.2.2.1.2.2.2.2.1.ext OL0.2) (g := (mkF m 1 #[.val (.ref (A 0))] [(.ref (A 0))])) rfl (hb hby own_d_prog_40_method_4_code_1)
  obtain ⟨T6, X6, e6, st6⟩ := getS2 X5 hx hZ hown (host := "") (Or.inl (hw _ (List.mem_of_getElem? (i := 15) rfl))) Via.refl e5 (EN.2.2.2.2.2.2.1.2.2.2.2.2.2.1.ext OL0.2) (g := (mkF m 8 #[.val (.ref (A 0))] [(.ref (A 0))])) rfl (hb hby own_d_prog_40_method_4_code_8)
  obtain ⟨fs, hr, hrun, hended, hW, hsame⟩ := X6.leave (v := some (.int (0 : Int32))) (fun h => by rw [Bd.returns] at h; cases h)
  refine ⟨_, _, pre0 _ ?_, hrun, hended, _, _, rfl, ?_, ⟨_, rfl⟩, hW, hsame.mono (by decide) (by decide)⟩
  · show Steps p.tables e below (s₁.setTop (mkF m 0 #[.val (.ref (A 0))] [])) _
    refine XS.aloadN X0.here hx rfl (hb hby own_d_prog_40_method_4_code_0) rfl rfl ?_
    show Steps p.tables e below (s₁.setTop (mkF m 1 #[.val (.ref (A 0))] [(.ref (A 0))])) _
    refine st5 _ ?_
    show Steps p.tables e below (T5.setTop (mkF m 4 #[.val (.ref (A 0))] [(.ref (A 26)), (.ref (A 0))])) _
    refine Jvm.RoadKit.acmp (g := (mkF m 4 #[.val (.ref (A 0))] [(.ref (A 26)), (.ref (A 0))])) X5 hx rfl rfl rfl (pc0 := 4) (pc' := 7) (same := false) rfl (hb hby own_d_prog_40_method_4_code_4) rfl (decide_eq_false fun q => (Fld.ne EN.2.2.2.2.2.2.2.1.1 EN.2.2.2.2.2.2.2.1.2.1 (fun h => by injection h with h; exact absurd h (by decide))) (Value.ref.inj q)) (by decide) (by decide) ?_
    show Steps p.tables e below (T5.setTop (mkF m 7 #[.val (.ref (A 0))] [])) _
    refine XS.aloadN X5.here hx rfl (hb hby own_d_prog_40_method_4_code_7) rfl rfl ?_
    show Steps p.tables e below (T5.setTop (mkF m 8 #[.val (.ref (A 0))] [(.ref (A 0))])) _
    refine st6 _ ?_
    show Steps p.tables e below (T6.setTop (mkF m 11 #[.val (.ref (A 0))] [(.ref (A 27)), (.ref (A 0))])) _
    refine Jvm.RoadKit.acmp (g := (mkF m 11 #[.val (.ref (A 0))] [(.ref (A 27)), (.ref (A 0))])) X6 hx rfl rfl rfl (pc0 := 11) (pc' := 18) (same := false) rfl (hb hby own_d_prog_40_method_4_code_11) rfl (decide_eq_false fun q => (Fld.ne EN.2.2.2.2.2.2.2.1.1 EN.2.2.2.2.2.2.2.1.2.2.1 (fun h => by injection h with h; exact absurd h (by decide))) (Value.ref.inj q)) (by decide) (by decide) ?_
    show Steps p.tables e below (T6.setTop (mkF m 18 #[.val (.ref (A 0))] [])) _
    refine XS.iconst X6.here hx rfl (hb hby own_d_prog_40_method_4_code_18) ?_
    show Steps p.tables e below (T6.setTop (mkF m 19 #[.val (.ref (A 0))] [(.int (0 : Int32))])) _
    exact retN X6 hx (t := .boolean) Bd.returns (by simp) (hb hby own_d_prog_40_method_4_code_19) hr
  · show PQ (some (.int (0 : Int32))) h0 n0 _ T6.heap _
    rw [e6]
    exact ⟨rfl, N0, rfl⟩
theorem own_d_method_3_code_128 : decode method_3_code 128 = .ok (.getstatic 24, 3) := by decide +kernel
theorem own_d_method_3_code_131 : decode method_3_code 131 = .ok (.areturn, 1) := by decide +kernel
theorem own_ef_rm3 (m : MethodId) (p1 : Int32) (A : Nat → Addr) (K : Nat → ClassId)  : entryFrame m #[(.int (1 : Int32))] 1 = mkF m 0 #[.val (.int (1 : Int32))] [] := by first | (simp [entryFrame, mkF, argsToLocals, Value.category, maxLocals]; done) | rfl
set_option maxRecDepth 65536 in
set_option maxHeartbeats 40000000 in
theorem rm3 (l : Launch) (Z : State) (a0 : Array Value) (hw : ∀ d ∈ tables_1, d.before a0 Z = true) (ws : List Jvm.Cond) (h0 : Heap) (n0 : Nat) (p1 : Int32) (A : Nat → Addr) (K : Nat → ClassId)  (EN : own_St Z A K) (OL0 : Old Z n0 h0) :
    MetFree l own_m1 (head1 (Jvm.Cond.code own_m1 method_3_code 1 (some (.object "com/example/tallywire/tallywire/wire/FieldType")) :: ws) ({ frames := 0, cells := 0, slots := 0, locals := 0 } : Room)) (fun a U => a = #[(.int (1 : Int32))] ∧ Z.Warmed39 U.vm ∧ U.heap = h0) (fun _ _ _ _ _ => True) (fun _ U o U' => ∃ v L, o = .returned v ∧ (PQ (some (.ref (A 1))) h0 n0) v U'.heap L ∧ FrameEnd U o U' L ({ frames := 0, cells := 0, slots := 0, locals := 0 } : Room).cells ({ frames := 0, cells := 0, slots := 0, locals := 0 } : Room).slots) := by
  refine MetFree.of_bodySF (plainFor_of_name own_pn0) hisR ?_
  intro p e s m args below meth c s₁ Bd hml0 hP hK
  obtain ⟨rfl, hZ, hh⟩ := hP
  have hx := Bd.exec
  have hby := Bd.bytes
  have hml : c.maxLocals = 1 := hml0
  have hown : s.vm.findClass "com/example/tallywire/tallywire/wire/FieldTypeIsDataPinLaw" = some m.cls := findClass_of_methodNamed Bd.named
  have hnm := (name_of_methodNamed Bd.named Bd.method).1
  have X0 : Stand p l e ({ frames := 0, cells := 0, slots := 0, locals := 0 } : Room) s m #[(.int (1 : Int32))] below meth c s₁ [] 0 0 := Stand.of_body Bd
  have e0 : s₁.heap = h0 := by rw [← hh, Bd.state]; rfl
  have N0 := Fr.nil n0
  have pre0 : ∀ t, Steps p.tables e below (s₁.setTop (mkF m 0 #[.val (.int (1 : Int32))] [])) t → Steps p.tables e below (s₁.setTop (entryFrame m #[(.int (1 : Int32))] 1)) t := fun t k => castTop (own_ef_rm3 m p1 A K ) k
  have KK0 : Keep h0 h0 [] := Keep.refl _ _
  obtain ⟨T8, X8, e8, st8⟩ := getS2 X0 hx hZ hown (host := "") (Or.inl (hw _ (List.mem_of_getElem? (i := 33) rfl))) Via.refl e0 (EN.1.2.2.1.ext OL0.2) (g := (mkF m 128 #[.val (.int (1 : Int32))] [])) rfl (hb hby own_d_method_3_code_128)
  obtain ⟨fs, hr, hrun, hended, hW, hsame⟩ := X8.leave (v := some (.ref (A 1))) (fun h => by rw [Bd.returns] at h; cases h)
  refine ⟨_, _, pre0 _ ?_, hrun, hended, _, _, rfl, ?_, ⟨_, rfl⟩, hW, hsame.mono (by decide) (by decide)⟩
  · show Steps p.tables e below (s₁.setTop (mkF m 0 #[.val (.int (1 : Int32))] [])) _
    refine XS.iloadN X0.here hx rfl (hb hby own_d_method_3_code_0) rfl ?_
    show Steps p.tables e below (s₁.setTop (mkF m 1 #[.val (.int (1 : Int32))] [(.int (1 : Int32))])) _
    refine XS.tswIn X0.here hx rfl (pc0 := 1) (pc' := 128) rfl (hb hby own_d_method_3_code_1) rfl (by decide) (o := 127) (by decide) (by decide) (by decide) ?_
    show Steps p.tables e below (s₁.setTop (mkF m 128 #[.val (.int (1 : Int32))] [])) _
    refine st8 _ ?_
    show Steps p.tables e below (T8.setTop (mkF m 131 #[.val (.int (1 : Int32))] [(.ref (A 1))])) _
    exact retOut X8 hx Bd.returns rfl (Or.inr (Or.inr (Or.inr (Or.inr ⟨rfl, rfl, rfl⟩)))) (hb hby own_d_method_3_code_131) hr
  · show PQ (some (.ref (A 1))) h0 n0 _ T8.heap _
    rw [e8]
    exact ⟨rfl, N0, rfl⟩
theorem own_ef_rm4 (m : MethodId) (p1 : Int32) (A : Nat → Addr) (K : Nat → ClassId)  : entryFrame m #[(.ref (A 1))] 1 = mkF m 0 #[.val (.ref (A 1))] [] := by first | (simp [entryFrame, mkF, argsToLocals, Value.category, maxLocals]; done) | rfl
set_option maxRecDepth 65536 in
set_option maxHeartbeats 40000000 in
theorem rm4 (l : Launch) (Z : State) (a0 : Array Value) (hw : ∀ d ∈ tables_1, d.before a0 Z = true) (ws : List Jvm.Cond) (h0 : Heap) (n0 : Nat) (p1 : Int32) (A : Nat → Addr) (K : Nat → ClassId)  (EN : own_St Z A K) (OL0 : Old Z n0 h0) :
    MetFree l own_m0 (head1 (Jvm.Cond.code own_m0 prog_40_method_4_code 1 (some .boolean) :: ws) ({ frames := 0, cells := 0, slots := 0, locals := 0 } : Room)) (fun a U => a = #[(.ref (A 1))] ∧ Z.Warmed39 U.vm ∧ U.heap = h0) (fun _ _ _ _ _ => True) (fun _ U o U' => ∃ v L, o = .returned v ∧ (PQ (some (.int (0 : Int32))) h0 n0) v U'.heap L ∧ FrameEnd U o U' L ({ frames := 0, cells := 0, slots := 0, locals := 0 } : Room).cells ({ frames := 0, cells := 0, slots := 0, locals := 0 } : Room).slots) := by
  refine MetFree.of_bodySF (plainFor_of_name own_pn1) hisR ?_
  intro p e s m args below meth c s₁ Bd hml0 hP hK
  obtain ⟨rfl, hZ, hh⟩ := hP
  have hx := Bd.exec
  have hby := Bd.bytes
  have hml : c.maxLocals = 1 := hml0
  have hown : s.vm.findClass "com/example/tallywire/tallywire/wire/FieldType" = some m.cls := findClass_of_methodNamed Bd.named
  have hnm := (name_of_methodNamed Bd.named Bd.method).1
  have X0 : Stand p l e ({ frames := 0, cells := 0, slots := 0, locals := 0 } : Room) s m #[(.ref (A 1))] below meth c s₁ [] 0 0 := Stand.of_body Bd
  have e0 : s₁.heap = h0 := by rw [← hh, Bd.state]; rfl
  have N0 := Fr.nil n0
  have pre0 : ∀ t, Steps p.tables e below (s₁.setTop (mkF m 0 #[.val (.ref (A 1))] [])) t → Steps p.tables e below (s₁.setTop (entryFrame m #[(.ref (A 1))] 1)) t := fun t k => castTop (own_ef_rm4 m p1 A K ) k
  have KK0 : Keep h0 h0 [] := Keep.refl _ _
  obtain ⟨T10, X10, e10, st10⟩ := getS2 X0 hx hZ hown (host := "") (Or.inl (hw _ (List.mem_of_getElem? (i := 13) rfl))) Via.refl e0 (EN.2.2.2.2.2.2.1.2.2.2.2.1.ext OL0.2) (g := (mkF m 1 #[.val (.ref (A 1))] [(.ref (A 1))])) rfl (hb hby own_d_prog_40_method_4_code_1)
  obtain ⟨T11, X11, e11, st11⟩ := getS2 X10 hx hZ hown (host := "") (Or.inl (hw _ (List.mem_of_getElem? (i := 15) rfl))) Via.refl e10 (EN.2.2.2.2.2.2.1.2.2.2.2.2.2.1.ext OL0.2) (g := (mkF m 8 #[.val (.ref (A 1))] [(.ref (A 1))])) rfl (hb hby own_d_prog_40_method_4_code_8)
  obtain ⟨fs, hr, hrun, hended, hW, hsame⟩ := X11.leave (v := some (.int (0 : Int32))) (fun h => by rw [Bd.returns] at h; cases h)
  refine ⟨_, _, pre0 _ ?_, hrun, hended, _, _, rfl, ?_, ⟨_, rfl⟩, hW, hsame.mono (by decide) (by decide)⟩
  · show Steps p.tables e below (s₁.setTop (mkF m 0 #[.val (.ref (A 1))] [])) _
    refine XS.aloadN X0.here hx rfl (hb hby own_d_prog_40_method_4_code_0) rfl rfl ?_
    show Steps p.tables e below (s₁.setTop (mkF m 1 #[.val (.ref (A 1))] [(.ref (A 1))])) _
    refine st10 _ ?_
    show Steps p.tables e below (T10.setTop (mkF m 4 #[.val (.ref (A 1))] [(.ref (A 26)), (.ref (A 1))])) _
    refine Jvm.RoadKit.acmp (g := (mkF m 4 #[.val (.ref (A 1))] [(.ref (A 26)), (.ref (A 1))])) X10 hx rfl rfl rfl (pc0 := 4) (pc' := 7) (same := false) rfl (hb hby own_d_prog_40_method_4_code_4) rfl (decide_eq_false fun q => (Fld.ne EN.2.2.2.2.2.2.2.2.1.2.2.1 EN.2.2.2.2.2.2.2.1.2.1 (fun h => by injection h with h; exact absurd h (by decide))) (Value.ref.inj q)) (by decide) (by decide) ?_
    show Steps p.tables e below (T10.setTop (mkF m 7 #[.val (.ref (A 1))] [])) _
    refine XS.aloadN X10.here hx rfl (hb hby own_d_prog_40_method_4_code_7) rfl rfl ?_
    show Steps p.tables e below (T10.setTop (mkF m 8 #[.val (.ref (A 1))] [(.ref (A 1))])) _
    refine st11 _ ?_
    show Steps p.tables e below (T11.setTop (mkF m 11 #[.val (.ref (A 1))] [(.ref (A 27)), (.ref (A 1))])) _
    refine Jvm.RoadKit.acmp (g := (mkF m 11 #[.val (.ref (A 1))] [(.ref (A 27)), (.ref (A 1))])) X11 hx rfl rfl rfl (pc0 := 11) (pc' := 18) (same := false) rfl (hb hby own_d_prog_40_method_4_code_11) rfl (decide_eq_false fun q => (Fld.ne EN.2.2.2.2.2.2.2.2.1.2.2.1 EN.2.2.2.2.2.2.2.1.2.2.1 (fun h => by injection h with h; exact absurd h (by decide))) (Value.ref.inj q)) (by decide) (by decide) ?_
    show Steps p.tables e below (T11.setTop (mkF m 18 #[.val (.ref (A 1))] [])) _
    refine XS.iconst X11.here hx rfl (hb hby own_d_prog_40_method_4_code_18) ?_
    show Steps p.tables e below (T11.setTop (mkF m 19 #[.val (.ref (A 1))] [(.int (0 : Int32))])) _
    exact retN X11 hx (t := .boolean) Bd.returns (by simp) (hb hby own_d_prog_40_method_4_code_19) hr
  · show PQ (some (.int (0 : Int32))) h0 n0 _ T11.heap _
    rw [e11]
    exact ⟨rfl, N0, rfl⟩
theorem own_d_method_3_code_132 : decode method_3_code 132 = .ok (.getstatic 27, 3) := by decide +kernel
theorem own_d_method_3_code_135 : decode method_3_code 135 = .ok (.areturn, 1) := by decide +kernel
theorem own_ef_rm5 (m : MethodId) (p1 : Int32) (A : Nat → Addr) (K : Nat → ClassId)  : entryFrame m #[(.int (2 : Int32))] 1 = mkF m 0 #[.val (.int (2 : Int32))] [] := by first | (simp [entryFrame, mkF, argsToLocals, Value.category, maxLocals]; done) | rfl
set_option maxRecDepth 65536 in
set_option maxHeartbeats 40000000 in
theorem rm5 (l : Launch) (Z : State) (a0 : Array Value) (hw : ∀ d ∈ tables_1, d.before a0 Z = true) (ws : List Jvm.Cond) (h0 : Heap) (n0 : Nat) (p1 : Int32) (A : Nat → Addr) (K : Nat → ClassId)  (EN : own_St Z A K) (OL0 : Old Z n0 h0) :
    MetFree l own_m1 (head1 (Jvm.Cond.code own_m1 method_3_code 1 (some (.object "com/example/tallywire/tallywire/wire/FieldType")) :: ws) ({ frames := 0, cells := 0, slots := 0, locals := 0 } : Room)) (fun a U => a = #[(.int (2 : Int32))] ∧ Z.Warmed39 U.vm ∧ U.heap = h0) (fun _ _ _ _ _ => True) (fun _ U o U' => ∃ v L, o = .returned v ∧ (PQ (some (.ref (A 2))) h0 n0) v U'.heap L ∧ FrameEnd U o U' L ({ frames := 0, cells := 0, slots := 0, locals := 0 } : Room).cells ({ frames := 0, cells := 0, slots := 0, locals := 0 } : Room).slots) := by
  refine MetFree.of_bodySF (plainFor_of_name own_pn0) hisR ?_
  intro p e s m args below meth c s₁ Bd hml0 hP hK
  obtain ⟨rfl, hZ, hh⟩ := hP
  have hx := Bd.exec
  have hby := Bd.bytes
  have hml : c.maxLocals = 1 := hml0
  have hown : s.vm.findClass "com/example/tallywire/tallywire/wire/FieldTypeIsDataPinLaw" = some m.cls := findClass_of_methodNamed Bd.named
  have hnm := (name_of_methodNamed Bd.named Bd.method).1
  have X0 : Stand p l e ({ frames := 0, cells := 0, slots := 0, locals := 0 } : Room) s m #[(.int (2 : Int32))] below meth c s₁ [] 0 0 := Stand.of_body Bd
  have e0 : s₁.heap = h0 := by rw [← hh, Bd.state]; rfl
  have N0 := Fr.nil n0
  have pre0 : ∀ t, Steps p.tables e below (s₁.setTop (mkF m 0 #[.val (.int (2 : Int32))] [])) t → Steps p.tables e below (s₁.setTop (entryFrame m #[(.int (2 : Int32))] 1)) t := fun t k => castTop (own_ef_rm5 m p1 A K ) k
  have KK0 : Keep h0 h0 [] := Keep.refl _ _
  obtain ⟨T13, X13, e13, st13⟩ := getS2 X0 hx hZ hown (host := "") (Or.inl (hw _ (List.mem_of_getElem? (i := 25) rfl))) Via.refl e0 (EN.1.2.2.2.2.1.ext OL0.2) (g := (mkF m 132 #[.val (.int (2 : Int32))] [])) rfl (hb hby own_d_method_3_code_132)
  obtain ⟨fs, hr, hrun, hended, hW, hsame⟩ := X13.leave (v := some (.ref (A 2))) (fun h => by rw [Bd.returns] at h; cases h)
  refine ⟨_, _, pre0 _ ?_, hrun, hended, _, _, rfl, ?_, ⟨_, rfl⟩, hW, hsame.mono (by decide) (by decide)⟩
  · show Steps p.tables e below (s₁.setTop (mkF m 0 #[.val (.int (2 : Int32))] [])) _
    refine XS.iloadN X0.here hx rfl (hb hby own_d_method_3_code_0) rfl ?_
    show Steps p.tables e below (s₁.setTop (mkF m 1 #[.val (.int (2 : Int32))] [(.int (2 : Int32))])) _
    refine XS.tswIn X0.here hx rfl (pc0 := 1) (pc' := 132) rfl (hb hby own_d_method_3_code_1) rfl (by decide) (o := 131) (by decide) (by decide) (by decide) ?_
    show Steps p.tables e below (s₁.setTop (mkF m 132 #[.val (.int (2 : Int32))] [])) _
    refine st13 _ ?_
    show Steps p.tables e below (T13.setTop (mkF m 135 #[.val (.int (2 : Int32))] [(.ref (A 2))])) _
    exact retOut X13 hx Bd.returns rfl (Or.inr (Or.inr (Or.inr (Or.inr ⟨rfl, rfl, rfl⟩)))) (hb hby own_d_method_3_code_135) hr
  · show PQ (some (.ref (A 2))) h0 n0 _ T13.heap _
    rw [e13]
    exact ⟨rfl, N0, rfl⟩
theorem own_ef_rm6 (m : MethodId) (p1 : Int32) (A : Nat → Addr) (K : Nat → ClassId)  : entryFrame m #[(.ref (A 2))] 1 = mkF m 0 #[.val (.ref (A 2))] [] := by first | (simp [entryFrame, mkF, argsToLocals, Value.category, maxLocals]; done) | rfl
set_option maxRecDepth 65536 in
set_option maxHeartbeats 40000000 in
theorem rm6 (l : Launch) (Z : State) (a0 : Array Value) (hw : ∀ d ∈ tables_1, d.before a0 Z = true) (ws : List Jvm.Cond) (h0 : Heap) (n0 : Nat) (p1 : Int32) (A : Nat → Addr) (K : Nat → ClassId)  (EN : own_St Z A K) (OL0 : Old Z n0 h0) :
    MetFree l own_m0 (head1 (Jvm.Cond.code own_m0 prog_40_method_4_code 1 (some .boolean) :: ws) ({ frames := 0, cells := 0, slots := 0, locals := 0 } : Room)) (fun a U => a = #[(.ref (A 2))] ∧ Z.Warmed39 U.vm ∧ U.heap = h0) (fun _ _ _ _ _ => True) (fun _ U o U' => ∃ v L, o = .returned v ∧ (PQ (some (.int (0 : Int32))) h0 n0) v U'.heap L ∧ FrameEnd U o U' L ({ frames := 0, cells := 0, slots := 0, locals := 0 } : Room).cells ({ frames := 0, cells := 0, slots := 0, locals := 0 } : Room).slots) := by
  refine MetFree.of_bodySF (plainFor_of_name own_pn1) hisR ?_
  intro p e s m args below meth c s₁ Bd hml0 hP hK
  obtain ⟨rfl, hZ, hh⟩ := hP
  have hx := Bd.exec
  have hby := Bd.bytes
  have hml : c.maxLocals = 1 := hml0
  have hown : s.vm.findClass "com/example/tallywire/tallywire/wire/FieldType" = some m.cls := findClass_of_methodNamed Bd.named
  have hnm := (name_of_methodNamed Bd.named Bd.method).1
  have X0 : Stand p l e ({ frames := 0, cells := 0, slots := 0, locals := 0 } : Room) s m #[(.ref (A 2))] below meth c s₁ [] 0 0 := Stand.of_body Bd
  have e0 : s₁.heap = h0 := by rw [← hh, Bd.state]; rfl
  have N0 := Fr.nil n0
  have pre0 : ∀ t, Steps p.tables e below (s₁.setTop (mkF m 0 #[.val (.ref (A 2))] [])) t → Steps p.tables e below (s₁.setTop (entryFrame m #[(.ref (A 2))] 1)) t := fun t k => castTop (own_ef_rm6 m p1 A K ) k
  have KK0 : Keep h0 h0 [] := Keep.refl _ _
  obtain ⟨T15, X15, e15, st15⟩ := getS2 X0 hx hZ hown (host := "") (Or.inl (hw _ (List.mem_of_getElem? (i := 13) rfl))) Via.refl e0 (EN.2.2.2.2.2.2.1.2.2.2.2.1.ext OL0.2) (g := (mkF m 1 #[.val (.ref (A 2))] [(.ref (A 2))])) rfl (hb hby own_d_prog_40_method_4_code_1)
  obtain ⟨T16, X16, e16, st16⟩ := getS2 X15 hx hZ hown (host := "") (Or.inl (hw _ (List.mem_of_getElem? (i := 15) rfl))) Via.refl e15 (EN.2.2.2.2.2.2.1.2.2.2.2.2.2.1.ext OL0.2) (g := (mkF m 8 #[.val (.ref (A 2))] [(.ref (A 2))])) rfl (hb hby own_d_prog_40_method_4_code_8)
  obtain ⟨fs, hr, hrun, hended, hW, hsame⟩ := X16.leave (v := some (.int (0 : Int32))) (fun h => by rw [Bd.returns] at h; cases h)
  refine ⟨_, _, pre0 _ ?_, hrun, hended, _, _, rfl, ?_, ⟨_, rfl⟩, hW, hsame.mono (by decide) (by decide)⟩
  · show Steps p.tables e below (s₁.setTop (mkF m 0 #[.val (.ref (A 2))] [])) _
    refine XS.aloadN X0.here hx rfl (hb hby own_d_prog_40_method_4_code_0) rfl rfl ?_
    show Steps p.tables e below (s₁.setTop (mkF m 1 #[.val (.ref (A 2))] [(.ref (A 2))])) _
    refine st15 _ ?_
    show Steps p.tables e below (T15.setTop (mkF m 4 #[.val (.ref (A 2))] [(.ref (A 26)), (.ref (A 2))])) _
    refine Jvm.RoadKit.acmp (g := (mkF m 4 #[.val (.ref (A 2))] [(.ref (A 26)), (.ref (A 2))])) X15 hx rfl rfl rfl (pc0 := 4) (pc' := 7) (same := false) rfl (hb hby own_d_prog_40_method_4_code_4) rfl (decide_eq_false fun q => (Fld.ne EN.2.2.2.2.2.2.2.1.2.2.2.2.2.2.1 EN.2.2.2.2.2.2.2.1.2.1 (fun h => by injection h with h; exact absurd h (by decide))) (Value.ref.inj q)) (by decide) (by decide) ?_
    show Steps p.tables e below (T15.setTop (mkF m 7 #[.val (.ref (A 2))] [])) _
    refine XS.aloadN X15.here hx rfl (hb hby own_d_prog_40_method_4_code_7) rfl rfl ?_
    show Steps p.tables e below (T15.setTop (mkF m 8 #[.val (.ref (A 2))] [(.ref (A 2))])) _
    refine st16 _ ?_
    show Steps p.tables e below (T16.setTop (mkF m 11 #[.val (.ref (A 2))] [(.ref (A 27)), (.ref (A 2))])) _
    refine Jvm.RoadKit.acmp (g := (mkF m 11 #[.val (.ref (A 2))] [(.ref (A 27)), (.ref (A 2))])) X16 hx rfl rfl rfl (pc0 := 11) (pc' := 18) (same := false) rfl (hb hby own_d_prog_40_method_4_code_11) rfl (decide_eq_false fun q => (Fld.ne EN.2.2.2.2.2.2.2.1.2.2.2.2.2.2.1 EN.2.2.2.2.2.2.2.1.2.2.1 (fun h => by injection h with h; exact absurd h (by decide))) (Value.ref.inj q)) (by decide) (by decide) ?_
    show Steps p.tables e below (T16.setTop (mkF m 18 #[.val (.ref (A 2))] [])) _
    refine XS.iconst X16.here hx rfl (hb hby own_d_prog_40_method_4_code_18) ?_
    show Steps p.tables e below (T16.setTop (mkF m 19 #[.val (.ref (A 2))] [(.int (0 : Int32))])) _
    exact retN X16 hx (t := .boolean) Bd.returns (by simp) (hb hby own_d_prog_40_method_4_code_19) hr
  · show PQ (some (.int (0 : Int32))) h0 n0 _ T16.heap _
    rw [e16]
    exact ⟨rfl, N0, rfl⟩
theorem own_d_method_3_code_136 : decode method_3_code 136 = .ok (.getstatic 30, 3) := by decide +kernel
theorem own_d_method_3_code_139 : decode method_3_code 139 = .ok (.areturn, 1) := by decide +kernel
theorem own_ef_rm7 (m : MethodId) (p1 : Int32) (A : Nat → Addr) (K : Nat → ClassId)  : entryFrame m #[(.int (3 : Int32))] 1 = mkF m 0 #[.val (.int (3 : Int32))] [] := by first | (simp [entryFrame, mkF, argsToLocals, Value.category, maxLocals]; done) | rfl
set_option maxRecDepth 65536 in
set_option maxHeartbeats 40000000 in
theorem rm7 (l : Launch) (Z : State) (a0 : Array Value) (hw : ∀ d ∈ tables_1, d.before a0 Z = true) (ws : List Jvm.Cond) (h0 : Heap) (n0 : Nat) (p1 : Int32) (A : Nat → Addr) (K : Nat → ClassId)  (EN : own_St Z A K) (OL0 : Old Z n0 h0) :
    MetFree l own_m1 (head1 (Jvm.Cond.code own_m1 method_3_code 1 (some (.object "com/example/tallywire/tallywire/wire/FieldType")) :: ws) ({ frames := 0, cells := 0, slots := 0, locals := 0 } : Room)) (fun a U => a = #[(.int (3 : Int32))] ∧ Z.Warmed39 U.vm ∧ U.heap = h0) (fun _ _ _ _ _ => True) (fun _ U o U' => ∃ v L, o = .returned v ∧ (PQ (some (.ref (A 3))) h0 n0) v U'.heap L ∧ FrameEnd U o U' L ({ frames := 0, cells := 0, slots := 0, locals := 0 } : Room).cells ({ frames := 0, cells := 0, slots := 0, locals := 0 } : Room).slots) := by
  refine MetFree.of_bodySF (plainFor_of_name own_pn0) hisR ?_
  intro p e s m args below meth c s₁ Bd hml0 hP hK
  obtain ⟨rfl, hZ, hh⟩ := hP
  have hx := Bd.exec
  have hby := Bd.bytes
  have hml : c.maxLocals = 1 := hml0
  have hown : s.vm.findClass "com/example/tallywire/tallywire/wire/FieldTypeIsDataPinLaw" = some m.cls := findClass_of_methodNamed Bd.named
  have hnm := (name_of_methodNamed Bd.named Bd.method).1
  have X0 : Stand p l e ({ frames := 0, cells := 0, slots := 0, locals := 0 } : Room) s m #[(.int (3 : Int32))] below meth c s₁ [] 0 0 := Stand.of_body Bd
  have e0 : s₁.heap = h0 := by rw [← hh, Bd.state]; rfl
  have N0 := Fr.nil n0
  have pre0 : ∀ t, Steps p.tables e below (s₁.setTop (mkF m 0 #[.val (.int (3 : Int32))] [])) t → Steps p.tables e below (s₁.setTop (entryFrame m #[(.int (3 : Int32))] 1)) t := fun t k => castTop (own_ef_rm7 m p1 A K ) k
  have KK0 : Keep h0 h0 [] := Keep.refl _ _
  obtain ⟨T18, X18, e18, st18⟩ := getS2 X0 hx hZ hown (host := "") (Or.inl (hw _ (List.mem_of_getElem? (i := 17) rfl))) Via.refl e0 (EN.1.2.2.2.2.2.2.1.ext OL0.2) (g := (mkF m 136 #[.val (.int (3 : Int32))] [])) rfl (hb hby own_d_method_3_code_136)
  obtain ⟨fs, hr, hrun, hended, hW, hsame⟩ := X18.leave (v := some (.ref (A 3))) (fun h => by rw [Bd.returns] at h; cases h)
  refine ⟨_, _, pre0 _ ?_, hrun, hended, _, _, rfl, ?_, ⟨_, rfl⟩, hW, hsame.mono (by decide) (by decide)⟩
  · show Steps p.tables e below (s₁.setTop (mkF m 0 #[.val (.int (3 : Int32))] [])) _
    refine XS.iloadN X0.here hx rfl (hb hby own_d_method_3_code_0) rfl ?_
    show Steps p.tables e below (s₁.setTop (mkF m 1 #[.val (.int (3 : Int32))] [(.int (3 : Int32))])) _
    refine XS.tswIn X0.here hx rfl (pc0 := 1) (pc' := 136) rfl (hb hby own_d_method_3_code_1) rfl (by decide) (o := 135) (by decide) (by decide) (by decide) ?_
    show Steps p.tables e below (s₁.setTop (mkF m 136 #[.val (.int (3 : Int32))] [])) _
    refine st18 _ ?_
    show Steps p.tables e below (T18.setTop (mkF m 139 #[.val (.int (3 : Int32))] [(.ref (A 3))])) _
    exact retOut X18 hx Bd.returns rfl (Or.inr (Or.inr (Or.inr (Or.inr ⟨rfl, rfl, rfl⟩)))) (hb hby own_d_method_3_code_139) hr
  · show PQ (some (.ref (A 3))) h0 n0 _ T18.heap _
    rw [e18]
    exact ⟨rfl, N0, rfl⟩
theorem own_ef_rm8 (m : MethodId) (p1 : Int32) (A : Nat → Addr) (K : Nat → ClassId)  : entryFrame m #[(.ref (A 3))] 1 = mkF m 0 #[.val (.ref (A 3))] [] := by first | (simp [entryFrame, mkF, argsToLocals, Value.category, maxLocals]; done) | rfl
set_option maxRecDepth 65536 in
set_option maxHeartbeats 40000000 in
theorem rm8 (l : Launch) (Z : State) (a0 : Array Value) (hw : ∀ d ∈ tables_1, d.before a0 Z = true) (ws : List Jvm.Cond) (h0 : Heap) (n0 : Nat) (p1 : Int32) (A : Nat → Addr) (K : Nat → ClassId)  (EN : own_St Z A K) (OL0 : Old Z n0 h0) :
    MetFree l own_m0 (head1 (Jvm.Cond.code own_m0 prog_40_method_4_code 1 (some .boolean) :: ws) ({ frames := 0, cells := 0, slots := 0, locals := 0 } : Room)) (fun a U => a = #[(.ref (A 3))] ∧ Z.Warmed39 U.vm ∧ U.heap = h0) (fun _ _ _ _ _ => True) (fun _ U o U' => ∃ v L, o = .returned v ∧ (PQ (some (.int (0 : Int32))) h0 n0) v U'.heap L ∧ FrameEnd U o U' L ({ frames := 0, cells := 0, slots := 0, locals := 0 } : Room).cells ({ frames := 0, cells := 0, slots := 0, locals := 0 } : Room).slots) := by
  refine MetFree.of_bodySF (plainFor_of_name own_pn1) hisR ?_
  intro p e s m args below meth c s₁ Bd hml0 hP hK
  obtain ⟨rfl, hZ, hh⟩ := hP
  have hx := Bd.exec
  have hby := Bd.bytes
  have hml : c.maxLocals = 1 := hml0
  have hown : s.vm.findClass "com/example/tallywire/tallywire/wire/FieldType" = some m.cls := findClass_of_methodNamed Bd.named
  have hnm := (name_of_methodNamed Bd.named Bd.method).1
  have X0 : Stand p l e ({ frames := 0, cells := 0, slots := 0, locals := 0 } : Room) s m #[(.ref (A 3))] below meth c s₁ [] 0 0 := Stand.of_body Bd
  have e0 : s₁.heap = h0 := by rw [← hh, Bd.state]; rfl
  have N0 := Fr.nil n0
  have pre0 : ∀ t, Steps p.tables e below (s₁.setTop (mkF m 0 #[.val (.ref (A 3))] [])) t → Steps p.tables e below (s₁.setTop (entryFrame m #[(.ref (A 3))] 1)) t := fun t k => castTop (own_ef_rm8 m p1 A K ) k
  have KK0 : Keep h0 h0 [] := Keep.refl _ _
  obtain ⟨T20, X20, e20, st20⟩ := getS2 X0 hx hZ hown (host := "") (Or.inl (hw _ (List.mem_of_getElem? (i := 13) rfl))) Via.refl e0 (EN.2.2.2.2.2.2.1.2.2.2.2.1.ext OL0.2) (g := (mkF m 1 #[.val (.ref (A 3))] [(.ref (A 3))])) rfl (hb hby own_d_prog_40_method_4_code_1)
  obtain ⟨T21, X21, e21, st21⟩ := getS2 X20 hx hZ hown (host := "") (Or.inl (hw _ (List.mem_of_getElem? (i := 15) rfl))) Via.refl e20 (EN.2.2.2.2.2.2.1.2.2.2.2.2.2.1.ext OL0.2) (g := (mkF m 8 #[.val (.ref (A 3))] [(.ref (A 3))])) rfl (hb hby own_d_prog_40_method_4_code_8)
  obtain ⟨fs, hr, hrun, hended, hW, hsame⟩ := X21.leave (v := some (.int (0 : Int32))) (fun h => by rw [Bd.returns] at h; cases h)
  refine ⟨_, _, pre0 _ ?_, hrun, hended, _, _, rfl, ?_, ⟨_, rfl⟩, hW, hsame.mono (by decide) (by decide)⟩
  · show Steps p.tables e below (s₁.setTop (mkF m 0 #[.val (.ref (A 3))] [])) _
    refine XS.aloadN X0.here hx rfl (hb hby own_d_prog_40_method_4_code_0) rfl rfl ?_
    show Steps p.tables e below (s₁.setTop (mkF m 1 #[.val (.ref (A 3))] [(.ref (A 3))])) _
    refine st20 _ ?_
    show Steps p.tables e below (T20.setTop (mkF m 4 #[.val (.ref (A 3))] [(.ref (A 26)), (.ref (A 3))])) _
    refine Jvm.RoadKit.acmp (g := (mkF m 4 #[.val (.ref (A 3))] [(.ref (A 26)), (.ref (A 3))])) X20 hx rfl rfl rfl (pc0 := 4) (pc' := 7) (same := false) rfl (hb hby own_d_prog_40_method_4_code_4) rfl (decide_eq_false fun q => (Fld.ne EN.2.2.2.2.2.2.2.1.2.2.2.1 EN.2.2.2.2.2.2.2.1.2.1 (fun h => by injection h with h; exact absurd h (by decide))) (Value.ref.inj q)) (by decide) (by decide) ?_
    show Steps p.tables e below (T20.setTop (mkF m 7 #[.val (.ref (A 3))] [])) _
    refine XS.aloadN X20.here hx rfl (hb hby own_d_prog_40_method_4_code_7) rfl rfl ?_
    show Steps p.tables e below (T20.setTop (mkF m 8 #[.val (.ref (A 3))] [(.ref (A 3))])) _
    refine st21 _ ?_
    show Steps p.tables e below (T21.setTop (mkF m 11 #[.val (.ref (A 3))] [(.ref (A 27)), (.ref (A 3))])) _
    refine Jvm.RoadKit.acmp (g := (mkF m 11 #[.val (.ref (A 3))] [(.ref (A 27)), (.ref (A 3))])) X21 hx rfl rfl rfl (pc0 := 11) (pc' := 18) (same := false) rfl (hb hby own_d_prog_40_method_4_code_11) rfl (decide_eq_false fun q => (Fld.ne EN.2.2.2.2.2.2.2.1.2.2.2.1 EN.2.2.2.2.2.2.2.1.2.2.1 (fun h => by injection h with h; exact absurd h (by decide))) (Value.ref.inj q)) (by decide) (by decide) ?_
    show Steps p.tables e below (T21.setTop (mkF m 18 #[.val (.ref (A 3))] [])) _
    refine XS.iconst X21.here hx rfl (hb hby own_d_prog_40_method_4_code_18) ?_
    show Steps p.tables e below (T21.setTop (mkF m 19 #[.val (.ref (A 3))] [(.int (0 : Int32))])) _
    exact retN X21 hx (t := .boolean) Bd.returns (by simp) (hb hby own_d_prog_40_method_4_code_19) hr
  · show PQ (some (.int (0 : Int32))) h0 n0 _ T21.heap _
    rw [e21]
    exact ⟨rfl, N0, rfl⟩
theorem own_d_method_3_code_140 : decode method_3_code 140 = .ok (.getstatic 33, 3) := by decide +kernel
theorem own_d_method_3_code_143 : decode method_3_code 143 = .ok (.areturn, 1) := by decide +kernel
theorem own_ef_rm9 (m : MethodId) (p1 : Int32) (A : Nat → Addr) (K : Nat → ClassId)  : entryFrame m #[(.int (4 : Int32))] 1 = mkF m 0 #[.val (.int (4 : Int32))] [] := by first | (simp [entryFrame, mkF, argsToLocals, Value.category, maxLocals]; done) | rfl
set_option maxRecDepth 65536 in
set_option maxHeartbeats 40000000 in
theorem rm9 (l : Launch) (Z : State) (a0 : Array Value) (hw : ∀ d ∈ tables_1, d.before a0 Z = true) (ws : List Jvm.Cond) (h0 : Heap) (n0 : Nat) (p1 : Int32) (A : Nat → Addr) (K : Nat → ClassId)  (EN : own_St Z A K) (OL0 : Old Z n0 h0) :
    MetFree l own_m1 (head1 (Jvm.Cond.code own_m1 method_3_code 1 (some (.object "com/example/tallywire/tallywire/wire/FieldType")) :: ws) ({ frames := 0, cells := 0, slots := 0, locals := 0 } : Room)) (fun a U => a = #[(.int (4 : Int32))] ∧ Z.Warmed39 U.vm ∧ U.heap = h0) (fun _ _ _ _ _ => True) (fun _ U o U' => ∃ v L, o = .returned v ∧ (PQ (some (.ref (A 4))) h0 n0) v U'.heap L ∧ FrameEnd U o U' L ({ frames := 0, cells := 0, slots := 0, locals := 0 } : Room).cells ({ frames := 0, cells := 0, slots := 0, locals := 0 } : Room).slots) := by
  refine MetFree.of_bodySF (plainFor_of_name own_pn0) hisR ?_
  intro p e s m args below meth c s₁ Bd hml0 hP hK
  obtain ⟨rfl, hZ, hh⟩ := hP
  have hx := Bd.exec
  have hby := Bd.bytes
  have hml : c.maxLocals = 1 := hml0
  have hown : s.vm.findClass "com/example/tallywire/tallywire/wire/FieldTypeIsDataPinLaw" = some m.cls := findClass_of_methodNamed Bd.named
  have hnm := (name_of_methodNamed Bd.named Bd.method).1
  have X0 : Stand p l e ({ frames := 0, cells := 0, slots := 0, locals := 0 } : Room) s m #[(.int (4 : Int32))] below meth c s₁ [] 0 0 := Stand.of_body Bd
  have e0 : s₁.heap = h0 := by rw [← hh, Bd.state]; rfl
  have N0 := Fr.nil n0
  have pre0 : ∀ t, Steps p.tables e below (s₁.setTop (mkF m 0 #[.val (.int (4 : Int32))] [])) t → Steps p.tables e below (s₁.setTop (entryFrame m #[(.int (4 : Int32))] 1)) t := fun t k => castTop (own_ef_rm9 m p1 A K ) k
  have KK0 : Keep h0 h0 [] := Keep.refl _ _
  obtain ⟨T23, X23, e23, st23⟩ := getS2 X0 hx hZ hown (host := "") (Or.inl (hw _ (List.mem_of_getElem? (i := 53) rfl))) Via.refl e0 (EN.2.1.1.ext OL0.2) (g := (mkF m 140 #[.val (.int (4 : Int32))] [])) rfl (hb hby own_d_method_3_code_140)
  obtain ⟨fs, hr, hrun, hended, hW, hsame⟩ := X23.leave (v := some (.ref (A 4))) (fun h => by rw [Bd.returns] at h; cases h)
  refine ⟨_, _, pre0 _ ?_, hrun, hended, _, _, rfl, ?_, ⟨_, rfl⟩, hW, hsame.mono (by decide) (by decide)⟩
  · show Steps p.tables e below (s₁.setTop (mkF m 0 #[.val (.int (4 : Int32))] [])) _
    refine XS.iloadN X0.here hx rfl (hb hby own_d_method_3_code_0) rfl ?_
    show Steps p.tables e below (s₁.setTop (mkF m 1 #[.val (.int (4 : Int32))] [(.int (4 : Int32))])) _
    refine XS.tswIn X0.here hx rfl (pc0 := 1) (pc' := 140) rfl (hb hby own_d_method_3_code_1) rfl (by decide) (o := 139) (by decide) (by decide) (by decide) ?_
    show Steps p.tables e below (s₁.setTop (mkF m 140 #[.val (.int (4 : Int32))] [])) _
    refine st23 _ ?_
    show Steps p.tables e below (T23.setTop (mkF m 143 #[.val (.int (4 : Int32))] [(.ref (A 4))])) _
    exact retOut X23 hx Bd.returns rfl (Or.inr (Or.inr (Or.inr (Or.inr ⟨rfl, rfl, rfl⟩)))) (hb hby own_d_method_3_code_143) hr
  · show PQ (some (.ref (A 4))) h0 n0 _ T23.heap _
    rw [e23]
    exact ⟨rfl, N0, rfl⟩
theorem own_ef_rm10 (m : MethodId) (p1 : Int32) (A : Nat → Addr) (K : Nat → ClassId)  : entryFrame m #[(.ref (A 4))] 1 = mkF m 0 #[.val (.ref (A 4))] [] := by first | (simp [entryFrame, mkF, argsToLocals, Value.category, maxLocals]; done) | rfl
set_option maxRecDepth 65536 in
set_option maxHeartbeats 40000000 in
theorem rm10 (l : Launch) (Z : State) (a0 : Array Value) (hw : ∀ d ∈ tables_1, d.before a0 Z = true) (ws : List Jvm.Cond) (h0 : Heap) (n0 : Nat) (p1 : Int32) (A : Nat → Addr) (K : Nat → ClassId)  (EN : own_St Z A K) (OL0 : Old Z n0 h0) :
    MetFree l own_m0 (head1 (Jvm.Cond.code own_m0 prog_40_method_4_code 1 (some .boolean) :: ws) ({ frames := 0, cells := 0, slots := 0, locals := 0 } : Room)) (fun a U => a = #[(.ref (A 4))] ∧ Z.Warmed39 U.vm ∧ U.heap = h0) (fun _ _ _ _ _ => True) (fun _ U o U' => ∃ v L, o = .returned v ∧ (PQ (some (.int (0 : Int32))) h0 n0) v U'.heap L ∧ FrameEnd U o U' L ({ frames := 0, cells := 0, slots := 0, locals := 0 } : Room).cells ({ frames := 0, cells := 0, slots := 0, locals := 0 } : Room).slots) := by
  refine MetFree.of_bodySF (plainFor_of_name own_pn1) hisR ?_
  intro p e s m args below meth c s₁ Bd hml0 hP hK
  obtain ⟨rfl, hZ, hh⟩ := hP
  have hx := Bd.exec
  have hby := Bd.bytes
  have hml : c.maxLocals = 1 := hml0
  have hown : s.vm.findClass "com/example/tallywire/tallywire/wire/FieldType" = some m.cls := findClass_of_methodNamed Bd.named
  have hnm := (name_of_methodNamed Bd.named Bd.method).1
  have X0 : Stand p l e ({ frames := 0, cells := 0, slots := 0, locals := 0 } : Room) s m #[(.ref (A 4))] below meth c s₁ [] 0 0 := Stand.of_body Bd
  have e0 : s₁.heap = h0 := by rw [← hh, Bd.state]; rfl
  have N0 := Fr.nil n0
  have pre0 : ∀ t, Steps p.tables e below (s₁.setTop (mkF m 0 #[.val (.ref (A 4))] [])) t → Steps p.tables e below (s₁.setTop (entryFrame m #[(.ref (A 4))] 1)) t := fun t k => castTop (own_ef_rm10 m p1 A K ) k
  have KK0 : Keep h0 h0 [] := Keep.refl _ _
  obtain ⟨T25, X25, e25, st25⟩ := getS2 X0 hx hZ hown (host := "") (Or.inl (hw _ (List.mem_of_getElem? (i := 13) rfl))) Via.refl e0 (EN.2.2.2.2.2.2.1.2.2.2.2.1.ext OL0.2) (g := (mkF m 1 #[.val (.ref (A 4))] [(.ref (A 4))])) rfl (hb hby own_d_prog_40_method_4_code_1)
  obtain ⟨T26, X26, e26, st26⟩ := getS2 X25 hx hZ hown (host := "") (Or.inl (hw _ (List.mem_of_getElem? (i := 15) rfl))) Via.refl e25 (EN.2.2.2.2.2.2.1.2.2.2.2.2.2.1.ext OL0.2) (g := (mkF m 8 #[.val (.ref (A 4))] [(.ref (A 4))])) rfl (hb hby own_d_prog_40_method_4_code_8)
  obtain ⟨fs, hr, hrun, hended, hW, hsame⟩ := X26.leave (v := some (.int (0 : Int32))) (fun h => by rw [Bd.returns] at h; cases h)
  refine ⟨_, _, pre0 _ ?_, hrun, hended, _, _, rfl, ?_, ⟨_, rfl⟩, hW, hsame.mono (by decide) (by decide)⟩
  · show Steps p.tables e below (s₁.setTop (mkF m 0 #[.val (.ref (A 4))] [])) _
    refine XS.aloadN X0.here hx rfl (hb hby own_d_prog_40_method_4_code_0) rfl rfl ?_
    show Steps p.tables e below (s₁.setTop (mkF m 1 #[.val (.ref (A 4))] [(.ref (A 4))])) _
    refine st25 _ ?_
    show Steps p.tables e below (T25.setTop (mkF m 4 #[.val (.ref (A 4))] [(.ref (A 26)), (.ref (A 4))])) _
    refine Jvm.RoadKit.acmp (g := (mkF m 4 #[.val (.ref (A 4))] [(.ref (A 26)), (.ref (A 4))])) X25 hx rfl rfl rfl (pc0 := 4) (pc' := 7) (same := false) rfl (hb hby own_d_prog_40_method_4_code_4) rfl (decide_eq_false fun q => (Fld.ne EN.2.2.2.2.2.2.2.2.2.1.2.2.2.2.1 EN.2.2.2.2.2.2.2.1.2.1 (fun h => by injection h with h; exact absurd h (by decide))) (Value.ref.inj q)) (by decide) (by decide) ?_
    show Steps p.tables e below (T25.setTop (mkF m 7 #[.val (.ref (A 4))] [])) _
    refine XS.aloadN X25.here hx rfl (hb hby own_d_prog_40_method_4_code_7) rfl rfl ?_
    show Steps p.tables e below (T25.setTop (mkF m 8 #[.val (.ref (A 4))] [(.ref (A 4))])) _
    refine st26 _ ?_
    show Steps p.tables e below (T26.setTop (mkF m 11 #[.val (.ref (A 4))] [(.ref (A 27)), (.ref (A 4))])) _
    refine Jvm.RoadKit.acmp (g := (mkF m 11 #[.val (.ref (A 4))] [(.ref (A 27)), (.ref (A 4))])) X26 hx rfl rfl rfl (pc0 := 11) (pc' := 18) (same := false) rfl (hb hby own_d_prog_40_method_4_code_11) rfl (decide_eq_false fun q => (Fld.ne EN.2.2.2.2.2.2.2.2.2.1.2.2.2.2.1 EN.2.2.2.2.2.2.2.1.2.2.1 (fun h => by injection h with h; exact absurd h (by decide))) (Value.ref.inj q)) (by decide) (by decide) ?_
    show Steps p.tables e below (T26.setTop (mkF m 18 #[.val (.ref (A 4))] [])) _
    refine XS.iconst X26.here hx rfl (hb hby own_d_prog_40_method_4_code_18) ?_
    show Steps p.tables e below (T26.setTop (mkF m 19 #[.val (.ref (A 4))] [(.int (0 : Int32))])) _
    exact retN X26 hx (t := .boolean) Bd.returns (by simp) (hb hby own_d_prog_40_method_4_code_19) hr
  · show PQ (some (.int (0 : Int32))) h0 n0 _ T26.heap _
    rw [e26]
    exact ⟨rfl, N0, rfl⟩
theorem own_d_method_3_code_144 : decode method_3_code 144 = .ok (.getstatic 36, 3) := by decide +kernel
theorem own_d_method_3_code_147 : decode method_3_code 147 = .ok (.areturn, 1) := by decide +kernel
theorem own_ef_rm11 (m : MethodId) (p1 : Int32) (A : Nat → Addr) (K : Nat → ClassId)  : entryFrame m #[(.int (5 : Int32))] 1 = mkF m 0 #[.val (.int (5 : Int32))] [] := by first | (simp [entryFrame, mkF, argsToLocals, Value.category, maxLocals]; done) | rfl
set_option maxRecDepth 65536 in
set_option maxHeartbeats 40000000 in
theorem rm11 (l : Launch) (Z : State) (a0 : Array Value) (hw : ∀ d ∈ tables_1, d.before a0 Z = true) (ws : List Jvm.Cond) (h0 : Heap) (n0 : Nat) (p1 : Int32) (A : Nat → Addr) (K : Nat → ClassId)  (EN : own_St Z A K) (OL0 : Old Z n0 h0) :
    MetFree l own_m1 (head1 (Jvm.Cond.code own_m1 method_3_code 1 (some (.object "com/example/tallywire/tallywire/wire/FieldType")) :: ws) ({ frames := 0, cells := 0, slots := 0, locals := 0 } : Room)) (fun a U => a = #[(.int (5 : Int32))] ∧ Z.Warmed39 U.vm ∧ U.heap = h0) (fun _ _ _ _ _ => True) (fun _ U o U' => ∃ v L, o = .returned v ∧ (PQ (some (.ref (A 5))) h0 n0) v U'.heap L ∧ FrameEnd U o U' L ({ frames := 0, cells := 0, slots := 0, locals := 0 } : Room).cells ({ frames := 0, cells := 0, slots := 0, locals := 0 } : Room).slots) := by
  refine MetFree.of_bodySF (plainFor_of_name own_pn0) hisR ?_
  intro p e s m args below meth c s₁ Bd hml0 hP hK
  obtain ⟨rfl, hZ, hh⟩ := hP
  have hx := Bd.exec
  have hby := Bd.bytes
  have hml : c.maxLocals = 1 := hml0
  have hown : s.vm.findClass "com/example/tallywire/tallywire/wire/FieldTypeIsDataPinLaw" = some m.cls := findClass_of_methodNamed Bd.named
  have hnm := (name_of_methodNamed Bd.named Bd.method).1
  have X0 : Stand p l e ({ frames := 0, cells := 0, slots := 0, locals := 0 } : Room) s m #[(.int (5 : Int32))] below meth c s₁ [] 0 0 := Stand.of_body Bd
  have e0 : s₁.heap = h0 := by rw [← hh, Bd.state]; rfl
  have N0 := Fr.nil n0
  have pre0 : ∀ t, Steps p.tables e below (s₁.setTop (mkF m 0 #[.val (.int (5 : Int32))] [])) t → Steps p.tables e below (s₁.setTop (entryFrame m #[(.int (5 : Int32))] 1)) t := fun t k => castTop (own_ef_rm11 m p1 A K ) k
  have KK0 : Keep h0 h0 [] := Keep.refl _ _
  obtain ⟨T28, X28, e28, st28⟩ := getS2 X0 hx hZ hown (host := "") (Or.inl (hw _ (List.mem_of_getElem? (i := 61) rfl))) Via.refl e0 (EN.2.1.2.2.1.ext OL0.2) (g := (mkF m 144 #[.val (.int (5 : Int32))] [])) rfl (hb hby own_d_method_3_code_144)
  obtain ⟨fs, hr, hrun, hended, hW, hsame⟩ := X28.leave (v := some (.ref (A 5))) (fun h => by rw [Bd.returns] at h; cases h)
  refine ⟨_, _, pre0 _ ?_, hrun, hended, _, _, rfl, ?_, ⟨_, rfl⟩, hW, hsame.mono (by decide) (by decide)⟩
  · show Steps p.tables e below (s₁.setTop (mkF m 0 #[.val (.int (5 : Int32))] [])) _
    refine XS.iloadN X0.here hx rfl (hb hby own_d_method_3_code_0) rfl ?_
    show Steps p.tables e below (s₁.setTop (mkF m 1 #[.val (.int (5 : Int32))] [(.int (5 : Int32))])) _
    refine XS.tswIn X0.here hx rfl (pc0 := 1) (pc' := 144) rfl (hb hby own_d_method_3_code_1) rfl (by decide) (o := 143) (by decide) (by decide) (by decide) ?_
    show Steps p.tables e below (s₁.setTop (mkF m 144 #[.val (.int (5 : Int32))] [])) _
    refine st28 _ ?_
    show Steps p.tables e below (T28.setTop (mkF m 147 #[.val (.int (5 : Int32))] [(.ref (A 5))])) _
    exact retOut X28 hx Bd.returns rfl (Or.inr (Or.inr (Or.inr (Or.inr ⟨rfl, rfl, rfl⟩)))) (hb hby own_d_method_3_code_147) hr
  · show PQ (some (.ref (A 5))) h0 n0 _ T28.heap _
    rw [e28]
    exact ⟨rfl, N0, rfl⟩
theorem own_ef_rm12 (m : MethodId) (p1 : Int32) (A : Nat → Addr) (K : Nat → ClassId)  : entryFrame m #[(.ref (A 5))] 1 = mkF m 0 #[.val (.ref (A 5))] [] := by first | (simp [entryFrame, mkF, argsToLocals, Value.category, maxLocals]; done) | rfl
set_option maxRecDepth 65536 in
set_option maxHeartbeats 40000000 in
theorem rm12 (l : Launch) (Z : State) (a0 : Array Value) (hw : ∀ d ∈ tables_1, d.before a0 Z = true) (ws : List Jvm.Cond) (h0 : Heap) (n0 : Nat) (p1 : Int32) (A : Nat → Addr) (K : Nat → ClassId)  (EN : own_St Z A K) (OL0 : Old Z n0 h0) :
    MetFree l own_m0 (head1 (Jvm.Cond.code own_m0 prog_40_method_4_code 1 (some .boolean) :: ws) ({ frames := 0, cells := 0, slots := 0, locals := 0 } : Room)) (fun a U => a = #[(.ref (A 5))] ∧ Z.Warmed39 U.vm ∧ U.heap = h0) (fun _ _ _ _ _ => True) (fun _ U o U' => ∃ v L, o = .returned v ∧ (PQ (some (.int (0 : Int32))) h0 n0) v U'.heap L ∧ FrameEnd U o U' L ({ frames := 0, cells := 0, slots := 0, locals := 0 } : Room).cells ({ frames := 0, cells := 0, slots := 0, locals := 0 } : Room).slots) := by
  refine MetFree.of_bodySF (plainFor_of_name own_pn1) hisR ?_
  intro p e s m args below meth c s₁ Bd hml0 hP hK
  obtain ⟨rfl, hZ, hh⟩ := hP
  have hx := Bd.exec
  have hby := Bd.bytes
  have hml : c.maxLocals = 1 := hml0
  have hown : s.vm.findClass "com/example/tallywire/tallywire/wire/FieldType" = some m.cls := findClass_of_methodNamed Bd.named
  have hnm := (name_of_methodNamed Bd.named Bd.method).1
  have X0 : Stand p l e ({ frames := 0, cells := 0, slots := 0, locals := 0 } : Room) s m #[(.ref (A 5))] below meth c s₁ [] 0 0 := Stand.of_body Bd
  have e0 : s₁.heap = h0 := by rw [← hh, Bd.state]; rfl
  have N0 := Fr.nil n0
  have pre0 : ∀ t, Steps p.tables e below (s₁.setTop (mkF m 0 #[.val (.ref (A 5))] [])) t → Steps p.tables e below (s₁.setTop (entryFrame m #[(.ref (A 5))] 1)) t := fun t k => castTop (own_ef_rm12 m p1 A K ) k
  have KK0 : Keep h0 h0 [] := Keep.refl _ _
  obtain ⟨T30, X30, e30, st30⟩ := getS2 X0 hx hZ hown (host := "") (Or.inl (hw _ (List.mem_of_getElem? (i := 13) rfl))) Via.refl e0 (EN.2.2.2.2.2.2.1.2.2.2.2.1.ext OL0.2) (g := (mkF m 1 #[.val (.ref (A 5))] [(.ref (A 5))])) rfl (hb hby own_d_prog_40_method_4_code_1)
  obtain ⟨T31, X31, e31, st31⟩ := getS2 X30 hx hZ hown (host := "") (Or.inl (hw _ (List.mem_of_getElem? (i := 15) rfl))) Via.refl e30 (EN.2.2.2.2.2.2.1.2.2.2.2.2.2.1.ext OL0.2) (g := (mkF m 8 #[.val (.ref (A 5))] [(.ref (A 5))])) rfl (hb hby own_d_prog_40_method_4_code_8)
  obtain ⟨fs, hr, hrun, hended, hW, hsame⟩ := X31.leave (v := some (.int (0 : Int32))) (fun h => by rw [Bd.returns] at h; cases h)
  refine ⟨_, _, pre0 _ ?_, hrun, hended, _, _, rfl, ?_, ⟨_, rfl⟩, hW, hsame.mono (by decide) (by decide)⟩
  · show Steps p.tables e below (s₁.setTop (mkF m 0 #[.val (.ref (A 5))] [])) _
    refine XS.aloadN X0.here hx rfl (hb hby own_d_prog_40_method_4_code_0) rfl rfl ?_
    show Steps p.tables e below (s₁.setTop (mkF m 1 #[.val (.ref (A 5))] [(.ref (A 5))])) _
    refine st30 _ ?_
    show Steps p.tables e below (T30.setTop (mkF m 4 #[.val (.ref (A 5))] [(.ref (A 26)), (.ref (A 5))])) _
    refine Jvm.RoadKit.acmp (g := (mkF m 4 #[.val (.ref (A 5))] [(.ref (A 26)), (.ref (A 5))])) X30 hx rfl rfl rfl (pc0 := 4) (pc' := 7) (same := false) rfl (hb hby own_d_prog_40_method_4_code_4) rfl (decide_eq_false fun q => (Fld.ne EN.2.2.2.2.2.2.2.2.2.2.1.1 EN.2.2.2.2.2.2.2.1.2.1 (fun h => by injection h with h; exact absurd h (by decide))) (Value.ref.inj q)) (by decide) (by decide) ?_
    show Steps p.tables e below (T30.setTop (mkF m 7 #[.val (.ref (A 5))] [])) _
    refine XS.aloadN X30.here hx rfl (hb hby own_d_prog_40_method_4_code_7) rfl rfl ?_
    show Steps p.tables e below (T30.setTop (mkF m 8 #[.val (.ref (A 5))] [(.ref (A 5))])) _
    refine st31 _ ?_
    show Steps p.tables e below (T31.setTop (mkF m 11 #[.val (.ref (A 5))] [(.ref (A 27)), (.ref (A 5))])) _
    refine Jvm.RoadKit.acmp (g := (mkF m 11 #[.val (.ref (A 5))] [(.ref (A 27)), (.ref (A 5))])) X31 hx rfl rfl rfl (pc0 := 11) (pc' := 18) (same := false) rfl (hb hby own_d_prog_40_method_4_code_11) rfl (decide_eq_false fun q => (Fld.ne EN.2.2.2.2.2.2.2.2.2.2.1.1 EN.2.2.2.2.2.2.2.1.2.2.1 (fun h => by injection h with h; exact absurd h (by decide))) (Value.ref.inj q)) (by decide) (by decide) ?_
    show Steps p.tables e below (T31.setTop (mkF m 18 #[.val (.ref (A 5))] [])) _
    refine XS.iconst X31.here hx rfl (hb hby own_d_prog_40_method_4_code_18) ?_
    show Steps p.tables e below (T31.setTop (mkF m 19 #[.val (.ref (A 5))] [(.int (0 : Int32))])) _
    exact retN X31 hx (t := .boolean) Bd.returns (by simp) (hb hby own_d_prog_40_method_4_code_19) hr
  · show PQ (some (.int (0 : Int32))) h0 n0 _ T31.heap _
    rw [e31]
    exact ⟨rfl, N0, rfl⟩
theorem own_d_method_3_code_148 : decode method_3_code 148 = .ok (.getstatic 39, 3) := by decide +kernel
theorem own_d_method_3_code_151 : decode method_3_code 151 = .ok (.areturn, 1) := by decide +kernel
theorem own_ef_rm13 (m : MethodId) (p1 : Int32) (A : Nat → Addr) (K : Nat → ClassId)  : entryFrame m #[(.int (6 : Int32))] 1 = mkF m 0 #[.val (.int (6 : Int32))] [] := by first | (simp [entryFrame, mkF, argsToLocals, Value.category, maxLocals]; done) | rfl
set_option maxRecDepth 65536 in
set_option maxHeartbeats 40000000 in
theorem rm13 (l : Launch) (Z : State) (a0 : Array Value) (hw : ∀ d ∈ tables_1, d.before a0 Z = true) (ws : List Jvm.Cond) (h0 : Heap) (n0 : Nat) (p1 : Int32) (A : Nat → Addr) (K : Nat → ClassId)  (EN : own_St Z A K) (OL0 : Old Z n0 h0) :
    MetFree l own_m1 (head1 (Jvm.Cond.code own_m1 method_3_code 1 (some (.object "com/example/tallywire/tallywire/wire/FieldType")) :: ws) ({ frames := 0, cells := 0, slots := 0, locals := 0 } : Room)) (fun a U => a = #[(.int (6 : Int32))] ∧ Z.Warmed39 U.vm ∧ U.heap = h0) (fun _ _ _ _ _ => True) (fun _ U o U' => ∃ v L, o = .returned v ∧ (PQ (some (.ref (A 6))) h0 n0) v U'.heap L ∧ FrameEnd U o U' L ({ frames := 0, cells := 0, slots := 0, locals := 0 } : Room).cells ({ frames := 0, cells := 0, slots := 0, locals := 0 } : Room).slots) := by
  refine MetFree.of_bodySF (plainFor_of_name own_pn0) hisR ?_
  intro p e s m args below meth c s₁ Bd hml0 hP hK
  obtain ⟨rfl, hZ, hh⟩ := hP
  have hx := Bd.exec
  have hby := Bd.bytes
  have hml : c.maxLocals = 1 := hml0
  have hown : s.vm.findClass "com/example/tallywire/tallywire/wire/FieldTypeIsDataPinLaw" = some m.cls := findClass_of_methodNamed Bd.named
  have hnm := (name_of_methodNamed Bd.named Bd.method).1
  have X0 : Stand p l e ({ frames := 0, cells := 0, slots := 0, locals := 0 } : Room) s m #[(.int (6 : Int32))] below meth c s₁ [] 0 0 := Stand.of_body Bd
  have e0 : s₁.heap = h0 := by rw [← hh, Bd.state]; rfl
  have N0 := Fr.nil n0
  have pre0 : ∀ t, Steps p.tables e below (s₁.setTop (mkF m 0 #[.val (.int (6 : Int32))] [])) t → Steps p.tables e below (s₁.setTop (entryFrame m #[(.int (6 : Int32))] 1)) t := fun t k => castTop (own_ef_rm13 m p1 A K ) k
  have KK0 : Keep h0 h0 [] := Keep.refl _ _
  obtain ⟨T33, X33, e33, st33⟩ := getS2 X0 hx hZ hown (host := "") (Or.inl (hw _ (List.mem_of_getElem? (i := 45) rfl))) Via.refl e0 (EN.2.1.2.2.2.2.1.ext OL0.2) (g := (mkF m 148 #[.val (.int (6 : Int32))] [])) rfl (hb hby own_d_method_3_code_148)
  obtain ⟨fs, hr, hrun, hended, hW, hsame⟩ := X33.leave (v := some (.ref (A 6))) (fun h => by rw [Bd.returns] at h; cases h)
  refine ⟨_, _, pre0 _ ?_, hrun, hended, _, _, rfl, ?_, ⟨_, rfl⟩, hW, hsame.mono (by decide) (by decide)⟩
  · show Steps p.tables e below (s₁.setTop (mkF m 0 #[.val (.int (6 : Int32))] [])) _
    refine XS.iloadN X0.here hx rfl (hb hby own_d_method_3_code_0) rfl ?_
    show Steps p.tables e below (s₁.setTop (mkF m 1 #[.val (.int (6 : Int32))] [(.int (6 : Int32))])) _
    refine XS.tswIn X0.here hx rfl (pc0 := 1) (pc' := 148) rfl (hb hby own_d_method_3_code_1) rfl (by decide) (o := 147) (by decide) (by decide) (by decide) ?_
    show Steps p.tables e below (s₁.setTop (mkF m 148 #[.val (.int (6 : Int32))] [])) _
    refine st33 _ ?_
    show Steps p.tables e below (T33.setTop (mkF m 151 #[.val (.int (6 : Int32))] [(.ref (A 6))])) _
    exact retOut X33 hx Bd.returns rfl (Or.inr (Or.inr (Or.inr (Or.inr ⟨rfl, rfl, rfl⟩)))) (hb hby own_d_method_3_code_151) hr
  · show PQ (some (.ref (A 6))) h0 n0 _ T33.heap _
    rw [e33]
    exact ⟨rfl, N0, rfl⟩
theorem own_ef_rm14 (m : MethodId) (p1 : Int32) (A : Nat → Addr) (K : Nat → ClassId)  : entryFrame m #[(.ref (A 6))] 1 = mkF m 0 #[.val (.ref (A 6))] [] := by first | (simp [entryFrame, mkF, argsToLocals, Value.category, maxLocals]; done) | rfl
set_option maxRecDepth 65536 in
set_option maxHeartbeats 40000000 in
theorem rm14 (l : Launch) (Z : State) (a0 : Array Value) (hw : ∀ d ∈ tables_1, d.before a0 Z = true) (ws : List Jvm.Cond) (h0 : Heap) (n0 : Nat) (p1 : Int32) (A : Nat → Addr) (K : Nat → ClassId)  (EN : own_St Z A K) (OL0 : Old Z n0 h0) :
    MetFree l own_m0 (head1 (Jvm.Cond.code own_m0 prog_40_method_4_code 1 (some .boolean) :: ws) ({ frames := 0, cells := 0, slots := 0, locals := 0 } : Room)) (fun a U => a = #[(.ref (A 6))] ∧ Z.Warmed39 U.vm ∧ U.heap = h0) (fun _ _ _ _ _ => True) (fun _ U o U' => ∃ v L, o = .returned v ∧ (PQ (some (.int (0 : Int32))) h0 n0) v U'.heap L ∧ FrameEnd U o U' L ({ frames := 0, cells := 0, slots := 0, locals := 0 } : Room).cells ({ frames := 0, cells := 0, slots := 0, locals := 0 } : Room).slots) := by
  refine MetFree.of_bodySF (plainFor_of_name own_pn1) hisR ?_
  intro p e s m args below meth c s₁ Bd hml0 hP hK
  obtain ⟨rfl, hZ, hh⟩ := hP
  have hx := Bd.exec
  have hby := Bd.bytes
  have hml : c.maxLocals = 1 := hml0
  have hown : s.vm.findClass "com/example/tallywire/tallywire/wire/FieldType" = some m.cls := findClass_of_methodNamed Bd.named
  have hnm := (name_of_methodNamed Bd.named Bd.method).1
  have X0 : Stand p l e ({ frames := 0, cells := 0, slots := 0, locals := 0 } : Room) s m #[(.ref (A 6))] below meth c s₁ [] 0 0 := Stand.of_body Bd
  have e0 : s₁.heap = h0 := by rw [← hh, Bd.state]; rfl
  have N0 := Fr.nil n0
  have pre0 : ∀ t, Steps p.tables e below (s₁.setTop (mkF m 0 #[.val (.ref (A 6))] [])) t → Steps p.tables e below (s₁.setTop (entryFrame m #[(.ref (A 6))] 1)) t := fun t k => castTop (own_ef_rm14 m p1 A K ) k
  have KK0 : Keep h0 h0 [] := Keep.refl _ _
  obtain ⟨T35, X35, e35, st35⟩ := getS2 X0 hx hZ hown (host := "") (Or.inl (hw _ (List.mem_of_getElem? (i := 13) rfl))) Via.refl e0 (EN.2.2.2.2.2.2.1.2.2.2.2.1.ext OL0.2) (g := (mkF m 1 #[.val (.ref (A 6))] [(.ref (A 6))])) rfl (hb hby own_d_prog_40_method_4_code_1)
  obtain ⟨T36, X36, e36, st36⟩ := getS2 X35 hx hZ hown (host := "") (Or.inl (hw _ (List.mem_of_getElem? (i := 15) rfl))) Via.refl e35 (EN.2.2.2.2.2.2.1.2.2.2.2.2.2.1.ext OL0.2) (g := (mkF m 8 #[.val (.ref (A 6))] [(.ref (A 6))])) rfl (hb hby own_d_prog_40_method_4_code_8)
  obtain ⟨fs, hr, hrun, hended, hW, hsame⟩ := X36.leave (v := some (.int (0 : Int32))) (fun h => by rw [Bd.returns] at h; cases h)
  refine ⟨_, _, pre0 _ ?_, hrun, hended, _, _, rfl, ?_, ⟨_, rfl⟩, hW, hsame.mono (by decide) (by decide)⟩
  · show Steps p.tables e below (s₁.setTop (mkF m 0 #[.val (.ref (A 6))] [])) _
    refine XS.aloadN X0.here hx rfl (hb hby own_d_prog_40_method_4_code_0) rfl rfl ?_
    show Steps p.tables e below (s₁.setTop (mkF m 1 #[.val (.ref (A 6))] [(.ref (A 6))])) _
    refine st35 _ ?_
    show Steps p.tables e below (T35.setTop (mkF m 4 #[.val (.ref (A 6))] [(.ref (A 26)), (.ref (A 6))])) _
    refine Jvm.RoadKit.acmp (g := (mkF m 4 #[.val (.ref (A 6))] [(.ref (A 26)), (.ref (A 6))])) X35 hx rfl rfl rfl (pc0 := 4) (pc' := 7) (same := false) rfl (hb hby own_d_prog_40_method_4_code_4) rfl (decide_eq_false fun q => (Fld.ne EN.2.2.2.2.2.2.2.2.2.1.1 EN.2.2.2.2.2.2.2.1.2.1 (fun h => by injection h with h; exact absurd h (by decide))) (Value.ref.inj q)) (by decide) (by decide) ?_
    show Steps p.tables e below (T35.setTop (mkF m 7 #[.val (.ref (A 6))] [])) _
    refine XS.aloadN X35.here hx rfl (hb hby own_d_prog_40_method_4_code_7) rfl rfl ?_
    show Steps p.tables e below (T35.setTop (mkF m 8 #[.val (.ref (A 6))] [(.ref (A 6))])) _
    refine st36 _ ?_
    show Steps p.tables e below (T36.setTop (mkF m 11 #[.val (.ref (A 6))] [(.ref (A 27)), (.ref (A 6))])) _
    refine Jvm.RoadKit.acmp (g := (mkF m 11 #[.val (.ref (A 6))] [(.ref (A 27)), (.ref (A 6))])) X36 hx rfl rfl rfl (pc0 := 11) (pc' := 18) (same := false) rfl (hb hby own_d_prog_40_method_4_code_11) rfl (decide_eq_false fun q => (Fld.ne EN.2.2.2.2.2.2.2.2.2.1.1 EN.2.2.2.2.2.2.2.1.2.2.1 (fun h => by injection h with h; exact absurd h (by decide))) (Value.ref.inj q)) (by decide) (by decide) ?_
    show Steps p.tables e below (T36.setTop (mkF m 18 #[.val (.ref (A 6))] [])) _
    refine XS.iconst X36.here hx rfl (hb hby own_d_prog_40_method_4_code_18) ?_
    show Steps p.tables e below (T36.setTop (mkF m 19 #[.val (.ref (A 6))] [(.int (0 : Int32))])) _
    exact retN X36 hx (t := .boolean) Bd.returns (by simp) (hb hby own_d_prog_40_method_4_code_19) hr
  · show PQ (some (.int (0 : Int32))) h0 n0 _ T36.heap _
    rw [e36]
    exact ⟨rfl, N0, rfl⟩
theorem own_d_method_3_code_152 : decode method_3_code 152 = .ok (.getstatic 42, 3) := by decide +kernel
theorem own_d_method_3_code_155 : decode method_3_code 155 = .ok (.areturn, 1) := by decide +kernel
theorem own_ef_rm15 (m : MethodId) (p1 : Int32) (A : Nat → Addr) (K : Nat → ClassId)  : entryFrame m #[(.int (7 : Int32))] 1 = mkF m 0 #[.val (.int (7 : Int32))] [] := by first | (simp [entryFrame, mkF, argsToLocals, Value.category, maxLocals]; done) | rfl
set_option maxRecDepth 65536 in
set_option maxHeartbeats 40000000 in
theorem rm15 (l : Launch) (Z : State) (a0 : Array Value) (hw : ∀ d ∈ tables_1, d.before a0 Z = true) (ws : List Jvm.Cond) (h0 : Heap) (n0 : Nat) (p1 : Int32) (A : Nat → Addr) (K : Nat → ClassId)  (EN : own_St Z A K) (OL0 : Old Z n0 h0) :
    MetFree l own_m1 (head1 (Jvm.Cond.code own_m1 method_3_code 1 (some (.object "com/example/tallywire/tallywire/wire/FieldType")) :: ws) ({ frames := 0, cells := 0, slots := 0, locals := 0 } : Room)) (fun a U => a = #[(.int (7 : Int32))] ∧ Z.Warmed39 U.vm ∧ U.heap = h0) (fun _ _ _ _ _ => True) (fun _ U o U' => ∃ v L, o = .returned v ∧ (PQ (some (.ref (A 7))) h0 n0) v U'.heap L ∧ FrameEnd U o U' L ({ frames := 0, cells := 0, slots := 0, locals := 0 } : Room).cells ({ frames := 0, cells := 0, slots := 0, locals := 0 } : Room).slots) := by
  refine MetFree.of_bodySF (plainFor_of_name own_pn0) hisR ?_
  intro p e s m args below meth c s₁ Bd hml0 hP hK
  obtain ⟨rfl, hZ, hh⟩ := hP
  have hx := Bd.exec
  have hby := Bd.bytes
  have hml : c.maxLocals = 1 := hml0
  have hown : s.vm.findClass "com/example/tallywire/tallywire/wire/FieldTypeIsDataPinLaw" = some m.cls := findClass_of_methodNamed Bd.named
  have hnm := (name_of_methodNamed Bd.named Bd.method).1
  have X0 : Stand p l e ({ frames := 0, cells := 0, slots := 0, locals := 0 } : Room) s m #[(.int (7 : Int32))] below meth c s₁ [] 0 0 := Stand.of_body Bd
  have e0 : s₁.heap = h0 := by rw [← hh, Bd.state]; rfl
  have N0 := Fr.nil n0
  have pre0 : ∀ t, Steps p.tables e below (s₁.setTop (mkF m 0 #[.val (.int (7 : Int32))] [])) t → Steps p.tables e below (s₁.setTop (entryFrame m #[(.int (7 : Int32))] 1)) t := fun t k => castTop (own_ef_rm15 m p1 A K ) k
  have KK0 : Keep h0 h0 [] := Keep.refl _ _
  obtain ⟨T38, X38, e38, st38⟩ := getS2 X0 hx hZ hown (host := "") (Or.inl (hw _ (List.mem_of_getElem? (i := 23) rfl))) Via.refl e0 (EN.2.1.2.2.2.2.2.2.1.ext OL0.2) (g := (mkF m 152 #[.val (.int (7 : Int32))] [])) rfl (hb hby own_d_method_3_code_152)
  obtain ⟨fs, hr, hrun, hended, hW, hsame⟩ := X38.leave (v := some (.ref (A 7))) (fun h => by rw [Bd.returns] at h; cases h)
  refine ⟨_, _, pre0 _ ?_, hrun, hended, _, _, rfl, ?_, ⟨_, rfl⟩, hW, hsame.mono (by decide) (by decide)⟩
  · show Steps p.tables e below (s₁.setTop (mkF m 0 #[.val (.int (7 : Int32))] [])) _
    refine XS.iloadN X0.here hx rfl (hb hby own_d_method_3_code_0) rfl ?_
    show Steps p.tables e below (s₁.setTop (mkF m 1 #[.val (.int (7 : Int32))] [(.int (7 : Int32))])) _
    refine XS.tswIn X0.here hx rfl (pc0 := 1) (pc' := 152) rfl (hb hby own_d_method_3_code_1) rfl (by decide) (o := 151) (by decide) (by decide) (by decide) ?_
    show Steps p.tables e below (s₁.setTop (mkF m 152 #[.val (.int (7 : Int32))] [])) _
    refine st38 _ ?_
    show Steps p.tables e below (T38.setTop (mkF m 155 #[.val (.int (7 : Int32))] [(.ref (A 7))])) _
    exact retOut X38 hx Bd.returns rfl (Or.inr (Or.inr (Or.inr (Or.inr ⟨rfl, rfl, rfl⟩)))) (hb hby own_d_method_3_code_155) hr
  · show PQ (some (.ref (A 7))) h0 n0 _ T38.heap _
    rw [e38]
    exact ⟨rfl, N0, rfl⟩
theorem own_ef_rm16 (m : MethodId) (p1 : Int32) (A : Nat → Addr) (K : Nat → ClassId)  : entryFrame m #[(.ref (A 7))] 1 = mkF m 0 #[.val (.ref (A 7))] [] := by first | (simp [entryFrame, mkF, argsToLocals, Value.category, maxLocals]; done) | rfl
set_option maxRecDepth 65536 in
set_option maxHeartbeats 40000000 in
theorem rm16 (l : Launch) (Z : State) (a0 : Array Value) (hw : ∀ d ∈ tables_1, d.before a0 Z = true) (ws : List Jvm.Cond) (h0 : Heap) (n0 : Nat) (p1 : Int32) (A : Nat → Addr) (K : Nat → ClassId)  (EN : own_St Z A K) (OL0 : Old Z n0 h0) :
    MetFree l own_m0 (head1 (Jvm.Cond.code own_m0 prog_40_method_4_code 1 (some .boolean) :: ws) ({ frames := 0, cells := 0, slots := 0, locals := 0 } : Room)) (fun a U => a = #[(.ref (A 7))] ∧ Z.Warmed39 U.vm ∧ U.heap = h0) (fun _ _ _ _ _ => True) (fun _ U o U' => ∃ v L, o = .returned v ∧ (PQ (some (.int (0 : Int32))) h0 n0) v U'.heap L ∧ FrameEnd U o U' L ({ frames := 0, cells := 0, slots := 0, locals := 0 } : Room).cells ({ frames := 0, cells := 0, slots := 0, locals := 0 } : Room).slots) := by
  refine MetFree.of_bodySF (plainFor_of_name own_pn1) hisR ?_
  intro p e s m args below meth c s₁ Bd hml0 hP hK
  obtain ⟨rfl, hZ, hh⟩ := hP
  have hx := Bd.exec
  have hby := Bd.bytes
  have hml : c.maxLocals = 1 := hml0
  have hown : s.vm.findClass "com/example/tallywire/tallywire/wire/FieldType" = some m.cls := findClass_of_methodNamed Bd.named
  have hnm := (name_of_methodNamed Bd.named Bd.method).1
  have X0 : Stand p l e ({ frames := 0, cells := 0, slots := 0, locals := 0 } : Room) s m #[(.ref (A 7))] below meth c s₁ [] 0 0 := Stand.of_body Bd
  have e0 : s₁.heap = h0 := by rw [← hh, Bd.state]; rfl
  have N0 := Fr.nil n0
  have pre0 : ∀ t, Steps p.tables e below (s₁.setTop (mkF m 0 #[.val (.ref (A 7))] [])) t → Steps p.tables e below (s₁.setTop (entryFrame m #[(.ref (A 7))] 1)) t := fun t k => castTop (own_ef_rm16 m p1 A K ) k
  have KK0 : Keep h0 h0 [] := Keep.refl _ _
  obtain ⟨T40, X40, e40, st40⟩ := getS2 X0 hx hZ hown (host := "") (Or.inl (hw _ (List.mem_of_getElem? (i := 13) rfl))) Via.refl e0 (EN.2.2.2.2.2.2.1.2.2.2.2.1.ext OL0.2) (g := (mkF m 1 #[.val (.ref (A 7))] [(.ref (A 7))])) rfl (hb hby own_d_prog_40_method_4_code_1)
  obtain ⟨T41, X41, e41, st41⟩ := getS2 X40 hx hZ hown (host := "") (Or.inl (hw _ (List.mem_of_getElem? (i := 15) rfl))) Via.refl e40 (EN.2.2.2.2.2.2.1.2.2.2.2.2.2.1.ext OL0.2) (g := (mkF m 8 #[.val (.ref (A 7))] [(.ref (A 7))])) rfl (hb hby own_d_prog_40_method_4_code_8)
  obtain ⟨fs, hr, hrun, hended, hW, hsame⟩ := X41.leave (v := some (.int (0 : Int32))) (fun h => by rw [Bd.returns] at h; cases h)
  refine ⟨_, _, pre0 _ ?_, hrun, hended, _, _, rfl, ?_, ⟨_, rfl⟩, hW, hsame.mono (by decide) (by decide)⟩
  · show Steps p.tables e below (s₁.setTop (mkF m 0 #[.val (.ref (A 7))] [])) _
    refine XS.aloadN X0.here hx rfl (hb hby own_d_prog_40_method_4_code_0) rfl rfl ?_
    show Steps p.tables e below (s₁.setTop (mkF m 1 #[.val (.ref (A 7))] [(.ref (A 7))])) _
    refine st40 _ ?_
    show Steps p.tables e below (T40.setTop (mkF m 4 #[.val (.ref (A 7))] [(.ref (A 26)), (.ref (A 7))])) _
    refine Jvm.RoadKit.acmp (g := (mkF m 4 #[.val (.ref (A 7))] [(.ref (A 26)), (.ref (A 7))])) X40 hx rfl rfl rfl (pc0 := 4) (pc' := 7) (same := false) rfl (hb hby own_d_prog_40_method_4_code_4) rfl (decide_eq_false fun q => (Fld.ne EN.2.2.2.2.2.2.2.1.2.2.2.2.2.1 EN.2.2.2.2.2.2.2.1.2.1 (fun h => by injection h with h; exact absurd h (by decide))) (Value.ref.inj q)) (by decide) (by decide) ?_
    show Steps p.tables e below (T40.setTop (mkF m 7 #[.val (.ref (A 7))] [])) _
    refine XS.aloadN X40.here hx rfl (hb hby own_d_prog_40_method_4_code_7) rfl rfl ?_
    show Steps p.tables e below (T40.setTop (mkF m 8 #[.val (.ref (A 7))] [(.ref (A 7))])) _
    refine st41 _ ?_
    show Steps p.tables e below (T41.setTop (mkF m 11 #[.val (.ref (A 7))] [(.ref (A 27)), (.ref (A 7))])) _
    refine Jvm.RoadKit.acmp (g := (mkF m 11 #[.val (.ref (A 7))] [(.ref (A 27)), (.ref (A 7))])) X41 hx rfl rfl rfl (pc0 := 11) (pc' := 18) (same := false) rfl (hb hby own_d_prog_40_method_4_code_11) rfl (decide_eq_false fun q => (Fld.ne EN.2.2.2.2.2.2.2.1.2.2.2.2.2.1 EN.2.2.2.2.2.2.2.1.2.2.1 (fun h => by injection h with h; exact absurd h (by decide))) (Value.ref.inj q)) (by decide) (by decide) ?_
    show Steps p.tables e below (T41.setTop (mkF m 18 #[.val (.ref (A 7))] [])) _
    refine XS.iconst X41.here hx rfl (hb hby own_d_prog_40_method_4_code_18) ?_
    show Steps p.tables e below (T41.setTop (mkF m 19 #[.val (.ref (A 7))] [(.int (0 : Int32))])) _
    exact retN X41 hx (t := .boolean) Bd.returns (by simp) (hb hby own_d_prog_40_method_4_code_19) hr
  · show PQ (some (.int (0 : Int32))) h0 n0 _ T41.heap _
    rw [e41]
    exact ⟨rfl, N0, rfl⟩
theorem own_d_method_3_code_156 : decode method_3_code 156 = .ok (.getstatic 45, 3) := by decide +kernel
theorem own_d_method_3_code_159 : decode method_3_code 159 = .ok (.areturn, 1) := by decide +kernel
theorem own_ef_rm17 (m : MethodId) (p1 : Int32) (A : Nat → Addr) (K : Nat → ClassId)  : entryFrame m #[(.int (8 : Int32))] 1 = mkF m 0 #[.val (.int (8 : Int32))] [] := by first | (simp [entryFrame, mkF, argsToLocals, Value.category, maxLocals]; done) | rfl
set_option maxRecDepth 65536 in
set_option maxHeartbeats 40000000 in
theorem rm17 (l : Launch) (Z : State) (a0 : Array Value) (hw : ∀ d ∈ tables_1, d.before a0 Z = true) (ws : List Jvm.Cond) (h0 : Heap) (n0 : Nat) (p1 : Int32) (A : Nat → Addr) (K : Nat → ClassId)  (EN : own_St Z A K) (OL0 : Old Z n0 h0) :
    MetFree l own_m1 (head1 (Jvm.Cond.code own_m1 method_3_code 1 (some (.object "com/example/tallywire/tallywire/wire/FieldType")) :: ws) ({ frames := 0, cells := 0, slots := 0, locals := 0 } : Room)) (fun a U => a = #[(.int (8 : Int32))] ∧ Z.Warmed39 U.vm ∧ U.heap = h0) (fun _ _ _ _ _ => True) (fun _ U o U' => ∃ v L, o = .returned v ∧ (PQ (some (.ref (A 8))) h0 n0) v U'.heap L ∧ FrameEnd U o U' L ({ frames := 0, cells := 0, slots := 0, locals := 0 } : Room).cells ({ frames := 0, cells := 0, slots := 0, locals := 0 } : Room).slots) := by
  refine MetFree.of_bodySF (plainFor_of_name own_pn0) hisR ?_
  intro p e s m args below meth c s₁ Bd hml0 hP hK
  obtain ⟨rfl, hZ, hh⟩ := hP
  have hx := Bd.exec
  have hby := Bd.bytes
  have hml : c.maxLocals = 1 := hml0
  have hown : s.vm.findClass "com/example/tallywire/tallywire/wire/FieldTypeIsDataPinLaw" = some m.cls := findClass_of_methodNamed Bd.named
  have hnm := (name_of_methodNamed Bd.named Bd.method).1
  have X0 : Stand p l e ({ frames := 0, cells := 0, slots := 0, locals := 0 } : Room) s m #[(.int (8 : Int32))] below meth c s₁ [] 0 0 := Stand.of_body Bd
  have e0 : s₁.heap = h0 := by rw [← hh, Bd.state]; rfl
  have N0 := Fr.nil n0
  have pre0 : ∀ t, Steps p.tables e below (s₁.setTop (mkF m 0 #[.val (.int (8 : Int32))] [])) t → Steps p.tables e below (s₁.setTop (entryFrame m #[(.int (8 : Int32))] 1)) t := fun t k => castTop (own_ef_rm17 m p1 A K ) k
  have KK0 : Keep h0 h0 [] := Keep.refl _ _
  obtain ⟨T43, X43, e43, st43⟩ := getS2 X0 hx hZ hown (host := "") (Or.inl (hw _ (List.mem_of_getElem? (i := 31) rfl))) Via.refl e0 (EN.2.2.1.1.ext OL0.2) (g := (mkF m 156 #[.val (.int (8 : Int32))] [])) rfl (hb hby own_d_method_3_code_156)
  obtain ⟨fs, hr, hrun, hended, hW, hsame⟩ := X43.leave (v := some (.ref (A 8))) (fun h => by rw [Bd.returns] at h; cases h)
  refine ⟨_, _, pre0 _ ?_, hrun, hended, _, _, rfl, ?_, ⟨_, rfl⟩, hW, hsame.mono (by decide) (by decide)⟩
  · show Steps p.tables e below (s₁.setTop (mkF m 0 #[.val (.int (8 : Int32))] [])) _
    refine XS.iloadN X0.here hx rfl (hb hby own_d_method_3_code_0) rfl ?_
    show Steps p.tables e below (s₁.setTop (mkF m 1 #[.val (.int (8 : Int32))] [(.int (8 : Int32))])) _
    refine XS.tswIn X0.here hx rfl (pc0 := 1) (pc' := 156) rfl (hb hby own_d_method_3_code_1) rfl (by decide) (o := 155) (by decide) (by decide) (by decide) ?_
    show Steps p.tables e below (s₁.setTop (mkF m 156 #[.val (.int (8 : Int32))] [])) _
    refine st43 _ ?_
    show Steps p.tables e below (T43.setTop (mkF m 159 #[.val (.int (8 : Int32))] [(.ref (A 8))])) _
    exact retOut X43 hx Bd.returns rfl (Or.inr (Or.inr (Or.inr (Or.inr ⟨rfl, rfl, rfl⟩)))) (hb hby own_d_method_3_code_159) hr
  · show PQ (some (.ref (A 8))) h0 n0 _ T43.heap _
    rw [e43]
    exact ⟨rfl, N0, rfl⟩
theorem own_ef_rm18 (m : MethodId) (p1 : Int32) (A : Nat → Addr) (K : Nat → ClassId)  : entryFrame m #[(.ref (A 8))] 1 = mkF m 0 #[.val (.ref (A 8))] [] := by first | (simp [entryFrame, mkF, argsToLocals, Value.category, maxLocals]; done) | rfl
set_option maxRecDepth 65536 in
set_option maxHeartbeats 40000000 in
theorem rm18 (l : Launch) (Z : State) (a0 : Array Value) (hw : ∀ d ∈ tables_1, d.before a0 Z = true) (ws : List Jvm.Cond) (h0 : Heap) (n0 : Nat) (p1 : Int32) (A : Nat → Addr) (K : Nat → ClassId)  (EN : own_St Z A K) (OL0 : Old Z n0 h0) :
    MetFree l own_m0 (head1 (Jvm.Cond.code own_m0 prog_40_method_4_code 1 (some .boolean) :: ws) ({ frames := 0, cells := 0, slots := 0, locals := 0 } : Room)) (fun a U => a = #[(.ref (A 8))] ∧ Z.Warmed39 U.vm ∧ U.heap = h0) (fun _ _ _ _ _ => True) (fun _ U o U' => ∃ v L, o = .returned v ∧ (PQ (some (.int (0 : Int32))) h0 n0) v U'.heap L ∧ FrameEnd U o U' L ({ frames := 0, cells := 0, slots := 0, locals := 0 } : Room).cells ({ frames := 0, cells := 0, slots := 0, locals := 0 } : Room).slots) := by
  refine MetFree.of_bodySF (plainFor_of_name own_pn1) hisR ?_
  intro p e s m args below meth c s₁ Bd hml0 hP hK
  obtain ⟨rfl, hZ, hh⟩ := hP
  have hx := Bd.exec
  have hby := Bd.bytes
  have hml : c.maxLocals = 1 := hml0
  have hown : s.vm.findClass "com/example/tallywire/tallywire/wire/FieldType" = some m.cls := findClass_of_methodNamed Bd.named
  have hnm := (name_of_methodNamed Bd.named Bd.method).1
  have X0 : Stand p l e ({ frames := 0, cells := 0, slots := 0, locals := 0 } : Room) s m #[(.ref (A 8))] below meth c s₁ [] 0 0 := Stand.of_body Bd
  have e0 : s₁.heap = h0 := by rw [← hh, Bd.state]; rfl
  have N0 := Fr.nil n0
  have pre0 : ∀ t, Steps p.tables e below (s₁.setTop (mkF m 0 #[.val (.ref (A 8))] [])) t → Steps p.tables e below (s₁.setTop (entryFrame m #[(.ref (A 8))] 1)) t := fun t k => castTop (own_ef_rm18 m p1 A K ) k
  have KK0 : Keep h0 h0 [] := Keep.refl _ _
  obtain ⟨T45, X45, e45, st45⟩ := getS2 X0 hx hZ hown (host := "") (Or.inl (hw _ (List.mem_of_getElem? (i := 13) rfl))) Via.refl e0 (EN.2.2.2.2.2.2.1.2.2.2.2.1.ext OL0.2) (g := (mkF m 1 #[.val (.ref (A 8))] [(.ref (A 8))])) rfl (hb hby own_d_prog_40_method_4_code_1)
  obtain ⟨T46, X46, e46, st46⟩ := getS2 X45 hx hZ hown (host := "") (Or.inl (hw _ (List.mem_of_getElem? (i := 15) rfl))) Via.refl e45 (EN.2.2.2.2.2.2.1.2.2.2.2.2.2.1.ext OL0.2) (g := (mkF m 8 #[.val (.ref (A 8))] [(.ref (A 8))])) rfl (hb hby own_d_prog_40_method_4_code_8)
  obtain ⟨fs, hr, hrun, hended, hW, hsame⟩ := X46.leave (v := some (.int (0 : Int32))) (fun h => by rw [Bd.returns] at h; cases h)
  refine ⟨_, _, pre0 _ ?_, hrun, hended, _, _, rfl, ?_, ⟨_, rfl⟩, hW, hsame.mono (by decide) (by decide)⟩
  · show Steps p.tables e below (s₁.setTop (mkF m 0 #[.val (.ref (A 8))] [])) _
    refine XS.aloadN X0.here hx rfl (hb hby own_d_prog_40_method_4_code_0) rfl rfl ?_
    show Steps p.tables e below (s₁.setTop (mkF m 1 #[.val (.ref (A 8))] [(.ref (A 8))])) _
    refine st45 _ ?_
    show Steps p.tables e below (T45.setTop (mkF m 4 #[.val (.ref (A 8))] [(.ref (A 26)), (.ref (A 8))])) _
    refine Jvm.RoadKit.acmp (g := (mkF m 4 #[.val (.ref (A 8))] [(.ref (A 26)), (.ref (A 8))])) X45 hx rfl rfl rfl (pc0 := 4) (pc' := 7) (same := false) rfl (hb hby own_d_prog_40_method_4_code_4) rfl (decide_eq_false fun q => (Fld.ne EN.2.2.2.2.2.2.2.2.1.2.1 EN.2.2.2.2.2.2.2.1.2.1 (fun h => by injection h with h; exact absurd h (by decide))) (Value.ref.inj q)) (by decide) (by decide) ?_
    show Steps p.tables e below (T45.setTop (mkF m 7 #[.val (.ref (A 8))] [])) _
    refine XS.aloadN X45.here hx rfl (hb hby own_d_prog_40_method_4_code_7) rfl rfl ?_
    show Steps p.tables e below (T45.setTop (mkF m 8 #[.val (.ref (A 8))] [(.ref (A 8))])) _
    refine st46 _ ?_
    show Steps p.tables e below (T46.setTop (mkF m 11 #[.val (.ref (A 8))] [(.ref (A 27)), (.ref (A 8))])) _
    refine Jvm.RoadKit.acmp (g := (mkF m 11 #[.val (.ref (A 8))] [(.ref (A 27)), (.ref (A 8))])) X46 hx rfl rfl rfl (pc0 := 11) (pc' := 18) (same := false) rfl (hb hby own_d_prog_40_method_4_code_11) rfl (decide_eq_false fun q => (Fld.ne EN.2.2.2.2.2.2.2.2.1.2.1 EN.2.2.2.2.2.2.2.1.2.2.1 (fun h => by injection h with h; exact absurd h (by decide))) (Value.ref.inj q)) (by decide) (by decide) ?_
    show Steps p.tables e below (T46.setTop (mkF m 18 #[.val (.ref (A 8))] [])) _
    refine XS.iconst X46.here hx rfl (hb hby own_d_prog_40_method_4_code_18) ?_
    show Steps p.tables e below (T46.setTop (mkF m 19 #[.val (.ref (A 8))] [(.int (0 : Int32))])) _
    exact retN X46 hx (t := .boolean) Bd.returns (by simp) (hb hby own_d_prog_40_method_4_code_19) hr
  · show PQ (some (.int (0 : Int32))) h0 n0 _ T46.heap _
    rw [e46]
    exact ⟨rfl, N0, rfl⟩
theorem own_d_method_3_code_160 : decode method_3_code 160 = .ok (.getstatic 48, 3) := by decide +kernel
theorem own_d_method_3_code_163 : decode method_3_code 163 = .ok (.areturn, 1) := by decide +kernel
theorem own_ef_rm19 (m : MethodId) (p1 : Int32) (A : Nat → Addr) (K : Nat → ClassId)  : entryFrame m #[(.int (9 : Int32))] 1 = mkF m 0 #[.val (.int (9 : Int32))] [] := by first | (simp [entryFrame, mkF, argsToLocals, Value.category, maxLocals]; done) | rfl
set_option maxRecDepth 65536 in
set_option maxHeartbeats 40000000 in
theorem rm19 (l : Launch) (Z : State) (a0 : Array Value) (hw : ∀ d ∈ tables_1, d.before a0 Z = true) (ws : List Jvm.Cond) (h0 : Heap) (n0 : Nat) (p1 : Int32) (A : Nat → Addr) (K : Nat → ClassId)  (EN : own_St Z A K) (OL0 : Old Z n0 h0) :
    MetFree l own_m1 (head1 (Jvm.Cond.code own_m1 method_3_code 1 (some (.object "com/example/tallywire/tallywire/wire/FieldType")) :: ws) ({ frames := 0, cells := 0, slots := 0, locals := 0 } : Room)) (fun a U => a = #[(.int (9 : Int32))] ∧ Z.Warmed39 U.vm ∧ U.heap = h0) (fun _ _ _ _ _ => True) (fun _ U o U' => ∃ v L, o = .returned v ∧ (PQ (some (.ref (A 9))) h0 n0) v U'.heap L ∧ FrameEnd U o U' L ({ frames := 0, cells := 0, slots := 0, locals := 0 } : Room).cells ({ frames := 0, cells := 0, slots := 0, locals := 0 } : Room).slots) := by
  refine MetFree.of_bodySF (plainFor_of_name own_pn0) hisR ?_
  intro p e s m args below meth c s₁ Bd hml0 hP hK
  obtain ⟨rfl, hZ, hh⟩ := hP
  have hx := Bd.exec
  have hby := Bd.bytes
  have hml : c.maxLocals = 1 := hml0
  have hown : s.vm.findClass "com/example/tallywire/tallywire/wire/FieldTypeIsDataPinLaw" = some m.cls := findClass_of_methodNamed Bd.named
  have hnm := (name_of_methodNamed Bd.named Bd.method).1
  have X0 : Stand p l e ({ frames := 0, cells := 0, slots := 0, locals := 0 } : Room) s m #[(.int (9 : Int32))] below meth c s₁ [] 0 0 := Stand.of_body Bd
  have e0 : s₁.heap = h0 := by rw [← hh, Bd.state]; rfl
  have N0 := Fr.nil n0
  have pre0 : ∀ t, Steps p.tables e below (s₁.setTop (mkF m 0 #[.val (.int (9 : Int32))] [])) t → Steps p.tables e below (s₁.setTop (entryFrame m #[(.int (9 : Int32))] 1)) t := fun t k => castTop (own_ef_rm19 m p1 A K ) k
  have KK0 : Keep h0 h0 [] := Keep.refl _ _
  obtain ⟨T48, X48, e48, st48⟩ := getS2 X0 hx hZ hown (host := "") (Or.inl (hw _ (List.mem_of_getElem? (i := 37) rfl))) Via.refl e0 (EN.2.2.1.2.2.1.ext OL0.2) (g := (mkF m 160 #[.val (.int (9 : Int32))] [])) rfl (hb hby own_d_method_3_code_160)
  obtain ⟨fs, hr, hrun, hended, hW, hsame⟩ := X48.leave (v := some (.ref (A 9))) (fun h => by rw [Bd.returns] at h; cases h)
  refine ⟨_, _, pre0 _ ?_, hrun, hended, _, _, rfl, ?_, ⟨_, rfl⟩, hW, hsame.mono (by decide) (by decide)⟩
  · show Steps p.tables e below (s₁.setTop (mkF m 0 #[.val (.int (9 : Int32))] [])) _
    refine XS.iloadN X0.here hx rfl (hb hby own_d_method_3_code_0) rfl ?_
    show Steps p.tables e below (s₁.setTop (mkF m 1 #[.val (.int (9 : Int32))] [(.int (9 : Int32))])) _
    refine XS.tswIn X0.here hx rfl (pc0 := 1) (pc' := 160) rfl (hb hby own_d_method_3_code_1) rfl (by decide) (o := 159) (by decide) (by decide) (by decide) ?_
    show Steps p.tables e below (s₁.setTop (mkF m 160 #[.val (.int (9 : Int32))] [])) _
    refine st48 _ ?_
    show Steps p.tables e below (T48.setTop (mkF m 163 #[.val (.int (9 : Int32))] [(.ref (A 9))])) _
    exact retOut X48 hx Bd.returns rfl (Or.inr (Or.inr (Or.inr (Or.inr ⟨rfl, rfl, rfl⟩)))) (hb hby own_d_method_3_code_163) hr
  · show PQ (some (.ref (A 9))) h0 n0 _ T48.heap _
    rw [e48]
    exact ⟨rfl, N0, rfl⟩
theorem own_ef_rm20 (m : MethodId) (p1 : Int32) (A : Nat → Addr) (K : Nat → ClassId)  : entryFrame m #[(.ref (A 9))] 1 = mkF m 0 #[.val (.ref (A 9))] [] := by first | (simp [entryFrame, mkF, argsToLocals, Value.category, maxLocals]; done) | rfl
set_option maxRecDepth 65536 in
set_option maxHeartbeats 40000000 in
theorem rm20 (l : Launch) (Z : State) (a0 : Array Value) (hw : ∀ d ∈ tables_1, d.before a0 Z = true) (ws : List Jvm.Cond) (h0 : Heap) (n0 : Nat) (p1 : Int32) (A : Nat → Addr) (K : Nat → ClassId)  (EN : own_St Z A K) (OL0 : Old Z n0 h0) :
    MetFree l own_m0 (head1 (Jvm.Cond.code own_m0 prog_40_method_4_code 1 (some .boolean) :: ws) ({ frames := 0, cells := 0, slots := 0, locals := 0 } : Room)) (fun a U => a = #[(.ref (A 9))] ∧ Z.Warmed39 U.vm ∧ U.heap = h0) (fun _ _ _ _ _ => True) (fun _ U o U' => ∃ v L, o = .returned v ∧ (PQ (some (.int (0 : Int32))) h0 n0) v U'.heap L ∧ FrameEnd U o U' L ({ frames := 0, cells := 0, slots := 0, locals := 0 } : Room).cells ({ frames := 0, cells := 0, slots := 0, locals := 0 } : Room).slots) := by
  refine MetFree.of_bodySF (plainFor_of_name own_pn1) hisR ?_
  intro p e s m args below meth c s₁ Bd hml0 hP hK
  obtain ⟨rfl, hZ, hh⟩ := hP
  have hx := Bd.exec
  have hby := Bd.bytes
  have hml : c.maxLocals = 1 := hml0
  have hown : s.vm.findClass "com/example/tallywire/tallywire/wire/FieldType" = some m.cls := findClass_of_methodNamed Bd.named
  have hnm := (name_of_methodNamed Bd.named Bd.method).1
  have X0 : Stand p l e ({ frames := 0, cells := 0, slots := 0, locals := 0 } : Room) s m #[(.ref (A 9))] below meth c s₁ [] 0 0 := Stand.of_body Bd
  have e0 : s₁.heap = h0 := by rw [← hh, Bd.state]; rfl
  have N0 := Fr.nil n0
  have pre0 : ∀ t, Steps p.tables e below (s₁.setTop (mkF m 0 #[.val (.ref (A 9))] [])) t → Steps p.tables e below (s₁.setTop (entryFrame m #[(.ref (A 9))] 1)) t := fun t k => castTop (own_ef_rm20 m p1 A K ) k
  have KK0 : Keep h0 h0 [] := Keep.refl _ _
  obtain ⟨T50, X50, e50, st50⟩ := getS2 X0 hx hZ hown (host := "") (Or.inl (hw _ (List.mem_of_getElem? (i := 13) rfl))) Via.refl e0 (EN.2.2.2.2.2.2.1.2.2.2.2.1.ext OL0.2) (g := (mkF m 1 #[.val (.ref (A 9))] [(.ref (A 9))])) rfl (hb hby own_d_prog_40_method_4_code_1)
  obtain ⟨T51, X51, e51, st51⟩ := getS2 X50 hx hZ hown (host := "") (Or.inl (hw _ (List.mem_of_getElem? (i := 15) rfl))) Via.refl e50 (EN.2.2.2.2.2.2.1.2.2.2.2.2.2.1.ext OL0.2) (g := (mkF m 8 #[.val (.ref (A 9))] [(.ref (A 9))])) rfl (hb hby own_d_prog_40_method_4_code_8)
  obtain ⟨fs, hr, hrun, hended, hW, hsame⟩ := X51.leave (v := some (.int (0 : Int32))) (fun h => by rw [Bd.returns] at h; cases h)
  refine ⟨_, _, pre0 _ ?_, hrun, hended, _, _, rfl, ?_, ⟨_, rfl⟩, hW, hsame.mono (by decide) (by decide)⟩
  · show Steps p.tables e below (s₁.setTop (mkF m 0 #[.val (.ref (A 9))] [])) _
    refine XS.aloadN X0.here hx rfl (hb hby own_d_prog_40_method_4_code_0) rfl rfl ?_
    show Steps p.tables e below (s₁.setTop (mkF m 1 #[.val (.ref (A 9))] [(.ref (A 9))])) _
    refine st50 _ ?_
    show Steps p.tables e below (T50.setTop (mkF m 4 #[.val (.ref (A 9))] [(.ref (A 26)), (.ref (A 9))])) _
    refine Jvm.RoadKit.acmp (g := (mkF m 4 #[.val (.ref (A 9))] [(.ref (A 26)), (.ref (A 9))])) X50 hx rfl rfl rfl (pc0 := 4) (pc' := 7) (same := false) rfl (hb hby own_d_prog_40_method_4_code_4) rfl (decide_eq_false fun q => (Fld.ne EN.2.2.2.2.2.2.2.2.1.2.2.2.2.1 EN.2.2.2.2.2.2.2.1.2.1 (fun h => by injection h with h; exact absurd h (by decide))) (Value.ref.inj q)) (by decide) (by decide) ?_
    show Steps p.tables e below (T50.setTop (mkF m 7 #[.val (.ref (A 9))] [])) _
    refine XS.aloadN X50.here hx rfl (hb hby own_d_prog_40_method_4_code_7) rfl rfl ?_
    show Steps p.tables e below (T50.setTop (mkF m 8 #[.val (.ref (A 9))] [(.ref (A 9))])) _
    refine st51 _ ?_
    show Steps p.tables e below (T51.setTop (mkF m 11 #[.val (.ref (A 9))] [(.ref (A 27)), (.ref (A 9))])) _
    refine Jvm.RoadKit.acmp (g := (mkF m 11 #[.val (.ref (A 9))] [(.ref (A 27)), (.ref (A 9))])) X51 hx rfl rfl rfl (pc0 := 11) (pc' := 18) (same := false) rfl (hb hby own_d_prog_40_method_4_code_11) rfl (decide_eq_false fun q => (Fld.ne EN.2.2.2.2.2.2.2.2.1.2.2.2.2.1 EN.2.2.2.2.2.2.2.1.2.2.1 (fun h => by injection h with h; exact absurd h (by decide))) (Value.ref.inj q)) (by decide) (by decide) ?_
    show Steps p.tables e below (T51.setTop (mkF m 18 #[.val (.ref (A 9))] [])) _
    refine XS.iconst X51.here hx rfl (hb hby own_d_prog_40_method_4_code_18) ?_
    show Steps p.tables e below (T51.setTop (mkF m 19 #[.val (.ref (A 9))] [(.int (0 : Int32))])) _
    exact retN X51 hx (t := .boolean) Bd.returns (by simp) (hb hby own_d_prog_40_method_4_code_19) hr
  · show PQ (some (.int (0 : Int32))) h0 n0 _ T51.heap _
    rw [e51]
    exact ⟨rfl, N0, rfl⟩
theorem own_d_method_3_code_164 : decode method_3_code 164 = .ok (.getstatic 51, 3) := by decide +kernel
theorem own_d_method_3_code_167 : decode method_3_code 167 = .ok (.areturn, 1) := by decide +kernel
theorem own_ef_rm21 (m : MethodId) (p1 : Int32) (A : Nat → Addr) (K : Nat → ClassId)  : entryFrame m #[(.int (10 : Int32))] 1 = mkF m 0 #[.val (.int (10 : Int32))] [] := by first | (simp [entryFrame, mkF, argsToLocals, Value.category, maxLocals]; done) | rfl
set_option maxRecDepth 65536 in
set_option maxHeartbeats 40000000 in
theorem rm21 (l : Launch) (Z : State) (a0 : Array Value) (hw : ∀ d ∈ tables_1, d.before a0 Z = true) (ws : List Jvm.Cond) (h0 : Heap) (n0 : Nat) (p1 : Int32) (A : Nat → Addr) (K : Nat → ClassId)  (EN : own_St Z A K) (OL0 : Old Z n0 h0) :
    MetFree l own_m1 (head1 (Jvm.Cond.code own_m1 method_3_code 1 (some (.object "com/example/tallywire/tallywire/wire/FieldType")) :: ws) ({ frames := 0, cells := 0, slots := 0, locals := 0 } : Room)) (fun a U => a = #[(.int (10 : Int32))] ∧ Z.Warmed39 U.vm ∧ U.heap = h0) (fun _ _ _ _ _ => True) (fun _ U o U' => ∃ v L, o = .returned v ∧ (PQ (some (.ref (A 10))) h0 n0) v U'.heap L ∧ FrameEnd U o U' L ({ frames := 0, cells := 0, slots := 0, locals := 0 } : Room).cells ({ frames := 0, cells := 0, slots := 0, locals := 0 } : Room).slots) := by
  refine MetFree.of_bodySF (plainFor_of_name own_pn0) hisR ?_
  intro p e s m args below meth c s₁ Bd hml0 hP hK
  obtain ⟨rfl, hZ, hh⟩ := hP
  have hx := Bd.exec
  have hby := Bd.bytes
  have hml : c.maxLocals = 1 := hml0
  have hown : s.vm.findClass "com/example/tallywire/tallywire/wire/FieldTypeIsDataPinLaw" = some m.cls := findClass_of_methodNamed Bd.named
  have hnm := (name_of_methodNamed Bd.named Bd.method).1
  have X0 : Stand p l e ({ frames := 0, cells := 0, slots := 0, locals := 0 } : Room) s m #[(.int (10 : Int32))] below meth c s₁ [] 0 0 := Stand.of_body Bd
  have e0 : s₁.heap = h0 := by rw [← hh, Bd.state]; rfl
  have N0 := Fr.nil n0
  have pre0 : ∀ t, Steps p.tables e below (s₁.setTop (mkF m 0 #[.val (.int (10 : Int32))] [])) t → Steps p.tables e below (s₁.setTop (entryFrame m #[(.int (10 : Int32))] 1)) t := fun t k => castTop (own_ef_rm21 m p1 A K ) k
  have KK0 : Keep h0 h0 [] := Keep.refl _ _
  obtain ⟨T53, X53, e53, st53⟩ := getS2 X0 hx hZ hown (host := "") (Or.inl (hw _ (List.mem_of_getElem? (i := 35) rfl))) Via.refl e0 (EN.2.2.1.2.2.2.2.1.ext OL0.2) (g := (mkF m 164 #[.val (.int (10 : Int32))] [])) rfl (hb hby own_d_method_3_code_164)
  obtain ⟨fs, hr, hrun, hended, hW, hsame⟩ := X53.leave (v := some (.ref (A 10))) (fun h => by rw [Bd.returns] at h; cases h)
  refine ⟨_, _, pre0 _ ?_, hrun, hended, _, _, rfl, ?_, ⟨_, rfl⟩, hW, hsame.mono (by decide) (by decide)⟩
  · show Steps p.tables e below (s₁.setTop (mkF m 0 #[.val (.int (10 : Int32))] [])) _
    refine XS.iloadN X0.here hx rfl (hb hby own_d_method_3_code_0) rfl ?_
    show Steps p.tables e below (s₁.setTop (mkF m 1 #[.val (.int (10 : Int32))] [(.int (10 : Int32))])) _
    refine XS.tswIn X0.here hx rfl (pc0 := 1) (pc' := 164) rfl (hb hby own_d_method_3_code_1) rfl (by decide) (o := 163) (by decide) (by decide) (by decide) ?_
    show Steps p.tables e below (s₁.setTop (mkF m 164 #[.val (.int (10 : Int32))] [])) _
    refine st53 _ ?_
    show Steps p.tables e below (T53.setTop (mkF m 167 #[.val (.int (10 : Int32))] [(.ref (A 10))])) _
    exact retOut X53 hx Bd.returns rfl (Or.inr (Or.inr (Or.inr (Or.inr ⟨rfl, rfl, rfl⟩)))) (hb hby own_d_method_3_code_167) hr
  · show PQ (some (.ref (A 10))) h0 n0 _ T53.heap _
    rw [e53]
    exact ⟨rfl, N0, rfl⟩
theorem own_ef_rm22 (m : MethodId) (p1 : Int32) (A : Nat → Addr) (K : Nat → ClassId)  : entryFrame m #[(.ref (A 10))] 1 = mkF m 0 #[.val (.ref (A 10))] [] := by first | (simp [entryFrame, mkF, argsToLocals, Value.category, maxLocals]; done) | rfl
set_option maxRecDepth 65536 in
set_option maxHeartbeats 40000000 in
theorem rm22 (l : Launch) (Z : State) (a0 : Array Value) (hw : ∀ d ∈ tables_1, d.before a0 Z = true) (ws : List Jvm.Cond) (h0 : Heap) (n0 : Nat) (p1 : Int32) (A : Nat → Addr) (K : Nat → ClassId)  (EN : own_St Z A K) (OL0 : Old Z n0 h0) :
    MetFree l own_m0 (head1 (Jvm.Cond.code own_m0 prog_40_method_4_code 1 (some .boolean) :: ws) ({ frames := 0, cells := 0, slots := 0, locals := 0 } : Room)) (fun a U => a = #[(.ref (A 10))] ∧ Z.Warmed39 U.vm ∧ U.heap = h0) (fun _ _ _ _ _ => True) (fun _ U o U' => ∃ v L, o = .returned v ∧ (PQ (some (.int (0 : Int32))) h0 n0) v U'.heap L ∧ FrameEnd U o U' L ({ frames := 0, cells := 0, slots := 0, locals := 0 } : Room).cells ({ frames := 0, cells := 0, slots := 0, locals := 0 } : Room).slots) := by
  refine MetFree.of_bodySF (plainFor_of_name own_pn1) hisR ?_
  intro p e s m args below meth c s₁ Bd hml0 hP hK
  obtain ⟨rfl, hZ, hh⟩ := hP
  have hx := Bd.exec
  have hby := Bd.bytes
  have hml : c.maxLocals = 1 := hml0
  have hown : s.vm.findClass "com/example/tallywire/tallywire/wire/FieldType" = some m.cls := findClass_of_methodNamed Bd.named
  have hnm := (name_of_methodNamed Bd.named Bd.method).1
  have X0 : Stand p l e ({ frames := 0, cells := 0, slots := 0, locals := 0 } : Room) s m #[(.ref (A 10))] below meth c s₁ [] 0 0 := Stand.of_body Bd
  have e0 : s₁.heap = h0 := by rw [← hh, Bd.state]; rfl
  have N0 := Fr.nil n0
  have pre0 : ∀ t, Steps p.tables e below (s₁.setTop (mkF m 0 #[.val (.ref (A 10))] [])) t → Steps p.tables e below (s₁.setTop (entryFrame m #[(.ref (A 10))] 1)) t := fun t k => castTop (own_ef_rm22 m p1 A K ) k
  have KK0 : Keep h0 h0 [] := Keep.refl _ _
  obtain ⟨T55, X55, e55, st55⟩ := getS2 X0 hx hZ hown (host := "") (Or.inl (hw _ (List.mem_of_getElem? (i := 13) rfl))) Via.refl e0 (EN.2.2.2.2.2.2.1.2.2.2.2.1.ext OL0.2) (g := (mkF m 1 #[.val (.ref (A 10))] [(.ref (A 10))])) rfl (hb hby own_d_prog_40_method_4_code_1)
  obtain ⟨T56, X56, e56, st56⟩ := getS2 X55 hx hZ hown (host := "") (Or.inl (hw _ (List.mem_of_getElem? (i := 15) rfl))) Via.refl e55 (EN.2.2.2.2.2.2.1.2.2.2.2.2.2.1.ext OL0.2) (g := (mkF m 8 #[.val (.ref (A 10))] [(.ref (A 10))])) rfl (hb hby own_d_prog_40_method_4_code_8)
  obtain ⟨fs, hr, hrun, hended, hW, hsame⟩ := X56.leave (v := some (.int (0 : Int32))) (fun h => by rw [Bd.returns] at h; cases h)
  refine ⟨_, _, pre0 _ ?_, hrun, hended, _, _, rfl, ?_, ⟨_, rfl⟩, hW, hsame.mono (by decide) (by decide)⟩
  · show Steps p.tables e below (s₁.setTop (mkF m 0 #[.val (.ref (A 10))] [])) _
    refine XS.aloadN X0.here hx rfl (hb hby own_d_prog_40_method_4_code_0) rfl rfl ?_
    show Steps p.tables e below (s₁.setTop (mkF m 1 #[.val (.ref (A 10))] [(.ref (A 10))])) _
    refine st55 _ ?_
    show Steps p.tables e below (T55.setTop (mkF m 4 #[.val (.ref (A 10))] [(.ref (A 26)), (.ref (A 10))])) _
    refine Jvm.RoadKit.acmp (g := (mkF m 4 #[.val (.ref (A 10))] [(.ref (A 26)), (.ref (A 10))])) X55 hx rfl rfl rfl (pc0 := 4) (pc' := 7) (same := false) rfl (hb hby own_d_prog_40_method_4_code_4) rfl (decide_eq_false fun q => (Fld.ne EN.2.2.2.2.2.2.2.2.1.2.2.2.1 EN.2.2.2.2.2.2.2.1.2.1 (fun h => by injection h with h; exact absurd h (by decide))) (Value.ref.inj q)) (by decide) (by decide) ?_
    show Steps p.tables e below (T55.setTop (mkF m 7 #[.val (.ref (A 10))] [])) _
    refine XS.aloadN X55.here hx rfl (hb hby own_d_prog_40_method_4_code_7) rfl rfl ?_
    show Steps p.tables e below (T55.setTop (mkF m 8 #[.val (.ref (A 10))] [(.ref (A 10))])) _
    refine st56 _ ?_
    show Steps p.tables e below (T56.setTop (mkF m 11 #[.val (.ref (A 10))] [(.ref (A 27)), (.ref (A 10))])) _
    refine Jvm.RoadKit.acmp (g := (mkF m 11 #[.val (.ref (A 10))] [(.ref (A 27)), (.ref (A 10))])) X56 hx rfl rfl rfl (pc0 := 11) (pc' := 18) (same := false) rfl (hb hby own_d_prog_40_method_4_code_11) rfl (decide_eq_false fun q => (Fld.ne EN.2.2.2.2.2.2.2.2.1.2.2.2.1 EN.2.2.2.2.2.2.2.1.2.2.1 (fun h => by injection h with h; exact absurd h (by decide))) (Value.ref.inj q)) (by decide) (by decide) ?_
    show Steps p.tables e below (T56.setTop (mkF m 18 #[.val (.ref (A 10))] [])) _
    refine XS.iconst X56.here hx rfl (hb hby own_d_prog_40_method_4_code_18) ?_
    show Steps p.tables e below (T56.setTop (mkF m 19 #[.val (.ref (A 10))] [(.int (0 : Int32))])) _
    exact retN X56 hx (t := .boolean) Bd.returns (by simp) (hb hby own_d_prog_40_method_4_code_19) hr
  · show PQ (some (.int (0 : Int32))) h0 n0 _ T56.heap _
    rw [e56]
    exact ⟨rfl, N0, rfl⟩
theorem own_d_method_3_code_168 : decode method_3_code 168 = .ok (.getstatic 54, 3) := by decide +kernel
theorem own_d_method_3_code_171 : decode method_3_code 171 = .ok (.areturn, 1) := by decide +kernel
theorem own_ef_rm23 (m : MethodId) (p1 : Int32) (A : Nat → Addr) (K : Nat → ClassId)  : entryFrame m #[(.int (11 : Int32))] 1 = mkF m 0 #[.val (.int (11 : Int32))] [] := by first | (simp [entryFrame, mkF, argsToLocals, Value.category, maxLocals]; done) | rfl
set_option maxRecDepth 65536 in
set_option maxHeartbeats 40000000 in
theorem rm23 (l : Launch) (Z : State) (a0 : Array Value) (hw : ∀ d ∈ tables_1, d.before a0 Z = true) (ws : List Jvm.Cond) (h0 : Heap) (n0 : Nat) (p1 : Int32) (A : Nat → Addr) (K : Nat → ClassId)  (EN : own_St Z A K) (OL0 : Old Z n0 h0) :
    MetFree l own_m1 (head1 (Jvm.Cond.code own_m1 method_3_code 1 (some (.object "com/example/tallywire/tallywire/wire/FieldType")) :: ws) ({ frames := 0, cells := 0, slots := 0, locals := 0 } : Room)) (fun a U => a = #[(.int (11 : Int32))] ∧ Z.Warmed39 U.vm ∧ U.heap = h0) (fun _ _ _ _ _ => True) (fun _ U o U' => ∃ v L, o = .returned v ∧ (PQ (some (.ref (A 11))) h0 n0) v U'.heap L ∧ FrameEnd U o U' L ({ frames := 0, cells := 0, slots := 0, locals := 0 } : Room).cells ({ frames := 0, cells := 0, slots := 0, locals := 0 } : Room).slots) := by
  refine MetFree.of_bodySF (plainFor_of_name own_pn0) hisR ?_
  intro p e s m args below meth c s₁ Bd hml0 hP hK
  obtain ⟨rfl, hZ, hh⟩ := hP
  have hx := Bd.exec
  have hby := Bd.bytes
  have hml : c.maxLocals = 1 := hml0
  have hown : s.vm.findClass "com/example/tallywire/tallywire/wire/FieldTypeIsDataPinLaw" = some m.cls := findClass_of_methodNamed Bd.named
  have hnm := (name_of_methodNamed Bd.named Bd.method).1
  have X0 : Stand p l e ({ frames := 0, cells := 0, slots := 0, locals := 0 } : Room) s m #[(.int (11 : Int32))] below meth c s₁ [] 0 0 := Stand.of_body Bd
  have e0 : s₁.heap = h0 := by rw [← hh, Bd.state]; rfl
  have N0 := Fr.nil n0
  have pre0 : ∀ t, Steps p.tables e below (s₁.setTop (mkF m 0 #[.val (.int (11 : Int32))] [])) t → Steps p.tables e below (s₁.setTop (entryFrame m #[(.int (11 : Int32))] 1)) t := fun t k => castTop (own_ef_rm23 m p1 A K ) k
  have KK0 : Keep h0 h0 [] := Keep.refl _ _
  obtain ⟨T58, X58, e58, st58⟩ := getS2 X0 hx hZ hown (host := "") (Or.inl (hw _ (List.mem_of_getElem? (i := 27) rfl))) Via.refl e0 (EN.2.2.1.2.2.2.2.2.2.1.ext OL0.2) (g := (mkF m 168 #[.val (.int (11 : Int32))] [])) rfl (hb hby own_d_method_3_code_168)
  obtain ⟨fs, hr, hrun, hended, hW, hsame⟩ := X58.leave (v := some (.ref (A 11))) (fun h => by rw [Bd.returns] at h; cases h)
  refine ⟨_, _, pre0 _ ?_, hrun, hended, _, _, rfl, ?_, ⟨_, rfl⟩, hW, hsame.mono (by decide) (by decide)⟩
  · show Steps p.tables e below (s₁.setTop (mkF m 0 #[.val (.int (11 : Int32))] [])) _
    refine XS.iloadN X0.here hx rfl (hb hby own_d_method_3_code_0) rfl ?_
    show Steps p.tables e below (s₁.setTop (mkF m 1 #[.val (.int (11 : Int32))] [(.int (11 : Int32))])) _
    refine XS.tswIn X0.here hx rfl (pc0 := 1) (pc' := 168) rfl (hb hby own_d_method_3_code_1) rfl (by decide) (o := 167) (by decide) (by decide) (by decide) ?_
    show Steps p.tables e below (s₁.setTop (mkF m 168 #[.val (.int (11 : Int32))] [])) _
    refine st58 _ ?_
    show Steps p.tables e below (T58.setTop (mkF m 171 #[.val (.int (11 : Int32))] [(.ref (A 11))])) _
    exact retOut X58 hx Bd.returns rfl (Or.inr (Or.inr (Or.inr (Or.inr ⟨rfl, rfl, rfl⟩)))) (hb hby own_d_method_3_code_171) hr
  · show PQ (some (.ref (A 11))) h0 n0 _ T58.heap _
    rw [e58]
    exact ⟨rfl, N0, rfl⟩
theorem own_ef_rm24 (m : MethodId) (p1 : Int32) (A : Nat → Addr) (K : Nat → ClassId)  : entryFrame m #[(.ref (A 11))] 1 = mkF m 0 #[.val (.ref (A 11))] [] := by first | (simp [entryFrame, mkF, argsToLocals, Value.category, maxLocals]; done) | rfl
set_option maxRecDepth 65536 in
set_option maxHeartbeats 40000000 in
theorem rm24 (l : Launch) (Z : State) (a0 : Array Value) (hw : ∀ d ∈ tables_1, d.before a0 Z = true) (ws : List Jvm.Cond) (h0 : Heap) (n0 : Nat) (p1 : Int32) (A : Nat → Addr) (K : Nat → ClassId)  (EN : own_St Z A K) (OL0 : Old Z n0 h0) :
    MetFree l own_m0 (head1 (Jvm.Cond.code own_m0 prog_40_method_4_code 1 (some .boolean) :: ws) ({ frames := 0, cells := 0, slots := 0, locals := 0 } : Room)) (fun a U => a = #[(.ref (A 11))] ∧ Z.Warmed39 U.vm ∧ U.heap = h0) (fun _ _ _ _ _ => True) (fun _ U o U' => ∃ v L, o = .returned v ∧ (PQ (some (.int (0 : Int32))) h0 n0) v U'.heap L ∧ FrameEnd U o U' L ({ frames := 0, cells := 0, slots := 0, locals := 0 } : Room).cells ({ frames := 0, cells := 0, slots := 0, locals := 0 } : Room).slots) := by
  refine MetFree.of_bodySF (plainFor_of_name own_pn1) hisR ?_
  intro p e s m args below meth c s₁ Bd hml0 hP hK
  obtain ⟨rfl, hZ, hh⟩ := hP
  have hx := Bd.exec
  have hby := Bd.bytes
  have hml : c.maxLocals = 1 := hml0
  have hown : s.vm.findClass "com/example/tallywire/tallywire/wire/FieldType" = some m.cls := findClass_of_methodNamed Bd.named
  have hnm := (name_of_methodNamed Bd.named Bd.method).1
  have X0 : Stand p l e ({ frames := 0, cells := 0, slots := 0, locals := 0 } : Room) s m #[(.ref (A 11))] below meth c s₁ [] 0 0 := Stand.of_body Bd
  have e0 : s₁.heap = h0 := by rw [← hh, Bd.state]; rfl
  have N0 := Fr.nil n0
  have pre0 : ∀ t, Steps p.tables e below (s₁.setTop (mkF m 0 #[.val (.ref (A 11))] [])) t → Steps p.tables e below (s₁.setTop (entryFrame m #[(.ref (A 11))] 1)) t := fun t k => castTop (own_ef_rm24 m p1 A K ) k
  have KK0 : Keep h0 h0 [] := Keep.refl _ _
  obtain ⟨T60, X60, e60, st60⟩ := getS2 X0 hx hZ hown (host := "") (Or.inl (hw _ (List.mem_of_getElem? (i := 13) rfl))) Via.refl e0 (EN.2.2.2.2.2.2.1.2.2.2.2.1.ext OL0.2) (g := (mkF m 1 #[.val (.ref (A 11))] [(.ref (A 11))])) rfl (hb hby own_d_prog_40_method_4_code_1)
  obtain ⟨T61, X61, e61, st61⟩ := getS2 X60 hx hZ hown (host := "") (Or.inl (hw _ (List.mem_of_getElem? (i := 15) rfl))) Via.refl e60 (EN.2.2.2.2.2.2.1.2.2.2.2.2.2.1.ext OL0.2) (g := (mkF m 8 #[.val (.ref (A 11))] [(.ref (A 11))])) rfl (hb hby own_d_prog_40_method_4_code_8)
  obtain ⟨fs, hr, hrun, hended, hW, hsame⟩ := X61.leave (v := some (.int (0 : Int32))) (fun h => by rw [Bd.returns] at h; cases h)
  refine ⟨_, _, pre0 _ ?_, hrun, hended, _, _, rfl, ?_, ⟨_, rfl⟩, hW, hsame.mono (by decide) (by decide)⟩
  · show Steps p.tables e below (s₁.setTop (mkF m 0 #[.val (.ref (A 11))] [])) _
    refine XS.aloadN X0.here hx rfl (hb hby own_d_prog_40_method_4_code_0) rfl rfl ?_
    show Steps p.tables e below (s₁.setTop (mkF m 1 #[.val (.ref (A 11))] [(.ref (A 11))])) _
    refine st60 _ ?_
    show Steps p.tables e below (T60.setTop (mkF m 4 #[.val (.ref (A 11))] [(.ref (A 26)), (.ref (A 11))])) _
    refine Jvm.RoadKit.acmp (g := (mkF m 4 #[.val (.ref (A 11))] [(.ref (A 26)), (.ref (A 11))])) X60 hx rfl rfl rfl (pc0 := 4) (pc' := 7) (same := false) rfl (hb hby own_d_prog_40_method_4_code_4) rfl (decide_eq_false fun q => (Fld.ne EN.2.2.2.2.2.2.2.1.2.2.2.2.2.2.2.1 EN.2.2.2.2.2.2.2.1.2.1 (fun h => by injection h with h; exact absurd h (by decide))) (Value.ref.inj q)) (by decide) (by decide) ?_
    show Steps p.tables e below (T60.setTop (mkF m 7 #[.val (.ref (A 11))] [])) _
    refine XS.aloadN X60.here hx rfl (hb hby own_d_prog_40_method_4_code_7) rfl rfl ?_
    show Steps p.tables e below (T60.setTop (mkF m 8 #[.val (.ref (A 11))] [(.ref (A 11))])) _
    refine st61 _ ?_
    show Steps p.tables e below (T61.setTop (mkF m 11 #[.val (.ref (A 11))] [(.ref (A 27)), (.ref (A 11))])) _
    refine Jvm.RoadKit.acmp (g := (mkF m 11 #[.val (.ref (A 11))] [(.ref (A 27)), (.ref (A 11))])) X61 hx rfl rfl rfl (pc0 := 11) (pc' := 18) (same := false) rfl (hb hby own_d_prog_40_method_4_code_11) rfl (decide_eq_false fun q => (Fld.ne EN.2.2.2.2.2.2.2.1.2.2.2.2.2.2.2.1 EN.2.2.2.2.2.2.2.1.2.2.1 (fun h => by injection h with h; exact absurd h (by decide))) (Value.ref.inj q)) (by decide) (by decide) ?_
    show Steps p.tables e below (T61.setTop (mkF m 18 #[.val (.ref (A 11))] [])) _
    refine XS.iconst X61.here hx rfl (hb hby own_d_prog_40_method_4_code_18) ?_
    show Steps p.tables e below (T61.setTop (mkF m 19 #[.val (.ref (A 11))] [(.int (0 : Int32))])) _
    exact retN X61 hx (t := .boolean) Bd.returns (by simp) (hb hby own_d_prog_40_method_4_code_19) hr
  · show PQ (some (.int (0 : Int32))) h0 n0 _ T61.heap _
    rw [e61]
    exact ⟨rfl, N0, rfl⟩
theorem own_d_method_3_code_172 : decode method_3_code 172 = .ok (.getstatic 57, 3) := by decide +kernel
theorem own_d_method_3_code_175 : decode method_3_code 175 = .ok (.areturn, 1) := by decide +kernel
theorem own_ef_rm25 (m : MethodId) (p1 : Int32) (A : Nat → Addr) (K : Nat → ClassId)  : entryFrame m #[(.int (12 : Int32))] 1 = mkF m 0 #[.val (.int (12 : Int32))] [] := by first | (simp [entryFrame, mkF, argsToLocals, Value.category, maxLocals]; done) | rfl
set_option maxRecDepth 65536 in
set_option maxHeartbeats 40000000 in
theorem rm25 (l : Launch) (Z : State) (a0 : Array Value) (hw : ∀ d ∈ tables_1, d.before a0 Z = true) (ws : List Jvm.Cond) (h0 : Heap) (n0 : Nat) (p1 : Int32) (A : Nat → Addr) (K : Nat → ClassId)  (EN : own_St Z A K) (OL0 : Old Z n0 h0) :
    MetFree l own_m1 (head1 (Jvm.Cond.code own_m1 method_3_code 1 (some (.object "com/example/tallywire/tallywire/wire/FieldType")) :: ws) ({ frames := 0, cells := 0, slots := 0, locals := 0 } : Room)) (fun a U => a = #[(.int (12 : Int32))] ∧ Z.Warmed39 U.vm ∧ U.heap = h0) (fun _ _ _ _ _ => True) (fun _ U o U' => ∃ v L, o = .returned v ∧ (PQ (some (.ref (A 12))) h0 n0) v U'.heap L ∧ FrameEnd U o U' L ({ frames := 0, cells := 0, slots := 0, locals := 0 } : Room).cells ({ frames := 0, cells := 0, slots := 0, locals := 0 } : Room).slots) := by
  refine MetFree.of_bodySF (plainFor_of_name own_pn0) hisR ?_
  intro p e s m args below meth c s₁ Bd hml0 hP hK
  obtain ⟨rfl, hZ, hh⟩ := hP
  have hx := Bd.exec
  have hby := Bd.bytes
  have hml : c.maxLocals = 1 := hml0
  have hown : s.vm.findClass "com/example/tallywire/tallywire/wire/FieldTypeIsDataPinLaw" = some m.cls := findClass_of_methodNamed Bd.named
  have hnm := (name_of_methodNamed Bd.named Bd.method).1
  have X0 : Stand p l e ({ frames := 0, cells := 0, slots := 0, locals := 0 } : Room) s m #[(.int (12 : Int32))] below meth c s₁ [] 0 0 := Stand.of_body Bd
  have e0 : s₁.heap = h0 := by rw [← hh, Bd.state]; rfl
  have N0 := Fr.nil n0
  have pre0 : ∀ t, Steps p.tables e below (s₁.setTop (mkF m 0 #[.val (.int (12 : Int32))] [])) t → Steps p.tables e below (s₁.setTop (entryFrame m #[(.int (12 : Int32))] 1)) t := fun t k => castTop (own_ef_rm25 m p1 A K ) k
  have KK0 : Keep h0 h0 [] := Keep.refl _ _
  obtain ⟨T63, X63, e63, st63⟩ := getS2 X0 hx hZ hown (host := "") (Or.inl (hw _ (List.mem_of_getElem? (i := 63) rfl))) Via.refl e0 (EN.2.2.2.1.1.ext OL0.2) (g := (mkF m 172 #[.val (.int (12 : Int32))] [])) rfl (hb hby own_d_method_3_code_172)
  obtain ⟨fs, hr, hrun, hended, hW, hsame⟩ := X63.leave (v := some (.ref (A 12))) (fun h => by rw [Bd.returns] at h; cases h)
  refine ⟨_, _, pre0 _ ?_, hrun, hended, _, _, rfl, ?_, ⟨_, rfl⟩, hW, hsame.mono (by decide) (by decide)⟩
  · show Steps p.tables e below (s₁.setTop (mkF m 0 #[.val (.int (12 : Int32))] [])) _
    refine XS.iloadN X0.here hx rfl (hb hby own_d_method_3_code_0) rfl ?_
    show Steps p.tables e below (s₁.setTop (mkF m 1 #[.val (.int (12 : Int32))] [(.int (12 : Int32))])) _
    refine XS.tswIn X0.here hx rfl (pc0 := 1) (pc' := 172) rfl (hb hby own_d_method_3_code_1) rfl (by decide) (o := 171) (by decide) (by decide) (by decide) ?_
    show Steps p.tables e below (s₁.setTop (mkF m 172 #[.val (.int (12 : Int32))] [])) _
    refine st63 _ ?_
    show Steps p.tables e below (T63.setTop (mkF m 175 #[.val (.int (12 : Int32))] [(.ref (A 12))])) _
    exact retOut X63 hx Bd.returns rfl (Or.inr (Or.inr (Or.inr (Or.inr ⟨rfl, rfl, rfl⟩)))) (hb hby own_d_method_3_code_175) hr
  · show PQ (some (.ref (A 12))) h0 n0 _ T63.heap _
    rw [e63]
    exact ⟨rfl, N0, rfl⟩
theorem own_ef_rm26 (m : MethodId) (p1 : Int32) (A : Nat → Addr) (K : Nat → ClassId)  : entryFrame m #[(.ref (A 12))] 1 = mkF m 0 #[.val (.ref (A 12))] [] := by first | (simp [entryFrame, mkF, argsToLocals, Value.category, maxLocals]; done) | rfl
set_option maxRecDepth 65536 in
set_option maxHeartbeats 40000000 in
theorem rm26 (l : Launch) (Z : State) (a0 : Array Value) (hw : ∀ d ∈ tables_1, d.before a0 Z = true) (ws : List Jvm.Cond) (h0 : Heap) (n0 : Nat) (p1 : Int32) (A : Nat → Addr) (K : Nat → ClassId)  (EN : own_St Z A K) (OL0 : Old Z n0 h0) :
    MetFree l own_m0 (head1 (Jvm.Cond.code own_m0 prog_40_method_4_code 1 (some .boolean) :: ws) ({ frames := 0, cells := 0, slots := 0, locals := 0 } : Room)) (fun a U => a = #[(.ref (A 12))] ∧ Z.Warmed39 U.vm ∧ U.heap = h0) (fun _ _ _ _ _ => True) (fun _ U o U' => ∃ v L, o = .returned v ∧ (PQ (some (.int (0 : Int32))) h0 n0) v U'.heap L ∧ FrameEnd U o U' L ({ frames := 0, cells := 0, slots := 0, locals := 0 } : Room).cells ({ frames := 0, cells := 0, slots := 0, locals := 0 } : Room).slots) := by
  refine MetFree.of_bodySF (plainFor_of_name own_pn1) hisR ?_
  intro p e s m args below meth c s₁ Bd hml0 hP hK
  obtain ⟨rfl, hZ, hh⟩ := hP
  have hx := Bd.exec
  have hby := Bd.bytes
  have hml : c.maxLocals = 1 := hml0
  have hown : s.vm.findClass "com/example/tallywire/tallywire/wire/FieldType" = some m.cls := findClass_of_methodNamed Bd.named
  have hnm := (name_of_methodNamed Bd.named Bd.method).1
  have X0 : Stand p l e ({ frames := 0, cells := 0, slots := 0, locals := 0 } : Room) s m #[(.ref (A 12))] below meth c s₁ [] 0 0 := Stand.of_body Bd
  have e0 : s₁.heap = h0 := by rw [← hh, Bd.state]; rfl
  have N0 := Fr.nil n0
  have pre0 : ∀ t, Steps p.tables e below (s₁.setTop (mkF m 0 #[.val (.ref (A 12))] [])) t → Steps p.tables e below (s₁.setTop (entryFrame m #[(.ref (A 12))] 1)) t := fun t k => castTop (own_ef_rm26 m p1 A K ) k
  have KK0 : Keep h0 h0 [] := Keep.refl _ _
  obtain ⟨T65, X65, e65, st65⟩ := getS2 X0 hx hZ hown (host := "") (Or.inl (hw _ (List.mem_of_getElem? (i := 13) rfl))) Via.refl e0 (EN.2.2.2.2.2.2.1.2.2.2.2.1.ext OL0.2) (g := (mkF m 1 #[.val (.ref (A 12))] [(.ref (A 12))])) rfl (hb hby own_d_prog_40_method_4_code_1)
  obtain ⟨T66, X66, e66, st66⟩ := getS2 X65 hx hZ hown (host := "") (Or.inl (hw _ (List.mem_of_getElem? (i := 15) rfl))) Via.refl e65 (EN.2.2.2.2.2.2.1.2.2.2.2.2.2.1.ext OL0.2) (g := (mkF m 8 #[.val (.ref (A 12))] [(.ref (A 12))])) rfl (hb hby own_d_prog_40_method_4_code_8)
  obtain ⟨fs, hr, hrun, hended, hW, hsame⟩ := X66.leave (v := some (.int (0 : Int32))) (fun h => by rw [Bd.returns] at h; cases h)
  refine ⟨_, _, pre0 _ ?_, hrun, hended, _, _, rfl, ?_, ⟨_, rfl⟩, hW, hsame.mono (by decide) (by decide)⟩
  · show Steps p.tables e below (s₁.setTop (mkF m 0 #[.val (.ref (A 12))] [])) _
    refine XS.aloadN X0.here hx rfl (hb hby own_d_prog_40_method_4_code_0) rfl rfl ?_
    show Steps p.tables e below (s₁.setTop (mkF m 1 #[.val (.ref (A 12))] [(.ref (A 12))])) _
    refine st65 _ ?_
    show Steps p.tables e below (T65.setTop (mkF m 4 #[.val (.ref (A 12))] [(.ref (A 26)), (.ref (A 12))])) _
    refine Jvm.RoadKit.acmp (g := (mkF m 4 #[.val (.ref (A 12))] [(.ref (A 26)), (.ref (A 12))])) X65 hx rfl rfl rfl (pc0 := 4) (pc' := 7) (same := false) rfl (hb hby own_d_prog_40_method_4_code_4) rfl (decide_eq_false fun q => (Fld.ne EN.2.2.2.2.2.2.2.2.2.2.1.2.1 EN.2.2.2.2.2.2.2.1.2.1 (fun h => by injection h with h; exact absurd h (by decide))) (Value.ref.inj q)) (by decide) (by decide) ?_
    show Steps p.tables e below (T65.setTop (mkF m 7 #[.val (.ref (A 12))] [])) _
    refine XS.aloadN X65.here hx rfl (hb hby own_d_prog_40_method_4_code_7) rfl rfl ?_
    show Steps p.tables e below (T65.setTop (mkF m 8 #[.val (.ref (A 12))] [(.ref (A 12))])) _
    refine st66 _ ?_
    show Steps p.tables e below (T66.setTop (mkF m 11 #[.val (.ref (A 12))] [(.ref (A 27)), (.ref (A 12))])) _
    refine Jvm.RoadKit.acmp (g := (mkF m 11 #[.val (.ref (A 12))] [(.ref (A 27)), (.ref (A 12))])) X66 hx rfl rfl rfl (pc0 := 11) (pc' := 18) (same := false) rfl (hb hby own_d_prog_40_method_4_code_11) rfl (decide_eq_false fun q => (Fld.ne EN.2.2.2.2.2.2.2.2.2.2.1.2.1 EN.2.2.2.2.2.2.2.1.2.2.1 (fun h => by injection h with h; exact absurd h (by decide))) (Value.ref.inj q)) (by decide) (by decide) ?_
    show Steps p.tables e below (T66.setTop (mkF m 18 #[.val (.ref (A 12))] [])) _
    refine XS.iconst X66.here hx rfl (hb hby own_d_prog_40_method_4_code_18) ?_
    show Steps p.tables e below (T66.setTop (mkF m 19 #[.val (.ref (A 12))] [(.int (0 : Int32))])) _
    exact retN X66 hx (t := .boolean) Bd.returns (by simp) (hb hby own_d_prog_40_method_4_code_19) hr
  · show PQ (some (.int (0 : Int32))) h0 n0 _ T66.heap _
    rw [e66]
    exact ⟨rfl, N0, rfl⟩
theorem own_d_method_3_code_176 : decode method_3_code 176 = .ok (.getstatic 60, 3) := by decide +kernel
theorem own_d_method_3_code_179 : decode method_3_code 179 = .ok (.areturn, 1) := by decide +kernel
theorem own_ef_rm27 (m : MethodId) (p1 : Int32) (A : Nat → Addr) (K : Nat → ClassId)  : entryFrame m #[(.int (13 : Int32))] 1 = mkF m 0 #[.val (.int (13 : Int32))] [] := by first | (simp [entryFrame, mkF, argsToLocals, Value.category, maxLocals]; done) | rfl
set_option maxRecDepth 65536 in
set_option maxHeartbeats 40000000 in
theorem rm27 (l : Launch) (Z : State) (a0 : Array Value) (hw : ∀ d ∈ tables_1, d.before a0 Z = true) (ws : List Jvm.Cond) (h0 : Heap) (n0 : Nat) (p1 : Int32) (A : Nat → Addr) (K : Nat → ClassId)  (EN : own_St Z A K) (OL0 : Old Z n0 h0) :
    MetFree l own_m1 (head1 (Jvm.Cond.code own_m1 method_3_code 1 (some (.object "com/example/tallywire/tallywire/wire/FieldType")) :: ws) ({ frames := 0, cells := 0, slots := 0, locals := 0 } : Room)) (fun a U => a = #[(.int (13 : Int32))] ∧ Z.Warmed39 U.vm ∧ U.heap = h0) (fun _ _ _ _ _ => True) (fun _ U o U' => ∃ v L, o = .returned v ∧ (PQ (some (.ref (A 13))) h0 n0) v U'.heap L ∧ FrameEnd U o U' L ({ frames := 0, cells := 0, slots := 0, locals := 0 } : Room).cells ({ frames := 0, cells := 0, slots := 0, locals := 0 } : Room).slots) := by
  refine MetFree.of_bodySF (plainFor_of_name own_pn0) hisR ?_
  intro p e s m args below meth c s₁ Bd hml0 hP hK
  obtain ⟨rfl, hZ, hh⟩ := hP
  have hx := Bd.exec
  have hby := Bd.bytes
  have hml : c.maxLocals = 1 := hml0
  have hown : s.vm.findClass "com/example/tallywire/tallywire/wire/FieldTypeIsDataPinLaw" = some m.cls := findClass_of_methodNamed Bd.named
  have hnm := (name_of_methodNamed Bd.named Bd.method).1
  have X0 : Stand p l e ({ frames := 0, cells := 0, slots := 0, locals := 0 } : Room) s m #[(.int (13 : Int32))] below meth c s₁ [] 0 0 := Stand.of_body Bd
  have e0 : s₁.heap = h0 := by rw [← hh, Bd.state]; rfl
  have N0 := Fr.nil n0
  have pre0 : ∀ t, Steps p.tables e below (s₁.setTop (mkF m 0 #[.val (.int (13 : Int32))] [])) t → Steps p.tables e below (s₁.setTop (entryFrame m #[(.int (13 : Int32))] 1)) t := fun t k => castTop (own_ef_rm27 m p1 A K ) k
  have KK0 : Keep h0 h0 [] := Keep.refl _ _
  obtain ⟨T68, X68, e68, st68⟩ := getS2 X0 hx hZ hown (host := "") (Or.inl (hw _ (List.mem_of_getElem? (i := 51) rfl))) Via.refl e0 (EN.2.2.2.1.2.2.1.ext OL0.2) (g := (mkF m 176 #[.val (.int (13 : Int32))] [])) rfl (hb hby own_d_method_3_code_176)
  obtain ⟨fs, hr, hrun, hended, hW, hsame⟩ := X68.leave (v := some (.ref (A 13))) (fun h => by rw [Bd.returns] at h; cases h)
  refine ⟨_, _, pre0 _ ?_, hrun, hended, _, _, rfl, ?_, ⟨_, rfl⟩, hW, hsame.mono (by decide) (by decide)⟩
  · show Steps p.tables e below (s₁.setTop (mkF m 0 #[.val (.int (13 : Int32))] [])) _
    refine XS.iloadN X0.here hx rfl (hb hby own_d_method_3_code_0) rfl ?_
    show Steps p.tables e below (s₁.setTop (mkF m 1 #[.val (.int (13 : Int32))] [(.int (13 : Int32))])) _
    refine XS.tswIn X0.here hx rfl (pc0 := 1) (pc' := 176) rfl (hb hby own_d_method_3_code_1) rfl (by decide) (o := 175) (by decide) (by decide) (by decide) ?_
    show Steps p.tables e below (s₁.setTop (mkF m 176 #[.val (.int (13 : Int32))] [])) _
    refine st68 _ ?_
    show Steps p.tables e below (T68.setTop (mkF m 179 #[.val (.int (13 : Int32))] [(.ref (A 13))])) _
    exact retOut X68 hx Bd.returns rfl (Or.inr (Or.inr (Or.inr (Or.inr ⟨rfl, rfl, rfl⟩)))) (hb hby own_d_method_3_code_179) hr
  · show PQ (some (.ref (A 13))) h0 n0 _ T68.heap _
    rw [e68]
    exact ⟨rfl, N0, rfl⟩
theorem own_ef_rm28 (m : MethodId) (p1 : Int32) (A : Nat → Addr) (K : Nat → ClassId)  : entryFrame m #[(.ref (A 13))] 1 = mkF m 0 #[.val (.ref (A 13))] [] := by first | (simp [entryFrame, mkF, argsToLocals, Value.category, maxLocals]; done) | rfl
set_option maxRecDepth 65536 in
set_option maxHeartbeats 40000000 in
theorem rm28 (l : Launch) (Z : State) (a0 : Array Value) (hw : ∀ d ∈ tables_1, d.before a0 Z = true) (ws : List Jvm.Cond) (h0 : Heap) (n0 : Nat) (p1 : Int32) (A : Nat → Addr) (K : Nat → ClassId)  (EN : own_St Z A K) (OL0 : Old Z n0 h0) :
    MetFree l own_m0 (head1 (Jvm.Cond.code own_m0 prog_40_method_4_code 1 (some .boolean) :: ws) ({ frames := 0, cells := 0, slots := 0, locals := 0 } : Room)) (fun a U => a = #[(.ref (A 13))] ∧ Z.Warmed39 U.vm ∧ U.heap = h0) (fun _ _ _ _ _ => True) (fun _ U o U' => ∃ v L, o = .returned v ∧ (PQ (some (.int (0 : Int32))) h0 n0) v U'.heap L ∧ FrameEnd U o U' L ({ frames := 0, cells := 0, slots := 0, locals := 0 } : Room).cells ({ frames := 0, cells := 0, slots := 0, locals := 0 } : Room).slots) := by
  refine MetFree.of_bodySF (plainFor_of_name own_pn1) hisR ?_
  intro p e s m args below meth c s₁ Bd hml0 hP hK
  obtain ⟨rfl, hZ, hh⟩ := hP
  have hx := Bd.exec
  have hby := Bd.bytes
  have hml : c.maxLocals = 1 := hml0
  have hown : s.vm.findClass "com/example/tallywire/tallywire/wire/FieldType" = some m.cls := findClass_of_methodNamed Bd.named
  have hnm := (name_of_methodNamed Bd.named Bd.method).1
  have X0 : Stand p l e ({ frames := 0, cells := 0, slots := 0, locals := 0 } : Room) s m #[(.ref (A 13))] below meth c s₁ [] 0 0 := Stand.of_body Bd
  have e0 : s₁.heap = h0 := by rw [← hh, Bd.state]; rfl
  have N0 := Fr.nil n0
  have pre0 : ∀ t, Steps p.tables e below (s₁.setTop (mkF m 0 #[.val (.ref (A 13))] [])) t → Steps p.tables e below (s₁.setTop (entryFrame m #[(.ref (A 13))] 1)) t := fun t k => castTop (own_ef_rm28 m p1 A K ) k
  have KK0 : Keep h0 h0 [] := Keep.refl _ _
  obtain ⟨T70, X70, e70, st70⟩ := getS2 X0 hx hZ hown (host := "") (Or.inl (hw _ (List.mem_of_getElem? (i := 13) rfl))) Via.refl e0 (EN.2.2.2.2.2.2.1.2.2.2.2.1.ext OL0.2) (g := (mkF m 1 #[.val (.ref (A 13))] [(.ref (A 13))])) rfl (hb hby own_d_prog_40_method_4_code_1)
  obtain ⟨T71, X71, e71, st71⟩ := getS2 X70 hx hZ hown (host := "") (Or.inl (hw _ (List.mem_of_getElem? (i := 15) rfl))) Via.refl e70 (EN.2.2.2.2.2.2.1.2.2.2.2.2.2.1.ext OL0.2) (g := (mkF m 8 #[.val (.ref (A 13))] [(.ref (A 13))])) rfl (hb hby own_d_prog_40_method_4_code_8)
  obtain ⟨fs, hr, hrun, hended, hW, hsame⟩ := X71.leave (v := some (.int (0 : Int32))) (fun h => by rw [Bd.returns] at h; cases h)
  refine ⟨_, _, pre0 _ ?_, hrun, hended, _, _, rfl, ?_, ⟨_, rfl⟩, hW, hsame.mono (by decide) (by decide)⟩
  · show Steps p.tables e below (s₁.setTop (mkF m 0 #[.val (.ref (A 13))] [])) _
    refine XS.aloadN X0.here hx rfl (hb hby own_d_prog_40_method_4_code_0) rfl rfl ?_
    show Steps p.tables e below (s₁.setTop (mkF m 1 #[.val (.ref (A 13))] [(.ref (A 13))])) _
    refine st70 _ ?_
    show Steps p.tables e below (T70.setTop (mkF m 4 #[.val (.ref (A 13))] [(.ref (A 26)), (.ref (A 13))])) _
    refine Jvm.RoadKit.acmp (g := (mkF m 4 #[.val (.ref (A 13))] [(.ref (A 26)), (.ref (A 13))])) X70 hx rfl rfl rfl (pc0 := 4) (pc' := 7) (same := false) rfl (hb hby own_d_prog_40_method_4_code_4) rfl (decide_eq_false fun q => (Fld.ne EN.2.2.2.2.2.2.2.2.2.1.2.2.2.1 EN.2.2.2.2.2.2.2.1.2.1 (fun h => by injection h with h; exact absurd h (by decide))) (Value.ref.inj q)) (by decide) (by decide) ?_
    show Steps p.tables e below (T70.setTop (mkF m 7 #[.val (.ref (A 13))] [])) _
    refine XS.aloadN X70.here hx rfl (hb hby own_d_prog_40_method_4_code_7) rfl rfl ?_
    show Steps p.tables e below (T70.setTop (mkF m 8 #[.val (.ref (A 13))] [(.ref (A 13))])) _
    refine st71 _ ?_
    show Steps p.tables e below (T71.setTop (mkF m 11 #[.val (.ref (A 13))] [(.ref (A 27)), (.ref (A 13))])) _
    refine Jvm.RoadKit.acmp (g := (mkF m 11 #[.val (.ref (A 13))] [(.ref (A 27)), (.ref (A 13))])) X71 hx rfl rfl rfl (pc0 := 11) (pc' := 18) (same := false) rfl (hb hby own_d_prog_40_method_4_code_11) rfl (decide_eq_false fun q => (Fld.ne EN.2.2.2.2.2.2.2.2.2.1.2.2.2.1 EN.2.2.2.2.2.2.2.1.2.2.1 (fun h => by injection h with h; exact absurd h (by decide))) (Value.ref.inj q)) (by decide) (by decide) ?_
    show Steps p.tables e below (T71.setTop (mkF m 18 #[.val (.ref (A 13))] [])) _
    refine XS.iconst X71.here hx rfl (hb hby own_d_prog_40_method_4_code_18) ?_
    show Steps p.tables e below (T71.setTop (mkF m 19 #[.val (.ref (A 13))] [(.int (0 : Int32))])) _
    exact retN X71 hx (t := .boolean) Bd.returns (by simp) (hb hby own_d_prog_40_method_4_code_19) hr
  · show PQ (some (.int (0 : Int32))) h0 n0 _ T71.heap _
    rw [e71]
    exact ⟨rfl, N0, rfl⟩
theorem own_d_method_3_code_180 : decode method_3_code 180 = .ok (.getstatic 63, 3) := by decide +kernel
theorem own_d_method_3_code_183 : decode method_3_code 183 = .ok (.areturn, 1) := by decide +kernel
theorem own_ef_rm29 (m : MethodId) (p1 : Int32) (A : Nat → Addr) (K : Nat → ClassId)  : entryFrame m #[(.int (14 : Int32))] 1 = mkF m 0 #[.val (.int (14 : Int32))] [] := by first | (simp [entryFrame, mkF, argsToLocals, Value.category, maxLocals]; done) | rfl
set_option maxRecDepth 65536 in
set_option maxHeartbeats 40000000 in
theorem rm29 (l : Launch) (Z : State) (a0 : Array Value) (hw : ∀ d ∈ tables_1, d.before a0 Z = true) (ws : List Jvm.Cond) (h0 : Heap) (n0 : Nat) (p1 : Int32) (A : Nat → Addr) (K : Nat → ClassId)  (EN : own_St Z A K) (OL0 : Old Z n0 h0) :
    MetFree l own_m1 (head1 (Jvm.Cond.code own_m1 method_3_code 1 (some (.object "com/example/tallywire/tallywire/wire/FieldType")) :: ws) ({ frames := 0, cells := 0, slots := 0, locals := 0 } : Room)) (fun a U => a = #[(.int (14 : Int32))] ∧ Z.Warmed39 U.vm ∧ U.heap = h0) (fun _ _ _ _ _ => True) (fun _ U o U' => ∃ v L, o = .returned v ∧ (PQ (some (.ref (A 14))) h0 n0) v U'.heap L ∧ FrameEnd U o U' L ({ frames := 0, cells := 0, slots := 0, locals := 0 } : Room).cells ({ frames := 0, cells := 0, slots := 0, locals := 0 } : Room).slots) := by
  refine MetFree.of_bodySF (plainFor_of_name own_pn0) hisR ?_
  intro p e s m args below meth c s₁ Bd hml0 hP hK
  obtain ⟨rfl, hZ, hh⟩ := hP
  have hx := Bd.exec
  have hby := Bd.bytes
  have hml : c.maxLocals = 1 := hml0
  have hown : s.vm.findClass "com/example/tallywire/tallywire/wire/FieldTypeIsDataPinLaw" = some m.cls := findClass_of_methodNamed Bd.named
  have hnm := (name_of_methodNamed Bd.named Bd.method).1
  have X0 : Stand p l e ({ frames := 0, cells := 0, slots := 0, locals := 0 } : Room) s m #[(.int (14 : Int32))] below meth c s₁ [] 0 0 := Stand.of_body Bd
  have e0 : s₁.heap = h0 := by rw [← hh, Bd.state]; rfl
  have N0 := Fr.nil n0
  have pre0 : ∀ t, Steps p.tables e below (s₁.setTop (mkF m 0 #[.val (.int (14 : Int32))] [])) t → Steps p.tables e below (s₁.setTop (entryFrame m #[(.int (14 : Int32))] 1)) t := fun t k => castTop (own_ef_rm29 m p1 A K ) k
  have KK0 : Keep h0 h0 [] := Keep.refl _ _
  obtain ⟨T73, X73, e73, st73⟩ := getS2 X0 hx hZ hown (host := "") (Or.inl (hw _ (List.mem_of_getElem? (i := 59) rfl))) Via.refl e0 (EN.2.2.2.1.2.2.2.2.1.ext OL0.2) (g := (mkF m 180 #[.val (.int (14 : Int32))] [])) rfl (hb hby own_d_method_3_code_180)
  obtain ⟨fs, hr, hrun, hended, hW, hsame⟩ := X73.leave (v := some (.ref (A 14))) (fun h => by rw [Bd.returns] at h; cases h)
  refine ⟨_, _, pre0 _ ?_, hrun, hended, _, _, rfl, ?_, ⟨_, rfl⟩, hW, hsame.mono (by decide) (by decide)⟩
  · show Steps p.tables e below (s₁.setTop (mkF m 0 #[.val (.int (14 : Int32))] [])) _
    refine XS.iloadN X0.here hx rfl (hb hby own_d_method_3_code_0) rfl ?_
    show Steps p.tables e below (s₁.setTop (mkF m 1 #[.val (.int (14 : Int32))] [(.int (14 : Int32))])) _
    refine XS.tswIn X0.here hx rfl (pc0 := 1) (pc' := 180) rfl (hb hby own_d_method_3_code_1) rfl (by decide) (o := 179) (by decide) (by decide) (by decide) ?_
    show Steps p.tables e below (s₁.setTop (mkF m 180 #[.val (.int (14 : Int32))] [])) _
    refine st73 _ ?_
    show Steps p.tables e below (T73.setTop (mkF m 183 #[.val (.int (14 : Int32))] [(.ref (A 14))])) _
    exact retOut X73 hx Bd.returns rfl (Or.inr (Or.inr (Or.inr (Or.inr ⟨rfl, rfl, rfl⟩)))) (hb hby own_d_method_3_code_183) hr
  · show PQ (some (.ref (A 14))) h0 n0 _ T73.heap _
    rw [e73]
    exact ⟨rfl, N0, rfl⟩
theorem own_ef_rm30 (m : MethodId) (p1 : Int32) (A : Nat → Addr) (K : Nat → ClassId)  : entryFrame m #[(.ref (A 14))] 1 = mkF m 0 #[.val (.ref (A 14))] [] := by first | (simp [entryFrame, mkF, argsToLocals, Value.category, maxLocals]; done) | rfl
set_option maxRecDepth 65536 in
set_option maxHeartbeats 40000000 in
theorem rm30 (l : Launch) (Z : State) (a0 : Array Value) (hw : ∀ d ∈ tables_1, d.before a0 Z = true) (ws : List Jvm.Cond) (h0 : Heap) (n0 : Nat) (p1 : Int32) (A : Nat → Addr) (K : Nat → ClassId)  (EN : own_St Z A K) (OL0 : Old Z n0 h0) :
    MetFree l own_m0 (head1 (Jvm.Cond.code own_m0 prog_40_method_4_code 1 (some .boolean) :: ws) ({ frames := 0, cells := 0, slots := 0, locals := 0 } : Room)) (fun a U => a = #[(.ref (A 14))] ∧ Z.Warmed39 U.vm ∧ U.heap = h0) (fun _ _ _ _ _ => True) (fun _ U o U' => ∃ v L, o = .returned v ∧ (PQ (some (.int (0 : Int32))) h0 n0) v U'.heap L ∧ FrameEnd U o U' L ({ frames := 0, cells := 0, slots := 0, locals := 0 } : Room).cells ({ frames := 0, cells := 0, slots := 0, locals := 0 } : Room).slots) := by
  refine MetFree.of_bodySF (plainFor_of_name own_pn1) hisR ?_
  intro p e s m args below meth c s₁ Bd hml0 hP hK
  obtain ⟨rfl, hZ, hh⟩ := hP
  have hx := Bd.exec
  have hby := Bd.bytes
  have hml : c.maxLocals = 1 := hml0
  have hown : s.vm.findClass "com/example/tallywire/tallywire/wire/FieldType" = some m.cls := findClass_of_methodNamed Bd.named
  have hnm := (name_of_methodNamed Bd.named Bd.method).1
  have X0 : Stand p l e ({ frames := 0, cells := 0, slots := 0, locals := 0 } : Room) s m #[(.ref (A 14))] below meth c s₁ [] 0 0 := Stand.of_body Bd
  have e0 : s₁.heap = h0 := by rw [← hh, Bd.state]; rfl
  have N0 := Fr.nil n0
  have pre0 : ∀ t, Steps p.tables e below (s₁.setTop (mkF m 0 #[.val (.ref (A 14))] [])) t → Steps p.tables e below (s₁.setTop (entryFrame m #[(.ref (A 14))] 1)) t := fun t k => castTop (own_ef_rm30 m p1 A K ) k
  have KK0 : Keep h0 h0 [] := Keep.refl _ _
  obtain ⟨T75, X75, e75, st75⟩ := getS2 X0 hx hZ hown (host := "") (Or.inl (hw _ (List.mem_of_getElem? (i := 13) rfl))) Via.refl e0 (EN.2.2.2.2.2.2.1.2.2.2.2.1.ext OL0.2) (g := (mkF m 1 #[.val (.ref (A 14))] [(.ref (A 14))])) rfl (hb hby own_d_prog_40_method_4_code_1)
  obtain ⟨T76, X76, e76, st76⟩ := getS2 X75 hx hZ hown (host := "") (Or.inl (hw _ (List.mem_of_getElem? (i := 15) rfl))) Via.refl e75 (EN.2.2.2.2.2.2.1.2.2.2.2.2.2.1.ext OL0.2) (g := (mkF m 8 #[.val (.ref (A 14))] [(.ref (A 14))])) rfl (hb hby own_d_prog_40_method_4_code_8)
  obtain ⟨fs, hr, hrun, hended, hW, hsame⟩ := X76.leave (v := some (.int (0 : Int32))) (fun h => by rw [Bd.returns] at h; cases h)
  refine ⟨_, _, pre0 _ ?_, hrun, hended, _, _, rfl, ?_, ⟨_, rfl⟩, hW, hsame.mono (by decide) (by decide)⟩
  · show Steps p.tables e below (s₁.setTop (mkF m 0 #[.val (.ref (A 14))] [])) _
    refine XS.aloadN X0.here hx rfl (hb hby own_d_prog_40_method_4_code_0) rfl rfl ?_
    show Steps p.tables e below (s₁.setTop (mkF m 1 #[.val (.ref (A 14))] [(.ref (A 14))])) _
    refine st75 _ ?_
    show Steps p.tables e below (T75.setTop (mkF m 4 #[.val (.ref (A 14))] [(.ref (A 26)), (.ref (A 14))])) _
    refine Jvm.RoadKit.acmp (g := (mkF m 4 #[.val (.ref (A 14))] [(.ref (A 26)), (.ref (A 14))])) X75 hx rfl rfl rfl (pc0 := 4) (pc' := 7) (same := false) rfl (hb hby own_d_prog_40_method_4_code_4) rfl (decide_eq_false fun q => (Fld.ne EN.2.2.2.2.2.2.2.2.2.1.2.2.2.2.2.2.2.1 EN.2.2.2.2.2.2.2.1.2.1 (fun h => by injection h with h; exact absurd h (by decide))) (Value.ref.inj q)) (by decide) (by decide) ?_
    show Steps p.tables e below (T75.setTop (mkF m 7 #[.val (.ref (A 14))] [])) _
    refine XS.aloadN X75.here hx rfl (hb hby own_d_prog_40_method_4_code_7) rfl rfl ?_
    show Steps p.tables e below (T75.setTop (mkF m 8 #[.val (.ref (A 14))] [(.ref (A 14))])) _
    refine st76 _ ?_
    show Steps p.tables e below (T76.setTop (mkF m 11 #[.val (.ref (A 14))] [(.ref (A 27)), (.ref (A 14))])) _
    refine Jvm.RoadKit.acmp (g := (mkF m 11 #[.val (.ref (A 14))] [(.ref (A 27)), (.ref (A 14))])) X76 hx rfl rfl rfl (pc0 := 11) (pc' := 18) (same := false) rfl (hb hby own_d_prog_40_method_4_code_11) rfl (decide_eq_false fun q => (Fld.ne EN.2.2.2.2.2.2.2.2.2.1.2.2.2.2.2.2.2.1 EN.2.2.2.2.2.2.2.1.2.2.1 (fun h => by injection h with h; exact absurd h (by decide))) (Value.ref.inj q)) (by decide) (by decide) ?_
    show Steps p.tables e below (T76.setTop (mkF m 18 #[.val (.ref (A 14))] [])) _
    refine XS.iconst X76.here hx rfl (hb hby own_d_prog_40_method_4_code_18) ?_
    show Steps p.tables e below (T76.setTop (mkF m 19 #[.val (.ref (A 14))] [(.int (0 : Int32))])) _
    exact retN X76 hx (t := .boolean) Bd.returns (by simp) (hb hby own_d_prog_40_method_4_code_19) hr
  · show PQ (some (.int (0 : Int32))) h0 n0 _ T76.heap _
    rw [e76]
    exact ⟨rfl, N0, rfl⟩
theorem own_d_method_3_code_184 : decode method_3_code 184 = .ok (.getstatic 66, 3) := by decide +kernel
theorem own_d_method_3_code_187 : decode method_3_code 187 = .ok (.areturn, 1) := by decide +kernel
theorem own_ef_rm31 (m : MethodId) (p1 : Int32) (A : Nat → Addr) (K : Nat → ClassId)  : entryFrame m #[(.int (15 : Int32))] 1 = mkF m 0 #[.val (.int (15 : Int32))] [] := by first | (simp [entryFrame, mkF, argsToLocals, Value.category, maxLocals]; done) | rfl
set_option maxRecDepth 65536 in
set_option maxHeartbeats 40000000 in
theorem rm31 (l : Launch) (Z : State) (a0 : Array Value) (hw : ∀ d ∈ tables_1, d.before a0 Z = true) (ws : List Jvm.Cond) (h0 : Heap) (n0 : Nat) (p1 : Int32) (A : Nat → Addr) (K : Nat → ClassId)  (EN : own_St Z A K) (OL0 : Old Z n0 h0) :
    MetFree l own_m1 (head1 (Jvm.Cond.code own_m1 method_3_code 1 (some (.object "com/example/tallywire/tallywire/wire/FieldType")) :: ws) ({ frames := 0, cells := 0, slots := 0, locals := 0 } : Room)) (fun a U => a = #[(.int (15 : Int32))] ∧ Z.Warmed39 U.vm ∧ U.heap = h0) (fun _ _ _ _ _ => True) (fun _ U o U' => ∃ v L, o = .returned v ∧ (PQ (some (.ref (A 15))) h0 n0) v U'.heap L ∧ FrameEnd U o U' L ({ frames := 0, cells := 0, slots := 0, locals := 0 } : Room).cells ({ frames := 0, cells := 0, slots := 0, locals := 0 } : Room).slots) := by
  refine MetFree.of_bodySF (plainFor_of_name own_pn0) hisR ?_
  intro p e s m args below meth c s₁ Bd hml0 hP hK
  obtain ⟨rfl, hZ, hh⟩ := hP
  have hx := Bd.exec
  have hby := Bd.bytes
  have hml : c.maxLocals = 1 := hml0
  have hown : s.vm.findClass "com/example/tallywire/tallywire/wire/FieldTypeIsDataPinLaw" = some m.cls := findClass_of_methodNamed Bd.named
  have hnm := (name_of_methodNamed Bd.named Bd.method).1
  have X0 : Stand p l e ({ frames := 0, cells := 0, slots := 0, locals := 0 } : Room) s m #[(.int (15 : Int32))] below meth c s₁ [] 0 0 := Stand.of_body Bd
  have e0 : s₁.heap = h0 := by rw [← hh, Bd.state]; rfl
  have N0 := Fr.nil n0
  have pre0 : ∀ t, Steps p.tables e below (s₁.setTop (mkF m 0 #[.val (.int (15 : Int32))] [])) t → Steps p.tables e below (s₁.setTop (entryFrame m #[(.int (15 : Int32))] 1)) t := fun t k => castTop (own_ef_rm31 m p1 A K ) k
  have KK0 : Keep h0 h0 [] := Keep.refl _ _
  obtain ⟨T78, X78, e78, st78⟩ := getS2 X0 hx hZ hown (host := "") (Or.inl (hw _ (List.mem_of_getElem? (i := 43) rfl))) Via.refl e0 (EN.2.2.2.1.2.2.2.2.2.2.1.ext OL0.2) (g := (mkF m 184 #[.val (.int (15 : Int32))] [])) rfl (hb hby own_d_method_3_code_184)
  obtain ⟨fs, hr, hrun, hended, hW, hsame⟩ := X78.leave (v := some (.ref (A 15))) (fun h => by rw [Bd.returns] at h; cases h)
  refine ⟨_, _, pre0 _ ?_, hrun, hended, _, _, rfl, ?_, ⟨_, rfl⟩, hW, hsame.mono (by decide) (by decide)⟩
  · show Steps p.tables e below (s₁.setTop (mkF m 0 #[.val (.int (15 : Int32))] [])) _
    refine XS.iloadN X0.here hx rfl (hb hby own_d_method_3_code_0) rfl ?_
    show Steps p.tables e below (s₁.setTop (mkF m 1 #[.val (.int (15 : Int32))] [(.int (15 : Int32))])) _
    refine XS.tswIn X0.here hx rfl (pc0 := 1) (pc' := 184) rfl (hb hby own_d_method_3_code_1) rfl (by decide) (o := 183) (by decide) (by decide) (by decide) ?_
    show Steps p.tables e below (s₁.setTop (mkF m 184 #[.val (.int (15 : Int32))] [])) _
    refine st78 _ ?_
    show Steps p.tables e below (T78.setTop (mkF m 187 #[.val (.int (15 : Int32))] [(.ref (A 15))])) _
    exact retOut X78 hx Bd.returns rfl (Or.inr (Or.inr (Or.inr (Or.inr ⟨rfl, rfl, rfl⟩)))) (hb hby own_d_method_3_code_187) hr
  · show PQ (some (.ref (A 15))) h0 n0 _ T78.heap _
    rw [e78]
    exact ⟨rfl, N0, rfl⟩
theorem own_ef_rm32 (m : MethodId) (p1 : Int32) (A : Nat → Addr) (K : Nat → ClassId)  : entryFrame m #[(.ref (A 15))] 1 = mkF m 0 #[.val (.ref (A 15))] [] := by first | (simp [entryFrame, mkF, argsToLocals, Value.category, maxLocals]; done) | rfl
set_option maxRecDepth 65536 in
set_option maxHeartbeats 40000000 in
theorem rm32 (l : Launch) (Z : State) (a0 : Array Value) (hw : ∀ d ∈ tables_1, d.before a0 Z = true) (ws : List Jvm.Cond) (h0 : Heap) (n0 : Nat) (p1 : Int32) (A : Nat → Addr) (K : Nat → ClassId)  (EN : own_St Z A K) (OL0 : Old Z n0 h0) :
    MetFree l own_m0 (head1 (Jvm.Cond.code own_m0 prog_40_method_4_code 1 (some .boolean) :: ws) ({ frames := 0, cells := 0, slots := 0, locals := 0 } : Room)) (fun a U => a = #[(.ref (A 15))] ∧ Z.Warmed39 U.vm ∧ U.heap = h0) (fun _ _ _ _ _ => True) (fun _ U o U' => ∃ v L, o = .returned v ∧ (PQ (some (.int (0 : Int32))) h0 n0) v U'.heap L ∧ FrameEnd U o U' L ({ frames := 0, cells := 0, slots := 0, locals := 0 } : Room).cells ({ frames := 0, cells := 0, slots := 0, locals := 0 } : Room).slots) := by
  refine MetFree.of_bodySF (plainFor_of_name own_pn1) hisR ?_
  intro p e s m args below meth c s₁ Bd hml0 hP hK
  obtain ⟨rfl, hZ, hh⟩ := hP
  have hx := Bd.exec
  have hby := Bd.bytes
  have hml : c.maxLocals = 1 := hml0
  have hown : s.vm.findClass "com/example/tallywire/tallywire/wire/FieldType" = some m.cls := findClass_of_methodNamed Bd.named
  have hnm := (name_of_methodNamed Bd.named Bd.method).1
  have X0 : Stand p l e ({ frames := 0, cells := 0, slots := 0, locals := 0 } : Room) s m #[(.ref (A 15))] below meth c s₁ [] 0 0 := Stand.of_body Bd
  have e0 : s₁.heap = h0 := by rw [← hh, Bd.state]; rfl
  have N0 := Fr.nil n0
  have pre0 : ∀ t, Steps p.tables e below (s₁.setTop (mkF m 0 #[.val (.ref (A 15))] [])) t → Steps p.tables e below (s₁.setTop (entryFrame m #[(.ref (A 15))] 1)) t := fun t k => castTop (own_ef_rm32 m p1 A K ) k
  have KK0 : Keep h0 h0 [] := Keep.refl _ _
  obtain ⟨T80, X80, e80, st80⟩ := getS2 X0 hx hZ hown (host := "") (Or.inl (hw _ (List.mem_of_getElem? (i := 13) rfl))) Via.refl e0 (EN.2.2.2.2.2.2.1.2.2.2.2.1.ext OL0.2) (g := (mkF m 1 #[.val (.ref (A 15))] [(.ref (A 15))])) rfl (hb hby own_d_prog_40_method_4_code_1)
  obtain ⟨T81, X81, e81, st81⟩ := getS2 X80 hx hZ hown (host := "") (Or.inl (hw _ (List.mem_of_getElem? (i := 15) rfl))) Via.refl e80 (EN.2.2.2.2.2.2.1.2.2.2.2.2.2.1.ext OL0.2) (g := (mkF m 8 #[.val (.ref (A 15))] [(.ref (A 15))])) rfl (hb hby own_d_prog_40_method_4_code_8)
  obtain ⟨fs, hr, hrun, hended, hW, hsame⟩ := X81.leave (v := some (.int (0 : Int32))) (fun h => by rw [Bd.returns] at h; cases h)
  refine ⟨_, _, pre0 _ ?_, hrun, hended, _, _, rfl, ?_, ⟨_, rfl⟩, hW, hsame.mono (by decide) (by decide)⟩
  · show Steps p.tables e below (s₁.setTop (mkF m 0 #[.val (.ref (A 15))] [])) _
    refine XS.aloadN X0.here hx rfl (hb hby own_d_prog_40_method_4_code_0) rfl rfl ?_
    show Steps p.tables e below (s₁.setTop (mkF m 1 #[.val (.ref (A 15))] [(.ref (A 15))])) _
    refine st80 _ ?_
    show Steps p.tables e below (T80.setTop (mkF m 4 #[.val (.ref (A 15))] [(.ref (A 26)), (.ref (A 15))])) _
    refine Jvm.RoadKit.acmp (g := (mkF m 4 #[.val (.ref (A 15))] [(.ref (A 26)), (.ref (A 15))])) X80 hx rfl rfl rfl (pc0 := 4) (pc' := 7) (same := false) rfl (hb hby own_d_prog_40_method_4_code_4) rfl (decide_eq_false fun q => (Fld.ne EN.2.2.2.2.2.2.2.2.1.2.2.2.2.2.2.2.1 EN.2.2.2.2.2.2.2.1.2.1 (fun h => by injection h with h; exact absurd h (by decide))) (Value.ref.inj q)) (by decide) (by decide) ?_
    show Steps p.tables e below (T80.setTop (mkF m 7 #[.val (.ref (A 15))] [])) _
    refine XS.aloadN X80.here hx rfl (hb hby own_d_prog_40_method_4_code_7) rfl rfl ?_
    show Steps p.tables e below (T80.setTop (mkF m 8 #[.val (.ref (A 15))] [(.ref (A 15))])) _
    refine st81 _ ?_
    show Steps p.tables e below (T81.setTop (mkF m 11 #[.val (.ref (A 15))] [(.ref (A 27)), (.ref (A 15))])) _
    refine Jvm.RoadKit.acmp (g := (mkF m 11 #[.val (.ref (A 15))] [(.ref (A 27)), (.ref (A 15))])) X81 hx rfl rfl rfl (pc0 := 11) (pc' := 18) (same := false) rfl (hb hby own_d_prog_40_method_4_code_11) rfl (decide_eq_false fun q => (Fld.ne EN.2.2.2.2.2.2.2.2.1.2.2.2.2.2.2.2.1 EN.2.2.2.2.2.2.2.1.2.2.1 (fun h => by injection h with h; exact absurd h (by decide))) (Value.ref.inj q)) (by decide) (by decide) ?_
    show Steps p.tables e below (T81.setTop (mkF m 18 #[.val (.ref (A 15))] [])) _
    refine XS.iconst X81.here hx rfl (hb hby own_d_prog_40_method_4_code_18) ?_
    show Steps p.tables e below (T81.setTop (mkF m 19 #[.val (.ref (A 15))] [(.int (0 : Int32))])) _
    exact retN X81 hx (t := .boolean) Bd.returns (by simp) (hb hby own_d_prog_40_method_4_code_19) hr
  · show PQ (some (.int (0 : Int32))) h0 n0 _ T81.heap _
    rw [e81]
    exact ⟨rfl, N0, rfl⟩
theorem own_d_method_3_code_188 : decode method_3_code 188 = .ok (.getstatic 69, 3) := by decide +kernel
theorem own_d_method_3_code_191 : decode method_3_code 191 = .ok (.areturn, 1) := by decide +kernel
theorem own_ef_rm33 (m : MethodId) (p1 : Int32) (A : Nat → Addr) (K : Nat → ClassId)  : entryFrame m #[(.int (16 : Int32))] 1 = mkF m 0 #[.val (.int (16 : Int32))] [] := by first | (simp [entryFrame, mkF, argsToLocals, Value.category, maxLocals]; done) | rfl
set_option maxRecDepth 65536 in
set_option maxHeartbeats 40000000 in
theorem rm33 (l : Launch) (Z : State) (a0 : Array Value) (hw : ∀ d ∈ tables_1, d.before a0 Z = true) (ws : List Jvm.Cond) (h0 : Heap) (n0 : Nat) (p1 : Int32) (A : Nat → Addr) (K : Nat → ClassId)  (EN : own_St Z A K) (OL0 : Old Z n0 h0) :
    MetFree l own_m1 (head1 (Jvm.Cond.code own_m1 method_3_code 1 (some (.object "com/example/tallywire/tallywire/wire/FieldType")) :: ws) ({ frames := 0, cells := 0, slots := 0, locals := 0 } : Room)) (fun a U => a = #[(.int (16 : Int32))] ∧ Z.Warmed39 U.vm ∧ U.heap = h0) (fun _ _ _ _ _ => True) (fun _ U o U' => ∃ v L, o = .returned v ∧ (PQ (some (.ref (A 16))) h0 n0) v U'.heap L ∧ FrameEnd U o U' L ({ frames := 0, cells := 0, slots := 0, locals := 0 } : Room).cells ({ frames := 0, cells := 0, slots := 0, locals := 0 } : Room).slots) := by
  refine MetFree.of_bodySF (plainFor_of_name own_pn0) hisR ?_
  intro p e s m args below meth c s₁ Bd hml0 hP hK
  obtain ⟨rfl, hZ, hh⟩ := hP
  have hx := Bd.exec
  have hby := Bd.bytes
  have hml : c.maxLocals = 1 := hml0
  have hown : s.vm.findClass "com/example/tallywire/tallywire/wire/FieldTypeIsDataPinLaw" = some m.cls := findClass_of_methodNamed Bd.named
  have hnm := (name_of_methodNamed Bd.named Bd.method).1
  have X0 : Stand p l e ({ frames := 0, cells := 0, slots := 0, locals := 0 } : Room) s m #[(.int (16 : Int32))] below meth c s₁ [] 0 0 := Stand.of_body Bd
  have e0 : s₁.heap = h0 := by rw [← hh, Bd.state]; rfl
  have N0 := Fr.nil n0
  have pre0 : ∀ t, Steps p.tables e below (s₁.setTop (mkF m 0 #[.val (.int (16 : Int32))] [])) t → Steps p.tables e below (s₁.setTop (entryFrame m #[(.int (16 : Int32))] 1)) t := fun t k => castTop (own_ef_rm33 m p1 A K ) k
  have KK0 : Keep h0 h0 [] := Keep.refl _ _
  obtain ⟨T83, X83, e83, st83⟩ := getS2 X0 hx hZ hown (host := "") (Or.inl (hw _ (List.mem_of_getElem? (i := 41) rfl))) Via.refl e0 (EN.2.2.2.2.1.1.ext OL0.2) (g := (mkF m 188 #[.val (.int (16 : Int32))] [])) rfl (hb hby own_d_method_3_code_188)
  obtain ⟨fs, hr, hrun, hended, hW, hsame⟩ := X83.leave (v := some (.ref (A 16))) (fun h => by rw [Bd.returns] at h; cases h)
  refine ⟨_, _, pre0 _ ?_, hrun, hended, _, _, rfl, ?_, ⟨_, rfl⟩, hW, hsame.mono (by decide) (by decide)⟩
  · show Steps p.tables e below (s₁.setTop (mkF m 0 #[.val (.int (16 : Int32))] [])) _
    refine XS.iloadN X0.here hx rfl (hb hby own_d_method_3_code_0) rfl ?_
    show Steps p.tables e below (s₁.setTop (mkF m 1 #[.val (.int (16 : Int32))] [(.int (16 : Int32))])) _
    refine XS.tswIn X0.here hx rfl (pc0 := 1) (pc' := 188) rfl (hb hby own_d_method_3_code_1) rfl (by decide) (o := 187) (by decide) (by decide) (by decide) ?_
    show Steps p.tables e below (s₁.setTop (mkF m 188 #[.val (.int (16 : Int32))] [])) _
    refine st83 _ ?_
    show Steps p.tables e below (T83.setTop (mkF m 191 #[.val (.int (16 : Int32))] [(.ref (A 16))])) _
    exact retOut X83 hx Bd.returns rfl (Or.inr (Or.inr (Or.inr (Or.inr ⟨rfl, rfl, rfl⟩)))) (hb hby own_d_method_3_code_191) hr
  · show PQ (some (.ref (A 16))) h0 n0 _ T83.heap _
    rw [e83]
    exact ⟨rfl, N0, rfl⟩
theorem own_ef_rm34 (m : MethodId) (p1 : Int32) (A : Nat → Addr) (K : Nat → ClassId)  : entryFrame m #[(.ref (A 16))] 1 = mkF m 0 #[.val (.ref (A 16))] [] := by first | (simp [entryFrame, mkF, argsToLocals, Value.category, maxLocals]; done) | rfl
set_option maxRecDepth 65536 in
set_option maxHeartbeats 40000000 in
theorem rm34 (l : Launch) (Z : State) (a0 : Array Value) (hw : ∀ d ∈ tables_1, d.before a0 Z = true) (ws : List Jvm.Cond) (h0 : Heap) (n0 : Nat) (p1 : Int32) (A : Nat → Addr) (K : Nat → ClassId)  (EN : own_St Z A K) (OL0 : Old Z n0 h0) :
    MetFree l own_m0 (head1 (Jvm.Cond.code own_m0 prog_40_method_4_code 1 (some .boolean) :: ws) ({ frames := 0, cells := 0, slots := 0, locals := 0 } : Room)) (fun a U => a = #[(.ref (A 16))] ∧ Z.Warmed39 U.vm ∧ U.heap = h0) (fun _ _ _ _ _ => True) (fun _ U o U' => ∃ v L, o = .returned v ∧ (PQ (some (.int (0 : Int32))) h0 n0) v U'.heap L ∧ FrameEnd U o U' L ({ frames := 0, cells := 0, slots := 0, locals := 0 } : Room).cells ({ frames := 0, cells := 0, slots := 0, locals := 0 } : Room).slots) := by
  refine MetFree.of_bodySF (plainFor_of_name own_pn1) hisR ?_
  intro p e s m args below meth c s₁ Bd hml0 hP hK
  obtain ⟨rfl, hZ, hh⟩ := hP
  have hx := Bd.exec
  have hby := Bd.bytes
  have hml : c.maxLocals = 1 := hml0
  have hown : s.vm.findClass "com/example/tallywire/tallywire/wire/FieldType" = some m.cls := findClass_of_methodNamed Bd.named
  have hnm := (name_of_methodNamed Bd.named Bd.method).1
  have X0 : Stand p l e ({ frames := 0, cells := 0, slots := 0, locals := 0 } : Room) s m #[(.ref (A 16))] below meth c s₁ [] 0 0 := Stand.of_body Bd
  have e0 : s₁.heap = h0 := by rw [← hh, Bd.state]; rfl
  have N0 := Fr.nil n0
  have pre0 : ∀ t, Steps p.tables e below (s₁.setTop (mkF m 0 #[.val (.ref (A 16))] [])) t → Steps p.tables e below (s₁.setTop (entryFrame m #[(.ref (A 16))] 1)) t := fun t k => castTop (own_ef_rm34 m p1 A K ) k
  have KK0 : Keep h0 h0 [] := Keep.refl _ _
  obtain ⟨T85, X85, e85, st85⟩ := getS2 X0 hx hZ hown (host := "") (Or.inl (hw _ (List.mem_of_getElem? (i := 13) rfl))) Via.refl e0 (EN.2.2.2.2.2.2.1.2.2.2.2.1.ext OL0.2) (g := (mkF m 1 #[.val (.ref (A 16))] [(.ref (A 16))])) rfl (hb hby own_d_prog_40_method_4_code_1)
  obtain ⟨T86, X86, e86, st86⟩ := getS2 X85 hx hZ hown (host := "") (Or.inl (hw _ (List.mem_of_getElem? (i := 15) rfl))) Via.refl e85 (EN.2.2.2.2.2.2.1.2.2.2.2.2.2.1.ext OL0.2) (g := (mkF m 8 #[.val (.ref (A 16))] [(.ref (A 16))])) rfl (hb hby own_d_prog_40_method_4_code_8)
  obtain ⟨fs, hr, hrun, hended, hW, hsame⟩ := X86.leave (v := some (.int (0 : Int32))) (fun h => by rw [Bd.returns] at h; cases h)
  refine ⟨_, _, pre0 _ ?_, hrun, hended, _, _, rfl, ?_, ⟨_, rfl⟩, hW, hsame.mono (by decide) (by decide)⟩
  · show Steps p.tables e below (s₁.setTop (mkF m 0 #[.val (.ref (A 16))] [])) _
    refine XS.aloadN X0.here hx rfl (hb hby own_d_prog_40_method_4_code_0) rfl rfl ?_
    show Steps p.tables e below (s₁.setTop (mkF m 1 #[.val (.ref (A 16))] [(.ref (A 16))])) _
    refine st85 _ ?_
    show Steps p.tables e below (T85.setTop (mkF m 4 #[.val (.ref (A 16))] [(.ref (A 26)), (.ref (A 16))])) _
    refine Jvm.RoadKit.acmp (g := (mkF m 4 #[.val (.ref (A 16))] [(.ref (A 26)), (.ref (A 16))])) X85 hx rfl rfl rfl (pc0 := 4) (pc' := 7) (same := false) rfl (hb hby own_d_prog_40_method_4_code_4) rfl (decide_eq_false fun q => (Fld.ne EN.2.2.2.2.2.2.2.2.1.2.2.2.2.2.2.1 EN.2.2.2.2.2.2.2.1.2.1 (fun h => by injection h with h; exact absurd h (by decide))) (Value.ref.inj q)) (by decide) (by decide) ?_
    show Steps p.tables e below (T85.setTop (mkF m 7 #[.val (.ref (A 16))] [])) _
    refine XS.aloadN X85.here hx rfl (hb hby own_d_prog_40_method_4_code_7) rfl rfl ?_
    show Steps p.tables e below (T85.setTop (mkF m 8 #[.val (.ref (A 16))] [(.ref (A 16))])) _
    refine st86 _ ?_
    show Steps p.tables e below (T86.setTop (mkF m 11 #[.val (.ref (A 16))] [(.ref (A 27)), (.ref (A 16))])) _
    refine Jvm.RoadKit.acmp (g := (mkF m 11 #[.val (.ref (A 16))] [(.ref (A 27)), (.ref (A 16))])) X86 hx rfl rfl rfl (pc0 := 11) (pc' := 18) (same := false) rfl (hb hby own_d_prog_40_method_4_code_11) rfl (decide_eq_false fun q => (Fld.ne EN.2.2.2.2.2.2.2.2.1.2.2.2.2.2.2.1 EN.2.2.2.2.2.2.2.1.2.2.1 (fun h => by injection h with h; exact absurd h (by decide))) (Value.ref.inj q)) (by decide) (by decide) ?_
    show Steps p.tables e below (T86.setTop (mkF m 18 #[.val (.ref (A 16))] [])) _
    refine XS.iconst X86.here hx rfl (hb hby own_d_prog_40_method_4_code_18) ?_
    show Steps p.tables e below (T86.setTop (mkF m 19 #[.val (.ref (A 16))] [(.int (0 : Int32))])) _
    exact retN X86 hx (t := .boolean) Bd.returns (by simp) (hb hby own_d_prog_40_method_4_code_19) hr
  · show PQ (some (.int (0 : Int32))) h0 n0 _ T86.heap _
    rw [e86]
    exact ⟨rfl, N0, rfl⟩
theorem own_d_method_3_code_192 : decode method_3_code 192 = .ok (.getstatic 72, 3) := by decide +kernel
theorem own_d_method_3_code_195 : decode method_3_code 195 = .ok (.areturn, 1) := by decide +kernel
theorem own_ef_rm35 (m : MethodId) (p1 : Int32) (A : Nat → Addr) (K : Nat → ClassId)  : entryFrame m #[(.int (17 : Int32))] 1 = mkF m 0 #[.val (.int (17 : Int32))] [] := by first | (simp [entryFrame, mkF, argsToLocals, Value.category, maxLocals]; done) | rfl
set_option maxRecDepth 65536 in
set_option maxHeartbeats 40000000 in
theorem rm35 (l : Launch) (Z : State) (a0 : Array Value) (hw : ∀ d ∈ tables_1, d.before a0 Z = true) (ws : List Jvm.Cond) (h0 : Heap) (n0 : Nat) (p1 : Int32) (A : Nat → Addr) (K : Nat → ClassId)  (EN : own_St Z A K) (OL0 : Old Z n0 h0) :
    MetFree l own_m1 (head1 (Jvm.Cond.code own_m1 method_3_code 1 (some (.object "com/example/tallywire/tallywire/wire/FieldType")) :: ws) ({ frames := 0, cells := 0, slots := 0, locals := 0 } : Room)) (fun a U => a = #[(.int (17 : Int32))] ∧ Z.Warmed39 U.vm ∧ U.heap = h0) (fun _ _ _ _ _ => True) (fun _ U o U' => ∃ v L, o = .returned v ∧ (PQ (some (.ref (A 17))) h0 n0) v U'.heap L ∧ FrameEnd U o U' L ({ frames := 0, cells := 0, slots := 0, locals := 0 } : Room).cells ({ frames := 0, cells := 0, slots := 0, locals := 0 } : Room).slots) := by
  refine MetFree.of_bodySF (plainFor_of_name own_pn0) hisR ?_
  intro p e s m args below meth c s₁ Bd hml0 hP hK
  obtain ⟨rfl, hZ, hh⟩ := hP
  have hx := Bd.exec
  have hby := Bd.bytes
  have hml : c.maxLocals = 1 := hml0
  have hown : s.vm.findClass "com/example/tallywire/tallywire/wire/FieldTypeIsDataPinLaw" = some m.cls := findClass_of_methodNamed Bd.named
  have hnm := (name_of_methodNamed Bd.named Bd.method).1
  have X0 : Stand p l e ({ frames := 0, cells := 0, slots := 0, locals := 0 } : Room) s m #[(.int (17 : Int32))] below meth c s₁ [] 0 0 := Stand.of_body Bd
  have e0 : s₁.heap = h0 := by rw [← hh, Bd.state]; rfl
  have N0 := Fr.nil n0
  have pre0 : ∀ t, Steps p.tables e below (s₁.setTop (mkF m 0 #[.val (.int (17 : Int32))] [])) t → Steps p.tables e below (s₁.setTop (entryFrame m #[(.int (17 : Int32))] 1)) t := fun t k => castTop (own_ef_rm35 m p1 A K ) k
  have KK0 : Keep h0 h0 [] := Keep.refl _ _
  obtain ⟨T88, X88, e88, st88⟩ := getS2 X0 hx hZ hown (host := "") (Or.inl (hw _ (List.mem_of_getElem? (i := 57) rfl))) Via.refl e0 (EN.2.2.2.2.1.2.2.1.ext OL0.2) (g := (mkF m 192 #[.val (.int (17 : Int32))] [])) rfl (hb hby own_d_method_3_code_192)
  obtain ⟨fs, hr, hrun, hended, hW, hsame⟩ := X88.leave (v := some (.ref (A 17))) (fun h => by rw [Bd.returns] at h; cases h)
  refine ⟨_, _, pre0 _ ?_, hrun, hended, _, _, rfl, ?_, ⟨_, rfl⟩, hW, hsame.mono (by decide) (by decide)⟩
  · show Steps p.tables e below (s₁.setTop (mkF m 0 #[.val (.int (17 : Int32))] [])) _
    refine XS.iloadN X0.here hx rfl (hb hby own_d_method_3_code_0) rfl ?_
    show Steps p.tables e below (s₁.setTop (mkF m 1 #[.val (.int (17 : Int32))] [(.int (17 : Int32))])) _
    refine XS.tswIn X0.here hx rfl (pc0 := 1) (pc' := 192) rfl (hb hby own_d_method_3_code_1) rfl (by decide) (o := 191) (by decide) (by decide) (by decide) ?_
    show Steps p.tables e below (s₁.setTop (mkF m 192 #[.val (.int (17 : Int32))] [])) _
    refine st88 _ ?_
    show Steps p.tables e below (T88.setTop (mkF m 195 #[.val (.int (17 : Int32))] [(.ref (A 17))])) _
    exact retOut X88 hx Bd.returns rfl (Or.inr (Or.inr (Or.inr (Or.inr ⟨rfl, rfl, rfl⟩)))) (hb hby own_d_method_3_code_195) hr
  · show PQ (some (.ref (A 17))) h0 n0 _ T88.heap _
    rw [e88]
    exact ⟨rfl, N0, rfl⟩
theorem own_ef_rm36 (m : MethodId) (p1 : Int32) (A : Nat → Addr) (K : Nat → ClassId)  : entryFrame m #[(.ref (A 17))] 1 = mkF m 0 #[.val (.ref (A 17))] [] := by first | (simp [entryFrame, mkF, argsToLocals, Value.category, maxLocals]; done) | rfl
set_option maxRecDepth 65536 in
set_option maxHeartbeats 40000000 in
theorem rm36 (l : Launch) (Z : State) (a0 : Array Value) (hw : ∀ d ∈ tables_1, d.before a0 Z = true) (ws : List Jvm.Cond) (h0 : Heap) (n0 : Nat) (p1 : Int32) (A : Nat → Addr) (K : Nat → ClassId)  (EN : own_St Z A K) (OL0 : Old Z n0 h0) :
    MetFree l own_m0 (head1 (Jvm.Cond.code own_m0 prog_40_method_4_code 1 (some .boolean) :: ws) ({ frames := 0, cells := 0, slots := 0, locals := 0 } : Room)) (fun a U => a = #[(.ref (A 17))] ∧ Z.Warmed39 U.vm ∧ U.heap = h0) (fun _ _ _ _ _ => True) (fun _ U o U' => ∃ v L, o = .returned v ∧ (PQ (some (.int (0 : Int32))) h0 n0) v U'.heap L ∧ FrameEnd U o U' L ({ frames := 0, cells := 0, slots := 0, locals := 0 } : Room).cells ({ frames := 0, cells := 0, slots := 0, locals := 0 } : Room).slots) := by
  refine MetFree.of_bodySF (plainFor_of_name own_pn1) hisR ?_
  intro p e s m args below meth c s₁ Bd hml0 hP hK
  obtain ⟨rfl, hZ, hh⟩ := hP
  have hx := Bd.exec
  have hby := Bd.bytes
  have hml : c.maxLocals = 1 := hml0
  have hown : s.vm.findClass "com/example/tallywire/tallywire/wire/FieldType" = some m.cls := findClass_of_methodNamed Bd.named
  have hnm := (name_of_methodNamed Bd.named Bd.method).1
  have X0 : Stand p l e ({ frames := 0, cells := 0, slots := 0, locals := 0 } : Room) s m #[(.ref (A 17))] below meth c s₁ [] 0 0 := Stand.of_body Bd
  have e0 : s₁.heap = h0 := by rw [← hh, Bd.state]; rfl
  have N0 := Fr.nil n0
  have pre0 : ∀ t, Steps p.tables e below (s₁.setTop (mkF m 0 #[.val (.ref (A 17))] [])) t → Steps p.tables e below (s₁.setTop (entryFrame m #[(.ref (A 17))] 1)) t := fun t k => castTop (own_ef_rm36 m p1 A K ) k
  have KK0 : Keep h0 h0 [] := Keep.refl _ _
  obtain ⟨T90, X90, e90, st90⟩ := getS2 X0 hx hZ hown (host := "") (Or.inl (hw _ (List.mem_of_getElem? (i := 13) rfl))) Via.refl e0 (EN.2.2.2.2.2.2.1.2.2.2.2.1.ext OL0.2) (g := (mkF m 1 #[.val (.ref (A 17))] [(.ref (A 17))])) rfl (hb hby own_d_prog_40_method_4_code_1)
  obtain ⟨T91, X91, e91, st91⟩ := getS2 X90 hx hZ hown (host := "") (Or.inl (hw _ (List.mem_of_getElem? (i := 15) rfl))) Via.refl e90 (EN.2.2.2.2.2.2.1.2.2.2.2.2.2.1.ext OL0.2) (g := (mkF m 8 #[.val (.ref (A 17))] [(.ref (A 17))])) rfl (hb hby own_d_prog_40_method_4_code_8)
  obtain ⟨fs, hr, hrun, hended, hW, hsame⟩ := X91.leave (v := some (.int (0 : Int32))) (fun h => by rw [Bd.returns] at h; cases h)
  refine ⟨_, _, pre0 _ ?_, hrun, hended, _, _, rfl, ?_, ⟨_, rfl⟩, hW, hsame.mono (by decide) (by decide)⟩
  · show Steps p.tables e below (s₁.setTop (mkF m 0 #[.val (.ref (A 17))] [])) _
    refine XS.aloadN X0.here hx rfl (hb hby own_d_prog_40_method_4_code_0) rfl rfl ?_
    show Steps p.tables e below (s₁.setTop (mkF m 1 #[.val (.ref (A 17))] [(.ref (A 17))])) _
    refine st90 _ ?_
    show Steps p.tables e below (T90.setTop (mkF m 4 #[.val (.ref (A 17))] [(.ref (A 26)), (.ref (A 17))])) _
    refine Jvm.RoadKit.acmp (g := (mkF m 4 #[.val (.ref (A 17))] [(.ref (A 26)), (.ref (A 17))])) X90 hx rfl rfl rfl (pc0 := 4) (pc' := 7) (same := false) rfl (hb hby own_d_prog_40_method_4_code_4) rfl (decide_eq_false fun q => (Fld.ne EN.2.2.2.2.2.2.2.2.2.1.2.2.2.2.2.2.1 EN.2.2.2.2.2.2.2.1.2.1 (fun h => by injection h with h; exact absurd h (by decide))) (Value.ref.inj q)) (by decide) (by decide) ?_
    show Steps p.tables e below (T90.setTop (mkF m 7 #[.val (.ref (A 17))] [])) _
    refine XS.aloadN X90.here hx rfl (hb hby own_d_prog_40_method_4_code_7) rfl rfl ?_
    show Steps p.tables e below (T90.setTop (mkF m 8 #[.val (.ref (A 17))] [(.ref (A 17))])) _
    refine st91 _ ?_
    show Steps p.tables e below (T91.setTop (mkF m 11 #[.val (.ref (A 17))] [(.ref (A 27)), (.ref (A 17))])) _
    refine Jvm.RoadKit.acmp (g := (mkF m 11 #[.val (.ref (A 17))] [(.ref (A 27)), (.ref (A 17))])) X91 hx rfl rfl rfl (pc0 := 11) (pc' := 18) (same := false) rfl (hb hby own_d_prog_40_method_4_code_11) rfl (decide_eq_false fun q => (Fld.ne EN.2.2.2.2.2.2.2.2.2.1.2.2.2.2.2.2.1 EN.2.2.2.2.2.2.2.1.2.2.1 (fun h => by injection h with h; exact absurd h (by decide))) (Value.ref.inj q)) (by decide) (by decide) ?_
    show Steps p.tables e below (T91.setTop (mkF m 18 #[.val (.ref (A 17))] [])) _
    refine XS.iconst X91.here hx rfl (hb hby own_d_prog_40_method_4_code_18) ?_
    show Steps p.tables e below (T91.setTop (mkF m 19 #[.val (.ref (A 17))] [(.int (0 : Int32))])) _
    exact retN X91 hx (t := .boolean) Bd.returns (by simp) (hb hby own_d_prog_40_method_4_code_19) hr
  · show PQ (some (.int (0 : Int32))) h0 n0 _ T91.heap _
    rw [e91]
    exact ⟨rfl, N0, rfl⟩
theorem own_d_method_3_code_196 : decode method_3_code 196 = .ok (.getstatic 75, 3) := by decide +kernel
theorem own_d_method_3_code_199 : decode method_3_code 199 = .ok (.areturn, 1) := by decide +kernel
theorem own_ef_rm37 (m : MethodId) (p1 : Int32) (A : Nat → Addr) (K : Nat → ClassId)  : entryFrame m #[(.int (18 : Int32))] 1 = mkF m 0 #[.val (.int (18 : Int32))] [] := by first | (simp [entryFrame, mkF, argsToLocals, Value.category, maxLocals]; done) | rfl
set_option maxRecDepth 65536 in
set_option maxHeartbeats 40000000 in
theorem rm37 (l : Launch) (Z : State) (a0 : Array Value) (hw : ∀ d ∈ tables_1, d.before a0 Z = true) (ws : List Jvm.Cond) (h0 : Heap) (n0 : Nat) (p1 : Int32) (A : Nat → Addr) (K : Nat → ClassId)  (EN : own_St Z A K) (OL0 : Old Z n0 h0) :
    MetFree l own_m1 (head1 (Jvm.Cond.code own_m1 method_3_code 1 (some (.object "com/example/tallywire/tallywire/wire/FieldType")) :: ws) ({ frames := 0, cells := 0, slots := 0, locals := 0 } : Room)) (fun a U => a = #[(.int (18 : Int32))] ∧ Z.Warmed39 U.vm ∧ U.heap = h0) (fun _ _ _ _ _ => True) (fun _ U o U' => ∃ v L, o = .returned v ∧ (PQ (some (.ref (A 18))) h0 n0) v U'.heap L ∧ FrameEnd U o U' L ({ frames := 0, cells := 0, slots := 0, locals := 0 } : Room).cells ({ frames := 0, cells := 0, slots := 0, locals := 0 } : Room).slots) := by
  refine MetFree.of_bodySF (plainFor_of_name own_pn0) hisR ?_
  intro p e s m args below meth c s₁ Bd hml0 hP hK
  obtain ⟨rfl, hZ, hh⟩ := hP
  have hx := Bd.exec
  have hby := Bd.bytes
  have hml : c.maxLocals = 1 := hml0
  have hown : s.vm.findClass "com/example/tallywire/tallywire/wire/FieldTypeIsDataPinLaw" = some m.cls := findClass_of_methodNamed Bd.named
  have hnm := (name_of_methodNamed Bd.named Bd.method).1
  have X0 : Stand p l e ({ frames := 0, cells := 0, slots := 0, locals := 0 } : Room) s m #[(.int (18 : Int32))] below meth c s₁ [] 0 0 := Stand.of_body Bd
  have e0 : s₁.heap = h0 := by rw [← hh, Bd.state]; rfl
  have N0 := Fr.nil n0
  have pre0 : ∀ t, Steps p.tables e below (s₁.setTop (mkF m 0 #[.val (.int (18 : Int32))] [])) t → Steps p.tables e below (s₁.setTop (entryFrame m #[(.int (18 : Int32))] 1)) t := fun t k => castTop (own_ef_rm37 m p1 A K ) k
  have KK0 : Keep h0 h0 [] := Keep.refl _ _
  obtain ⟨T93, X93, e93, st93⟩ := getS2 X0 hx hZ hown (host := "") (Or.inl (hw _ (List.mem_of_getElem? (i := 21) rfl))) Via.refl e0 (EN.2.2.2.2.1.2.2.2.2.1.ext OL0.2) (g := (mkF m 196 #[.val (.int (18 : Int32))] [])) rfl (hb hby own_d_method_3_code_196)
  obtain ⟨fs, hr, hrun, hended, hW, hsame⟩ := X93.leave (v := some (.ref (A 18))) (fun h => by rw [Bd.returns] at h; cases h)
  refine ⟨_, _, pre0 _ ?_, hrun, hended, _, _, rfl, ?_, ⟨_, rfl⟩, hW, hsame.mono (by decide) (by decide)⟩
  · show Steps p.tables e below (s₁.setTop (mkF m 0 #[.val (.int (18 : Int32))] [])) _
    refine XS.iloadN X0.here hx rfl (hb hby own_d_method_3_code_0) rfl ?_
    show Steps p.tables e below (s₁.setTop (mkF m 1 #[.val (.int (18 : Int32))] [(.int (18 : Int32))])) _
    refine XS.tswIn X0.here hx rfl (pc0 := 1) (pc' := 196) rfl (hb hby own_d_method_3_code_1) rfl (by decide) (o := 195) (by decide) (by decide) (by decide) ?_
    show Steps p.tables e below (s₁.setTop (mkF m 196 #[.val (.int (18 : Int32))] [])) _
    refine st93 _ ?_
    show Steps p.tables e below (T93.setTop (mkF m 199 #[.val (.int (18 : Int32))] [(.ref (A 18))])) _
    exact retOut X93 hx Bd.returns rfl (Or.inr (Or.inr (Or.inr (Or.inr ⟨rfl, rfl, rfl⟩)))) (hb hby own_d_method_3_code_199) hr
  · show PQ (some (.ref (A 18))) h0 n0 _ T93.heap _
    rw [e93]
    exact ⟨rfl, N0, rfl⟩
theorem own_ef_rm38 (m : MethodId) (p1 : Int32) (A : Nat → Addr) (K : Nat → ClassId)  : entryFrame m #[(.ref (A 18))] 1 = mkF m 0 #[.val (.ref (A 18))] [] := by first | (simp [entryFrame, mkF, argsToLocals, Value.category, maxLocals]; done) | rfl
set_option maxRecDepth 65536 in
set_option maxHeartbeats 40000000 in
theorem rm38 (l : Launch) (Z : State) (a0 : Array Value) (hw : ∀ d ∈ tables_1, d.before a0 Z = true) (ws : List Jvm.Cond) (h0 : Heap) (n0 : Nat) (p1 : Int32) (A : Nat → Addr) (K : Nat → ClassId)  (EN : own_St Z A K) (OL0 : Old Z n0 h0) :
    MetFree l own_m0 (head1 (Jvm.Cond.code own_m0 prog_40_method_4_code 1 (some .boolean) :: ws) ({ frames := 0, cells := 0, slots := 0, locals := 0 } : Room)) (fun a U => a = #[(.ref (A 18))] ∧ Z.Warmed39 U.vm ∧ U.heap = h0) (fun _ _ _ _ _ => True) (fun _ U o U' => ∃ v L, o = .returned v ∧ (PQ (some (.int (0 : Int32))) h0 n0) v U'.heap L ∧ FrameEnd U o U' L ({ frames := 0, cells := 0, slots := 0, locals := 0 } : Room).cells ({ frames := 0, cells := 0, slots := 0, locals := 0 } : Room).slots) := by
  refine MetFree.of_bodySF (plainFor_of_name own_pn1) hisR ?_
  intro p e s m args below meth c s₁ Bd hml0 hP hK
  obtain ⟨rfl, hZ, hh⟩ := hP
  have hx := Bd.exec
  have hby := Bd.bytes
  have hml : c.maxLocals = 1 := hml0
  have hown : s.vm.findClass "com/example/tallywire/tallywire/wire/FieldType" = some m.cls := findClass_of_methodNamed Bd.named
  have hnm := (name_of_methodNamed Bd.named Bd.method).1
  have X0 : Stand p l e ({ frames := 0, cells := 0, slots := 0, locals := 0 } : Room) s m #[(.ref (A 18))] below meth c s₁ [] 0 0 := Stand.of_body Bd
  have e0 : s₁.heap = h0 := by rw [← hh, Bd.state]; rfl
  have N0 := Fr.nil n0
  have pre0 : ∀ t, Steps p.tables e below (s₁.setTop (mkF m 0 #[.val (.ref (A 18))] [])) t → Steps p.tables e below (s₁.setTop (entryFrame m #[(.ref (A 18))] 1)) t := fun t k => castTop (own_ef_rm38 m p1 A K ) k
  have KK0 : Keep h0 h0 [] := Keep.refl _ _
  obtain ⟨T95, X95, e95, st95⟩ := getS2 X0 hx hZ hown (host := "") (Or.inl (hw _ (List.mem_of_getElem? (i := 13) rfl))) Via.refl e0 (EN.2.2.2.2.2.2.1.2.2.2.2.1.ext OL0.2) (g := (mkF m 1 #[.val (.ref (A 18))] [(.ref (A 18))])) rfl (hb hby own_d_prog_40_method_4_code_1)
  obtain ⟨T96, X96, e96, st96⟩ := getS2 X95 hx hZ hown (host := "") (Or.inl (hw _ (List.mem_of_getElem? (i := 15) rfl))) Via.refl e95 (EN.2.2.2.2.2.2.1.2.2.2.2.2.2.1.ext OL0.2) (g := (mkF m 8 #[.val (.ref (A 18))] [(.ref (A 18))])) rfl (hb hby own_d_prog_40_method_4_code_8)
  obtain ⟨fs, hr, hrun, hended, hW, hsame⟩ := X96.leave (v := some (.int (0 : Int32))) (fun h => by rw [Bd.returns] at h; cases h)
  refine ⟨_, _, pre0 _ ?_, hrun, hended, _, _, rfl, ?_, ⟨_, rfl⟩, hW, hsame.mono (by decide) (by decide)⟩
  · show Steps p.tables e below (s₁.setTop (mkF m 0 #[.val (.ref (A 18))] [])) _
    refine XS.aloadN X0.here hx rfl (hb hby own_d_prog_40_method_4_code_0) rfl rfl ?_
    show Steps p.tables e below (s₁.setTop (mkF m 1 #[.val (.ref (A 18))] [(.ref (A 18))])) _
    refine st95 _ ?_
    show Steps p.tables e below (T95.setTop (mkF m 4 #[.val (.ref (A 18))] [(.ref (A 26)), (.ref (A 18))])) _
    refine Jvm.RoadKit.acmp (g := (mkF m 4 #[.val (.ref (A 18))] [(.ref (A 26)), (.ref (A 18))])) X95 hx rfl rfl rfl (pc0 := 4) (pc' := 7) (same := false) rfl (hb hby own_d_prog_40_method_4_code_4) rfl (decide_eq_false fun q => (Fld.ne EN.2.2.2.2.2.2.2.1.2.2.2.2.1 EN.2.2.2.2.2.2.2.1.2.1 (fun h => by injection h with h; exact absurd h (by decide))) (Value.ref.inj q)) (by decide) (by decide) ?_
    show Steps p.tables e below (T95.setTop (mkF m 7 #[.val (.ref (A 18))] [])) _
    refine XS.aloadN X95.here hx rfl (hb hby own_d_prog_40_method_4_code_7) rfl rfl ?_
    show Steps p.tables e below (T95.setTop (mkF m 8 #[.val (.ref (A 18))] [(.ref (A 18))])) _
    refine st96 _ ?_
    show Steps p.tables e below (T96.setTop (mkF m 11 #[.val (.ref (A 18))] [(.ref (A 27)), (.ref (A 18))])) _
    refine Jvm.RoadKit.acmp (g := (mkF m 11 #[.val (.ref (A 18))] [(.ref (A 27)), (.ref (A 18))])) X96 hx rfl rfl rfl (pc0 := 11) (pc' := 18) (same := false) rfl (hb hby own_d_prog_40_method_4_code_11) rfl (decide_eq_false fun q => (Fld.ne EN.2.2.2.2.2.2.2.1.2.2.2.2.1 EN.2.2.2.2.2.2.2.1.2.2.1 (fun h => by injection h with h; exact absurd h (by decide))) (Value.ref.inj q)) (by decide) (by decide) ?_
    show Steps p.tables e below (T96.setTop (mkF m 18 #[.val (.ref (A 18))] [])) _
    refine XS.iconst X96.here hx rfl (hb hby own_d_prog_40_method_4_code_18) ?_
    show Steps p.tables e below (T96.setTop (mkF m 19 #[.val (.ref (A 18))] [(.int (0 : Int32))])) _
    exact retN X96 hx (t := .boolean) Bd.returns (by simp) (hb hby own_d_prog_40_method_4_code_19) hr
  · show PQ (some (.int (0 : Int32))) h0 n0 _ T96.heap _
    rw [e96]
    exact ⟨rfl, N0, rfl⟩
theorem own_d_method_3_code_200 : decode method_3_code 200 = .ok (.getstatic 78, 3) := by decide +kernel
theorem own_d_method_3_code_203 : decode method_3_code 203 = .ok (.areturn, 1) := by decide +kernel
theorem own_ef_rm39 (m : MethodId) (p1 : Int32) (A : Nat → Addr) (K : Nat → ClassId)  : entryFrame m #[(.int (19 : Int32))] 1 = mkF m 0 #[.val (.int (19 : Int32))] [] := by first | (simp [entryFrame, mkF, argsToLocals, Value.category, maxLocals]; done) | rfl
set_option maxRecDepth 65536 in
set_option maxHeartbeats 40000000 in
theorem rm39 (l : Launch) (Z : State) (a0 : Array Value) (hw : ∀ d ∈ tables_1, d.before a0 Z = true) (ws : List Jvm.Cond) (h0 : Heap) (n0 : Nat) (p1 : Int32) (A : Nat → Addr) (K : Nat → ClassId)  (EN : own_St Z A K) (OL0 : Old Z n0 h0) :
    MetFree l own_m1 (head1 (Jvm.Cond.code own_m1 method_3_code 1 (some (.object "com/example/tallywire/tallywire/wire/FieldType")) :: ws) ({ frames := 0, cells := 0, slots := 0, locals := 0 } : Room)) (fun a U => a = #[(.int (19 : Int32))] ∧ Z.Warmed39 U.vm ∧ U.heap = h0) (fun _ _ _ _ _ => True) (fun _ U o U' => ∃ v L, o = .returned v ∧ (PQ (some (.ref (A 19))) h0 n0) v U'.heap L ∧ FrameEnd U o U' L ({ frames := 0, cells := 0, slots := 0, locals := 0 } : Room).cells ({ frames := 0, cells := 0, slots := 0, locals := 0 } : Room).slots) := by
  refine MetFree.of_bodySF (plainFor_of_name own_pn0) hisR ?_
  intro p e s m args below meth c s₁ Bd hml0 hP hK
  obtain ⟨rfl, hZ, hh⟩ := hP
  have hx := Bd.exec
  have hby := Bd.bytes
  have hml : c.maxLocals = 1 := hml0
  have hown : s.vm.findClass "com/example/tallywire/tallywire/wire/FieldTypeIsDataPinLaw" = some m.cls := findClass_of_methodNamed Bd.named
  have hnm := (name_of_methodNamed Bd.named Bd.method).1
  have X0 : Stand p l e ({ frames := 0, cells := 0, slots := 0, locals := 0 } : Room) s m #[(.int (19 : Int32))] below meth c s₁ [] 0 0 := Stand.of_body Bd
  have e0 : s₁.heap = h0 := by rw [← hh, Bd.state]; rfl
  have N0 := Fr.nil n0
  have pre0 : ∀ t, Steps p.tables e below (s₁.setTop (mkF m 0 #[.val (.int (19 : Int32))] [])) t → Steps p.tables e below (s₁.setTop (entryFrame m #[(.int (19 : Int32))] 1)) t := fun t k => castTop (own_ef_rm39 m p1 A K ) k
  have KK0 : Keep h0 h0 [] := Keep.refl _ _
  obtain ⟨T98, X98, e98, st98⟩ := getS2 X0 hx hZ hown (host := "") (Or.inl (hw _ (List.mem_of_getElem? (i := 39) rfl))) Via.refl e0 (EN.2.2.2.2.1.2.2.2.2.2.2.1.ext OL0.2) (g := (mkF m 200 #[.val (.int (19 : Int32))] [])) rfl (hb hby own_d_method_3_code_200)
  obtain ⟨fs, hr, hrun, hended, hW, hsame⟩ := X98.leave (v := some (.ref (A 19))) (fun h => by rw [Bd.returns] at h; cases h)
  refine ⟨_, _, pre0 _ ?_, hrun, hended, _, _, rfl, ?_, ⟨_, rfl⟩, hW, hsame.mono (by decide) (by decide)⟩
  · show Steps p.tables e below (s₁.setTop (mkF m 0 #[.val (.int (19 : Int32))] [])) _
    refine XS.iloadN X0.here hx rfl (hb hby own_d_method_3_code_0) rfl ?_
    show Steps p.tables e below (s₁.setTop (mkF m 1 #[.val (.int (19 : Int32))] [(.int (19 : Int32))])) _
    refine XS.tswIn X0.here hx rfl (pc0 := 1) (pc' := 200) rfl (hb hby own_d_method_3_code_1) rfl (by decide) (o := 199) (by decide) (by decide) (by decide) ?_
    show Steps p.tables e below (s₁.setTop (mkF m 200 #[.val (.int (19 : Int32))] [])) _
    refine st98 _ ?_
    show Steps p.tables e below (T98.setTop (mkF m 203 #[.val (.int (19 : Int32))] [(.ref (A 19))])) _
    exact retOut X98 hx Bd.returns rfl (Or.inr (Or.inr (Or.inr (Or.inr ⟨rfl, rfl, rfl⟩)))) (hb hby own_d_method_3_code_203) hr
  · show PQ (some (.ref (A 19))) h0 n0 _ T98.heap _
    rw [e98]
    exact ⟨rfl, N0, rfl⟩
theorem own_ef_rm40 (m : MethodId) (p1 : Int32) (A : Nat → Addr) (K : Nat → ClassId)  : entryFrame m #[(.ref (A 19))] 1 = mkF m 0 #[.val (.ref (A 19))] [] := by first | (simp [entryFrame, mkF, argsToLocals, Value.category, maxLocals]; done) | rfl
set_option maxRecDepth 65536 in
set_option maxHeartbeats 40000000 in
theorem rm40 (l : Launch) (Z : State) (a0 : Array Value) (hw : ∀ d ∈ tables_1, d.before a0 Z = true) (ws : List Jvm.Cond) (h0 : Heap) (n0 : Nat) (p1 : Int32) (A : Nat → Addr) (K : Nat → ClassId)  (EN : own_St Z A K) (OL0 : Old Z n0 h0) :
    MetFree l own_m0 (head1 (Jvm.Cond.code own_m0 prog_40_method_4_code 1 (some .boolean) :: ws) ({ frames := 0, cells := 0, slots := 0, locals := 0 } : Room)) (fun a U => a = #[(.ref (A 19))] ∧ Z.Warmed39 U.vm ∧ U.heap = h0) (fun _ _ _ _ _ => True) (fun _ U o U' => ∃ v L, o = .returned v ∧ (PQ (some (.int (0 : Int32))) h0 n0) v U'.heap L ∧ FrameEnd U o U' L ({ frames := 0, cells := 0, slots := 0, locals := 0 } : Room).cells ({ frames := 0, cells := 0, slots := 0, locals := 0 } : Room).slots) := by
  refine MetFree.of_bodySF (plainFor_of_name own_pn1) hisR ?_
  intro p e s m args below meth c s₁ Bd hml0 hP hK
  obtain ⟨rfl, hZ, hh⟩ := hP
  have hx := Bd.exec
  have hby := Bd.bytes
  have hml : c.maxLocals = 1 := hml0
  have hown : s.vm.findClass "com/example/tallywire/tallywire/wire/FieldType" = some m.cls := findClass_of_methodNamed Bd.named
  have hnm := (name_of_methodNamed Bd.named Bd.method).1
  have X0 : Stand p l e ({ frames := 0, cells := 0, slots := 0, locals := 0 } : Room) s m #[(.ref (A 19))] below meth c s₁ [] 0 0 := Stand.of_body Bd
  have e0 : s₁.heap = h0 := by rw [← hh, Bd.state]; rfl
  have N0 := Fr.nil n0
  have pre0 : ∀ t, Steps p.tables e below (s₁.setTop (mkF m 0 #[.val (.ref (A 19))] [])) t → Steps p.tables e below (s₁.setTop (entryFrame m #[(.ref (A 19))] 1)) t := fun t k => castTop (own_ef_rm40 m p1 A K ) k
  have KK0 : Keep h0 h0 [] := Keep.refl _ _
  obtain ⟨T100, X100, e100, st100⟩ := getS2 X0 hx hZ hown (host := "") (Or.inl (hw _ (List.mem_of_getElem? (i := 13) rfl))) Via.refl e0 (EN.2.2.2.2.2.2.1.2.2.2.2.1.ext OL0.2) (g := (mkF m 1 #[.val (.ref (A 19))] [(.ref (A 19))])) rfl (hb hby own_d_prog_40_method_4_code_1)
  obtain ⟨T101, X101, e101, st101⟩ := getS2 X100 hx hZ hown (host := "") (Or.inl (hw _ (List.mem_of_getElem? (i := 15) rfl))) Via.refl e100 (EN.2.2.2.2.2.2.1.2.2.2.2.2.2.1.ext OL0.2) (g := (mkF m 8 #[.val (.ref (A 19))] [(.ref (A 19))])) rfl (hb hby own_d_prog_40_method_4_code_8)
  obtain ⟨fs, hr, hrun, hended, hW, hsame⟩ := X101.leave (v := some (.int (0 : Int32))) (fun h => by rw [Bd.returns] at h; cases h)
  refine ⟨_, _, pre0 _ ?_, hrun, hended, _, _, rfl, ?_, ⟨_, rfl⟩, hW, hsame.mono (by decide) (by decide)⟩
  · show Steps p.tables e below (s₁.setTop (mkF m 0 #[.val (.ref (A 19))] [])) _
    refine XS.aloadN X0.here hx rfl (hb hby own_d_prog_40_method_4_code_0) rfl rfl ?_
    show Steps p.tables e below (s₁.setTop (mkF m 1 #[.val (.ref (A 19))] [(.ref (A 19))])) _
    refine st100 _ ?_
    show Steps p.tables e below (T100.setTop (mkF m 4 #[.val (.ref (A 19))] [(.ref (A 26)), (.ref (A 19))])) _
    refine Jvm.RoadKit.acmp (g := (mkF m 4 #[.val (.ref (A 19))] [(.ref (A 26)), (.ref (A 19))])) X100 hx rfl rfl rfl (pc0 := 4) (pc' := 7) (same := false) rfl (hb hby own_d_prog_40_method_4_code_4) rfl (decide_eq_false fun q => (Fld.ne EN.2.2.2.2.2.2.2.2.1.2.2.2.2.2.1 EN.2.2.2.2.2.2.2.1.2.1 (fun h => by injection h with h; exact absurd h (by decide))) (Value.ref.inj q)) (by decide) (by decide) ?_
    show Steps p.tables e below (T100.setTop (mkF m 7 #[.val (.ref (A 19))] [])) _
    refine XS.aloadN X100.here hx rfl (hb hby own_d_prog_40_method_4_code_7) rfl rfl ?_
    show Steps p.tables e below (T100.setTop (mkF m 8 #[.val (.ref (A 19))] [(.ref (A 19))])) _
    refine st101 _ ?_
    show Steps p.tables e below (T101.setTop (mkF m 11 #[.val (.ref (A 19))] [(.ref (A 27)), (.ref (A 19))])) _
    refine Jvm.RoadKit.acmp (g := (mkF m 11 #[.val (.ref (A 19))] [(.ref (A 27)), (.ref (A 19))])) X101 hx rfl rfl rfl (pc0 := 11) (pc' := 18) (same := false) rfl (hb hby own_d_prog_40_method_4_code_11) rfl (decide_eq_false fun q => (Fld.ne EN.2.2.2.2.2.2.2.2.1.2.2.2.2.2.1 EN.2.2.2.2.2.2.2.1.2.2.1 (fun h => by injection h with h; exact absurd h (by decide))) (Value.ref.inj q)) (by decide) (by decide) ?_
    show Steps p.tables e below (T101.setTop (mkF m 18 #[.val (.ref (A 19))] [])) _
    refine XS.iconst X101.here hx rfl (hb hby own_d_prog_40_method_4_code_18) ?_
    show Steps p.tables e below (T101.setTop (mkF m 19 #[.val (.ref (A 19))] [(.int (0 : Int32))])) _
    exact retN X101 hx (t := .boolean) Bd.returns (by simp) (hb hby own_d_prog_40_method_4_code_19) hr
  · show PQ (some (.int (0 : Int32))) h0 n0 _ T101.heap _
    rw [e101]
    exact ⟨rfl, N0, rfl⟩
theorem own_d_method_3_code_204 : decode method_3_code 204 = .ok (.getstatic 81, 3) := by decide +kernel
theorem own_d_method_3_code_207 : decode method_3_code 207 = .ok (.areturn, 1) := by decide +kernel
theorem own_ef_rm41 (m : MethodId) (p1 : Int32) (A : Nat → Addr) (K : Nat → ClassId)  : entryFrame m #[(.int (20 : Int32))] 1 = mkF m 0 #[.val (.int (20 : Int32))] [] := by first | (simp [entryFrame, mkF, argsToLocals, Value.category, maxLocals]; done) | rfl
set_option maxRecDepth 65536 in
set_option maxHeartbeats 40000000 in
theorem rm41 (l : Launch) (Z : State) (a0 : Array Value) (hw : ∀ d ∈ tables_1, d.before a0 Z = true) (ws : List Jvm.Cond) (h0 : Heap) (n0 : Nat) (p1 : Int32) (A : Nat → Addr) (K : Nat → ClassId)  (EN : own_St Z A K) (OL0 : Old Z n0 h0) :
    MetFree l own_m1 (head1 (Jvm.Cond.code own_m1 method_3_code 1 (some (.object "com/example/tallywire/tallywire/wire/FieldType")) :: ws) ({ frames := 0, cells := 0, slots := 0, locals := 0 } : Room)) (fun a U => a = #[(.int (20 : Int32))] ∧ Z.Warmed39 U.vm ∧ U.heap = h0) (fun _ _ _ _ _ => True) (fun _ U o U' => ∃ v L, o = .returned v ∧ (PQ (some (.ref (A 20))) h0 n0) v U'.heap L ∧ FrameEnd U o U' L ({ frames := 0, cells := 0, slots := 0, locals := 0 } : Room).cells ({ frames := 0, cells := 0, slots := 0, locals := 0 } : Room).slots) := by
  refine MetFree.of_bodySF (plainFor_of_name own_pn0) hisR ?_
  intro p e s m args below meth c s₁ Bd hml0 hP hK
  obtain ⟨rfl, hZ, hh⟩ := hP
  have hx := Bd.exec
  have hby := Bd.bytes
  have hml : c.maxLocals = 1 := hml0
  have hown : s.vm.findClass "com/example/tallywire/tallywire/wire/FieldTypeIsDataPinLaw" = some m.cls := findClass_of_methodNamed Bd.named
  have hnm := (name_of_methodNamed Bd.named Bd.method).1
  have X0 : Stand p l e ({ frames := 0, cells := 0, slots := 0, locals := 0 } : Room) s m #[(.int (20 : Int32))] below meth c s₁ [] 0 0 := Stand.of_body Bd
  have e0 : s₁.heap = h0 := by rw [← hh, Bd.state]; rfl
  have N0 := Fr.nil n0
  have pre0 : ∀ t, Steps p.tables e below (s₁.setTop (mkF m 0 #[.val (.int (20 : Int32))] [])) t → Steps p.tables e below (s₁.setTop (entryFrame m #[(.int (20 : Int32))] 1)) t := fun t k => castTop (own_ef_rm41 m p1 A K ) k
  have KK0 : Keep h0 h0 [] := Keep.refl _ _
  obtain ⟨T103, X103, e103, st103⟩ := getS2 X0 hx hZ hown (host := "") (Or.inl (hw _ (List.mem_of_getElem? (i := 47) rfl))) Via.refl e0 (EN.2.2.2.2.2.1.1.ext OL0.2) (g := (mkF m 204 #[.val (.int (20 : Int32))] [])) rfl (hb hby own_d_method_3_code_204)
  obtain ⟨fs, hr, hrun, hended, hW, hsame⟩ := X103.leave (v := some (.ref (A 20))) (fun h => by rw [Bd.returns] at h; cases h)
  refine ⟨_, _, pre0 _ ?_, hrun, hended, _, _, rfl, ?_, ⟨_, rfl⟩, hW, hsame.mono (by decide) (by decide)⟩
  · show Steps p.tables e below (s₁.setTop (mkF m 0 #[.val (.int (20 : Int32))] [])) _
    refine XS.iloadN X0.here hx rfl (hb hby own_d_method_3_code_0) rfl ?_
    show Steps p.tables e below (s₁.setTop (mkF m 1 #[.val (.int (20 : Int32))] [(.int (20 : Int32))])) _
    refine XS.tswIn X0.here hx rfl (pc0 := 1) (pc' := 204) rfl (hb hby own_d_method_3_code_1) rfl (by decide) (o := 203) (by decide) (by decide) (by decide) ?_
    show Steps p.tables e below (s₁.setTop (mkF m 204 #[.val (.int (20 : Int32))] [])) _
    refine st103 _ ?_
    show Steps p.tables e below (T103.setTop (mkF m 207 #[.val (.int (20 : Int32))] [(.ref (A 20))])) _
    exact retOut X103 hx Bd.returns rfl (Or.inr (Or.inr (Or.inr (Or.inr ⟨rfl, rfl, rfl⟩)))) (hb hby own_d_method_3_code_207) hr
  · show PQ (some (.ref (A 20))) h0 n0 _ T103.heap _
    rw [e103]
    exact ⟨rfl, N0, rfl⟩
theorem own_ef_rm42 (m : MethodId) (p1 : Int32) (A : Nat → Addr) (K : Nat → ClassId)  : entryFrame m #[(.ref (A 20))] 1 = mkF m 0 #[.val (.ref (A 20))] [] := by first | (simp [entryFrame, mkF, argsToLocals, Value.category, maxLocals]; done) | rfl
set_option maxRecDepth 65536 in
set_option maxHeartbeats 40000000 in
theorem rm42 (l : Launch) (Z : State) (a0 : Array Value) (hw : ∀ d ∈ tables_1, d.before a0 Z = true) (ws : List Jvm.Cond) (h0 : Heap) (n0 : Nat) (p1 : Int32) (A : Nat → Addr) (K : Nat → ClassId)  (EN : own_St Z A K) (OL0 : Old Z n0 h0) :
    MetFree l own_m0 (head1 (Jvm.Cond.code own_m0 prog_40_method_4_code 1 (some .boolean) :: ws) ({ frames := 0, cells := 0, slots := 0, locals := 0 } : Room)) (fun a U => a = #[(.ref (A 20))] ∧ Z.Warmed39 U.vm ∧ U.heap = h0) (fun _ _ _ _ _ => True) (fun _ U o U' => ∃ v L, o = .returned v ∧ (PQ (some (.int (0 : Int32))) h0 n0) v U'.heap L ∧ FrameEnd U o U' L ({ frames := 0, cells := 0, slots := 0, locals := 0 } : Room).cells ({ frames := 0, cells := 0, slots := 0, locals := 0 } : Room).slots) := by
  refine MetFree.of_bodySF (plainFor_of_name own_pn1) hisR ?_
  intro p e s m args below meth c s₁ Bd hml0 hP hK
  obtain ⟨rfl, hZ, hh⟩ := hP
  have hx := Bd.exec
  have hby := Bd.bytes
  have hml : c.maxLocals = 1 := hml0
  have hown : s.vm.findClass "com/example/tallywire/tallywire/wire/FieldType" = some m.cls := findClass_of_methodNamed Bd.named
  have hnm := (name_of_methodNamed Bd.named Bd.method).1
  have X0 : Stand p l e ({ frames := 0, cells := 0, slots := 0, locals := 0 } : Room) s m #[(.ref (A 20))] below meth c s₁ [] 0 0 := Stand.of_body Bd
  have e0 : s₁.heap = h0 := by rw [← hh, Bd.state]; rfl
  have N0 := Fr.nil n0
  have pre0 : ∀ t, Steps p.tables e below (s₁.setTop (mkF m 0 #[.val (.ref (A 20))] [])) t → Steps p.tables e below (s₁.setTop (entryFrame m #[(.ref (A 20))] 1)) t := fun t k => castTop (own_ef_rm42 m p1 A K ) k
  have KK0 : Keep h0 h0 [] := Keep.refl _ _
  obtain ⟨T105, X105, e105, st105⟩ := getS2 X0 hx hZ hown (host := "") (Or.inl (hw _ (List.mem_of_getElem? (i := 13) rfl))) Via.refl e0 (EN.2.2.2.2.2.2.1.2.2.2.2.1.ext OL0.2) (g := (mkF m 1 #[.val (.ref (A 20))] [(.ref (A 20))])) rfl (hb hby own_d_prog_40_method_4_code_1)
  obtain ⟨T106, X106, e106, st106⟩ := getS2 X105 hx hZ hown (host := "") (Or.inl (hw _ (List.mem_of_getElem? (i := 15) rfl))) Via.refl e105 (EN.2.2.2.2.2.2.1.2.2.2.2.2.2.1.ext OL0.2) (g := (mkF m 8 #[.val (.ref (A 20))] [(.ref (A 20))])) rfl (hb hby own_d_prog_40_method_4_code_8)
  obtain ⟨fs, hr, hrun, hended, hW, hsame⟩ := X106.leave (v := some (.int (0 : Int32))) (fun h => by rw [Bd.returns] at h; cases h)
  refine ⟨_, _, pre0 _ ?_, hrun, hended, _, _, rfl, ?_, ⟨_, rfl⟩, hW, hsame.mono (by decide) (by decide)⟩
  · show Steps p.tables e below (s₁.setTop (mkF m 0 #[.val (.ref (A 20))] [])) _
    refine XS.aloadN X0.here hx rfl (hb hby own_d_prog_40_method_4_code_0) rfl rfl ?_
    show Steps p.tables e below (s₁.setTop (mkF m 1 #[.val (.ref (A 20))] [(.ref (A 20))])) _
    refine st105 _ ?_
    show Steps p.tables e below (T105.setTop (mkF m 4 #[.val (.ref (A 20))] [(.ref (A 26)), (.ref (A 20))])) _
    refine Jvm.RoadKit.acmp (g := (mkF m 4 #[.val (.ref (A 20))] [(.ref (A 26)), (.ref (A 20))])) X105 hx rfl rfl rfl (pc0 := 4) (pc' := 7) (same := false) rfl (hb hby own_d_prog_40_method_4_code_4) rfl (decide_eq_false fun q => (Fld.ne EN.2.2.2.2.2.2.2.2.2.1.2.1 EN.2.2.2.2.2.2.2.1.2.1 (fun h => by injection h with h; exact absurd h (by decide))) (Value.ref.inj q)) (by decide) (by decide) ?_
    show Steps p.tables e below (T105.setTop (mkF m 7 #[.val (.ref (A 20))] [])) _
    refine XS.aloadN X105.here hx rfl (hb hby own_d_prog_40_method_4_code_7) rfl rfl ?_
    show Steps p.tables e below (T105.setTop (mkF m 8 #[.val (.ref (A 20))] [(.ref (A 20))])) _
    refine st106 _ ?_
    show Steps p.tables e below (T106.setTop (mkF m 11 #[.val (.ref (A 20))] [(.ref (A 27)), (.ref (A 20))])) _
    refine Jvm.RoadKit.acmp (g := (mkF m 11 #[.val (.ref (A 20))] [(.ref (A 27)), (.ref (A 20))])) X106 hx rfl rfl rfl (pc0 := 11) (pc' := 18) (same := false) rfl (hb hby own_d_prog_40_method_4_code_11) rfl (decide_eq_false fun q => (Fld.ne EN.2.2.2.2.2.2.2.2.2.1.2.1 EN.2.2.2.2.2.2.2.1.2.2.1 (fun h => by injection h with h; exact absurd h (by decide))) (Value.ref.inj q)) (by decide) (by decide) ?_
    show Steps p.tables e below (T106.setTop (mkF m 18 #[.val (.ref (A 20))] [])) _
    refine XS.iconst X106.here hx rfl (hb hby own_d_prog_40_method_4_code_18) ?_
    show Steps p.tables e below (T106.setTop (mkF m 19 #[.val (.ref (A 20))] [(.int (0 : Int32))])) _
    exact retN X106 hx (t := .boolean) Bd.returns (by simp) (hb hby own_d_prog_40_method_4_code_19) hr
  · show PQ (some (.int (0 : Int32))) h0 n0 _ T106.heap _
    rw [e106]
    exact ⟨rfl, N0, rfl⟩
theorem own_d_method_3_code_208 : decode method_3_code 208 = .ok (.getstatic 84, 3) := by decide +kernel
theorem own_d_method_3_code_211 : decode method_3_code 211 = .ok (.areturn, 1) := by decide +kernel
theorem own_ef_rm43 (m : MethodId) (p1 : Int32) (A : Nat → Addr) (K : Nat → ClassId)  : entryFrame m #[(.int (21 : Int32))] 1 = mkF m 0 #[.val (.int (21 : Int32))] [] := by first | (simp [entryFrame, mkF, argsToLocals, Value.category, maxLocals]; done) | rfl
set_option maxRecDepth 65536 in
set_option maxHeartbeats 40000000 in
theorem rm43 (l : Launch) (Z : State) (a0 : Array Value) (hw : ∀ d ∈ tables_1, d.before a0 Z = true) (ws : List Jvm.Cond) (h0 : Heap) (n0 : Nat) (p1 : Int32) (A : Nat → Addr) (K : Nat → ClassId)  (EN : own_St Z A K) (OL0 : Old Z n0 h0) :
    MetFree l own_m1 (head1 (Jvm.Cond.code own_m1 method_3_code 1 (some (.object "com/example/tallywire/tallywire/wire/FieldType")) :: ws) ({ frames := 0, cells := 0, slots := 0, locals := 0 } : Room)) (fun a U => a = #[(.int (21 : Int32))] ∧ Z.Warmed39 U.vm ∧ U.heap = h0) (fun _ _ _ _ _ => True) (fun _ U o U' => ∃ v L, o = .returned v ∧ (PQ (some (.ref (A 21))) h0 n0) v U'.heap L ∧ FrameEnd U o U' L ({ frames := 0, cells := 0, slots := 0, locals := 0 } : Room).cells ({ frames := 0, cells := 0, slots := 0, locals := 0 } : Room).slots) := by
  refine MetFree.of_bodySF (plainFor_of_name own_pn0) hisR ?_
  intro p e s m args below meth c s₁ Bd hml0 hP hK
  obtain ⟨rfl, hZ, hh⟩ := hP
  have hx := Bd.exec
  have hby := Bd.bytes
  have hml : c.maxLocals = 1 := hml0
  have hown : s.vm.findClass "com/example/tallywire/tallywire/wire/FieldTypeIsDataPinLaw" = some m.cls := findClass_of_methodNamed Bd.named
  have hnm := (name_of_methodNamed Bd.named Bd.method).1
  have X0 : Stand p l e ({ frames := 0, cells := 0, slots := 0, locals := 0 } : Room) s m #[(.int (21 : Int32))] below meth c s₁ [] 0 0 := Stand.of_body Bd
  have e0 : s₁.heap = h0 := by rw [← hh, Bd.state]; rfl
  have N0 := Fr.nil n0
  have pre0 : ∀ t, Steps p.tables e below (s₁.setTop (mkF m 0 #[.val (.int (21 : Int32))] [])) t → Steps p.tables e below (s₁.setTop (entryFrame m #[(.int (21 : Int32))] 1)) t := fun t k => castTop (own_ef_rm43 m p1 A K ) k
  have KK0 : Keep h0 h0 [] := Keep.refl _ _
  obtain ⟨T108, X108, e108, st108⟩ := getS2 X0 hx hZ hown (host := "") (Or.inl (hw _ (List.mem_of_getElem? (i := 67) rfl))) Via.refl e0 (EN.2.2.2.2.2.1.2.2.1.ext OL0.2) (g := (mkF m 208 #[.val (.int (21 : Int32))] [])) rfl (hb hby own_d_method_3_code_208)
  obtain ⟨fs, hr, hrun, hended, hW, hsame⟩ := X108.leave (v := some (.ref (A 21))) (fun h => by rw [Bd.returns] at h; cases h)
  refine ⟨_, _, pre0 _ ?_, hrun, hended, _, _, rfl, ?_, ⟨_, rfl⟩, hW, hsame.mono (by decide) (by decide)⟩
  · show Steps p.tables e below (s₁.setTop (mkF m 0 #[.val (.int (21 : Int32))] [])) _
    refine XS.iloadN X0.here hx rfl (hb hby own_d_method_3_code_0) rfl ?_
    show Steps p.tables e below (s₁.setTop (mkF m 1 #[.val (.int (21 : Int32))] [(.int (21 : Int32))])) _
    refine XS.tswIn X0.here hx rfl (pc0 := 1) (pc' := 208) rfl (hb hby own_d_method_3_code_1) rfl (by decide) (o := 207) (by decide) (by decide) (by decide) ?_
    show Steps p.tables e below (s₁.setTop (mkF m 208 #[.val (.int (21 : Int32))] [])) _
    refine st108 _ ?_
    show Steps p.tables e below (T108.setTop (mkF m 211 #[.val (.int (21 : Int32))] [(.ref (A 21))])) _
    exact retOut X108 hx Bd.returns rfl (Or.inr (Or.inr (Or.inr (Or.inr ⟨rfl, rfl, rfl⟩)))) (hb hby own_d_method_3_code_211) hr
  · show PQ (some (.ref (A 21))) h0 n0 _ T108.heap _
    rw [e108]
    exact ⟨rfl, N0, rfl⟩
theorem own_ef_rm44 (m : MethodId) (p1 : Int32) (A : Nat → Addr) (K : Nat → ClassId)  : entryFrame m #[(.ref (A 21))] 1 = mkF m 0 #[.val (.ref (A 21))] [] := by first | (simp [entryFrame, mkF, argsToLocals, Value.category, maxLocals]; done) | rfl
set_option maxRecDepth 65536 in
set_option maxHeartbeats 40000000 in
theorem rm44 (l : Launch) (Z : State) (a0 : Array Value) (hw : ∀ d ∈ tables_1, d.before a0 Z = true) (ws : List Jvm.Cond) (h0 : Heap) (n0 : Nat) (p1 : Int32) (A : Nat → Addr) (K : Nat → ClassId)  (EN : own_St Z A K) (OL0 : Old Z n0 h0) :
    MetFree l own_m0 (head1 (Jvm.Cond.code own_m0 prog_40_method_4_code 1 (some .boolean) :: ws) ({ frames := 0, cells := 0, slots := 0, locals := 0 } : Room)) (fun a U => a = #[(.ref (A 21))] ∧ Z.Warmed39 U.vm ∧ U.heap = h0) (fun _ _ _ _ _ => True) (fun _ U o U' => ∃ v L, o = .returned v ∧ (PQ (some (.int (0 : Int32))) h0 n0) v U'.heap L ∧ FrameEnd U o U' L ({ frames := 0, cells := 0, slots := 0, locals := 0 } : Room).cells ({ frames := 0, cells := 0, slots := 0, locals := 0 } : Room).slots) := by
  refine MetFree.of_bodySF (plainFor_of_name own_pn1) hisR ?_
  intro p e s m args below meth c s₁ Bd hml0 hP hK
  obtain ⟨rfl, hZ, hh⟩ := hP
  have hx := Bd.exec
  have hby := Bd.bytes
  have hml : c.maxLocals = 1 := hml0
  have hown : s.vm.findClass "com/example/tallywire/tallywire/wire/FieldType" = some m.cls := findClass_of_methodNamed Bd.named
  have hnm := (name_of_methodNamed Bd.named Bd.method).1
  have X0 : Stand p l e ({ frames := 0, cells := 0, slots := 0, locals := 0 } : Room) s m #[(.ref (A 21))] below meth c s₁ [] 0 0 := Stand.of_body Bd
  have e0 : s₁.heap = h0 := by rw [← hh, Bd.state]; rfl
  have N0 := Fr.nil n0
  have pre0 : ∀ t, Steps p.tables e below (s₁.setTop (mkF m 0 #[.val (.ref (A 21))] [])) t → Steps p.tables e below (s₁.setTop (entryFrame m #[(.ref (A 21))] 1)) t := fun t k => castTop (own_ef_rm44 m p1 A K ) k
  have KK0 : Keep h0 h0 [] := Keep.refl _ _
  obtain ⟨T110, X110, e110, st110⟩ := getS2 X0 hx hZ hown (host := "") (Or.inl (hw _ (List.mem_of_getElem? (i := 13) rfl))) Via.refl e0 (EN.2.2.2.2.2.2.1.2.2.2.2.1.ext OL0.2) (g := (mkF m 1 #[.val (.ref (A 21))] [(.ref (A 21))])) rfl (hb hby own_d_prog_40_method_4_code_1)
  obtain ⟨T111, X111, e111, st111⟩ := getS2 X110 hx hZ hown (host := "") (Or.inl (hw _ (List.mem_of_getElem? (i := 15) rfl))) Via.refl e110 (EN.2.2.2.2.2.2.1.2.2.2.2.2.2.1.ext OL0.2) (g := (mkF m 8 #[.val (.ref (A 21))] [(.ref (A 21))])) rfl (hb hby own_d_prog_40_method_4_code_8)
  obtain ⟨fs, hr, hrun, hended, hW, hsame⟩ := X111.leave (v := some (.int (0 : Int32))) (fun h => by rw [Bd.returns] at h; cases h)
  refine ⟨_, _, pre0 _ ?_, hrun, hended, _, _, rfl, ?_, ⟨_, rfl⟩, hW, hsame.mono (by decide) (by decide)⟩
  · show Steps p.tables e below (s₁.setTop (mkF m 0 #[.val (.ref (A 21))] [])) _
    refine XS.aloadN X0.here hx rfl (hb hby own_d_prog_40_method_4_code_0) rfl rfl ?_
    show Steps p.tables e below (s₁.setTop (mkF m 1 #[.val (.ref (A 21))] [(.ref (A 21))])) _
    refine st110 _ ?_
    show Steps p.tables e below (T110.setTop (mkF m 4 #[.val (.ref (A 21))] [(.ref (A 26)), (.ref (A 21))])) _
    refine Jvm.RoadKit.acmp (g := (mkF m 4 #[.val (.ref (A 21))] [(.ref (A 26)), (.ref (A 21))])) X110 hx rfl rfl rfl (pc0 := 4) (pc' := 7) (same := false) rfl (hb hby own_d_prog_40_method_4_code_4) rfl (decide_eq_false fun q => (Fld.ne EN.2.2.2.2.2.2.2.2.2.2.1.2.2.2.1 EN.2.2.2.2.2.2.2.1.2.1 (fun h => by injection h with h; exact absurd h (by decide))) (Value.ref.inj q)) (by decide) (by decide) ?_
    show Steps p.tables e below (T110.setTop (mkF m 7 #[.val (.ref (A 21))] [])) _
    refine XS.aloadN X110.here hx rfl (hb hby own_d_prog_40_method_4_code_7) rfl rfl ?_
    show Steps p.tables e below (T110.setTop (mkF m 8 #[.val (.ref (A 21))] [(.ref (A 21))])) _
    refine st111 _ ?_
    show Steps p.tables e below (T111.setTop (mkF m 11 #[.val (.ref (A 21))] [(.ref (A 27)), (.ref (A 21))])) _
    refine Jvm.RoadKit.acmp (g := (mkF m 11 #[.val (.ref (A 21))] [(.ref (A 27)), (.ref (A 21))])) X111 hx rfl rfl rfl (pc0 := 11) (pc' := 18) (same := false) rfl (hb hby own_d_prog_40_method_4_code_11) rfl (decide_eq_false fun q => (Fld.ne EN.2.2.2.2.2.2.2.2.2.2.1.2.2.2.1 EN.2.2.2.2.2.2.2.1.2.2.1 (fun h => by injection h with h; exact absurd h (by decide))) (Value.ref.inj q)) (by decide) (by decide) ?_
    show Steps p.tables e below (T111.setTop (mkF m 18 #[.val (.ref (A 21))] [])) _
    refine XS.iconst X111.here hx rfl (hb hby own_d_prog_40_method_4_code_18) ?_
    show Steps p.tables e below (T111.setTop (mkF m 19 #[.val (.ref (A 21))] [(.int (0 : Int32))])) _
    exact retN X111 hx (t := .boolean) Bd.returns (by simp) (hb hby own_d_prog_40_method_4_code_19) hr
  · show PQ (some (.int (0 : Int32))) h0 n0 _ T111.heap _
    rw [e111]
    exact ⟨rfl, N0, rfl⟩
theorem own_d_method_3_code_212 : decode method_3_code 212 = .ok (.getstatic 87, 3) := by decide +kernel
theorem own_d_method_3_code_215 : decode method_3_code 215 = .ok (.areturn, 1) := by decide +kernel
theorem own_ef_rm45 (m : MethodId) (p1 : Int32) (A : Nat → Addr) (K : Nat → ClassId)  : entryFrame m #[(.int (22 : Int32))] 1 = mkF m 0 #[.val (.int (22 : Int32))] [] := by first | (simp [entryFrame, mkF, argsToLocals, Value.category, maxLocals]; done) | rfl
set_option maxRecDepth 65536 in
set_option maxHeartbeats 40000000 in
theorem rm45 (l : Launch) (Z : State) (a0 : Array Value) (hw : ∀ d ∈ tables_1, d.before a0 Z = true) (ws : List Jvm.Cond) (h0 : Heap) (n0 : Nat) (p1 : Int32) (A : Nat → Addr) (K : Nat → ClassId)  (EN : own_St Z A K) (OL0 : Old Z n0 h0) :
    MetFree l own_m1 (head1 (Jvm.Cond.code own_m1 method_3_code 1 (some (.object "com/example/tallywire/tallywire/wire/FieldType")) :: ws) ({ frames := 0, cells := 0, slots := 0, locals := 0 } : Room)) (fun a U => a = #[(.int (22 : Int32))] ∧ Z.Warmed39 U.vm ∧ U.heap = h0) (fun _ _ _ _ _ => True) (fun _ U o U' => ∃ v L, o = .returned v ∧ (PQ (some (.ref (A 22))) h0 n0) v U'.heap L ∧ FrameEnd U o U' L ({ frames := 0, cells := 0, slots := 0, locals := 0 } : Room).cells ({ frames := 0, cells := 0, slots := 0, locals := 0 } : Room).slots) := by
  refine MetFree.of_bodySF (plainFor_of_name own_pn0) hisR ?_
  intro p e s m args below meth c s₁ Bd hml0 hP hK
  obtain ⟨rfl, hZ, hh⟩ := hP
  have hx := Bd.exec
  have hby := Bd.bytes
  have hml : c.maxLocals = 1 := hml0
  have hown : s.vm.findClass "com/example/tallywire/tallywire/wire/FieldTypeIsDataPinLaw" = some m.cls := findClass_of_methodNamed Bd.named
  have hnm := (name_of_methodNamed Bd.named Bd.method).1
  have X0 : Stand p l e ({ frames := 0, cells := 0, slots := 0, locals := 0 } : Room) s m #[(.int (22 : Int32))] below meth c s₁ [] 0 0 := Stand.of_body Bd
  have e0 : s₁.heap = h0 := by rw [← hh, Bd.state]; rfl
  have N0 := Fr.nil n0
  have pre0 : ∀ t, Steps p.tables e below (s₁.setTop (mkF m 0 #[.val (.int (22 : Int32))] [])) t → Steps p.tables e below (s₁.setTop (entryFrame m #[(.int (22 : Int32))] 1)) t := fun t k => castTop (own_ef_rm45 m p1 A K ) k
  have KK0 : Keep h0 h0 [] := Keep.refl _ _
  obtain ⟨T113, X113, e113, st113⟩ := getS2 X0 hx hZ hown (host := "") (Or.inl (hw _ (List.mem_of_getElem? (i := 55) rfl))) Via.refl e0 (EN.2.2.2.2.2.1.2.2.2.2.1.ext OL0.2) (g := (mkF m 212 #[.val (.int (22 : Int32))] [])) rfl (hb hby own_d_method_3_code_212)
  obtain ⟨fs, hr, hrun, hended, hW, hsame⟩ := X113.leave (v := some (.ref (A 22))) (fun h => by rw [Bd.returns] at h; cases h)
  refine ⟨_, _, pre0 _ ?_, hrun, hended, _, _, rfl, ?_, ⟨_, rfl⟩, hW, hsame.mono (by decide) (by decide)⟩
  · show Steps p.tables e below (s₁.setTop (mkF m 0 #[.val (.int (22 : Int32))] [])) _
    refine XS.iloadN X0.here hx rfl (hb hby own_d_method_3_code_0) rfl ?_
    show Steps p.tables e below (s₁.setTop (mkF m 1 #[.val (.int (22 : Int32))] [(.int (22 : Int32))])) _
    refine XS.tswIn X0.here hx rfl (pc0 := 1) (pc' := 212) rfl (hb hby own_d_method_3_code_1) rfl (by decide) (o := 211) (by decide) (by decide) (by decide) ?_
    show Steps p.tables e below (s₁.setTop (mkF m 212 #[.val (.int (22 : Int32))] [])) _
    refine st113 _ ?_
    show Steps p.tables e below (T113.setTop (mkF m 215 #[.val (.int (22 : Int32))] [(.ref (A 22))])) _
    exact retOut X113 hx Bd.returns rfl (Or.inr (Or.inr (Or.inr (Or.inr ⟨rfl, rfl, rfl⟩)))) (hb hby own_d_method_3_code_215) hr
  · show PQ (some (.ref (A 22))) h0 n0 _ T113.heap _
    rw [e113]
    exact ⟨rfl, N0, rfl⟩
theorem own_ef_rm46 (m : MethodId) (p1 : Int32) (A : Nat → Addr) (K : Nat → ClassId)  : entryFrame m #[(.ref (A 22))] 1 = mkF m 0 #[.val (.ref (A 22))] [] := by first | (simp [entryFrame, mkF, argsToLocals, Value.category, maxLocals]; done) | rfl
set_option maxRecDepth 65536 in
set_option maxHeartbeats 40000000 in
theorem rm46 (l : Launch) (Z : State) (a0 : Array Value) (hw : ∀ d ∈ tables_1, d.before a0 Z = true) (ws : List Jvm.Cond) (h0 : Heap) (n0 : Nat) (p1 : Int32) (A : Nat → Addr) (K : Nat → ClassId)  (EN : own_St Z A K) (OL0 : Old Z n0 h0) :
    MetFree l own_m0 (head1 (Jvm.Cond.code own_m0 prog_40_method_4_code 1 (some .boolean) :: ws) ({ frames := 0, cells := 0, slots := 0, locals := 0 } : Room)) (fun a U => a = #[(.ref (A 22))] ∧ Z.Warmed39 U.vm ∧ U.heap = h0) (fun _ _ _ _ _ => True) (fun _ U o U' => ∃ v L, o = .returned v ∧ (PQ (some (.int (0 : Int32))) h0 n0) v U'.heap L ∧ FrameEnd U o U' L ({ frames := 0, cells := 0, slots := 0, locals := 0 } : Room).cells ({ frames := 0, cells := 0, slots := 0, locals := 0 } : Room).slots) := by
  refine MetFree.of_bodySF (plainFor_of_name own_pn1) hisR ?_
  intro p e s m args below meth c s₁ Bd hml0 hP hK
  obtain ⟨rfl, hZ, hh⟩ := hP
  have hx := Bd.exec
  have hby := Bd.bytes
  have hml : c.maxLocals = 1 := hml0
  have hown : s.vm.findClass "com/example/tallywire/tallywire/wire/FieldType" = some m.cls := findClass_of_methodNamed Bd.named
  have hnm := (name_of_methodNamed Bd.named Bd.method).1
  have X0 : Stand p l e ({ frames := 0, cells := 0, slots := 0, locals := 0 } : Room) s m #[(.ref (A 22))] below meth c s₁ [] 0 0 := Stand.of_body Bd
  have e0 : s₁.heap = h0 := by rw [← hh, Bd.state]; rfl
  have N0 := Fr.nil n0
  have pre0 : ∀ t, Steps p.tables e below (s₁.setTop (mkF m 0 #[.val (.ref (A 22))] [])) t → Steps p.tables e below (s₁.setTop (entryFrame m #[(.ref (A 22))] 1)) t := fun t k => castTop (own_ef_rm46 m p1 A K ) k
  have KK0 : Keep h0 h0 [] := Keep.refl _ _
  obtain ⟨T115, X115, e115, st115⟩ := getS2 X0 hx hZ hown (host := "") (Or.inl (hw _ (List.mem_of_getElem? (i := 13) rfl))) Via.refl e0 (EN.2.2.2.2.2.2.1.2.2.2.2.1.ext OL0.2) (g := (mkF m 1 #[.val (.ref (A 22))] [(.ref (A 22))])) rfl (hb hby own_d_prog_40_method_4_code_1)
  obtain ⟨T116, X116, e116, st116⟩ := getS2 X115 hx hZ hown (host := "") (Or.inl (hw _ (List.mem_of_getElem? (i := 15) rfl))) Via.refl e115 (EN.2.2.2.2.2.2.1.2.2.2.2.2.2.1.ext OL0.2) (g := (mkF m 8 #[.val (.ref (A 22))] [(.ref (A 22))])) rfl (hb hby own_d_prog_40_method_4_code_8)
  obtain ⟨fs, hr, hrun, hended, hW, hsame⟩ := X116.leave (v := some (.int (0 : Int32))) (fun h => by rw [Bd.returns] at h; cases h)
  refine ⟨_, _, pre0 _ ?_, hrun, hended, _, _, rfl, ?_, ⟨_, rfl⟩, hW, hsame.mono (by decide) (by decide)⟩
  · show Steps p.tables e below (s₁.setTop (mkF m 0 #[.val (.ref (A 22))] [])) _
    refine XS.aloadN X0.here hx rfl (hb hby own_d_prog_40_method_4_code_0) rfl rfl ?_
    show Steps p.tables e below (s₁.setTop (mkF m 1 #[.val (.ref (A 22))] [(.ref (A 22))])) _
    refine st115 _ ?_
    show Steps p.tables e below (T115.setTop (mkF m 4 #[.val (.ref (A 22))] [(.ref (A 26)), (.ref (A 22))])) _
    refine Jvm.RoadKit.acmp (g := (mkF m 4 #[.val (.ref (A 22))] [(.ref (A 26)), (.ref (A 22))])) X115 hx rfl rfl rfl (pc0 := 4) (pc' := 7) (same := false) rfl (hb hby own_d_prog_40_method_4_code_4) rfl (decide_eq_false fun q => (Fld.ne EN.2.2.2.2.2.2.2.2.2.1.2.2.2.2.2.1 EN.2.2.2.2.2.2.2.1.2.1 (fun h => by injection h with h; exact absurd h (by decide))) (Value.ref.inj q)) (by decide) (by decide) ?_
    show Steps p.tables e below (T115.setTop (mkF m 7 #[.val (.ref (A 22))] [])) _
    refine XS.aloadN X115.here hx rfl (hb hby own_d_prog_40_method_4_code_7) rfl rfl ?_
    show Steps p.tables e below (T115.setTop (mkF m 8 #[.val (.ref (A 22))] [(.ref (A 22))])) _
    refine st116 _ ?_
    show Steps p.tables e below (T116.setTop (mkF m 11 #[.val (.ref (A 22))] [(.ref (A 27)), (.ref (A 22))])) _
    refine Jvm.RoadKit.acmp (g := (mkF m 11 #[.val (.ref (A 22))] [(.ref (A 27)), (.ref (A 22))])) X116 hx rfl rfl rfl (pc0 := 11) (pc' := 18) (same := false) rfl (hb hby own_d_prog_40_method_4_code_11) rfl (decide_eq_false fun q => (Fld.ne EN.2.2.2.2.2.2.2.2.2.1.2.2.2.2.2.1 EN.2.2.2.2.2.2.2.1.2.2.1 (fun h => by injection h with h; exact absurd h (by decide))) (Value.ref.inj q)) (by decide) (by decide) ?_
    show Steps p.tables e below (T116.setTop (mkF m 18 #[.val (.ref (A 22))] [])) _
    refine XS.iconst X116.here hx rfl (hb hby own_d_prog_40_method_4_code_18) ?_
    show Steps p.tables e below (T116.setTop (mkF m 19 #[.val (.ref (A 22))] [(.int (0 : Int32))])) _
    exact retN X116 hx (t := .boolean) Bd.returns (by simp) (hb hby own_d_prog_40_method_4_code_19) hr
  · show PQ (some (.int (0 : Int32))) h0 n0 _ T116.heap _
    rw [e116]
    exact ⟨rfl, N0, rfl⟩
theorem own_d_method_3_code_216 : decode method_3_code 216 = .ok (.getstatic 90, 3) := by decide +kernel
theorem own_d_method_3_code_219 : decode method_3_code 219 = .ok (.areturn, 1) := by decide +kernel
theorem own_ef_rm47 (m : MethodId) (p1 : Int32) (A : Nat → Addr) (K : Nat → ClassId)  : entryFrame m #[(.int (23 : Int32))] 1 = mkF m 0 #[.val (.int (23 : Int32))] [] := by first | (simp [entryFrame, mkF, argsToLocals, Value.category, maxLocals]; done) | rfl
set_option maxRecDepth 65536 in
set_option maxHeartbeats 40000000 in
theorem rm47 (l : Launch) (Z : State) (a0 : Array Value) (hw : ∀ d ∈ tables_1, d.before a0 Z = true) (ws : List Jvm.Cond) (h0 : Heap) (n0 : Nat) (p1 : Int32) (A : Nat → Addr) (K : Nat → ClassId)  (EN : own_St Z A K) (OL0 : Old Z n0 h0) :
    MetFree l own_m1 (head1 (Jvm.Cond.code own_m1 method_3_code 1 (some (.object "com/example/tallywire/tallywire/wire/FieldType")) :: ws) ({ frames := 0, cells := 0, slots := 0, locals := 0 } : Room)) (fun a U => a = #[(.int (23 : Int32))] ∧ Z.Warmed39 U.vm ∧ U.heap = h0) (fun _ _ _ _ _ => True) (fun _ U o U' => ∃ v L, o = .returned v ∧ (PQ (some (.ref (A 23))) h0 n0) v U'.heap L ∧ FrameEnd U o U' L ({ frames := 0, cells := 0, slots := 0, locals := 0 } : Room).cells ({ frames := 0, cells := 0, slots := 0, locals := 0 } : Room).slots) := by
  refine MetFree.of_bodySF (plainFor_of_name own_pn0) hisR ?_
  intro p e s m args below meth c s₁ Bd hml0 hP hK
  obtain ⟨rfl, hZ, hh⟩ := hP
  have hx := Bd.exec
  have hby := Bd.bytes
  have hml : c.maxLocals = 1 := hml0
  have hown : s.vm.findClass "com/example/tallywire/tallywire/wire/FieldTypeIsDataPinLaw" = some m.cls := findClass_of_methodNamed Bd.named
  have hnm := (name_of_methodNamed Bd.named Bd.method).1
  have X0 : Stand p l e ({ frames := 0, cells := 0, slots := 0, locals := 0 } : Room) s m #[(.int (23 : Int32))] below meth c s₁ [] 0 0 := Stand.of_body Bd
  have e0 : s₁.heap = h0 := by rw [← hh, Bd.state]; rfl
  have N0 := Fr.nil n0
  have pre0 : ∀ t, Steps p.tables e below (s₁.setTop (mkF m 0 #[.val (.int (23 : Int32))] [])) t → Steps p.tables e below (s₁.setTop (entryFrame m #[(.int (23 : Int32))] 1)) t := fun t k => castTop (own_ef_rm47 m p1 A K ) k
  have KK0 : Keep h0 h0 [] := Keep.refl _ _
  obtain ⟨T118, X118, e118, st118⟩ := getS2 X0 hx hZ hown (host := "") (Or.inl (hw _ (List.mem_of_getElem? (i := 49) rfl))) Via.refl e0 (EN.2.2.2.2.2.1.2.2.2.2.2.2.1.ext OL0.2) (g := (mkF m 216 #[.val (.int (23 : Int32))] [])) rfl (hb hby own_d_method_3_code_216)
  obtain ⟨fs, hr, hrun, hended, hW, hsame⟩ := X118.leave (v := some (.ref (A 23))) (fun h => by rw [Bd.returns] at h; cases h)
  refine ⟨_, _, pre0 _ ?_, hrun, hended, _, _, rfl, ?_, ⟨_, rfl⟩, hW, hsame.mono (by decide) (by decide)⟩
  · show Steps p.tables e below (s₁.setTop (mkF m 0 #[.val (.int (23 : Int32))] [])) _
    refine XS.iloadN X0.here hx rfl (hb hby own_d_method_3_code_0) rfl ?_
    show Steps p.tables e below (s₁.setTop (mkF m 1 #[.val (.int (23 : Int32))] [(.int (23 : Int32))])) _
    refine XS.tswIn X0.here hx rfl (pc0 := 1) (pc' := 216) rfl (hb hby own_d_method_3_code_1) rfl (by decide) (o := 215) (by decide) (by decide) (by decide) ?_
    show Steps p.tables e below (s₁.setTop (mkF m 216 #[.val (.int (23 : Int32))] [])) _
    refine st118 _ ?_
    show Steps p.tables e below (T118.setTop (mkF m 219 #[.val (.int (23 : Int32))] [(.ref (A 23))])) _
    exact retOut X118 hx Bd.returns rfl (Or.inr (Or.inr (Or.inr (Or.inr ⟨rfl, rfl, rfl⟩)))) (hb hby own_d_method_3_code_219) hr
  · show PQ (some (.ref (A 23))) h0 n0 _ T118.heap _
    rw [e118]
    exact ⟨rfl, N0, rfl⟩
theorem own_ef_rm48 (m : MethodId) (p1 : Int32) (A : Nat → Addr) (K : Nat → ClassId)  : entryFrame m #[(.ref (A 23))] 1 = mkF m 0 #[.val (.ref (A 23))] [] := by first | (simp [entryFrame, mkF, argsToLocals, Value.category, maxLocals]; done) | rfl
set_option maxRecDepth 65536 in
set_option maxHeartbeats 40000000 in
theorem rm48 (l : Launch) (Z : State) (a0 : Array Value) (hw : ∀ d ∈ tables_1, d.before a0 Z = true) (ws : List Jvm.Cond) (h0 : Heap) (n0 : Nat) (p1 : Int32) (A : Nat → Addr) (K : Nat → ClassId)  (EN : own_St Z A K) (OL0 : Old Z n0 h0) :
    MetFree l own_m0 (head1 (Jvm.Cond.code own_m0 prog_40_method_4_code 1 (some .boolean) :: ws) ({ frames := 0, cells := 0, slots := 0, locals := 0 } : Room)) (fun a U => a = #[(.ref (A 23))] ∧ Z.Warmed39 U.vm ∧ U.heap = h0) (fun _ _ _ _ _ => True) (fun _ U o U' => ∃ v L, o = .returned v ∧ (PQ (some (.int (0 : Int32))) h0 n0) v U'.heap L ∧ FrameEnd U o U' L ({ frames := 0, cells := 0, slots := 0, locals := 0 } : Room).cells ({ frames := 0, cells := 0, slots := 0, locals := 0 } : Room).slots) := by
  refine MetFree.of_bodySF (plainFor_of_name own_pn1) hisR ?_
  intro p e s m args below meth c s₁ Bd hml0 hP hK
  obtain ⟨rfl, hZ, hh⟩ := hP
  have hx := Bd.exec
  have hby := Bd.bytes
  have hml : c.maxLocals = 1 := hml0
  have hown : s.vm.findClass "com/example/tallywire/tallywire/wire/FieldType" = some m.cls := findClass_of_methodNamed Bd.named
  have hnm := (name_of_methodNamed Bd.named Bd.method).1
  have X0 : Stand p l e ({ frames := 0, cells := 0, slots := 0, locals := 0 } : Room) s m #[(.ref (A 23))] below meth c s₁ [] 0 0 := Stand.of_body Bd
  have e0 : s₁.heap = h0 := by rw [← hh, Bd.state]; rfl
  have N0 := Fr.nil n0
  have pre0 : ∀ t, Steps p.tables e below (s₁.setTop (mkF m 0 #[.val (.ref (A 23))] [])) t → Steps p.tables e below (s₁.setTop (entryFrame m #[(.ref (A 23))] 1)) t := fun t k => castTop (own_ef_rm48 m p1 A K ) k
  have KK0 : Keep h0 h0 [] := Keep.refl _ _
  obtain ⟨T120, X120, e120, st120⟩ := getS2 X0 hx hZ hown (host := "") (Or.inl (hw _ (List.mem_of_getElem? (i := 13) rfl))) Via.refl e0 (EN.2.2.2.2.2.2.1.2.2.2.2.1.ext OL0.2) (g := (mkF m 1 #[.val (.ref (A 23))] [(.ref (A 23))])) rfl (hb hby own_d_prog_40_method_4_code_1)
  obtain ⟨T121, X121, e121, st121⟩ := getS2 X120 hx hZ hown (host := "") (Or.inl (hw _ (List.mem_of_getElem? (i := 15) rfl))) Via.refl e120 (EN.2.2.2.2.2.2.1.2.2.2.2.2.2.1.ext OL0.2) (g := (mkF m 8 #[.val (.ref (A 23))] [(.ref (A 23))])) rfl (hb hby own_d_prog_40_method_4_code_8)
  obtain ⟨fs, hr, hrun, hended, hW, hsame⟩ := X121.leave (v := some (.int (0 : Int32))) (fun h => by rw [Bd.returns] at h; cases h)
  refine ⟨_, _, pre0 _ ?_, hrun, hended, _, _, rfl, ?_, ⟨_, rfl⟩, hW, hsame.mono (by decide) (by decide)⟩
  · show Steps p.tables e below (s₁.setTop (mkF m 0 #[.val (.ref (A 23))] [])) _
    refine XS.aloadN X0.here hx rfl (hb hby own_d_prog_40_method_4_code_0) rfl rfl ?_
    show Steps p.tables e below (s₁.setTop (mkF m 1 #[.val (.ref (A 23))] [(.ref (A 23))])) _
    refine st120 _ ?_
    show Steps p.tables e below (T120.setTop (mkF m 4 #[.val (.ref (A 23))] [(.ref (A 26)), (.ref (A 23))])) _
    refine Jvm.RoadKit.acmp (g := (mkF m 4 #[.val (.ref (A 23))] [(.ref (A 26)), (.ref (A 23))])) X120 hx rfl rfl rfl (pc0 := 4) (pc' := 7) (same := false) rfl (hb hby own_d_prog_40_method_4_code_4) rfl (decide_eq_false fun q => (Fld.ne EN.2.2.2.2.2.2.2.2.2.1.2.2.1 EN.2.2.2.2.2.2.2.1.2.1 (fun h => by injection h with h; exact absurd h (by decide))) (Value.ref.inj q)) (by decide) (by decide) ?_
    show Steps p.tables e below (T120.setTop (mkF m 7 #[.val (.ref (A 23))] [])) _
    refine XS.aloadN X120.here hx rfl (hb hby own_d_prog_40_method_4_code_7) rfl rfl ?_
    show Steps p.tables e below (T120.setTop (mkF m 8 #[.val (.ref (A 23))] [(.ref (A 23))])) _
    refine st121 _ ?_
    show Steps p.tables e below (T121.setTop (mkF m 11 #[.val (.ref (A 23))] [(.ref (A 27)), (.ref (A 23))])) _
    refine Jvm.RoadKit.acmp (g := (mkF m 11 #[.val (.ref (A 23))] [(.ref (A 27)), (.ref (A 23))])) X121 hx rfl rfl rfl (pc0 := 11) (pc' := 18) (same := false) rfl (hb hby own_d_prog_40_method_4_code_11) rfl (decide_eq_false fun q => (Fld.ne EN.2.2.2.2.2.2.2.2.2.1.2.2.1 EN.2.2.2.2.2.2.2.1.2.2.1 (fun h => by injection h with h; exact absurd h (by decide))) (Value.ref.inj q)) (by decide) (by decide) ?_
    show Steps p.tables e below (T121.setTop (mkF m 18 #[.val (.ref (A 23))] [])) _
    refine XS.iconst X121.here hx rfl (hb hby own_d_prog_40_method_4_code_18) ?_
    show Steps p.tables e below (T121.setTop (mkF m 19 #[.val (.ref (A 23))] [(.int (0 : Int32))])) _
    exact retN X121 hx (t := .boolean) Bd.returns (by simp) (hb hby own_d_prog_40_method_4_code_19) hr
  · show PQ (some (.int (0 : Int32))) h0 n0 _ T121.heap _
    rw [e121]
    exact ⟨rfl, N0, rfl⟩
theorem own_d_method_3_code_220 : decode method_3_code 220 = .ok (.getstatic 93, 3) := by decide +kernel
theorem own_d_method_3_code_223 : decode method_3_code 223 = .ok (.areturn, 1) := by decide +kernel
theorem own_ef_rm49 (m : MethodId) (p1 : Int32) (A : Nat → Addr) (K : Nat → ClassId)  : entryFrame m #[(.int (24 : Int32))] 1 = mkF m 0 #[.val (.int (24 : Int32))] [] := by first | (simp [entryFrame, mkF, argsToLocals, Value.category, maxLocals]; done) | rfl
set_option maxRecDepth 65536 in
set_option maxHeartbeats 40000000 in
theorem rm49 (l : Launch) (Z : State) (a0 : Array Value) (hw : ∀ d ∈ tables_1, d.before a0 Z = true) (ws : List Jvm.Cond) (h0 : Heap) (n0 : Nat) (p1 : Int32) (A : Nat → Addr) (K : Nat → ClassId)  (EN : own_St Z A K) (OL0 : Old Z n0 h0) :
    MetFree l own_m1 (head1 (Jvm.Cond.code own_m1 method_3_code 1 (some (.object "com/example/tallywire/tallywire/wire/FieldType")) :: ws) ({ frames := 0, cells := 0, slots := 0, locals := 0 } : Room)) (fun a U => a = #[(.int (24 : Int32))] ∧ Z.Warmed39 U.vm ∧ U.heap = h0) (fun _ _ _ _ _ => True) (fun _ U o U' => ∃ v L, o = .returned v ∧ (PQ (some (.ref (A 24))) h0 n0) v U'.heap L ∧ FrameEnd U o U' L ({ frames := 0, cells := 0, slots := 0, locals := 0 } : Room).cells ({ frames := 0, cells := 0, slots := 0, locals := 0 } : Room).slots) := by
  refine MetFree.of_bodySF (plainFor_of_name own_pn0) hisR ?_
  intro p e s m args below meth c s₁ Bd hml0 hP hK
  obtain ⟨rfl, hZ, hh⟩ := hP
  have hx := Bd.exec
  have hby := Bd.bytes
  have hml : c.maxLocals = 1 := hml0
  have hown : s.vm.findClass "com/example/tallywire/tallywire/wire/FieldTypeIsDataPinLaw" = some m.cls := findClass_of_methodNamed Bd.named
  have hnm := (name_of_methodNamed Bd.named Bd.method).1
  have X0 : Stand p l e ({ frames := 0, cells := 0, slots := 0, locals := 0 } : Room) s m #[(.int (24 : Int32))] below meth c s₁ [] 0 0 := Stand.of_body Bd
  have e0 : s₁.heap = h0 := by rw [← hh, Bd.state]; rfl
  have N0 := Fr.nil n0
  have pre0 : ∀ t, Steps p.tables e below (s₁.setTop (mkF m 0 #[.val (.int (24 : Int32))] [])) t → Steps p.tables e below (s₁.setTop (entryFrame m #[(.int (24 : Int32))] 1)) t := fun t k => castTop (own_ef_rm49 m p1 A K ) k
  have KK0 : Keep h0 h0 [] := Keep.refl _ _
  obtain ⟨T123, X123, e123, st123⟩ := getS2 X0 hx hZ hown (host := "") (Or.inl (hw _ (List.mem_of_getElem? (i := 29) rfl))) Via.refl e0 (EN.2.2.2.2.2.2.1.1.ext OL0.2) (g := (mkF m 220 #[.val (.int (24 : Int32))] [])) rfl (hb hby own_d_method_3_code_220)
  obtain ⟨fs, hr, hrun, hended, hW, hsame⟩ := X123.leave (v := some (.ref (A 24))) (fun h => by rw [Bd.returns] at h; cases h)
  refine ⟨_, _, pre0 _ ?_, hrun, hended, _, _, rfl, ?_, ⟨_, rfl⟩, hW, hsame.mono (by decide) (by decide)⟩
  · show Steps p.tables e below (s₁.setTop (mkF m 0 #[.val (.int (24 : Int32))] [])) _
    refine XS.iloadN X0.here hx rfl (hb hby own_d_method_3_code_0) rfl ?_
    show Steps p.tables e below (s₁.setTop (mkF m 1 #[.val (.int (24 : Int32))] [(.int (24 : Int32))])) _
    refine XS.tswIn X0.here hx rfl (pc0 := 1) (pc' := 220) rfl (hb hby own_d_method_3_code_1) rfl (by decide) (o := 219) (by decide) (by decide) (by decide) ?_
    show Steps p.tables e below (s₁.setTop (mkF m 220 #[.val (.int (24 : Int32))] [])) _
    refine st123 _ ?_
    show Steps p.tables e below (T123.setTop (mkF m 223 #[.val (.int (24 : Int32))] [(.ref (A 24))])) _
    exact retOut X123 hx Bd.returns rfl (Or.inr (Or.inr (Or.inr (Or.inr ⟨rfl, rfl, rfl⟩)))) (hb hby own_d_method_3_code_223) hr
  · show PQ (some (.ref (A 24))) h0 n0 _ T123.heap _
    rw [e123]
    exact ⟨rfl, N0, rfl⟩
theorem own_ef_rm50 (m : MethodId) (p1 : Int32) (A : Nat → Addr) (K : Nat → ClassId)  : entryFrame m #[(.ref (A 24))] 1 = mkF m 0 #[.val (.ref (A 24))] [] := by first | (simp [entryFrame, mkF, argsToLocals, Value.category, maxLocals]; done) | rfl
set_option maxRecDepth 65536 in
set_option maxHeartbeats 40000000 in
theorem rm50 (l : Launch) (Z : State) (a0 : Array Value) (hw : ∀ d ∈ tables_1, d.before a0 Z = true) (ws : List Jvm.Cond) (h0 : Heap) (n0 : Nat) (p1 : Int32) (A : Nat → Addr) (K : Nat → ClassId)  (EN : own_St Z A K) (OL0 : Old Z n0 h0) :
    MetFree l own_m0 (head1 (Jvm.Cond.code own_m0 prog_40_method_4_code 1 (some .boolean) :: ws) ({ frames := 0, cells := 0, slots := 0, locals := 0 } : Room)) (fun a U => a = #[(.ref (A 24))] ∧ Z.Warmed39 U.vm ∧ U.heap = h0) (fun _ _ _ _ _ => True) (fun _ U o U' => ∃ v L, o = .returned v ∧ (PQ (some (.int (0 : Int32))) h0 n0) v U'.heap L ∧ FrameEnd U o U' L ({ frames := 0, cells := 0, slots := 0, locals := 0 } : Room).cells ({ frames := 0, cells := 0, slots := 0, locals := 0 } : Room).slots) := by
  refine MetFree.of_bodySF (plainFor_of_name own_pn1) hisR ?_
  intro p e s m args below meth c s₁ Bd hml0 hP hK
  obtain ⟨rfl, hZ, hh⟩ := hP
  have hx := Bd.exec
  have hby := Bd.bytes
  have hml : c.maxLocals = 1 := hml0
  have hown : s.vm.findClass "com/example/tallywire/tallywire/wire/FieldType" = some m.cls := findClass_of_methodNamed Bd.named
  have hnm := (name_of_methodNamed Bd.named Bd.method).1
  have X0 : Stand p l e ({ frames := 0, cells := 0, slots := 0, locals := 0 } : Room) s m #[(.ref (A 24))] below meth c s₁ [] 0 0 := Stand.of_body Bd
  have e0 : s₁.heap = h0 := by rw [← hh, Bd.state]; rfl
  have N0 := Fr.nil n0
  have pre0 : ∀ t, Steps p.tables e below (s₁.setTop (mkF m 0 #[.val (.ref (A 24))] [])) t → Steps p.tables e below (s₁.setTop (entryFrame m #[(.ref (A 24))] 1)) t := fun t k => castTop (own_ef_rm50 m p1 A K ) k
  have KK0 : Keep h0 h0 [] := Keep.refl _ _
  obtain ⟨T125, X125, e125, st125⟩ := getS2 X0 hx hZ hown (host := "") (Or.inl (hw _ (List.mem_of_getElem? (i := 13) rfl))) Via.refl e0 (EN.2.2.2.2.2.2.1.2.2.2.2.1.ext OL0.2) (g := (mkF m 1 #[.val (.ref (A 24))] [(.ref (A 24))])) rfl (hb hby own_d_prog_40_method_4_code_1)
  obtain ⟨T126, X126, e126, st126⟩ := getS2 X125 hx hZ hown (host := "") (Or.inl (hw _ (List.mem_of_getElem? (i := 15) rfl))) Via.refl e125 (EN.2.2.2.2.2.2.1.2.2.2.2.2.2.1.ext OL0.2) (g := (mkF m 8 #[.val (.ref (A 24))] [(.ref (A 24))])) rfl (hb hby own_d_prog_40_method_4_code_8)
  obtain ⟨fs, hr, hrun, hended, hW, hsame⟩ := X126.leave (v := some (.int (0 : Int32))) (fun h => by rw [Bd.returns] at h; cases h)
  refine ⟨_, _, pre0 _ ?_, hrun, hended, _, _, rfl, ?_, ⟨_, rfl⟩, hW, hsame.mono (by decide) (by decide)⟩
  · show Steps p.tables e below (s₁.setTop (mkF m 0 #[.val (.ref (A 24))] [])) _
    refine XS.aloadN X0.here hx rfl (hb hby own_d_prog_40_method_4_code_0) rfl rfl ?_
    show Steps p.tables e below (s₁.setTop (mkF m 1 #[.val (.ref (A 24))] [(.ref (A 24))])) _
    refine st125 _ ?_
    show Steps p.tables e below (T125.setTop (mkF m 4 #[.val (.ref (A 24))] [(.ref (A 26)), (.ref (A 24))])) _
    refine Jvm.RoadKit.acmp (g := (mkF m 4 #[.val (.ref (A 24))] [(.ref (A 26)), (.ref (A 24))])) X125 hx rfl rfl rfl (pc0 := 4) (pc' := 7) (same := false) rfl (hb hby own_d_prog_40_method_4_code_4) rfl (decide_eq_false fun q => (Fld.ne EN.2.2.2.2.2.2.2.2.1.1 EN.2.2.2.2.2.2.2.1.2.1 (fun h => by injection h with h; exact absurd h (by decide))) (Value.ref.inj q)) (by decide) (by decide) ?_
    show Steps p.tables e below (T125.setTop (mkF m 7 #[.val (.ref (A 24))] [])) _
    refine XS.aloadN X125.here hx rfl (hb hby own_d_prog_40_method_4_code_7) rfl rfl ?_
    show Steps p.tables e below (T125.setTop (mkF m 8 #[.val (.ref (A 24))] [(.ref (A 24))])) _
    refine st126 _ ?_
    show Steps p.tables e below (T126.setTop (mkF m 11 #[.val (.ref (A 24))] [(.ref (A 27)), (.ref (A 24))])) _
    refine Jvm.RoadKit.acmp (g := (mkF m 11 #[.val (.ref (A 24))] [(.ref (A 27)), (.ref (A 24))])) X126 hx rfl rfl rfl (pc0 := 11) (pc' := 18) (same := false) rfl (hb hby own_d_prog_40_method_4_code_11) rfl (decide_eq_false fun q => (Fld.ne EN.2.2.2.2.2.2.2.2.1.1 EN.2.2.2.2.2.2.2.1.2.2.1 (fun h => by injection h with h; exact absurd h (by decide))) (Value.ref.inj q)) (by decide) (by decide) ?_
    show Steps p.tables e below (T126.setTop (mkF m 18 #[.val (.ref (A 24))] [])) _
    refine XS.iconst X126.here hx rfl (hb hby own_d_prog_40_method_4_code_18) ?_
    show Steps p.tables e below (T126.setTop (mkF m 19 #[.val (.ref (A 24))] [(.int (0 : Int32))])) _
    exact retN X126 hx (t := .boolean) Bd.returns (by simp) (hb hby own_d_prog_40_method_4_code_19) hr
  · show PQ (some (.int (0 : Int32))) h0 n0 _ T126.heap _
    rw [e126]
    exact ⟨rfl, N0, rfl⟩
theorem own_d_method_3_code_224 : decode method_3_code 224 = .ok (.getstatic 96, 3) := by decide +kernel
theorem own_d_method_3_code_227 : decode method_3_code 227 = .ok (.areturn, 1) := by decide +kernel
theorem own_ef_rm51 (m : MethodId) (p1 : Int32) (A : Nat → Addr) (K : Nat → ClassId)  : entryFrame m #[(.int (25 : Int32))] 1 = mkF m 0 #[.val (.int (25 : Int32))] [] := by first | (simp [entryFrame, mkF, argsToLocals, Value.category, maxLocals]; done) | rfl
set_option maxRecDepth 65536 in
set_option maxHeartbeats 40000000 in
theorem rm51 (l : Launch) (Z : State) (a0 : Array Value) (hw : ∀ d ∈ tables_1, d.before a0 Z = true) (ws : List Jvm.Cond) (h0 : Heap) (n0 : Nat) (p1 : Int32) (A : Nat → Addr) (K : Nat → ClassId)  (EN : own_St Z A K) (OL0 : Old Z n0 h0) :
    MetFree l own_m1 (head1 (Jvm.Cond.code own_m1 method_3_code 1 (some (.object "com/example/tallywire/tallywire/wire/FieldType")) :: ws) ({ frames := 0, cells := 0, slots := 0, locals := 0 } : Room)) (fun a U => a = #[(.int (25 : Int32))] ∧ Z.Warmed39 U.vm ∧ U.heap = h0) (fun _ _ _ _ _ => True) (fun _ U o U' => ∃ v L, o = .returned v ∧ (PQ (some (.ref (A 25))) h0 n0) v U'.heap L ∧ FrameEnd U o U' L ({ frames := 0, cells := 0, slots := 0, locals := 0 } : Room).cells ({ frames := 0, cells := 0, slots := 0, locals := 0 } : Room).slots) := by
  refine MetFree.of_bodySF (plainFor_of_name own_pn0) hisR ?_
  intro p e s m args below meth c s₁ Bd hml0 hP hK
  obtain ⟨rfl, hZ, hh⟩ := hP
  have hx := Bd.exec
  have hby := Bd.bytes
  have hml : c.maxLocals = 1 := hml0
  have hown : s.vm.findClass "com/example/tallywire/tallywire/wire/FieldTypeIsDataPinLaw" = some m.cls := findClass_of_methodNamed Bd.named
  have hnm := (name_of_methodNamed Bd.named Bd.method).1
  have X0 : Stand p l e ({ frames := 0, cells := 0, slots := 0, locals := 0 } : Room) s m #[(.int (25 : Int32))] below meth c s₁ [] 0 0 := Stand.of_body Bd
  have e0 : s₁.heap = h0 := by rw [← hh, Bd.state]; rfl
  have N0 := Fr.nil n0
  have pre0 : ∀ t, Steps p.tables e below (s₁.setTop (mkF m 0 #[.val (.int (25 : Int32))] [])) t → Steps p.tables e below (s₁.setTop (entryFrame m #[(.int (25 : Int32))] 1)) t := fun t k => castTop (own_ef_rm51 m p1 A K ) k
  have KK0 : Keep h0 h0 [] := Keep.refl _ _
  obtain ⟨T128, X128, e128, st128⟩ := getS2 X0 hx hZ hown (host := "") (Or.inl (hw _ (List.mem_of_getElem? (i := 65) rfl))) Via.refl e0 (EN.2.2.2.2.2.2.1.2.2.1.ext OL0.2) (g := (mkF m 224 #[.val (.int (25 : Int32))] [])) rfl (hb hby own_d_method_3_code_224)
  obtain ⟨fs, hr, hrun, hended, hW, hsame⟩ := X128.leave (v := some (.ref (A 25))) (fun h => by rw [Bd.returns] at h; cases h)
  refine ⟨_, _, pre0 _ ?_, hrun, hended, _, _, rfl, ?_, ⟨_, rfl⟩, hW, hsame.mono (by decide) (by decide)⟩
  · show Steps p.tables e below (s₁.setTop (mkF m 0 #[.val (.int (25 : Int32))] [])) _
    refine XS.iloadN X0.here hx rfl (hb hby own_d_method_3_code_0) rfl ?_
    show Steps p.tables e below (s₁.setTop (mkF m 1 #[.val (.int (25 : Int32))] [(.int (25 : Int32))])) _
    refine XS.tswIn X0.here hx rfl (pc0 := 1) (pc' := 224) rfl (hb hby own_d_method_3_code_1) rfl (by decide) (o := 223) (by decide) (by decide) (by decide) ?_
    show Steps p.tables e below (s₁.setTop (mkF m 224 #[.val (.int (25 : Int32))] [])) _
    refine st128 _ ?_
    show Steps p.tables e below (T128.setTop (mkF m 227 #[.val (.int (25 : Int32))] [(.ref (A 25))])) _
    exact retOut X128 hx Bd.returns rfl (Or.inr (Or.inr (Or.inr (Or.inr ⟨rfl, rfl, rfl⟩)))) (hb hby own_d_method_3_code_227) hr
  · show PQ (some (.ref (A 25))) h0 n0 _ T128.heap _
    rw [e128]
    exact ⟨rfl, N0, rfl⟩
theorem own_ef_rm52 (m : MethodId) (p1 : Int32) (A : Nat → Addr) (K : Nat → ClassId)  : entryFrame m #[(.ref (A 25))] 1 = mkF m 0 #[.val (.ref (A 25))] [] := by first | (simp [entryFrame, mkF, argsToLocals, Value.category, maxLocals]; done) | rfl
set_option maxRecDepth 65536 in
set_option maxHeartbeats 40000000 in
theorem rm52 (l : Launch) (Z : State) (a0 : Array Value) (hw : ∀ d ∈ tables_1, d.before a0 Z = true) (ws : List Jvm.Cond) (h0 : Heap) (n0 : Nat) (p1 : Int32) (A : Nat → Addr) (K : Nat → ClassId)  (EN : own_St Z A K) (OL0 : Old Z n0 h0) :
    MetFree l own_m0 (head1 (Jvm.Cond.code own_m0 prog_40_method_4_code 1 (some .boolean) :: ws) ({ frames := 0, cells := 0, slots := 0, locals := 0 } : Room)) (fun a U => a = #[(.ref (A 25))] ∧ Z.Warmed39 U.vm ∧ U.heap = h0) (fun _ _ _ _ _ => True) (fun _ U o U' => ∃ v L, o = .returned v ∧ (PQ (some (.int (0 : Int32))) h0 n0) v U'.heap L ∧ FrameEnd U o U' L ({ frames := 0, cells := 0, slots := 0, locals := 0 } : Room).cells ({ frames := 0, cells := 0, slots := 0, locals := 0 } : Room).slots) := by
  refine MetFree.of_bodySF (plainFor_of_name own_pn1) hisR ?_
  intro p e s m args below meth c s₁ Bd hml0 hP hK
  obtain ⟨rfl, hZ, hh⟩ := hP
  have hx := Bd.exec
  have hby := Bd.bytes
  have hml : c.maxLocals = 1 := hml0
  have hown : s.vm.findClass "com/example/tallywire/tallywire/wire/FieldType" = some m.cls := findClass_of_methodNamed Bd.named
  have hnm := (name_of_methodNamed Bd.named Bd.method).1
  have X0 : Stand p l e ({ frames := 0, cells := 0, slots := 0, locals := 0 } : Room) s m #[(.ref (A 25))] below meth c s₁ [] 0 0 := Stand.of_body Bd
  have e0 : s₁.heap = h0 := by rw [← hh, Bd.state]; rfl
  have N0 := Fr.nil n0
  have pre0 : ∀ t, Steps p.tables e below (s₁.setTop (mkF m 0 #[.val (.ref (A 25))] [])) t → Steps p.tables e below (s₁.setTop (entryFrame m #[(.ref (A 25))] 1)) t := fun t k => castTop (own_ef_rm52 m p1 A K ) k
  have KK0 : Keep h0 h0 [] := Keep.refl _ _
  obtain ⟨T130, X130, e130, st130⟩ := getS2 X0 hx hZ hown (host := "") (Or.inl (hw _ (List.mem_of_getElem? (i := 13) rfl))) Via.refl e0 (EN.2.2.2.2.2.2.1.2.2.2.2.1.ext OL0.2) (g := (mkF m 1 #[.val (.ref (A 25))] [(.ref (A 25))])) rfl (hb hby own_d_prog_40_method_4_code_1)
  obtain ⟨T131, X131, e131, st131⟩ := getS2 X130 hx hZ hown (host := "") (Or.inl (hw _ (List.mem_of_getElem? (i := 15) rfl))) Via.refl e130 (EN.2.2.2.2.2.2.1.2.2.2.2.2.2.1.ext OL0.2) (g := (mkF m 8 #[.val (.ref (A 25))] [(.ref (A 25))])) rfl (hb hby own_d_prog_40_method_4_code_8)
  obtain ⟨fs, hr, hrun, hended, hW, hsame⟩ := X131.leave (v := some (.int (0 : Int32))) (fun h => by rw [Bd.returns] at h; cases h)
  refine ⟨_, _, pre0 _ ?_, hrun, hended, _, _, rfl, ?_, ⟨_, rfl⟩, hW, hsame.mono (by decide) (by decide)⟩
  · show Steps p.tables e below (s₁.setTop (mkF m 0 #[.val (.ref (A 25))] [])) _
    refine XS.aloadN X0.here hx rfl (hb hby own_d_prog_40_method_4_code_0) rfl rfl ?_
    show Steps p.tables e below (s₁.setTop (mkF m 1 #[.val (.ref (A 25))] [(.ref (A 25))])) _
    refine st130 _ ?_
    show Steps p.tables e below (T130.setTop (mkF m 4 #[.val (.ref (A 25))] [(.ref (A 26)), (.ref (A 25))])) _
    refine Jvm.RoadKit.acmp (g := (mkF m 4 #[.val (.ref (A 25))] [(.ref (A 26)), (.ref (A 25))])) X130 hx rfl rfl rfl (pc0 := 4) (pc' := 7) (same := false) rfl (hb hby own_d_prog_40_method_4_code_4) rfl (decide_eq_false fun q => (Fld.ne EN.2.2.2.2.2.2.2.2.2.2.1.2.2.1 EN.2.2.2.2.2.2.2.1.2.1 (fun h => by injection h with h; exact absurd h (by decide))) (Value.ref.inj q)) (by decide) (by decide) ?_
    show Steps p.tables e below (T130.setTop (mkF m 7 #[.val (.ref (A 25))] [])) _
    refine XS.aloadN X130.here hx rfl (hb hby own_d_prog_40_method_4_code_7) rfl rfl ?_
    show Steps p.tables e below (T130.setTop (mkF m 8 #[.val (.ref (A 25))] [(.ref (A 25))])) _
    refine st131 _ ?_
    show Steps p.tables e below (T131.setTop (mkF m 11 #[.val (.ref (A 25))] [(.ref (A 27)), (.ref (A 25))])) _
    refine Jvm.RoadKit.acmp (g := (mkF m 11 #[.val (.ref (A 25))] [(.ref (A 27)), (.ref (A 25))])) X131 hx rfl rfl rfl (pc0 := 11) (pc' := 18) (same := false) rfl (hb hby own_d_prog_40_method_4_code_11) rfl (decide_eq_false fun q => (Fld.ne EN.2.2.2.2.2.2.2.2.2.2.1.2.2.1 EN.2.2.2.2.2.2.2.1.2.2.1 (fun h => by injection h with h; exact absurd h (by decide))) (Value.ref.inj q)) (by decide) (by decide) ?_
    show Steps p.tables e below (T131.setTop (mkF m 18 #[.val (.ref (A 25))] [])) _
    refine XS.iconst X131.here hx rfl (hb hby own_d_prog_40_method_4_code_18) ?_
    show Steps p.tables e below (T131.setTop (mkF m 19 #[.val (.ref (A 25))] [(.int (0 : Int32))])) _
    exact retN X131 hx (t := .boolean) Bd.returns (by simp) (hb hby own_d_prog_40_method_4_code_19) hr
  · show PQ (some (.int (0 : Int32))) h0 n0 _ T131.heap _
    rw [e131]
    exact ⟨rfl, N0, rfl⟩
theorem own_d_method_3_code_228 : decode method_3_code 228 = .ok (.getstatic 99, 3) := by decide +kernel
theorem own_d_method_3_code_231 : decode method_3_code 231 = .ok (.areturn, 1) := by decide +kernel
theorem own_ef_rm53 (m : MethodId) (p1 : Int32) (A : Nat → Addr) (K : Nat → ClassId)  : entryFrame m #[(.int (26 : Int32))] 1 = mkF m 0 #[.val (.int (26 : Int32))] [] := by first | (simp [entryFrame, mkF, argsToLocals, Value.category, maxLocals]; done) | rfl
set_option maxRecDepth 65536 in
set_option maxHeartbeats 40000000 in
theorem rm53 (l : Launch) (Z : State) (a0 : Array Value) (hw : ∀ d ∈ tables_1, d.before a0 Z = true) (ws : List Jvm.Cond) (h0 : Heap) (n0 : Nat) (p1 : Int32) (A : Nat → Addr) (K : Nat → ClassId)  (EN : own_St Z A K) (OL0 : Old Z n0 h0) :
    MetFree l own_m1 (head1 (Jvm.Cond.code own_m1 method_3_code 1 (some (.object "com/example/tallywire/tallywire/wire/FieldType")) :: ws) ({ frames := 0, cells := 0, slots := 0, locals := 0 } : Room)) (fun a U => a = #[(.int (26 : Int32))] ∧ Z.Warmed39 U.vm ∧ U.heap = h0) (fun _ _ _ _ _ => True) (fun _ U o U' => ∃ v L, o = .returned v ∧ (PQ (some (.ref (A 26))) h0 n0) v U'.heap L ∧ FrameEnd U o U' L ({ frames := 0, cells := 0, slots := 0, locals := 0 } : Room).cells ({ frames := 0, cells := 0, slots := 0, locals := 0 } : Room).slots) := by
  refine MetFree.of_bodySF (plainFor_of_name own_pn0) hisR ?_
  intro p e s m args below meth c s₁ Bd hml0 hP hK
  obtain ⟨rfl, hZ, hh⟩ := hP
  have hx := Bd.exec
  have hby := Bd.bytes
  have hml : c.maxLocals = 1 := hml0
  have hown : s.vm.findClass "com/example/tallywire/tallywire/wire/FieldTypeIsDataPinLaw" = some m.cls := findClass_of_methodNamed Bd.named
  have hnm := (name_of_methodNamed Bd.named Bd.method).1
  have X0 : Stand p l e ({ frames := 0, cells := 0, slots := 0, locals := 0 } : Room) s m #[(.int (26 : Int32))] below meth c s₁ [] 0 0 := Stand.of_body Bd
  have e0 : s₁.heap = h0 := by rw [← hh, Bd.state]; rfl
  have N0 := Fr.nil n0
  have pre0 : ∀ t, Steps p.tables e below (s₁.setTop (mkF m 0 #[.val (.int (26 : Int32))] [])) t → Steps p.tables e below (s₁.setTop (entryFrame m #[(.int (26 : Int32))] 1)) t := fun t k => castTop (own_ef_rm53 m p1 A K ) k
  have KK0 : Keep h0 h0 [] := Keep.refl _ _
  obtain ⟨T133, X133, e133, st133⟩ := getS2 X0 hx hZ hown (host := "") (Or.inl (hw _ (List.mem_of_getElem? (i := 19) rfl))) Via.refl e0 (EN.2.2.2.2.2.2.1.2.2.2.2.1.ext OL0.2) (g := (mkF m 228 #[.val (.int (26 : Int32))] [])) rfl (hb hby own_d_method_3_code_228)
  obtain ⟨fs, hr, hrun, hended, hW, hsame⟩ := X133.leave (v := some (.ref (A 26))) (fun h => by rw [Bd.returns] at h; cases h)
  refine ⟨_, _, pre0 _ ?_, hrun, hended, _, _, rfl, ?_, ⟨_, rfl⟩, hW, hsame.mono (by decide) (by decide)⟩
  · show Steps p.tables e below (s₁.setTop (mkF m 0 #[.val (.int (26 : Int32))] [])) _
    refine XS.iloadN X0.here hx rfl (hb hby own_d_method_3_code_0) rfl ?_
    show Steps p.tables e below (s₁.setTop (mkF m 1 #[.val (.int (26 : Int32))] [(.int (26 : Int32))])) _
    refine XS.tswIn X0.here hx rfl (pc0 := 1) (pc' := 228) rfl (hb hby own_d_method_3_code_1) rfl (by decide) (o := 227) (by decide) (by decide) (by decide) ?_
    show Steps p.tables e below (s₁.setTop (mkF m 228 #[.val (.int (26 : Int32))] [])) _
    refine st133 _ ?_
    show Steps p.tables e below (T133.setTop (mkF m 231 #[.val (.int (26 : Int32))] [(.ref (A 26))])) _
    exact retOut X133 hx Bd.returns rfl (Or.inr (Or.inr (Or.inr (Or.inr ⟨rfl, rfl, rfl⟩)))) (hb hby own_d_method_3_code_231) hr
  · show PQ (some (.ref (A 26))) h0 n0 _ T133.heap _
    rw [e133]
    exact ⟨rfl, N0, rfl⟩
theorem own_d_prog_40_method_4_code_14 : decode prog_40_method_4_code 14 = .ok (.iconst 1, 1) := by decide +kernel
theorem own_d_prog_40_method_4_code_15 : decode prog_40_method_4_code 15 = .ok (.goto 4, 3) := by decide +kernel
theorem own_ef_rm54 (m : MethodId) (p1 : Int32) (A : Nat → Addr) (K : Nat → ClassId)  : entryFrame m #[(.ref (A 26))] 1 = mkF m 0 #[.val (.ref (A 26))] [] := by first | (simp [entryFrame, mkF, argsToLocals, Value.category, maxLocals]; done) | rfl
set_option maxRecDepth 65536 in
set_option maxHeartbeats 40000000 in
theorem rm54 (l : Launch) (Z : State) (a0 : Array Value) (hw : ∀ d ∈ tables_1, d.before a0 Z = true) (ws : List Jvm.Cond) (h0 : Heap) (n0 : Nat) (p1 : Int32) (A : Nat → Addr) (K : Nat → ClassId)  (EN : own_St Z A K) (OL0 : Old Z n0 h0) :
    MetFree l own_m0 (head1 (Jvm.Cond.code own_m0 prog_40_method_4_code 1 (some .boolean) :: ws) ({ frames := 0, cells := 0, slots := 0, locals := 0 } : Room)) (fun a U => a = #[(.ref (A 26))] ∧ Z.Warmed39 U.vm ∧ U.heap = h0) (fun _ _ _ _ _ => True) (fun _ U o U' => ∃ v L, o = .returned v ∧ (PQ (some (.int (1 : Int32))) h0 n0) v U'.heap L ∧ FrameEnd U o U' L ({ frames := 0, cells := 0, slots := 0, locals := 0 } : Room).cells ({ frames := 0, cells := 0, slots := 0, locals := 0 } : Room).slots) := by
  refine MetFree.of_bodySF (plainFor_of_name own_pn1) hisR ?_
  intro p e s m args below meth c s₁ Bd hml0 hP hK
  obtain ⟨rfl, hZ, hh⟩ := hP
  have hx := Bd.exec
  have hby := Bd.bytes
  have hml : c.maxLocals = 1 := hml0
  have hown : s.vm.findClass "com/example/tallywire/tallywire/wire/FieldType" = some m.cls := findClass_of_methodNamed Bd.named
  have hnm := (name_of_methodNamed Bd.named Bd.method).1
  have X0 : Stand p l e ({ frames := 0, cells := 0, slots := 0, locals := 0 } : Room) s m #[(.ref (A 26))] below meth c s₁ [] 0 0 := Stand.of_body Bd
  have e0 : s₁.heap = h0 := by rw [← hh, Bd.state]; rfl
  have N0 := Fr.nil n0
  have pre0 : ∀ t, Steps p.tables e below (s₁.setTop (mkF m 0 #[.val (.ref (A 26))] [])) t → Steps p.tables e below (s₁.setTop (entryFrame m #[(.ref (A 26))] 1)) t := fun t k => castTop (own_ef_rm54 m p1 A K ) k
  have KK0 : Keep h0 h0 [] := Keep.refl _ _
  obtain ⟨T135, X135, e135, st135⟩ := getS2 X0 hx hZ hown (host := "") (Or.inl (hw _ (List.mem_of_getElem? (i := 13) rfl))) Via.refl e0 (EN.2.2.2.2.2.2.1.2.2.2.2.1.ext OL0.2) (g := (mkF m 1 #[.val (.ref (A 26))] [(.ref (A 26))])) rfl (hb hby own_d_prog_40_method_4_code_1)
  obtain ⟨fs, hr, hrun, hended, hW, hsame⟩ := X135.leave (v := some (.int (1 : Int32))) (fun h => by rw [Bd.returns] at h; cases h)
  refine ⟨_, _, pre0 _ ?_, hrun, hended, _, _, rfl, ?_, ⟨_, rfl⟩, hW, hsame.mono (by decide) (by decide)⟩
  · show Steps p.tables e below (s₁.setTop (mkF m 0 #[.val (.ref (A 26))] [])) _
    refine XS.aloadN X0.here hx rfl (hb hby own_d_prog_40_method_4_code_0) rfl rfl ?_
    show Steps p.tables e below (s₁.setTop (mkF m 1 #[.val (.ref (A 26))] [(.ref (A 26))])) _
    refine st135 _ ?_
    show Steps p.tables e below (T135.setTop (mkF m 4 #[.val (.ref (A 26))] [(.ref (A 26)), (.ref (A 26))])) _
    refine Jvm.RoadKit.acmp (g := (mkF m 4 #[.val (.ref (A 26))] [(.ref (A 26)), (.ref (A 26))])) X135 hx rfl rfl rfl (pc0 := 4) (pc' := 14) (same := true) rfl (hb hby own_d_prog_40_method_4_code_4) rfl (decide_eq_true rfl) (by decide) (by decide) ?_
    show Steps p.tables e below (T135.setTop (mkF m 14 #[.val (.ref (A 26))] [])) _
    refine XS.iconst X135.here hx rfl (hb hby own_d_prog_40_method_4_code_14) ?_
    show Steps p.tables e below (T135.setTop (mkF m 15 #[.val (.ref (A 26))] [(.int (1 : Int32))])) _
    refine XS.goto X135.here hx rfl (pc0 := 15) (pc' := 19) rfl (hb hby own_d_prog_40_method_4_code_15) (by decide) (by decide) ?_
    show Steps p.tables e below (T135.setTop (mkF m 19 #[.val (.ref (A 26))] [(.int (1 : Int32))])) _
    exact retN X135 hx (t := .boolean) Bd.returns (by simp) (hb hby own_d_prog_40_method_4_code_19) hr
  · show PQ (some (.int (1 : Int32))) h0 n0 _ T135.heap _
    rw [e135]
    exact ⟨rfl, N0, rfl⟩
theorem own_d_method_3_code_232 : decode method_3_code 232 = .ok (.getstatic 102, 3) := by decide +kernel
theorem own_d_method_3_code_235 : decode method_3_code 235 = .ok (.areturn, 1) := by decide +kernel
theorem own_ef_rm55 (m : MethodId) (p1 : Int32) (A : Nat → Addr) (K : Nat → ClassId)  : entryFrame m #[(.int (27 : Int32))] 1 = mkF m 0 #[.val (.int (27 : Int32))] [] := by first | (simp [entryFrame, mkF, argsToLocals, Value.category, maxLocals]; done) | rfl
set_option maxRecDepth 65536 in
set_option maxHeartbeats 40000000 in
theorem rm55 (l : Launch) (Z : State) (a0 : Array Value) (hw : ∀ d ∈ tables_1, d.before a0 Z = true) (ws : List Jvm.Cond) (h0 : Heap) (n0 : Nat) (p1 : Int32) (A : Nat → Addr) (K : Nat → ClassId)  (EN : own_St Z A K) (OL0 : Old Z n0 h0) :
    MetFree l own_m1 (head1 (Jvm.Cond.code own_m1 method_3_code 1 (some (.object "com/example/tallywire/tallywire/wire/FieldType")) :: ws) ({ frames := 0, cells := 0, slots := 0, locals := 0 } : Room)) (fun a U => a = #[(.int (27 : Int32))] ∧ Z.Warmed39 U.vm ∧ U.heap = h0) (fun _ _ _ _ _ => True) (fun _ U o U' => ∃ v L, o = .returned v ∧ (PQ (some (.ref (A 27))) h0 n0) v U'.heap L ∧ FrameEnd U o U' L ({ frames := 0, cells := 0, slots := 0, locals := 0 } : Room).cells ({ frames := 0, cells := 0, slots := 0, locals := 0 } : Room).slots) := by
  refine MetFree.of_bodySF (plainFor_of_name own_pn0) hisR ?_
  intro p e s m args below meth c s₁ Bd hml0 hP hK
  obtain ⟨rfl, hZ, hh⟩ := hP
  have hx := Bd.exec
  have hby := Bd.bytes
  have hml : c.maxLocals = 1 := hml0
  have hown : s.vm.findClass "com/example/tallywire/tallywire/wire/FieldTypeIsDataPinLaw" = some m.cls := findClass_of_methodNamed Bd.named
  have hnm := (name_of_methodNamed Bd.named Bd.method).1
  have X0 : Stand p l e ({ frames := 0, cells := 0, slots := 0, locals := 0 } : Room) s m #[(.int (27 : Int32))] below meth c s₁ [] 0 0 := Stand.of_body Bd
  have e0 : s₁.heap = h0 := by rw [← hh, Bd.state]; rfl
  have N0 := Fr.nil n0
  have pre0 : ∀ t, Steps p.tables e below (s₁.setTop (mkF m 0 #[.val (.int (27 : Int32))] [])) t → Steps p.tables e below (s₁.setTop (entryFrame m #[(.int (27 : Int32))] 1)) t := fun t k => castTop (own_ef_rm55 m p1 A K ) k
  have KK0 : Keep h0 h0 [] := Keep.refl _ _
  obtain ⟨T137, X137, e137, st137⟩ := getS2 X0 hx hZ hown (host := "") (Or.inl (hw _ (List.mem_of_getElem? (i := 20) rfl))) Via.refl e0 (EN.2.2.2.2.2.2.1.2.2.2.2.2.2.1.ext OL0.2) (g := (mkF m 232 #[.val (.int (27 : Int32))] [])) rfl (hb hby own_d_method_3_code_232)
  obtain ⟨fs, hr, hrun, hended, hW, hsame⟩ := X137.leave (v := some (.ref (A 27))) (fun h => by rw [Bd.returns] at h; cases h)
  refine ⟨_, _, pre0 _ ?_, hrun, hended, _, _, rfl, ?_, ⟨_, rfl⟩, hW, hsame.mono (by decide) (by decide)⟩
  · show Steps p.tables e below (s₁.setTop (mkF m 0 #[.val (.int (27 : Int32))] [])) _
    refine XS.iloadN X0.here hx rfl (hb hby own_d_method_3_code_0) rfl ?_
    show Steps p.tables e below (s₁.setTop (mkF m 1 #[.val (.int (27 : Int32))] [(.int (27 : Int32))])) _
    refine XS.tswOut X0.here hx rfl (pc0 := 1) (pc' := 232) rfl (hb hby own_d_method_3_code_1) rfl (by decide) (by decide) (by decide) ?_
    show Steps p.tables e below (s₁.setTop (mkF m 232 #[.val (.int (27 : Int32))] [])) _
    refine st137 _ ?_
    show Steps p.tables e below (T137.setTop (mkF m 235 #[.val (.int (27 : Int32))] [(.ref (A 27))])) _
    exact retOut X137 hx Bd.returns rfl (Or.inr (Or.inr (Or.inr (Or.inr ⟨rfl, rfl, rfl⟩)))) (hb hby own_d_method_3_code_235) hr
  · show PQ (some (.ref (A 27))) h0 n0 _ T137.heap _
    rw [e137]
    exact ⟨rfl, N0, rfl⟩
theorem own_ef_rm56 (m : MethodId) (p1 : Int32) (A : Nat → Addr) (K : Nat → ClassId)  : entryFrame m #[(.ref (A 27))] 1 = mkF m 0 #[.val (.ref (A 27))] [] := by first | (simp [entryFrame, mkF, argsToLocals, Value.category, maxLocals]; done) | rfl
set_option maxRecDepth 65536 in
set_option maxHeartbeats 40000000 in
theorem rm56 (l : Launch) (Z : State) (a0 : Array Value) (hw : ∀ d ∈ tables_1, d.before a0 Z = true) (ws : List Jvm.Cond) (h0 : Heap) (n0 : Nat) (p1 : Int32) (A : Nat → Addr) (K : Nat → ClassId)  (EN : own_St Z A K) (OL0 : Old Z n0 h0) :
    MetFree l own_m0 (head1 (Jvm.Cond.code own_m0 prog_40_method_4_code 1 (some .boolean) :: ws) ({ frames := 0, cells := 0, slots := 0, locals := 0 } : Room)) (fun a U => a = #[(.ref (A 27))] ∧ Z.Warmed39 U.vm ∧ U.heap = h0) (fun _ _ _ _ _ => True) (fun _ U o U' => ∃ v L, o = .returned v ∧ (PQ (some (.int (1 : Int32))) h0 n0) v U'.heap L ∧ FrameEnd U o U' L ({ frames := 0, cells := 0, slots := 0, locals := 0 } : Room).cells ({ frames := 0, cells := 0, slots := 0, locals := 0 } : Room).slots) := by
  refine MetFree.of_bodySF (plainFor_of_name own_pn1) hisR ?_
  intro p e s m args below meth c s₁ Bd hml0 hP hK
  obtain ⟨rfl, hZ, hh⟩ := hP
  have hx := Bd.exec
  have hby := Bd.bytes
  have hml : c.maxLocals = 1 := hml0
  have hown : s.vm.findClass "com/example/tallywire/tallywire/wire/FieldType" = some m.cls := findClass_of_methodNamed Bd.named
  have hnm := (name_of_methodNamed Bd.named Bd.method).1
  have X0 : Stand p l e ({ frames := 0, cells := 0, slots := 0, locals := 0 } : Room) s m #[(.ref (A 27))] below meth c s₁ [] 0 0 := Stand.of_body Bd
  have e0 : s₁.heap = h0 := by rw [← hh, Bd.state]; rfl
  have N0 := Fr.nil n0
  have pre0 : ∀ t, Steps p.tables e below (s₁.setTop (mkF m 0 #[.val (.ref (A 27))] [])) t → Steps p.tables e below (s₁.setTop (entryFrame m #[(.ref (A 27))] 1)) t := fun t k => castTop (own_ef_rm56 m p1 A K ) k
  have KK0 : Keep h0 h0 [] := Keep.refl _ _
  obtain ⟨T139, X139, e139, st139⟩ := getS2 X0 hx hZ hown (host := "") (Or.inl (hw _ (List.mem_of_getElem? (i := 13) rfl))) Via.refl e0 (EN.2.2.2.2.2.2.1.2.2.2.2.1.ext OL0.2) (g := (mkF m 1 #[.val (.ref (A 27))] [(.ref (A 27))])) rfl (hb hby own_d_prog_40_method_4_code_1)
  obtain ⟨T140, X140, e140, st140⟩ := getS2 X139 hx hZ hown (host := "") (Or.inl (hw _ (List.mem_of_getElem? (i := 15) rfl))) Via.refl e139 (EN.2.2.2.2.2.2.1.2.2.2.2.2.2.1.ext OL0.2) (g := (mkF m 8 #[.val (.ref (A 27))] [(.ref (A 27))])) rfl (hb hby own_d_prog_40_method_4_code_8)
  obtain ⟨fs, hr, hrun, hended, hW, hsame⟩ := X140.leave (v := some (.int (1 : Int32))) (fun h => by rw [Bd.returns] at h; cases h)
  refine ⟨_, _, pre0 _ ?_, hrun, hended, _, _, rfl, ?_, ⟨_, rfl⟩, hW, hsame.mono (by decide) (by decide)⟩
  · show Steps p.tables e below (s₁.setTop (mkF m 0 #[.val (.ref (A 27))] [])) _
    refine XS.aloadN X0.here hx rfl (hb hby own_d_prog_40_method_4_code_0) rfl rfl ?_
    show Steps p.tables e below (s₁.setTop (mkF m 1 #[.val (.ref (A 27))] [(.ref (A 27))])) _
    refine st139 _ ?_
    show Steps p.tables e below (T139.setTop (mkF m 4 #[.val (.ref (A 27))] [(.ref (A 26)), (.ref (A 27))])) _
    refine Jvm.RoadKit.acmp (g := (mkF m 4 #[.val (.ref (A 27))] [(.ref (A 26)), (.ref (A 27))])) X139 hx rfl rfl rfl (pc0 := 4) (pc' := 7) (same := false) rfl (hb hby own_d_prog_40_method_4_code_4) rfl (decide_eq_false fun q => (Fld.ne EN.2.2.2.2.2.2.2.1.2.2.1 EN.2.2.2.2.2.2.2.1.2.1 (fun h => by injection h with h; exact absurd h (by decide))) (Value.ref.inj q)) (by decide) (by decide) ?_
    show Steps p.tables e below (T139.setTop (mkF m 7 #[.val (.ref (A 27))] [])) _
    refine XS.aloadN X139.here hx rfl (hb hby own_d_prog_40_method_4_code_7) rfl rfl ?_
    show Steps p.tables e below (T139.setTop (mkF m 8 #[.val (.ref (A 27))] [(.ref (A 27))])) _
    refine st140 _ ?_
    show Steps p.tables e below (T140.setTop (mkF m 11 #[.val (.ref (A 27))] [(.ref (A 27)), (.ref (A 27))])) _
    refine Jvm.RoadKit.acmp (g := (mkF m 11 #[.val (.ref (A 27))] [(.ref (A 27)), (.ref (A 27))])) X140 hx rfl rfl rfl (pc0 := 11) (pc' := 14) (same := true) rfl (hb hby own_d_prog_40_method_4_code_11) rfl (decide_eq_true rfl) (by decide) (by decide) ?_
    show Steps p.tables e below (T140.setTop (mkF m 14 #[.val (.ref (A 27))] [])) _
    refine XS.iconst X140.here hx rfl (hb hby own_d_prog_40_method_4_code_14) ?_
    show Steps p.tables e below (T140.setTop (mkF m 15 #[.val (.ref (A 27))] [(.int (1 : Int32))])) _
    refine XS.goto X140.here hx rfl (pc0 := 15) (pc' := 19) rfl (hb hby own_d_prog_40_method_4_code_15) (by decide) (by decide) ?_
    show Steps p.tables e below (T140.setTop (mkF m 19 #[.val (.ref (A 27))] [(.int (1 : Int32))])) _
    exact retN X140 hx (t := .boolean) Bd.returns (by simp) (hb hby own_d_prog_40_method_4_code_19) hr
  · show PQ (some (.int (1 : Int32))) h0 n0 _ T140.heap _
    rw [e140]
    exact ⟨rfl, N0, rfl⟩
theorem own_ef_rm0 (m : MethodId) (p1 : Int32) (A : Nat → Addr) (K : Nat → ClassId) : entryFrame m #[(.int p1)] maxLocals = mkF m 0 #[.val (.int p1), .unset, .unset, .unset] [] := by first | (simp [entryFrame, mkF, argsToLocals, Value.category, maxLocals]; done) | rfl
set_option maxRecDepth 65536 in
set_option maxHeartbeats 40000000 in
theorem rm0 (l : Launch) (Z : State) (a0 : Array Value) (hw : ∀ d ∈ tables_1, d.before a0 Z = true) (ws : List Jvm.Cond) (h0 : Heap) (n0 : Nat) (p1 : Int32) (A : Nat → Addr) (K : Nat → ClassId) (EN : own_St Z A K) (OL0 : Old Z n0 h0) :
    MetFree l x (head1 (Jvm.Cond.code x code maxLocals ret :: ws) room_1) (fun a U => a = #[(.int p1)] ∧ Z.Warmed39 U.vm ∧ U.heap = h0) (fun _ _ _ _ _ => True) (fun _ U o U' => ∃ v L, o = .returned v ∧ (LQ n0) v U'.heap L ∧ FrameEnd U o U' L room_1.cells room_1.slots) := by
  refine MetFree.of_bodySF (plainFor_of_name own_pn0) hisR ?_
  intro p e s m args below meth c s₁ Bd hml0 hP hK
  obtain ⟨rfl, hZ, hh⟩ := hP
  have hx := Bd.exec
  have hby := Bd.bytes
  have hml : c.maxLocals = 4 := hml0
  have hown : s.vm.findClass "com/example/tallywire/tallywire/wire/FieldTypeIsDataPinLaw" = some m.cls := findClass_of_methodNamed Bd.named
  have hnm := (name_of_methodNamed Bd.named Bd.method).1
  have X0 : Stand p l e room_1 s m #[(.int p1)] below meth c s₁ [] 0 0 := Stand.of_body Bd
  have e0 : s₁.heap = h0 := by rw [← hh, Bd.state]; rfl
  have N0 := Fr.nil n0
  have pre0 : ∀ t, Steps p.tables e below (s₁.setTop (mkF m 0 #[.val (.int p1), .unset, .unset, .unset] [])) t → Steps p.tables e below (s₁.setTop (entryFrame m #[(.int p1)] maxLocals)) t := fun t k => castTop (own_ef_rm0 m p1 A K) k
  have KK0 : Keep h0 h0 [] := Keep.refl _ _
  have pre1 : ∀ t, Steps p.tables e below (s₁.setTop (mkF m 7 #[.val (.int p1), .unset, .unset, .unset] [(.int ((p1 &&& (2147483647 : Int32)) % (28 : Int32)))])) t → Steps p.tables e below (s₁.setTop (entryFrame m #[(.int p1)] maxLocals)) t := fun t k => pre0 t (by
    show Steps p.tables e below (s₁.setTop (mkF m 0 #[.val (.int p1), .unset, .unset, .unset] [])) _
    refine XS.iloadN X0.here hx rfl (hb hby at_0) rfl ?_
    show Steps p.tables e below (s₁.setTop (mkF m 1 #[.val (.int p1), .unset, .unset, .unset] [(.int p1)])) _
    refine X0.ldcInt hx hown (mvT hZ (hw _ (List.mem_of_getElem? (i := 0) rfl))) (g := (mkF m 1 #[.val (.int p1), .unset, .unset, .unset] [(.int p1)])) rfl (hb hby at_1) _ ?_
    show Steps p.tables e below (s₁.setTop (mkF m 3 #[.val (.int p1), .unset, .unset, .unset] [(.int (2147483647 : Int32)), (.int p1)])) _
    refine XS.iand X0.here hx rfl (hb hby at_3) rfl ?_
    show Steps p.tables e below (s₁.setTop (mkF m 4 #[.val (.int p1), .unset, .unset, .unset] [(.int (p1 &&& (2147483647 : Int32)))])) _
    refine XS.bipush X0.here hx rfl (hb hby at_4) ?_
    show Steps p.tables e below (s₁.setTop (mkF m 6 #[.val (.int p1), .unset, .unset, .unset] [(.int (28 : Int32)), (.int (p1 &&& (2147483647 : Int32)))])) _
    refine iremM X0 hx rfl (hb hby at_6) rfl (by decide) ?_
    exact k)
  obtain ⟨nn2, hn2, hk2⟩ := own_k p1
  match nn2, hn2, hk2 with
  | 0, _, hk2 =>
    obtain ⟨_, _, ⟨T4, L4, k4, n4⟩, -, X4, ⟨Lc4, hQ4, l4, y4, z4⟩, st4⟩ := Jvm.LawKit.callS X0 hx (y := own_m1) hown (mvT hZ (hw _ (List.mem_of_getElem? (i := 1) rfl))) (mvT hZ (hw _ (List.mem_of_getElem? (i := 2) rfl))) (mvT hZ (hw _ (List.mem_of_getElem? (i := 3) rfl))) (mvT hZ (hw _ (List.mem_of_getElem? (i := 4) rfl))) (by decide) (backOf (W := 0) (rm1 l Z a0 hw [] h0 n0 p1 A K EN OL0) hZ (hw _ (List.mem_of_getElem? (i := 4) rfl)) (hw _ (List.mem_of_getElem? (i := 3) rfl)) (by decide) (by decide)) (g := (mkF m 9 #[.val (.int p1), .val (.int (0 : Int32)), .unset, .unset] [(.int (0 : Int32))])) rfl (by rw [hml]; rfl) (argsL := [(.int (0 : Int32))]) (rest := []) (lenOf own_pd0 rfl) rfl (by show 2 * 0 + _ ≤ _; exact Nat.le_of_eq rfl) (hb hby at_9) (fun _ _ => ⟨rfl, e0, (by decide : 0 + 0 ≤ _), (by decide : 0 + 0 ≤ _)⟩)
    dsimp only [Pt.U, Pt.locs, Pt.cells, Pt.slots] at X4 l4 y4 z4 st4 hQ4
    subst l4 y4 z4
    obtain ⟨rfl, N4q, e4⟩ := hQ4
    have N4 := Fr.app N0 N4q
    obtain ⟨cq7, kq7, q7a, q7b, q7c⟩ := isOf hZ e4 (EN.1.2.1.ext OL0.2)
    obtain ⟨_, _, ⟨T7, L7, k7, n7⟩, -, X7, ⟨Lc7, hQ7, l7, y7, z7⟩, st7⟩ := X4.virtualBack hx (y := own_m0) (z := own_m0) hown (mvT hZ (hw _ (List.mem_of_getElem? (i := 8) rfl))) (mvT hZ (hw _ (List.mem_of_getElem? (i := 9) rfl))) (notFace_of_selects (args := #[]) (mvT hZ (hw _ (List.mem_of_getElem? (i := 11) rfl)))) (mvT hZ (hw _ (List.mem_of_getElem? (i := 11) rfl))) (mvT hZ (hw _ (List.mem_of_getElem? (i := 10) rfl))) (by decide) (backOf (W := 0) (rm2 l Z a0 hw [] h0 n0 p1 A K EN OL0) hZ (hw _ (List.mem_of_getElem? (i := 12) rfl)) (hw _ (List.mem_of_getElem? (i := 6) rfl)) (by decide) (by decide)) q7a q7c (g := (mkF m 26 #[.val (.int p1), .val (.int (0 : Int32)), .val (.ref (A 0)), .val (.int (0 : Int32))] [(.ref (A 0))])) rfl (by rw [hml]; rfl) (Steps.refl _) (argsL := []) (rest := []) (lenOf own_pd1 rfl) rfl (by show 2 * 0 + _ ≤ _; exact Nat.le_of_eq rfl) (hb hby at_26) (fun _ _ => ⟨rfl, e4, (by decide : 0 + 0 ≤ _), (by decide : 0 + 0 ≤ _)⟩)
    dsimp only [Pt.U, Pt.locs, Pt.cells, Pt.slots] at X7 l7 y7 z7 st7 hQ7
    subst l7 y7 z7
    obtain ⟨rfl, N7q, e7⟩ := hQ7
    have N7 := Fr.app N4 N7q
    obtain ⟨fs, hr, hrun, hended, hW, hsame⟩ := X7.leave (v := some (.int (1 : Int32))) (fun h => by rw [Bd.returns] at h; cases h)
    refine ⟨_, _, pre1 _ ?_, hrun, hended, _, _, rfl, ?_, ⟨_, rfl⟩, hW, hsame.mono (by decide) (by decide)⟩
    · show Steps p.tables e below (s₁.setTop (mkF m 7 #[.val (.int p1), .unset, .unset, .unset] [(.int ((p1 &&& (2147483647 : Int32)) % (28 : Int32)))])) _
      rw [hk2]
      show Steps p.tables e below (s₁.setTop (mkF m 7 #[.val (.int p1), .unset, .unset, .unset] [(.int (0 : Int32))])) _
      refine XS.istoreN X0.here hx rfl (hb hby at_7) rfl (l' := #[.val (.int p1), .val (.int (0 : Int32)), .unset, .unset]) rfl ?_
      show Steps p.tables e below (s₁.setTop (mkF m 8 #[.val (.int p1), .val (.int (0 : Int32)), .unset, .unset] [])) _
      refine XS.iloadN X0.here hx rfl (hb hby at_8) rfl ?_
      show Steps p.tables e below (s₁.setTop (mkF m 9 #[.val (.int p1), .val (.int (0 : Int32)), .unset, .unset] [(.int (0 : Int32))])) _
      refine st4 _ ?_
      show Steps p.tables e below (T4.setTop (mkF m 12 #[.val (.int p1), .val (.int (0 : Int32)), .unset, .unset] [(.ref (A 0))])) _
      refine XS.astoreN X4.here hx rfl (hb hby at_12) rfl rfl (l' := #[.val (.int p1), .val (.int (0 : Int32)), .val (.ref (A 0)), .unset]) rfl ?_
      show Steps p.tables e below (T4.setTop (mkF m 13 #[.val (.int p1), .val (.int (0 : Int32)), .val (.ref (A 0)), .unset] [])) _
      refine XS.iloadN X4.here hx rfl (hb hby at_13) rfl ?_
      show Steps p.tables e below (T4.setTop (mkF m 14 #[.val (.int p1), .val (.int (0 : Int32)), .val (.ref (A 0)), .unset] [(.int (0 : Int32))])) _
      refine XS.bipush X4.here hx rfl (hb hby at_14) ?_
      show Steps p.tables e below (T4.setTop (mkF m 16 #[.val (.int p1), .val (.int (0 : Int32)), .val (.ref (A 0)), .unset] [(.int (26 : Int32)), (.int (0 : Int32))])) _
      refine XS.icmpYes X4.here hx rfl (pc0 := 16) (pc' := 23) rfl (hb hby at_16) rfl (tlt (by decide : (0 : Int32) < (26 : Int32))).1 (by decide) (by decide) ?_
      show Steps p.tables e below (T4.setTop (mkF m 23 #[.val (.int p1), .val (.int (0 : Int32)), .val (.ref (A 0)), .unset] [])) _
      refine XS.iconst X4.here hx rfl (hb hby at_23) ?_
      show Steps p.tables e below (T4.setTop (mkF m 24 #[.val (.int p1), .val (.int (0 : Int32)), .val (.ref (A 0)), .unset] [(.int (0 : Int32))])) _
      refine XS.istoreN X4.here hx rfl (hb hby at_24) rfl (l' := #[.val (.int p1), .val (.int (0 : Int32)), .val (.ref (A 0)), .val (.int (0 : Int32))]) rfl ?_
      show Steps p.tables e below (T4.setTop (mkF m 25 #[.val (.int p1), .val (.int (0 : Int32)), .val (.ref (A 0)), .val (.int (0 : Int32))] [])) _
      refine XS.aloadN X4.here hx rfl (hb hby at_25) rfl rfl ?_
      show Steps p.tables e below (T4.setTop (mkF m 26 #[.val (.int p1), .val (.int (0 : Int32)), .val (.ref (A 0)), .val (.int (0 : Int32))] [(.ref (A 0))])) _
      refine st7.trans ?_
      show Steps p.tables e below (T7.setTop (mkF m 29 #[.val (.int p1), .val (.int (0 : Int32)), .val (.ref (A 0)), .val (.int (0 : Int32))] [(.int (0 : Int32))])) _
      refine XS.iloadN X7.here hx rfl (hb hby at_29) rfl ?_
      show Steps p.tables e below (T7.setTop (mkF m 30 #[.val (.int p1), .val (.int (0 : Int32)), .val (.ref (A 0)), .val (.int (0 : Int32))] [(.int (0 : Int32)), (.int (0 : Int32))])) _
      refine XS.icmpNo X7.here hx rfl (hb hby at_30) rfl (teq (by decide : (0 : Int32) = (0 : Int32))).2 ?_
      show Steps p.tables e below (T7.setTop (mkF m 33 #[.val (.int p1), .val (.int (0 : Int32)), .val (.ref (A 0)), .val (.int (0 : Int32))] [])) _
      refine XS.iconst X7.here hx rfl (hb hby at_33) ?_
      show Steps p.tables e below (T7.setTop (mkF m 34 #[.val (.int p1), .val (.int (0 : Int32)), .val (.ref (A 0)), .val (.int (0 : Int32))] [(.int (1 : Int32))])) _
      refine XS.goto X7.here hx rfl (pc0 := 34) (pc' := 38) rfl (hb hby at_34) (by decide) (by decide) ?_
      show Steps p.tables e below (T7.setTop (mkF m 38 #[.val (.int p1), .val (.int (0 : Int32)), .val (.ref (A 0)), .val (.int (0 : Int32))] [(.int (1 : Int32))])) _
      exact retN X7 hx (t := .boolean) Bd.returns (by simp) (hb hby at_38) hr
    · show LQ n0 _ T7.heap _
      exact ⟨rfl, N7, trivial⟩
  | 1, _, hk2 =>
    obtain ⟨_, _, ⟨T9, L9, k9, n9⟩, -, X9, ⟨Lc9, hQ9, l9, y9, z9⟩, st9⟩ := Jvm.LawKit.callS X0 hx (y := own_m1) hown (mvT hZ (hw _ (List.mem_of_getElem? (i := 1) rfl))) (mvT hZ (hw _ (List.mem_of_getElem? (i := 2) rfl))) (mvT hZ (hw _ (List.mem_of_getElem? (i := 3) rfl))) (mvT hZ (hw _ (List.mem_of_getElem? (i := 4) rfl))) (by decide) (backOf (W := 0) (rm3 l Z a0 hw [] h0 n0 p1 A K EN OL0) hZ (hw _ (List.mem_of_getElem? (i := 4) rfl)) (hw _ (List.mem_of_getElem? (i := 3) rfl)) (by decide) (by decide)) (g := (mkF m 9 #[.val (.int p1), .val (.int (1 : Int32)), .unset, .unset] [(.int (1 : Int32))])) rfl (by rw [hml]; rfl) (argsL := [(.int (1 : Int32))]) (rest := []) (lenOf own_pd0 rfl) rfl (by show 2 * 0 + _ ≤ _; exact Nat.le_of_eq rfl) (hb hby at_9) (fun _ _ => ⟨rfl, e0, (by decide : 0 + 0 ≤ _), (by decide : 0 + 0 ≤ _)⟩)
    dsimp only [Pt.U, Pt.locs, Pt.cells, Pt.slots] at X9 l9 y9 z9 st9 hQ9
    subst l9 y9 z9
    obtain ⟨rfl, N9q, e9⟩ := hQ9
    have N9 := Fr.app N0 N9q
    obtain ⟨cq12, kq12, q12a, q12b, q12c⟩ := isOf hZ e9 (EN.1.2.2.2.1.ext OL0.2)
    obtain ⟨_, _, ⟨T12, L12, k12, n12⟩, -, X12, ⟨Lc12, hQ12, l12, y12, z12⟩, st12⟩ := X9.virtualBack hx (y := own_m0) (z := own_m0) hown (mvT hZ (hw _ (List.mem_of_getElem? (i := 8) rfl))) (mvT hZ (hw _ (List.mem_of_getElem? (i := 9) rfl))) (notFace_of_selects (args := #[]) (mvT hZ (hw _ (List.mem_of_getElem? (i := 11) rfl)))) (mvT hZ (hw _ (List.mem_of_getElem? (i := 11) rfl))) (mvT hZ (hw _ (List.mem_of_getElem? (i := 10) rfl))) (by decide) (backOf (W := 0) (rm4 l Z a0 hw [] h0 n0 p1 A K EN OL0) hZ (hw _ (List.mem_of_getElem? (i := 12) rfl)) (hw _ (List.mem_of_getElem? (i := 6) rfl)) (by decide) (by decide)) q12a q12c (g := (mkF m 26 #[.val (.int p1), .val (.int (1 : Int32)), .val (.ref (A 1)), .val (.int (0 : Int32))] [(.ref (A 1))])) rfl (by rw [hml]; rfl) (Steps.refl _) (argsL := []) (rest := []) (lenOf own_pd1 rfl) rfl (by show 2 * 0 + _ ≤ _; exact Nat.le_of_eq rfl) (hb hby at_26) (fun _ _ => ⟨rfl, e9, (by decide : 0 + 0 ≤ _), (by decide : 0 + 0 ≤ _)⟩)
    dsimp only [Pt.U, Pt.locs, Pt.cells, Pt.slots] at X12 l12 y12 z12 st12 hQ12
    subst l12 y12 z12
    obtain ⟨rfl, N12q, e12⟩ := hQ12
    have N12 := Fr.app N9 N12q
    obtain ⟨fs, hr, hrun, hended, hW, hsame⟩ := X12.leave (v := some (.int (1 : Int32))) (fun h => by rw [Bd.returns] at h; cases h)
    refine ⟨_, _, pre1 _ ?_, hrun, hended, _, _, rfl, ?_, ⟨_, rfl⟩, hW, hsame.mono (by decide) (by decide)⟩
    · show Steps p.tables e below (s₁.setTop (mkF m 7 #[.val (.int p1), .unset, .unset, .unset] [(.int ((p1 &&& (2147483647 : Int32)) % (28 : Int32)))])) _
      rw [hk2]
      show Steps p.tables e below (s₁.setTop (mkF m 7 #[.val (.int p1), .unset, .unset, .unset] [(.int (1 : Int32))])) _
      refine XS.istoreN X0.here hx rfl (hb hby at_7) rfl (l' := #[.val (.int p1), .val (.int (1 : Int32)), .unset, .unset]) rfl ?_
      show Steps p.tables e below (s₁.setTop (mkF m 8 #[.val (.int p1), .val (.int (1 : Int32)), .unset, .unset] [])) _
      refine XS.iloadN X0.here hx rfl (hb hby at_8) rfl ?_
      show Steps p.tables e below (s₁.setTop (mkF m 9 #[.val (.int p1), .val (.int (1 : Int32)), .unset, .unset] [(.int (1 : Int32))])) _
      refine st9 _ ?_
      show Steps p.tables e below (T9.setTop (mkF m 12 #[.val (.int p1), .val (.int (1 : Int32)), .unset, .unset] [(.ref (A 1))])) _
      refine XS.astoreN X9.here hx rfl (hb hby at_12) rfl rfl (l' := #[.val (.int p1), .val (.int (1 : Int32)), .val (.ref (A 1)), .unset]) rfl ?_
      show Steps p.tables e below (T9.setTop (mkF m 13 #[.val (.int p1), .val (.int (1 : Int32)), .val (.ref (A 1)), .unset] [])) _
      refine XS.iloadN X9.here hx rfl (hb hby at_13) rfl ?_
      show Steps p.tables e below (T9.setTop (mkF m 14 #[.val (.int p1), .val (.int (1 : Int32)), .val (.ref (A 1)), .unset] [(.int (1 : Int32))])) _
      refine XS.bipush X9.here hx rfl (hb hby at_14) ?_
      show Steps p.tables e below (T9.setTop (mkF m 16 #[.val (.int p1), .val (.int (1 : Int32)), .val (.ref (A 1)), .unset] [(.int (26 : Int32)), (.int (1 : Int32))])) _
      refine XS.icmpYes X9.here hx rfl (pc0 := 16) (pc' := 23) rfl (hb hby at_16) rfl (tlt (by decide : (1 : Int32) < (26 : Int32))).1 (by decide) (by decide) ?_
      show Steps p.tables e below (T9.setTop (mkF m 23 #[.val (.int p1), .val (.int (1 : Int32)), .val (.ref (A 1)), .unset] [])) _
      refine XS.iconst X9.here hx rfl (hb hby at_23) ?_
      show Steps p.tables e below (T9.setTop (mkF m 24 #[.val (.int p1), .val (.int (1 : Int32)), .val (.ref (A 1)), .unset] [(.int (0 : Int32))])) _
      refine XS.istoreN X9.here hx rfl (hb hby at_24) rfl (l' := #[.val (.int p1), .val (.int (1 : Int32)), .val (.ref (A 1)), .val (.int (0 : Int32))]) rfl ?_
      show Steps p.tables e below (T9.setTop (mkF m 25 #[.val (.int p1), .val (.int (1 : Int32)), .val (.ref (A 1)), .val (.int (0 : Int32))] [])) _
      refine XS.aloadN X9.here hx rfl (hb hby at_25) rfl rfl ?_
      show Steps p.tables e below (T9.setTop (mkF m 26 #[.val (.int p1), .val (.int (1 : Int32)), .val (.ref (A 1)), .val (.int (0 : Int32))] [(.ref (A 1))])) _
      refine st12.trans ?_
      show Steps p.tables e below (T12.setTop (mkF m 29 #[.val (.int p1), .val (.int (1 : Int32)), .val (.ref (A 1)), .val (.int (0 : Int32))] [(.int (0 : Int32))])) _
      refine XS.iloadN X12.here hx rfl (hb hby at_29) rfl ?_
      show Steps p.tables e below (T12.setTop (mkF m 30 #[.val (.int p1), .val (.int (1 : Int32)), .val (.ref (A 1)), .val (.int (0 : Int32))] [(.int (0 : Int32)), (.int (0 : Int32))])) _
      refine XS.icmpNo X12.here hx rfl (hb hby at_30) rfl (teq (by decide : (0 : Int32) = (0 : Int32))).2 ?_
      show Steps p.tables e below (T12.setTop (mkF m 33 #[.val (.int p1), .val (.int (1 : Int32)), .val (.ref (A 1)), .val (.int (0 : Int32))] [])) _
      refine XS.iconst X12.here hx rfl (hb hby at_33) ?_
      show Steps p.tables e below (T12.setTop (mkF m 34 #[.val (.int p1), .val (.int (1 : Int32)), .val (.ref (A 1)), .val (.int (0 : Int32))] [(.int (1 : Int32))])) _
      refine XS.goto X12.here hx rfl (pc0 := 34) (pc' := 38) rfl (hb hby at_34) (by decide) (by decide) ?_
      show Steps p.tables e below (T12.setTop (mkF m 38 #[.val (.int p1), .val (.int (1 : Int32)), .val (.ref (A 1)), .val (.int (0 : Int32))] [(.int (1 : Int32))])) _
      exact retN X12 hx (t := .boolean) Bd.returns (by simp) (hb hby at_38) hr
    · show LQ n0 _ T12.heap _
      exact ⟨rfl, N12, trivial⟩
  | 2, _, hk2 =>
    obtain ⟨_, _, ⟨T14, L14, k14, n14⟩, -, X14, ⟨Lc14, hQ14, l14, y14, z14⟩, st14⟩ := Jvm.LawKit.callS X0 hx (y := own_m1) hown (mvT hZ (hw _ (List.mem_of_getElem? (i := 1) rfl))) (mvT hZ (hw _ (List.mem_of_getElem? (i := 2) rfl))) (mvT hZ (hw _ (List.mem_of_getElem? (i := 3) rfl))) (mvT hZ (hw _ (List.mem_of_getElem? (i := 4) rfl))) (by decide) (backOf (W := 0) (rm5 l Z a0 hw [] h0 n0 p1 A K EN OL0) hZ (hw _ (List.mem_of_getElem? (i := 4) rfl)) (hw _ (List.mem_of_getElem? (i := 3) rfl)) (by decide) (by decide)) (g := (mkF m 9 #[.val (.int p1), .val (.int (2 : Int32)), .unset, .unset] [(.int (2 : Int32))])) rfl (by rw [hml]; rfl) (argsL := [(.int (2 : Int32))]) (rest := []) (lenOf own_pd0 rfl) rfl (by show 2 * 0 + _ ≤ _; exact Nat.le_of_eq rfl) (hb hby at_9) (fun _ _ => ⟨rfl, e0, (by decide : 0 + 0 ≤ _), (by decide : 0 + 0 ≤ _)⟩)
    dsimp only [Pt.U, Pt.locs, Pt.cells, Pt.slots] at X14 l14 y14 z14 st14 hQ14
    subst l14 y14 z14
    obtain ⟨rfl, N14q, e14⟩ := hQ14
    have N14 := Fr.app N0 N14q
    obtain ⟨cq17, kq17, q17a, q17b, q17c⟩ := isOf hZ e14 (EN.1.2.2.2.2.2.1.ext OL0.2)
    obtain ⟨_, _, ⟨T17, L17, k17, n17⟩, -, X17, ⟨Lc17, hQ17, l17, y17, z17⟩, st17⟩ := X14.virtualBack hx (y := own_m0) (z := own_m0) hown (mvT hZ (hw _ (List.mem_of_getElem? (i := 8) rfl))) (mvT hZ (hw _ (List.mem_of_getElem? (i := 9) rfl))) (notFace_of_selects (args := #[]) (mvT hZ (hw _ (List.mem_of_getElem? (i := 11) rfl)))) (mvT hZ (hw _ (List.mem_of_getElem? (i := 11) rfl))) (mvT hZ (hw _ (List.mem_of_getElem? (i := 10) rfl))) (by decide) (backOf (W := 0) (rm6 l Z a0 hw [] h0 n0 p1 A K EN OL0) hZ (hw _ (List.mem_of_getElem? (i := 12) rfl)) (hw _ (List.mem_of_getElem? (i := 6) rfl)) (by decide) (by decide)) q17a q17c (g := (mkF m 26 #[.val (.int p1), .val (.int (2 : Int32)), .val (.ref (A 2)), .val (.int (0 : Int32))] [(.ref (A 2))])) rfl (by rw [hml]; rfl) (Steps.refl _) (argsL := []) (rest := []) (lenOf own_pd1 rfl) rfl (by show 2 * 0 + _ ≤ _; exact Nat.le_of_eq rfl) (hb hby at_26) (fun _ _ => ⟨rfl, e14, (by decide : 0 + 0 ≤ _), (by decide : 0 + 0 ≤ _)⟩)
    dsimp only [Pt.U, Pt.locs, Pt.cells, Pt.slots] at X17 l17 y17 z17 st17 hQ17
    subst l17 y17 z17
    obtain ⟨rfl, N17q, e17⟩ := hQ17
    have N17 := Fr.app N14 N17q
    obtain ⟨fs, hr, hrun, hended, hW, hsame⟩ := X17.leave (v := some (.int (1 : Int32))) (fun h => by rw [Bd.returns] at h; cases h)
    refine ⟨_, _, pre1 _ ?_, hrun, hended, _, _, rfl, ?_, ⟨_, rfl⟩, hW, hsame.mono (by decide) (by decide)⟩
    · show Steps p.tables e below (s₁.setTop (mkF m 7 #[.val (.int p1), .unset, .unset, .unset] [(.int ((p1 &&& (2147483647 : Int32)) % (28 : Int32)))])) _
      rw [hk2]
      show Steps p.tables e below (s₁.setTop (mkF m 7 #[.val (.int p1), .unset, .unset, .unset] [(.int (2 : Int32))])) _
      refine XS.istoreN X0.here hx rfl (hb hby at_7) rfl (l' := #[.val (.int p1), .val (.int (2 : Int32)), .unset, .unset]) rfl ?_
      show Steps p.tables e below (s₁.setTop (mkF m 8 #[.val (.int p1), .val (.int (2 : Int32)), .unset, .unset] [])) _
      refine XS.iloadN X0.here hx rfl (hb hby at_8) rfl ?_
      show Steps p.tables e below (s₁.setTop (mkF m 9 #[.val (.int p1), .val (.int (2 : Int32)), .unset, .unset] [(.int (2 : Int32))])) _
      refine st14 _ ?_
      show Steps p.tables e below (T14.setTop (mkF m 12 #[.val (.int p1), .val (.int (2 : Int32)), .unset, .unset] [(.ref (A 2))])) _
      refine XS.astoreN X14.here hx rfl (hb hby at_12) rfl rfl (l' := #[.val (.int p1), .val (.int (2 : Int32)), .val (.ref (A 2)), .unset]) rfl ?_
      show Steps p.tables e below (T14.setTop (mkF m 13 #[.val (.int p1), .val (.int (2 : Int32)), .val (.ref (A 2)), .unset] [])) _
      refine XS.iloadN X14.here hx rfl (hb hby at_13) rfl ?_
      show Steps p.tables e below (T14.setTop (mkF m 14 #[.val (.int p1), .val (.int (2 : Int32)), .val (.ref (A 2)), .unset] [(.int (2 : Int32))])) _
      refine XS.bipush X14.here hx rfl (hb hby at_14) ?_
      show Steps p.tables e below (T14.setTop (mkF m 16 #[.val (.int p1), .val (.int (2 : Int32)), .val (.ref (A 2)), .unset] [(.int (26 : Int32)), (.int (2 : Int32))])) _
      refine XS.icmpYes X14.here hx rfl (pc0 := 16) (pc' := 23) rfl (hb hby at_16) rfl (tlt (by decide : (2 : Int32) < (26 : Int32))).1 (by decide) (by decide) ?_
      show Steps p.tables e below (T14.setTop (mkF m 23 #[.val (.int p1), .val (.int (2 : Int32)), .val (.ref (A 2)), .unset] [])) _
      refine XS.iconst X14.here hx rfl (hb hby at_23) ?_
      show Steps p.tables e below (T14.setTop (mkF m 24 #[.val (.int p1), .val (.int (2 : Int32)), .val (.ref (A 2)), .unset] [(.int (0 : Int32))])) _
      refine XS.istoreN X14.here hx rfl (hb hby at_24) rfl (l' := #[.val (.int p1), .val (.int (2 : Int32)), .val (.ref (A 2)), .val (.int (0 : Int32))]) rfl ?_
      show Steps p.tables e below (T14.setTop (mkF m 25 #[.val (.int p1), .val (.int (2 : Int32)), .val (.ref (A 2)), .val (.int (0 : Int32))] [])) _
      refine XS.aloadN X14.here hx rfl (hb hby at_25) rfl rfl ?_
      show Steps p.tables e below (T14.setTop (mkF m 26 #[.val (.int p1), .val (.int (2 : Int32)), .val (.ref (A 2)), .val (.int (0 : Int32))] [(.ref (A 2))])) _
      refine st17.trans ?_
      show Steps p.tables e below (T17.setTop (mkF m 29 #[.val (.int p1), .val (.int (2 : Int32)), .val (.ref (A 2)), .val (.int (0 : Int32))] [(.int (0 : Int32))])) _
      refine XS.iloadN X17.here hx rfl (hb hby at_29) rfl ?_
      show Steps p.tables e below (T17.setTop (mkF m 30 #[.val (.int p1), .val (.int (2 : Int32)), .val (.ref (A 2)), .val (.int (0 : Int32))] [(.int (0 : Int32)), (.int (0 : Int32))])) _
      refine XS.icmpNo X17.here hx rfl (hb hby at_30) rfl (teq (by decide : (0 : Int32) = (0 : Int32))).2 ?_
      show Steps p.tables e below (T17.setTop (mkF m 33 #[.val (.int p1), .val (.int (2 : Int32)), .val (.ref (A 2)), .val (.int (0 : Int32))] [])) _
      refine XS.iconst X17.here hx rfl (hb hby at_33) ?_
      show Steps p.tables e below (T17.setTop (mkF m 34 #[.val (.int p1), .val (.int (2 : Int32)), .val (.ref (A 2)), .val (.int (0 : Int32))] [(.int (1 : Int32))])) _
      refine XS.goto X17.here hx rfl (pc0 := 34) (pc' := 38) rfl (hb hby at_34) (by decide) (by decide) ?_
      show Steps p.tables e below (T17.setTop (mkF m 38 #[.val (.int p1), .val (.int (2 : Int32)), .val (.ref (A 2)), .val (.int (0 : Int32))] [(.int (1 : Int32))])) _
      exact retN X17 hx (t := .boolean) Bd.returns (by simp) (hb hby at_38) hr
    · show LQ n0 _ T17.heap _
      exact ⟨rfl, N17, trivial⟩
  | 3, _, hk2 =>
    obtain ⟨_, _, ⟨T19, L19, k19, n19⟩, -, X19, ⟨Lc19, hQ19, l19, y19, z19⟩, st19⟩ := Jvm.LawKit.callS X0 hx (y := own_m1) hown (mvT hZ (hw _ (List.mem_of_getElem? (i := 1) rfl))) (mvT hZ (hw _ (List.mem_of_getElem? (i := 2) rfl))) (mvT hZ (hw _ (List.mem_of_getElem? (i := 3) rfl))) (mvT hZ (hw _ (List.mem_of_getElem? (i := 4) rfl))) (by decide) (backOf (W := 0) (rm7 l Z a0 hw [] h0 n0 p1 A K EN OL0) hZ (hw _ (List.mem_of_getElem? (i := 4) rfl)) (hw _ (List.mem_of_getElem? (i := 3) rfl)) (by decide) (by decide)) (g := (mkF m 9 #[.val (.int p1), .val (.int (3 : Int32)), .unset, .unset] [(.int (3 : Int32))])) rfl (by rw [hml]; rfl) (argsL := [(.int (3 : Int32))]) (rest := []) (lenOf own_pd0 rfl) rfl (by show 2 * 0 + _ ≤ _; exact Nat.le_of_eq rfl) (hb hby at_9) (fun _ _ => ⟨rfl, e0, (by decide : 0 + 0 ≤ _), (by decide : 0 + 0 ≤ _)⟩)
    dsimp only [Pt.U, Pt.locs, Pt.cells, Pt.slots] at X19 l19 y19 z19 st19 hQ19
    subst l19 y19 z19
    obtain ⟨rfl, N19q, e19⟩ := hQ19
    have N19 := Fr.app N0 N19q
    obtain ⟨cq22, kq22, q22a, q22b, q22c⟩ := isOf hZ e19 (EN.1.2.2.2.2.2.2.2.1.ext OL0.2)
    obtain ⟨_, _, ⟨T22, L22, k22, n22⟩, -, X22, ⟨Lc22, hQ22, l22, y22, z22⟩, st22⟩ := X19.virtualBack hx (y := own_m0) (z := own_m0) hown (mvT hZ (hw _ (List.mem_of_getElem? (i := 8) rfl))) (mvT hZ (hw _ (List.mem_of_getElem? (i := 9) rfl))) (notFace_of_selects (args := #[]) (mvT hZ (hw _ (List.mem_of_getElem? (i := 11) rfl)))) (mvT hZ (hw _ (List.mem_of_getElem? (i := 11) rfl))) (mvT hZ (hw _ (List.mem_of_getElem? (i := 10) rfl))) (by decide) (backOf (W := 0) (rm8 l Z a0 hw [] h0 n0 p1 A K EN OL0) hZ (hw _ (List.mem_of_getElem? (i := 12) rfl)) (hw _ (List.mem_of_getElem? (i := 6) rfl)) (by decide) (by decide)) q22a q22c (g := (mkF m 26 #[.val (.int p1), .val (.int (3 : Int32)), .val (.ref (A 3)), .val (.int (0 : Int32))] [(.ref (A 3))])) rfl (by rw [hml]; rfl) (Steps.refl _) (argsL := []) (rest := []) (lenOf own_pd1 rfl) rfl (by show 2 * 0 + _ ≤ _; exact Nat.le_of_eq rfl) (hb hby at_26) (fun _ _ => ⟨rfl, e19, (by decide : 0 + 0 ≤ _), (by decide : 0 + 0 ≤ _)⟩)
    dsimp only [Pt.U, Pt.locs, Pt.cells, Pt.slots] at X22 l22 y22 z22 st22 hQ22
    subst l22 y22 z22
    obtain ⟨rfl, N22q, e22⟩ := hQ22
    have N22 := Fr.app N19 N22q
    obtain ⟨fs, hr, hrun, hended, hW, hsame⟩ := X22.leave (v := some (.int (1 : Int32))) (fun h => by rw [Bd.returns] at h; cases h)
    refine ⟨_, _, pre1 _ ?_, hrun, hended, _, _, rfl, ?_, ⟨_, rfl⟩, hW, hsame.mono (by decide) (by decide)⟩
    · show Steps p.tables e below (s₁.setTop (mkF m 7 #[.val (.int p1), .unset, .unset, .unset] [(.int ((p1 &&& (2147483647 : Int32)) % (28 : Int32)))])) _
      rw [hk2]
      show Steps p.tables e below (s₁.setTop (mkF m 7 #[.val (.int p1), .unset, .unset, .unset] [(.int (3 : Int32))])) _
      refine XS.istoreN X0.here hx rfl (hb hby at_7) rfl (l' := #[.val (.int p1), .val (.int (3 : Int32)), .unset, .unset]) rfl ?_
      show Steps p.tables e below (s₁.setTop (mkF m 8 #[.val (.int p1), .val (.int (3 : Int32)), .unset, .unset] [])) _
      refine XS.iloadN X0.here hx rfl (hb hby at_8) rfl ?_
      show Steps p.tables e below (s₁.setTop (mkF m 9 #[.val (.int p1), .val (.int (3 : Int32)), .unset, .unset] [(.int (3 : Int32))])) _
      refine st19 _ ?_
      show Steps p.tables e below (T19.setTop (mkF m 12 #[.val (.int p1), .val (.int (3 : Int32)), .unset, .unset] [(.ref (A 3))])) _
      refine XS.astoreN X19.here hx rfl (hb hby at_12) rfl rfl (l' := #[.val (.int p1), .val (.int (3 : Int32)), .val (.ref (A 3)), .unset]) rfl ?_
      show Steps p.tables e below (T19.setTop (mkF m 13 #[.val (.int p1), .val (.int (3 : Int32)), .val (.ref (A 3)), .unset] [])) _
      refine XS.iloadN X19.here hx rfl (hb hby at_13) rfl ?_
      show Steps p.tables e below (T19.setTop (mkF m 14 #[.val (.int p1), .val (.int (3 : Int32)), .val (.ref (A 3)), .unset] [(.int (3 : Int32))])) _
      refine XS.bipush X19.here hx rfl (hb hby at_14) ?_
      show Steps p.tables e below (T19.setTop (mkF m 16 #[.val (.int p1), .val (.int (3 : Int32)), .val (.ref (A 3)), .unset] [(.int (26 : Int32)), (.int (3 : Int32))])) _
      refine XS.icmpYes X19.here hx rfl (pc0 := 16) (pc' := 23) rfl (hb hby at_16) rfl (tlt (by decide : (3 : Int32) < (26 : Int32))).1 (by decide) (by decide) ?_
      show Steps p.tables e below (T19.setTop (mkF m 23 #[.val (.int p1), .val (.int (3 : Int32)), .val (.ref (A 3)), .unset] [])) _
      refine XS.iconst X19.here hx rfl (hb hby at_23) ?_
      show Steps p.tables e below (T19.setTop (mkF m 24 #[.val (.int p1), .val (.int (3 : Int32)), .val (.ref (A 3)), .unset] [(.int (0 : Int32))])) _
      refine XS.istoreN X19.here hx rfl (hb hby at_24) rfl (l' := #[.val (.int p1), .val (.int (3 : Int32)), .val (.ref (A 3)), .val (.int (0 : Int32))]) rfl ?_
      show Steps p.tables e below (T19.setTop (mkF m 25 #[.val (.int p1), .val (.int (3 : Int32)), .val (.ref (A 3)), .val (.int (0 : Int32))] [])) _
      refine XS.aloadN X19.here hx rfl (hb hby at_25) rfl rfl ?_
      show Steps p.tables e below (T19.setTop (mkF m 26 #[.val (.int p1), .val (.int (3 : Int32)), .val (.ref (A 3)), .val (.int (0 : Int32))] [(.ref (A 3))])) _
      refine st22.trans ?_
      show Steps p.tables e below (T22.setTop (mkF m 29 #[.val (.int p1), .val (.int (3 : Int32)), .val (.ref (A 3)), .val (.int (0 : Int32))] [(.int (0 : Int32))])) _
      refine XS.iloadN X22.here hx rfl (hb hby at_29) rfl ?_
      show Steps p.tables e below (T22.setTop (mkF m 30 #[.val (.int p1), .val (.int (3 : Int32)), .val (.ref (A 3)), .val (.int (0 : Int32))] [(.int (0 : Int32)), (.int (0 : Int32))])) _
      refine XS.icmpNo X22.here hx rfl (hb hby at_30) rfl (teq (by decide : (0 : Int32) = (0 : Int32))).2 ?_
      show Steps p.tables e below (T22.setTop (mkF m 33 #[.val (.int p1), .val (.int (3 : Int32)), .val (.ref (A 3)), .val (.int (0 : Int32))] [])) _
      refine XS.iconst X22.here hx rfl (hb hby at_33) ?_
      show Steps p.tables e below (T22.setTop (mkF m 34 #[.val (.int p1), .val (.int (3 : Int32)), .val (.ref (A 3)), .val (.int (0 : Int32))] [(.int (1 : Int32))])) _
      refine XS.goto X22.here hx rfl (pc0 := 34) (pc' := 38) rfl (hb hby at_34) (by decide) (by decide) ?_
      show Steps p.tables e below (T22.setTop (mkF m 38 #[.val (.int p1), .val (.int (3 : Int32)), .val (.ref (A 3)), .val (.int (0 : Int32))] [(.int (1 : Int32))])) _
      exact retN X22 hx (t := .boolean) Bd.returns (by simp) (hb hby at_38) hr
    · show LQ n0 _ T22.heap _
      exact ⟨rfl, N22, trivial⟩
  | 4, _, hk2 =>
    obtain ⟨_, _, ⟨T24, L24, k24, n24⟩, -, X24, ⟨Lc24, hQ24, l24, y24, z24⟩, st24⟩ := Jvm.LawKit.callS X0 hx (y := own_m1) hown (mvT hZ (hw _ (List.mem_of_getElem? (i := 1) rfl))) (mvT hZ (hw _ (List.mem_of_getElem? (i := 2) rfl))) (mvT hZ (hw _ (List.mem_of_getElem? (i := 3) rfl))) (mvT hZ (hw _ (List.mem_of_getElem? (i := 4) rfl))) (by decide) (backOf (W := 0) (rm9 l Z a0 hw [] h0 n0 p1 A K EN OL0) hZ (hw _ (List.mem_of_getElem? (i := 4) rfl)) (hw _ (List.mem_of_getElem? (i := 3) rfl)) (by decide) (by decide)) (g := (mkF m 9 #[.val (.int p1), .val (.int (4 : Int32)), .unset, .unset] [(.int (4 : Int32))])) rfl (by rw [hml]; rfl) (argsL := [(.int (4 : Int32))]) (rest := []) (lenOf own_pd0 rfl) rfl (by show 2 * 0 + _ ≤ _; exact Nat.le_of_eq rfl) (hb hby at_9) (fun _ _ => ⟨rfl, e0, (by decide : 0 + 0 ≤ _), (by decide : 0 + 0 ≤ _)⟩)
    dsimp only [Pt.U, Pt.locs, Pt.cells, Pt.slots] at X24 l24 y24 z24 st24 hQ24
    subst l24 y24 z24
    obtain ⟨rfl, N24q, e24⟩ := hQ24
    have N24 := Fr.app N0 N24q
    obtain ⟨cq27, kq27, q27a, q27b, q27c⟩ := isOf hZ e24 (EN.2.1.2.1.ext OL0.2)
    obtain ⟨_, _, ⟨T27, L27, k27, n27⟩, -, X27, ⟨Lc27, hQ27, l27, y27, z27⟩, st27⟩ := X24.virtualBack hx (y := own_m0) (z := own_m0) hown (mvT hZ (hw _ (List.mem_of_getElem? (i := 8) rfl))) (mvT hZ (hw _ (List.mem_of_getElem? (i := 9) rfl))) (notFace_of_selects (args := #[]) (mvT hZ (hw _ (List.mem_of_getElem? (i := 11) rfl)))) (mvT hZ (hw _ (List.mem_of_getElem? (i := 11) rfl))) (mvT hZ (hw _ (List.mem_of_getElem? (i := 10) rfl))) (by decide) (backOf (W := 0) (rm10 l Z a0 hw [] h0 n0 p1 A K EN OL0) hZ (hw _ (List.mem_of_getElem? (i := 12) rfl)) (hw _ (List.mem_of_getElem? (i := 6) rfl)) (by decide) (by decide)) q27a q27c (g := (mkF m 26 #[.val (.int p1), .val (.int (4 : Int32)), .val (.ref (A 4)), .val (.int (0 : Int32))] [(.ref (A 4))])) rfl (by rw [hml]; rfl) (Steps.refl _) (argsL := []) (rest := []) (lenOf own_pd1 rfl) rfl (by show 2 * 0 + _ ≤ _; exact Nat.le_of_eq rfl) (hb hby at_26) (fun _ _ => ⟨rfl, e24, (by decide : 0 + 0 ≤ _), (by decide : 0 + 0 ≤ _)⟩)
    dsimp only [Pt.U, Pt.locs, Pt.cells, Pt.slots] at X27 l27 y27 z27 st27 hQ27
    subst l27 y27 z27
    obtain ⟨rfl, N27q, e27⟩ := hQ27
    have N27 := Fr.app N24 N27q
    obtain ⟨fs, hr, hrun, hended, hW, hsame⟩ := X27.leave (v := some (.int (1 : Int32))) (fun h => by rw [Bd.returns] at h; cases h)
    refine ⟨_, _, pre1 _ ?_, hrun, hended, _, _, rfl, ?_, ⟨_, rfl⟩, hW, hsame.mono (by decide) (by decide)⟩
    · show Steps p.tables e below (s₁.setTop (mkF m 7 #[.val (.int p1), .unset, .unset, .unset] [(.int ((p1 &&& (2147483647 : Int32)) % (28 : Int32)))])) _
      rw [hk2]
      show Steps p.tables e below (s₁.setTop (mkF m 7 #[.val (.int p1), .unset, .unset, .unset] [(.int (4 : Int32))])) _
      refine XS.istoreN X0.here hx rfl (hb hby at_7) rfl (l' := #[.val (.int p1), .val (.int (4 : Int32)), .unset, .unset]) rfl ?_
      show Steps p.tables e below (s₁.setTop (mkF m 8 #[.val (.int p1), .val (.int (4 : Int32)), .unset, .unset] [])) _
      refine XS.iloadN X0.here hx rfl (hb hby at_8) rfl ?_
      show Steps p.tables e below (s₁.setTop (mkF m 9 #[.val (.int p1), .val (.int (4 : Int32)), .unset, .unset] [(.int (4 : Int32))])) _
      refine st24 _ ?_
      show Steps p.tables e below (T24.setTop (mkF m 12 #[.val (.int p1), .val (.int (4 : Int32)), .unset, .unset] [(.ref (A 4))])) _
      refine XS.astoreN X24.here hx rfl (hb hby at_12) rfl rfl (l' := #[.val (.int p1), .val (.int (4 : Int32)), .val (.ref (A 4)), .unset]) rfl ?_
      show Steps p.tables e below (T24.setTop (mkF m 13 #[.val (.int p1), .val (.int (4 : Int32)), .val (.ref (A 4)), .unset] [])) _
      refine XS.iloadN X24.here hx rfl (hb hby at_13) rfl ?_
      show Steps p.tables e below (T24.setTop (mkF m 14 #[.val (.int p1), .val (.int (4 : Int32)), .val (.ref (A 4)), .unset] [(.int (4 : Int32))])) _
      refine XS.bipush X24.here hx rfl (hb hby at_14) ?_
      show Steps p.tables e below (T24.setTop (mkF m 16 #[.val (.int p1), .val (.int (4 : Int32)), .val (.ref (A 4)), .unset] [(.int (26 : Int32)), (.int (4 : Int32))])) _
      refine XS.icmpYes X24.here hx rfl (pc0 := 16) (pc' := 23) rfl (hb hby at_16) rfl (tlt (by decide : (4 : Int32) < (26 : Int32))).1 (by decide) (by decide) ?_
      show Steps p.tables e below (T24.setTop (mkF m 23 #[.val (.int p1), .val (.int (4 : Int32)), .val (.ref (A 4)), .unset] [])) _
      refine XS.iconst X24.here hx rfl (hb hby at_23) ?_
      show Steps p.tables e below (T24.setTop (mkF m 24 #[.val (.int p1), .val (.int (4 : Int32)), .val (.ref (A 4)), .unset] [(.int (0 : Int32))])) _
      refine XS.istoreN X24.here hx rfl (hb hby at_24) rfl (l' := #[.val (.int p1), .val (.int (4 : Int32)), .val (.ref (A 4)), .val (.int (0 : Int32))]) rfl ?_
      show Steps p.tables e below (T24.setTop (mkF m 25 #[.val (.int p1), .val (.int (4 : Int32)), .val (.ref (A 4)), .val (.int (0 : Int32))] [])) _
      refine XS.aloadN X24.here hx rfl (hb hby at_25) rfl rfl ?_
      show Steps p.tables e below (T24.setTop (mkF m 26 #[.val (.int p1), .val (.int (4 : Int32)), .val (.ref (A 4)), .val (.int (0 : Int32))] [(.ref (A 4))])) _
      refine st27.trans ?_
      show Steps p.tables e below (T27.setTop (mkF m 29 #[.val (.int p1), .val (.int (4 : Int32)), .val (.ref (A 4)), .val (.int (0 : Int32))] [(.int (0 : Int32))])) _
      refine XS.iloadN X27.here hx rfl (hb hby at_29) rfl ?_
      show Steps p.tables e below (T27.setTop (mkF m 30 #[.val (.int p1), .val (.int (4 : Int32)), .val (.ref (A 4)), .val (.int (0 : Int32))] [(.int (0 : Int32)), (.int (0 : Int32))])) _
      refine XS.icmpNo X27.here hx rfl (hb hby at_30) rfl (teq (by decide : (0 : Int32) = (0 : Int32))).2 ?_
      show Steps p.tables e below (T27.setTop (mkF m 33 #[.val (.int p1), .val (.int (4 : Int32)), .val (.ref (A 4)), .val (.int (0 : Int32))] [])) _
      refine XS.iconst X27.here hx rfl (hb hby at_33) ?_
      show Steps p.tables e below (T27.setTop (mkF m 34 #[.val (.int p1), .val (.int (4 : Int32)), .val (.ref (A 4)), .val (.int (0 : Int32))] [(.int (1 : Int32))])) _
      refine XS.goto X27.here hx rfl (pc0 := 34) (pc' := 38) rfl (hb hby at_34) (by decide) (by decide) ?_
      show Steps p.tables e below (T27.setTop (mkF m 38 #[.val (.int p1), .val (.int (4 : Int32)), .val (.ref (A 4)), .val (.int (0 : Int32))] [(.int (1 : Int32))])) _
      exact retN X27 hx (t := .boolean) Bd.returns (by simp) (hb hby at_38) hr
    · show LQ n0 _ T27.heap _
      exact ⟨rfl, N27, trivial⟩
  | 5, _, hk2 =>
    obtain ⟨_, _, ⟨T29, L29, k29, n29⟩, -, X29, ⟨Lc29, hQ29, l29, y29, z29⟩, st29⟩ := Jvm.LawKit.callS X0 hx (y := own_m1) hown (mvT hZ (hw _ (List.mem_of_getElem? (i := 1) rfl))) (mvT hZ (hw _ (List.mem_of_getElem? (i := 2) rfl))) (mvT hZ (hw _ (List.mem_of_getElem? (i := 3) rfl))) (mvT hZ (hw _ (List.mem_of_getElem? (i := 4) rfl))) (by decide) (backOf (W := 0) (rm11 l Z a0 hw [] h0 n0 p1 A K EN OL0) hZ (hw _ (List.mem_of_getElem? (i := 4) rfl)) (hw _ (List.mem_of_getElem? (i := 3) rfl)) (by decide) (by decide)) (g := (mkF m 9 #[.val (.int p1), .val (.int (5 : Int32)), .unset, .unset] [(.int (5 : Int32))])) rfl (by rw [hml]; rfl) (argsL := [(.int (5 : Int32))]) (rest := []) (lenOf own_pd0 rfl) rfl (by show 2 * 0 + _ ≤ _; exact Nat.le_of_eq rfl) (hb hby at_9) (fun _ _ => ⟨rfl, e0, (by decide : 0 + 0 ≤ _), (by decide : 0 + 0 ≤ _)⟩)
    dsimp only [Pt.U, Pt.locs, Pt.cells, Pt.slots] at X29 l29 y29 z29 st29 hQ29
    subst l29 y29 z29
    obtain ⟨rfl, N29q, e29⟩ := hQ29
    have N29 := Fr.app N0 N29q
    obtain ⟨cq32, kq32, q32a, q32b, q32c⟩ := isOf hZ e29 (EN.2.1.2.2.2.1.ext OL0.2)
    obtain ⟨_, _, ⟨T32, L32, k32, n32⟩, -, X32, ⟨Lc32, hQ32, l32, y32, z32⟩, st32⟩ := X29.virtualBack hx (y := own_m0) (z := own_m0) hown (mvT hZ (hw _ (List.mem_of_getElem? (i := 8) rfl))) (mvT hZ (hw _ (List.mem_of_getElem? (i := 9) rfl))) (notFace_of_selects (args := #[]) (mvT hZ (hw _ (List.mem_of_getElem? (i := 11) rfl)))) (mvT hZ (hw _ (List.mem_of_getElem? (i := 11) rfl))) (mvT hZ (hw _ (List.mem_of_getElem? (i := 10) rfl))) (by decide) (backOf (W := 0) (rm12 l Z a0 hw [] h0 n0 p1 A K EN OL0) hZ (hw _ (List.mem_of_getElem? (i := 12) rfl)) (hw _ (List.mem_of_getElem? (i := 6) rfl)) (by decide) (by decide)) q32a q32c (g := (mkF m 26 #[.val (.int p1), .val (.int (5 : Int32)), .val (.ref (A 5)), .val (.int (0 : Int32))] [(.ref (A 5))])) rfl (by rw [hml]; rfl) (Steps.refl _) (argsL := []) (rest := []) (lenOf own_pd1 rfl) rfl (by show 2 * 0 + _ ≤ _; exact Nat.le_of_eq rfl) (hb hby at_26) (fun _ _ => ⟨rfl, e29, (by decide : 0 + 0 ≤ _), (by decide : 0 + 0 ≤ _)⟩)
    dsimp only [Pt.U, Pt.locs, Pt.cells, Pt.slots] at X32 l32 y32 z32 st32 hQ32
    subst l32 y32 z32
    obtain ⟨rfl, N32q, e32⟩ := hQ32
    have N32 := Fr.app N29 N32q
    obtain ⟨fs, hr, hrun, hended, hW, hsame⟩ := X32.leave (v := some (.int (1 : Int32))) (fun h => by rw [Bd.returns] at h; cases h)
    refine ⟨_, _, pre1 _ ?_, hrun, hended, _, _, rfl, ?_, ⟨_, rfl⟩, hW, hsame.mono (by decide) (by decide)⟩
    · show Steps p.tables e below (s₁.setTop (mkF m 7 #[.val (.int p1), .unset, .unset, .unset] [(.int ((p1 &&& (2147483647 : Int32)) % (28 : Int32)))])) _
      rw [hk2]
      show Steps p.tables e below (s₁.setTop (mkF m 7 #[.val (.int p1), .unset, .unset, .unset] [(.int (5 : Int32))])) _
      refine XS.istoreN X0.here hx rfl (hb hby at_7) rfl (l' := #[.val (.int p1), .val (.int (5 : Int32)), .unset, .unset]) rfl ?_
      show Steps p.tables e below (s₁.setTop (mkF m 8 #[.val (.int p1), .val (.int (5 : Int32)), .unset, .unset] [])) _
      refine XS.iloadN X0.here hx rfl (hb hby at_8) rfl ?_
      show Steps p.tables e below (s₁.setTop (mkF m 9 #[.val (.int p1), .val (.int (5 : Int32)), .unset, .unset] [(.int (5 : Int32))])) _
      refine st29 _ ?_
      show Steps p.tables e below (T29.setTop (mkF m 12 #[.val (.int p1), .val (.int (5 : Int32)), .unset, .unset] [(.ref (A 5))])) _
      refine XS.astoreN X29.here hx rfl (hb hby at_12) rfl rfl (l' := #[.val (.int p1), .val (.int (5 : Int32)), .val (.ref (A 5)), .unset]) rfl ?_
      show Steps p.tables e below (T29.setTop (mkF m 13 #[.val (.int p1), .val (.int (5 : Int32)), .val (.ref (A 5)), .unset] [])) _
      refine XS.iloadN X29.here hx rfl (hb hby at_13) rfl ?_
      show Steps p.tables e below (T29.setTop (mkF m 14 #[.val (.int p1), .val (.int (5 : Int32)), .val (.ref (A 5)), .unset] [(.int (5 : Int32))])) _
      refine XS.bipush X29.here hx rfl (hb hby at_14) ?_
      show Steps p.tables e below (T29.setTop (mkF m 16 #[.val (.int p1), .val (.int (5 : Int32)), .val (.ref (A 5)), .unset] [(.int (26 : Int32)), (.int (5 : Int32))])) _
      refine XS.icmpYes X29.here hx rfl (pc0 := 16) (pc' := 23) rfl (hb hby at_16) rfl (tlt (by decide : (5 : Int32) < (26 : Int32))).1 (by decide) (by decide) ?_
      show Steps p.tables e below (T29.setTop (mkF m 23 #[.val (.int p1), .val (.int (5 : Int32)), .val (.ref (A 5)), .unset] [])) _
      refine XS.iconst X29.here hx rfl (hb hby at_23) ?_
      show Steps p.tables e below (T29.setTop (mkF m 24 #[.val (.int p1), .val (.int (5 : Int32)), .val (.ref (A 5)), .unset] [(.int (0 : Int32))])) _
      refine XS.istoreN X29.here hx rfl (hb hby at_24) rfl (l' := #[.val (.int p1), .val (.int (5 : Int32)), .val (.ref (A 5)), .val (.int (0 : Int32))]) rfl ?_
      show Steps p.tables e below (T29.setTop (mkF m 25 #[.val (.int p1), .val (.int (5 : Int32)), .val (.ref (A 5)), .val (.int (0 : Int32))] [])) _
      refine XS.aloadN X29.here hx rfl (hb hby at_25) rfl rfl ?_
      show Steps p.tables e below (T29.setTop (mkF m 26 #[.val (.int p1), .val (.int (5 : Int32)), .val (.ref (A 5)), .val (.int (0 : Int32))] [(.ref (A 5))])) _
      refine st32.trans ?_
      show Steps p.tables e below (T32.setTop (mkF m 29 #[.val (.int p1), .val (.int (5 : Int32)), .val (.ref (A 5)), .val (.int (0 : Int32))] [(.int (0 : Int32))])) _
      refine XS.iloadN X32.here hx rfl (hb hby at_29) rfl ?_
      show Steps p.tables e below (T32.setTop (mkF m 30 #[.val (.int p1), .val (.int (5 : Int32)), .val (.ref (A 5)), .val (.int (0 : Int32))] [(.int (0 : Int32)), (.int (0 : Int32))])) _
      refine XS.icmpNo X32.here hx rfl (hb hby at_30) rfl (teq (by decide : (0 : Int32) = (0 : Int32))).2 ?_
      show Steps p.tables e below (T32.setTop (mkF m 33 #[.val (.int p1), .val (.int (5 : Int32)), .val (.ref (A 5)), .val (.int (0 : Int32))] [])) _
      refine XS.iconst X32.here hx rfl (hb hby at_33) ?_
      show Steps p.tables e below (T32.setTop (mkF m 34 #[.val (.int p1), .val (.int (5 : Int32)), .val (.ref (A 5)), .val (.int (0 : Int32))] [(.int (1 : Int32))])) _
      refine XS.goto X32.here hx rfl (pc0 := 34) (pc' := 38) rfl (hb hby at_34) (by decide) (by decide) ?_
      show Steps p.tables e below (T32.setTop (mkF m 38 #[.val (.int p1), .val (.int (5 : Int32)), .val (.ref (A 5)), .val (.int (0 : Int32))] [(.int (1 : Int32))])) _
      exact retN X32 hx (t := .boolean) Bd.returns (by simp) (hb hby at_38) hr
    · show LQ n0 _ T32.heap _
      exact ⟨rfl, N32, trivial⟩
  | 6, _, hk2 =>
    obtain ⟨_, _, ⟨T34, L34, k34, n34⟩, -, X34, ⟨Lc34, hQ34, l34, y34, z34⟩, st34⟩ := Jvm.LawKit.callS X0 hx (y := own_m1) hown (mvT hZ (hw _ (List.mem_of_getElem? (i := 1) rfl))) (mvT hZ (hw _ (List.mem_of_getElem? (i := 2) rfl))) (mvT hZ (hw _ (List.mem_of_getElem? (i := 3) rfl))) (mvT hZ (hw _ (List.mem_of_getElem? (i := 4) rfl))) (by decide) (backOf (W := 0) (rm13 l Z a0 hw [] h0 n0 p1 A K EN OL0) hZ (hw _ (List.mem_of_getElem? (i := 4) rfl)) (hw _ (List.mem_of_getElem? (i := 3) rfl)) (by decide) (by decide)) (g := (mkF m 9 #[.val (.int p1), .val (.int (6 : Int32)), .unset, .unset] [(.int (6 : Int32))])) rfl (by rw [hml]; rfl) (argsL := [(.int (6 : Int32))]) (rest := []) (lenOf own_pd0 rfl) rfl (by show 2 * 0 + _ ≤ _; exact Nat.le_of_eq rfl) (hb hby at_9) (fun _ _ => ⟨rfl, e0, (by decide : 0 + 0 ≤ _), (by decide : 0 + 0 ≤ _)⟩)
    dsimp only [Pt.U, Pt.locs, Pt.cells, Pt.slots] at X34 l34 y34 z34 st34 hQ34
    subst l34 y34 z34
    obtain ⟨rfl, N34q, e34⟩ := hQ34
    have N34 := Fr.app N0 N34q
    obtain ⟨cq37, kq37, q37a, q37b, q37c⟩ := isOf hZ e34 (EN.2.1.2.2.2.2.2.1.ext OL0.2)
    obtain ⟨_, _, ⟨T37, L37, k37, n37⟩, -, X37, ⟨Lc37, hQ37, l37, y37, z37⟩, st37⟩ := X34.virtualBack hx (y := own_m0) (z := own_m0) hown (mvT hZ (hw _ (List.mem_of_getElem? (i := 8) rfl))) (mvT hZ (hw _ (List.mem_of_getElem? (i := 9) rfl))) (notFace_of_selects (args := #[]) (mvT hZ (hw _ (List.mem_of_getElem? (i := 11) rfl)))) (mvT hZ (hw _ (List.mem_of_getElem? (i := 11) rfl))) (mvT hZ (hw _ (List.mem_of_getElem? (i := 10) rfl))) (by decide) (backOf (W := 0) (rm14 l Z a0 hw [] h0 n0 p1 A K EN OL0) hZ (hw _ (List.mem_of_getElem? (i := 12) rfl)) (hw _ (List.mem_of_getElem? (i := 6) rfl)) (by decide) (by decide)) q37a q37c (g := (mkF m 26 #[.val (.int p1), .val (.int (6 : Int32)), .val (.ref (A 6)), .val (.int (0 : Int32))] [(.ref (A 6))])) rfl (by rw [hml]; rfl) (Steps.refl _) (argsL := []) (rest := []) (lenOf own_pd1 rfl) rfl (by show 2 * 0 + _ ≤ _; exact Nat.le_of_eq rfl) (hb hby at_26) (fun _ _ => ⟨rfl, e34, (by decide : 0 + 0 ≤ _), (by decide : 0 + 0 ≤ _)⟩)
    dsimp only [Pt.U, Pt.locs, Pt.cells, Pt.slots] at X37 l37 y37 z37 st37 hQ37
    subst l37 y37 z37
    obtain ⟨rfl, N37q, e37⟩ := hQ37
    have N37 := Fr.app N34 N37q
    obtain ⟨fs, hr, hrun, hended, hW, hsame⟩ := X37.leave (v := some (.int (1 : Int32))) (fun h => by rw [Bd.returns] at h; cases h)
    refine ⟨_, _, pre1 _ ?_, hrun, hended, _, _, rfl, ?_, ⟨_, rfl⟩, hW, hsame.mono (by decide) (by decide)⟩
    · show Steps p.tables e below (s₁.setTop (mkF m 7 #[.val (.int p1), .unset, .unset, .unset] [(.int ((p1 &&& (2147483647 : Int32)) % (28 : Int32)))])) _
      rw [hk2]
      show Steps p.tables e below (s₁.setTop (mkF m 7 #[.val (.int p1), .unset, .unset, .unset] [(.int (6 : Int32))])) _
      refine XS.istoreN X0.here hx rfl (hb hby at_7) rfl (l' := #[.val (.int p1), .val (.int (6 : Int32)), .unset, .unset]) rfl ?_
      show Steps p.tables e below (s₁.setTop (mkF m 8 #[.val (.int p1), .val (.int (6 : Int32)), .unset, .unset] [])) _
      refine XS.iloadN X0.here hx rfl (hb hby at_8) rfl ?_
      show Steps p.tables e below (s₁.setTop (mkF m 9 #[.val (.int p1), .val (.int (6 : Int32)), .unset, .unset] [(.int (6 : Int32))])) _
      refine st34 _ ?_
      show Steps p.tables e below (T34.setTop (mkF m 12 #[.val (.int p1), .val (.int (6 : Int32)), .unset, .unset] [(.ref (A 6))])) _
      refine XS.astoreN X34.here hx rfl (hb hby at_12) rfl rfl (l' := #[.val (.int p1), .val (.int (6 : Int32)), .val (.ref (A 6)), .unset]) rfl ?_
      show Steps p.tables e below (T34.setTop (mkF m 13 #[.val (.int p1), .val (.int (6 : Int32)), .val (.ref (A 6)), .unset] [])) _
      refine XS.iloadN X34.here hx rfl (hb hby at_13) rfl ?_
      show Steps p.tables e below (T34.setTop (mkF m 14 #[.val (.int p1), .val (.int (6 : Int32)), .val (.ref (A 6)), .unset] [(.int (6 : Int32))])) _
      refine XS.bipush X34.here hx rfl (hb hby at_14) ?_
      show Steps p.tables e below (T34.setTop (mkF m 16 #[.val (.int p1), .val (.int (6 : Int32)), .val (.ref (A 6)), .unset] [(.int (26 : Int32)), (.int (6 : Int32))])) _
      refine XS.icmpYes X34.here hx rfl (pc0 := 16) (pc' := 23) rfl (hb hby at_16) rfl (tlt (by decide : (6 : Int32) < (26 : Int32))).1 (by decide) (by decide) ?_
      show Steps p.tables e below (T34.setTop (mkF m 23 #[.val (.int p1), .val (.int (6 : Int32)), .val (.ref (A 6)), .unset] [])) _
      refine XS.iconst X34.here hx rfl (hb hby at_23) ?_
      show Steps p.tables e below (T34.setTop (mkF m 24 #[.val (.int p1), .val (.int (6 : Int32)), .val (.ref (A 6)), .unset] [(.int (0 : Int32))])) _
      refine XS.istoreN X34.here hx rfl (hb hby at_24) rfl (l' := #[.val (.int p1), .val (.int (6 : Int32)), .val (.ref (A 6)), .val (.int (0 : Int32))]) rfl ?_
      show Steps p.tables e below (T34.setTop (mkF m 25 #[.val (.int p1), .val (.int (6 : Int32)), .val (.ref (A 6)), .val (.int (0 : Int32))] [])) _
      refine XS.aloadN X34.here hx rfl (hb hby at_25) rfl rfl ?_
      show Steps p.tables e below (T34.setTop (mkF m 26 #[.val (.int p1), .val (.int (6 : Int32)), .val (.ref (A 6)), .val (.int (0 : Int32))] [(.ref (A 6))])) _
      refine st37.trans ?_
      show Steps p.tables e below (T37.setTop (mkF m 29 #[.val (.int p1), .val (.int (6 : Int32)), .val (.ref (A 6)), .val (.int (0 : Int32))] [(.int (0 : Int32))])) _
      refine XS.iloadN X37.here hx rfl (hb hby at_29) rfl ?_
      show Steps p.tables e below (T37.setTop (mkF m 30 #[.val (.int p1), .val (.int (6 : Int32)), .val (.ref (A 6)), .val (.int (0 : Int32))] [(.int (0 : Int32)), (.int (0 : Int32))])) _
      refine XS.icmpNo X37.here hx rfl (hb hby at_30) rfl (teq (by decide : (0 : Int32) = (0 : Int32))).2 ?_
      show Steps p.tables e below (T37.setTop (mkF m 33 #[.val (.int p1), .val (.int (6 : Int32)), .val (.ref (A 6)), .val (.int (0 : Int32))] [])) _
      refine XS.iconst X37.here hx rfl (hb hby at_33) ?_
      show Steps p.tables e below (T37.setTop (mkF m 34 #[.val (.int p1), .val (.int (6 : Int32)), .val (.ref (A 6)), .val (.int (0 : Int32))] [(.int (1 : Int32))])) _
      refine XS.goto X37.here hx rfl (pc0 := 34) (pc' := 38) rfl (hb hby at_34) (by decide) (by decide) ?_
      show Steps p.tables e below (T37.setTop (mkF m 38 #[.val (.int p1), .val (.int (6 : Int32)), .val (.ref (A 6)), .val (.int (0 : Int32))] [(.int (1 : Int32))])) _
      exact retN X37 hx (t := .boolean) Bd.returns (by simp) (hb hby at_38) hr
    · show LQ n0 _ T37.heap _
      exact ⟨rfl, N37, trivial⟩
  | 7, _, hk2 =>
    obtain ⟨_, _, ⟨T39, L39, k39, n39⟩, -, X39, ⟨Lc39, hQ39, l39, y39, z39⟩, st39⟩ := Jvm.LawKit.callS X0 hx (y := own_m1) hown (mvT hZ (hw _ (List.mem_of_getElem? (i := 1) rfl))) (mvT hZ (hw _ (List.mem_of_getElem? (i := 2) rfl))) (mvT hZ (hw _ (List.mem_of_getElem? (i := 3) rfl))) (mvT hZ (hw _ (List.mem_of_getElem? (i := 4) rfl))) (by decide) (backOf (W := 0) (rm15 l Z a0 hw [] h0 n0 p1 A K EN OL0) hZ (hw _ (List.mem_of_getElem? (i := 4) rfl)) (hw _ (List.mem_of_getElem? (i := 3) rfl)) (by decide) (by decide)) (g := (mkF m 9 #[.val (.int p1), .val (.int (7 : Int32)), .unset, .unset] [(.int (7 : Int32))])) rfl (by rw [hml]; rfl) (argsL := [(.int (7 : Int32))]) (rest := []) (lenOf own_pd0 rfl) rfl (by show 2 * 0 + _ ≤ _; exact Nat.le_of_eq rfl) (hb hby at_9) (fun _ _ => ⟨rfl, e0, (by decide : 0 + 0 ≤ _), (by decide : 0 + 0 ≤ _)⟩)
    dsimp only [Pt.U, Pt.locs, Pt.cells, Pt.slots] at X39 l39 y39 z39 st39 hQ39
    subst l39 y39 z39
    obtain ⟨rfl, N39q, e39⟩ := hQ39
    have N39 := Fr.app N0 N39q
    obtain ⟨cq42, kq42, q42a, q42b, q42c⟩ := isOf hZ e39 (EN.2.1.2.2.2.2.2.2.2.1.ext OL0.2)
    obtain ⟨_, _, ⟨T42, L42, k42, n42⟩, -, X42, ⟨Lc42, hQ42, l42, y42, z42⟩, st42⟩ := X39.virtualBack hx (y := own_m0) (z := own_m0) hown (mvT hZ (hw _ (List.mem_of_getElem? (i := 8) rfl))) (mvT hZ (hw _ (List.mem_of_getElem? (i := 9) rfl))) (notFace_of_selects (args := #[]) (mvT hZ (hw _ (List.mem_of_getElem? (i := 11) rfl)))) (mvT hZ (hw _ (List.mem_of_getElem? (i := 11) rfl))) (mvT hZ (hw _ (List.mem_of_getElem? (i := 10) rfl))) (by decide) (backOf (W := 0) (rm16 l Z a0 hw [] h0 n0 p1 A K EN OL0) hZ (hw _ (List.mem_of_getElem? (i := 12) rfl)) (hw _ (List.mem_of_getElem? (i := 6) rfl)) (by decide) (by decide)) q42a q42c (g := (mkF m 26 #[.val (.int p1), .val (.int (7 : Int32)), .val (.ref (A 7)), .val (.int (0 : Int32))] [(.ref (A 7))])) rfl (by rw [hml]; rfl) (Steps.refl _) (argsL := []) (rest := []) (lenOf own_pd1 rfl) rfl (by show 2 * 0 + _ ≤ _; exact Nat.le_of_eq rfl) (hb hby at_26) (fun _ _ => ⟨rfl, e39, (by decide : 0 + 0 ≤ _), (by decide : 0 + 0 ≤ _)⟩)
    dsimp only [Pt.U, Pt.locs, Pt.cells, Pt.slots] at X42 l42 y42 z42 st42 hQ42
    subst l42 y42 z42
    obtain ⟨rfl, N42q, e42⟩ := hQ42
    have N42 := Fr.app N39 N42q
    obtain ⟨fs, hr, hrun, hended, hW, hsame⟩ := X42.leave (v := some (.int (1 : Int32))) (fun h => by rw [Bd.returns] at h; cases h)
    refine ⟨_, _, pre1 _ ?_, hrun, hended, _, _, rfl, ?_, ⟨_, rfl⟩, hW, hsame.mono (by decide) (by decide)⟩
    · show Steps p.tables e below (s₁.setTop (mkF m 7 #[.val (.int p1), .unset, .unset, .unset] [(.int ((p1 &&& (2147483647 : Int32)) % (28 : Int32)))])) _
      rw [hk2]
      show Steps p.tables e below (s₁.setTop (mkF m 7 #[.val (.int p1), .unset, .unset, .unset] [(.int (7 : Int32))])) _
      refine XS.istoreN X0.here hx rfl (hb hby at_7) rfl (l' := #[.val (.int p1), .val (.int (7 : Int32)), .unset, .unset]) rfl ?_
      show Steps p.tables e below (s₁.setTop (mkF m 8 #[.val (.int p1), .val (.int (7 : Int32)), .unset, .unset] [])) _
      refine XS.iloadN X0.here hx rfl (hb hby at_8) rfl ?_
      show Steps p.tables e below (s₁.setTop (mkF m 9 #[.val (.int p1), .val (.int (7 : Int32)), .unset, .unset] [(.int (7 : Int32))])) _
      refine st39 _ ?_
      show Steps p.tables e below (T39.setTop (mkF m 12 #[.val (.int p1), .val (.int (7 : Int32)), .unset, .unset] [(.ref (A 7))])) _
      refine XS.astoreN X39.here hx rfl (hb hby at_12) rfl rfl (l' := #[.val (.int p1), .val (.int (7 : Int32)), .val (.ref (A 7)), .unset]) rfl ?_
      show Steps p.tables e below (T39.setTop (mkF m 13 #[.val (.int p1), .val (.int (7 : Int32)), .val (.ref (A 7)), .unset] [])) _
      refine XS.iloadN X39.here hx rfl (hb hby at_13) rfl ?_
      show Steps p.tables e below (T39.setTop (mkF m 14 #[.val (.int p1), .val (.int (7 : Int32)), .val (.ref (A 7)), .unset] [(.int (7 : Int32))])) _
      refine XS.bipush X39.here hx rfl (hb hby at_14) ?_
      show Steps p.tables e below (T39.setTop (mkF m 16 #[.val (.int p1), .val (.int (7 : Int32)), .val (.ref (A 7)), .unset] [(.int (26 : Int32)), (.int (7 : Int32))])) _
      refine XS.icmpYes X39.here hx rfl (pc0 := 16) (pc' := 23) rfl (hb hby at_16) rfl (tlt (by decide : (7 : Int32) < (26 : Int32))).1 (by decide) (by decide) ?_
      show Steps p.tables e below (T39.setTop (mkF m 23 #[.val (.int p1), .val (.int (7 : Int32)), .val (.ref (A 7)), .unset] [])) _
      refine XS.iconst X39.here hx rfl (hb hby at_23) ?_
      show Steps p.tables e below (T39.setTop (mkF m 24 #[.val (.int p1), .val (.int (7 : Int32)), .val (.ref (A 7)), .unset] [(.int (0 : Int32))])) _
      refine XS.istoreN X39.here hx rfl (hb hby at_24) rfl (l' := #[.val (.int p1), .val (.int (7 : Int32)), .val (.ref (A 7)), .val (.int (0 : Int32))]) rfl ?_
      show Steps p.tables e below (T39.setTop (mkF m 25 #[.val (.int p1), .val (.int (7 : Int32)), .val (.ref (A 7)), .val (.int (0 : Int32))] [])) _
      refine XS.aloadN X39.here hx rfl (hb hby at_25) rfl rfl ?_
      show Steps p.tables e below (T39.setTop (mkF m 26 #[.val (.int p1), .val (.int (7 : Int32)), .val (.ref (A 7)), .val (.int (0 : Int32))] [(.ref (A 7))])) _
      refine st42.trans ?_
      show Steps p.tables e below (T42.setTop (mkF m 29 #[.val (.int p1), .val (.int (7 : Int32)), .val (.ref (A 7)), .val (.int (0 : Int32))] [(.int (0 : Int32))])) _
      refine XS.iloadN X42.here hx rfl (hb hby at_29) rfl ?_
      show Steps p.tables e below (T42.setTop (mkF m 30 #[.val (.int p1), .val (.int (7 : Int32)), .val (.ref (A 7)), .val (.int (0 : Int32))] [(.int (0 : Int32)), (.int (0 : Int32))])) _
      refine XS.icmpNo X42.here hx rfl (hb hby at_30) rfl (teq (by decide : (0 : Int32) = (0 : Int32))).2 ?_
      show Steps p.tables e below (T42.setTop (mkF m 33 #[.val (.int p1), .val (.int (7 : Int32)), .val (.ref (A 7)), .val (.int (0 : Int32))] [])) _
      refine XS.iconst X42.here hx rfl (hb hby at_33) ?_
      show Steps p.tables e below (T42.setTop (mkF m 34 #[.val (.int p1), .val (.int (7 : Int32)), .val (.ref (A 7)), .val (.int (0 : Int32))] [(.int (1 : Int32))])) _
      refine XS.goto X42.here hx rfl (pc0 := 34) (pc' := 38) rfl (hb hby at_34) (by decide) (by decide) ?_
      show Steps p.tables e below (T42.setTop (mkF m 38 #[.val (.int p1), .val (.int (7 : Int32)), .val (.ref (A 7)), .val (.int (0 : Int32))] [(.int (1 : Int32))])) _
      exact retN X42 hx (t := .boolean) Bd.returns (by simp) (hb hby at_38) hr
    · show LQ n0 _ T42.heap _
      exact ⟨rfl, N42, trivial⟩
  | 8, _, hk2 =>
    obtain ⟨_, _, ⟨T44, L44, k44, n44⟩, -, X44, ⟨Lc44, hQ44, l44, y44, z44⟩, st44⟩ := Jvm.LawKit.callS X0 hx (y := own_m1) hown (mvT hZ (hw _ (List.mem_of_getElem? (i := 1) rfl))) (mvT hZ (hw _ (List.mem_of_getElem? (i := 2) rfl))) (mvT hZ (hw _ (List.mem_of_getElem? (i := 3) rfl))) (mvT hZ (hw _ (List.mem_of_getElem? (i := 4) rfl))) (by decide) (backOf (W := 0) (rm17 l Z a0 hw [] h0 n0 p1 A K EN OL0) hZ (hw _ (List.mem_of_getElem? (i := 4) rfl)) (hw _ (List.mem_of_getElem? (i := 3) rfl)) (by decide) (by decide)) (g := (mkF m 9 #[.val (.int p1), .val (.int (8 : Int32)), .unset, .unset] [(.int (8 : Int32))])) rfl (by rw [hml]; rfl) (argsL := [(.int (8 : Int32))]) (rest := []) (lenOf own_pd0 rfl) rfl (by show 2 * 0 + _ ≤ _; exact Nat.le_of_eq rfl) (hb hby at_9) (fun _ _ => ⟨rfl, e0, (by decide : 0 + 0 ≤ _), (by decide : 0 + 0 ≤ _)⟩)
    dsimp only [Pt.U, Pt.locs, Pt.cells, Pt.slots] at X44 l44 y44 z44 st44 hQ44
    subst l44 y44 z44
    obtain ⟨rfl, N44q, e44⟩ := hQ44
    have N44 := Fr.app N0 N44q
    obtain ⟨cq47, kq47, q47a, q47b, q47c⟩ := isOf hZ e44 (EN.2.2.1.2.1.ext OL0.2)
    obtain ⟨_, _, ⟨T47, L47, k47, n47⟩, -, X47, ⟨Lc47, hQ47, l47, y47, z47⟩, st47⟩ := X44.virtualBack hx (y := own_m0) (z := own_m0) hown (mvT hZ (hw _ (List.mem_of_getElem? (i := 8) rfl))) (mvT hZ (hw _ (List.mem_of_getElem? (i := 9) rfl))) (notFace_of_selects (args := #[]) (mvT hZ (hw _ (List.mem_of_getElem? (i := 11) rfl)))) (mvT hZ (hw _ (List.mem_of_getElem? (i := 11) rfl))) (mvT hZ (hw _ (List.mem_of_getElem? (i := 10) rfl))) (by decide) (backOf (W := 0) (rm18 l Z a0 hw [] h0 n0 p1 A K EN OL0) hZ (hw _ (List.mem_of_getElem? (i := 12) rfl)) (hw _ (List.mem_of_getElem? (i := 6) rfl)) (by decide) (by decide)) q47a q47c (g := (mkF m 26 #[.val (.int p1), .val (.int (8 : Int32)), .val (.ref (A 8)), .val (.int (0 : Int32))] [(.ref (A 8))])) rfl (by rw [hml]; rfl) (Steps.refl _) (argsL := []) (rest := []) (lenOf own_pd1 rfl) rfl (by show 2 * 0 + _ ≤ _; exact Nat.le_of_eq rfl) (hb hby at_26) (fun _ _ => ⟨rfl, e44, (by decide : 0 + 0 ≤ _), (by decide : 0 + 0 ≤ _)⟩)
    dsimp only [Pt.U, Pt.locs, Pt.cells, Pt.slots] at X47 l47 y47 z47 st47 hQ47
    subst l47 y47 z47
    obtain ⟨rfl, N47q, e47⟩ := hQ47
    have N47 := Fr.app N44 N47q
    obtain ⟨fs, hr, hrun, hended, hW, hsame⟩ := X47.leave (v := some (.int (1 : Int32))) (fun h => by rw [Bd.returns] at h; cases h)
    refine ⟨_, _, pre1 _ ?_, hrun, hended, _, _, rfl, ?_, ⟨_, rfl⟩, hW, hsame.mono (by decide) (by decide)⟩
    · show Steps p.tables e below (s₁.setTop (mkF m 7 #[.val (.int p1), .unset, .unset, .unset] [(.int ((p1 &&& (2147483647 : Int32)) % (28 : Int32)))])) _
      rw [hk2]
      show Steps p.tables e below (s₁.setTop (mkF m 7 #[.val (.int p1), .unset, .unset, .unset] [(.int (8 : Int32))])) _
      refine XS.istoreN X0.here hx rfl (hb hby at_7) rfl (l' := #[.val (.int p1), .val (.int (8 : Int32)), .unset, .unset]) rfl ?_
      show Steps p.tables e below (s₁.setTop (mkF m 8 #[.val (.int p1), .val (.int (8 : Int32)), .unset, .unset] [])) _
      refine XS.iloadN X0.here hx rfl (hb hby at_8) rfl ?_
      show Steps p.tables e below (s₁.setTop (mkF m 9 #[.val (.int p1), .val (.int (8 : Int32)), .unset, .unset] [(.int (8 : Int32))])) _
      refine st44 _ ?_
      show Steps p.tables e below (T44.setTop (mkF m 12 #[.val (.int p1), .val (.int (8 : Int32)), .unset, .unset] [(.ref (A 8))])) _
      refine XS.astoreN X44.here hx rfl (hb hby at_12) rfl rfl (l' := #[.val (.int p1), .val (.int (8 : Int32)), .val (.ref (A 8)), .unset]) rfl ?_
      show Steps p.tables e below (T44.setTop (mkF m 13 #[.val (.int p1), .val (.int (8 : Int32)), .val (.ref (A 8)), .unset] [])) _
      refine XS.iloadN X44.here hx rfl (hb hby at_13) rfl ?_
      show Steps p.tables e below (T44.setTop (mkF m 14 #[.val (.int p1), .val (.int (8 : Int32)), .val (.ref (A 8)), .unset] [(.int (8 : Int32))])) _
      refine XS.bipush X44.here hx rfl (hb hby at_14) ?_
      show Steps p.tables e below (T44.setTop (mkF m 16 #[.val (.int p1), .val (.int (8 : Int32)), .val (.ref (A 8)), .unset] [(.int (26 : Int32)), (.int (8 : Int32))])) _
      refine XS.icmpYes X44.here hx rfl (pc0 := 16) (pc' := 23) rfl (hb hby at_16) rfl (tlt (by decide : (8 : Int32) < (26 : Int32))).1 (by decide) (by decide) ?_
      show Steps p.tables e below (T44.setTop (mkF m 23 #[.val (.int p1), .val (.int (8 : Int32)), .val (.ref (A 8)), .unset] [])) _
      refine XS.iconst X44.here hx rfl (hb hby at_23) ?_
      show Steps p.tables e below (T44.setTop (mkF m 24 #[.val (.int p1), .val (.int (8 : Int32)), .val (.ref (A 8)), .unset] [(.int (0 : Int32))])) _
      refine XS.istoreN X44.here hx rfl (hb hby at_24) rfl (l' := #[.val (.int p1), .val (.int (8 : Int32)), .val (.ref (A 8)), .val (.int (0 : Int32))]) rfl ?_
      show Steps p.tables e below (T44.setTop (mkF m 25 #[.val (.int p1), .val (.int (8 : Int32)), .val (.ref (A 8)), .val (.int (0 : Int32))] [])) _
      refine XS.aloadN X44.here hx rfl (hb hby at_25) rfl rfl ?_
      show Steps p.tables e below (T44.setTop (mkF m 26 #[.val (.int p1), .val (.int (8 : Int32)), .val (.ref (A 8)), .val (.int (0 : Int32))] [(.ref (A 8))])) _
      refine st47.trans ?_
      show Steps p.tables e below (T47.setTop (mkF m 29 #[.val (.int p1), .val (.int (8 : Int32)), .val (.ref (A 8)), .val (.int (0 : Int32))] [(.int (0 : Int32))])) _
      refine XS.iloadN X47.here hx rfl (hb hby at_29) rfl ?_
      show Steps p.tables e below (T47.setTop (mkF m 30 #[.val (.int p1), .val (.int (8 : Int32)), .val (.ref (A 8)), .val (.int (0 : Int32))] [(.int (0 : Int32)), (.int (0 : Int32))])) _
      refine XS.icmpNo X47.here hx rfl (hb hby at_30) rfl (teq (by decide : (0 : Int32) = (0 : Int32))).2 ?_
      show Steps p.tables e below (T47.setTop (mkF m 33 #[.val (.int p1), .val (.int (8 : Int32)), .val (.ref (A 8)), .val (.int (0 : Int32))] [])) _
      refine XS.iconst X47.here hx rfl (hb hby at_33) ?_
      show Steps p.tables e below (T47.setTop (mkF m 34 #[.val (.int p1), .val (.int (8 : Int32)), .val (.ref (A 8)), .val (.int (0 : Int32))] [(.int (1 : Int32))])) _
      refine XS.goto X47.here hx rfl (pc0 := 34) (pc' := 38) rfl (hb hby at_34) (by decide) (by decide) ?_
      show Steps p.tables e below (T47.setTop (mkF m 38 #[.val (.int p1), .val (.int (8 : Int32)), .val (.ref (A 8)), .val (.int (0 : Int32))] [(.int (1 : Int32))])) _
      exact retN X47 hx (t := .boolean) Bd.returns (by simp) (hb hby at_38) hr
    · show LQ n0 _ T47.heap _
      exact ⟨rfl, N47, trivial⟩
  | 9, _, hk2 =>
    obtain ⟨_, _, ⟨T49, L49, k49, n49⟩, -, X49, ⟨Lc49, hQ49, l49, y49, z49⟩, st49⟩ := Jvm.LawKit.callS X0 hx (y := own_m1) hown (mvT hZ (hw _ (List.mem_of_getElem? (i := 1) rfl))) (mvT hZ (hw _ (List.mem_of_getElem? (i := 2) rfl))) (mvT hZ (hw _ (List.mem_of_getElem? (i := 3) rfl))) (mvT hZ (hw _ (List.mem_of_getElem? (i := 4) rfl))) (by decide) (backOf (W := 0) (rm19 l Z a0 hw [] h0 n0 p1 A K EN OL0) hZ (hw _ (List.mem_of_getElem? (i := 4) rfl)) (hw _ (List.mem_of_getElem? (i := 3) rfl)) (by decide) (by decide)) (g := (mkF m 9 #[.val (.int p1), .val (.int (9 : Int32)), .unset, .unset] [(.int (9 : Int32))])) rfl (by rw [hml]; rfl) (argsL := [(.int (9 : Int32))]) (rest := []) (lenOf own_pd0 rfl) rfl (by show 2 * 0 + _ ≤ _; exact Nat.le_of_eq rfl) (hb hby at_9) (fun _ _ => ⟨rfl, e0, (by decide : 0 + 0 ≤ _), (by decide : 0 + 0 ≤ _)⟩)
    dsimp only [Pt.U, Pt.locs, Pt.cells, Pt.slots] at X49 l49 y49 z49 st49 hQ49
    subst l49 y49 z49
    obtain ⟨rfl, N49q, e49⟩ := hQ49
    have N49 := Fr.app N0 N49q
    obtain ⟨cq52, kq52, q52a, q52b, q52c⟩ := isOf hZ e49 (EN.2.2.1.2.2.2.1.ext OL0.2)
    obtain ⟨_, _, ⟨T52, L52, k52, n52⟩, -, X52, ⟨Lc52, hQ52, l52, y52, z52⟩, st52⟩ := X49.virtualBack hx (y := own_m0) (z := own_m0) hown (mvT hZ (hw _ (List.mem_of_getElem? (i := 8) rfl))) (mvT hZ (hw _ (List.mem_of_getElem? (i := 9) rfl))) (notFace_of_selects (args := #[]) (mvT hZ (hw _ (List.mem_of_getElem? (i := 11) rfl)))) (mvT hZ (hw _ (List.mem_of_getElem? (i := 11) rfl))) (mvT hZ (hw _ (List.mem_of_getElem? (i := 10) rfl))) (by decide) (backOf (W := 0) (rm20 l Z a0 hw [] h0 n0 p1 A K EN OL0) hZ (hw _ (List.mem_of_getElem? (i := 12) rfl)) (hw _ (List.mem_of_getElem? (i := 6) rfl)) (by decide) (by decide)) q52a q52c (g := (mkF m 26 #[.val (.int p1), .val (.int (9 : Int32)), .val (.ref (A 9)), .val (.int (0 : Int32))] [(.ref (A 9))])) rfl (by rw [hml]; rfl) (Steps.refl _) (argsL := []) (rest := []) (lenOf own_pd1 rfl) rfl (by show 2 * 0 + _ ≤ _; exact Nat.le_of_eq rfl) (hb hby at_26) (fun _ _ => ⟨rfl, e49, (by decide : 0 + 0 ≤ _), (by decide : 0 + 0 ≤ _)⟩)
    dsimp only [Pt.U, Pt.locs, Pt.cells, Pt.slots] at X52 l52 y52 z52 st52 hQ52
    subst l52 y52 z52
    obtain ⟨rfl, N52q, e52⟩ := hQ52
    have N52 := Fr.app N49 N52q
    obtain ⟨fs, hr, hrun, hended, hW, hsame⟩ := X52.leave (v := some (.int (1 : Int32))) (fun h => by rw [Bd.returns] at h; cases h)
    refine ⟨_, _, pre1 _ ?_, hrun, hended, _, _, rfl, ?_, ⟨_, rfl⟩, hW, hsame.mono (by decide) (by decide)⟩
    · show Steps p.tables e below (s₁.setTop (mkF m 7 #[.val (.int p1), .unset, .unset, .unset] [(.int ((p1 &&& (2147483647 : Int32)) % (28 : Int32)))])) _
      rw [hk2]
      show Steps p.tables e below (s₁.setTop (mkF m 7 #[.val (.int p1), .unset, .unset, .unset] [(.int (9 : Int32))])) _
      refine XS.istoreN X0.here hx rfl (hb hby at_7) rfl (l' := #[.val (.int p1), .val (.int (9 : Int32)), .unset, .unset]) rfl ?_
      show Steps p.tables e below (s₁.setTop (mkF m 8 #[.val (.int p1), .val (.int (9 : Int32)), .unset, .unset] [])) _
      refine XS.iloadN X0.here hx rfl (hb hby at_8) rfl ?_
      show Steps p.tables e below (s₁.setTop (mkF m 9 #[.val (.int p1), .val (.int (9 : Int32)), .unset, .unset] [(.int (9 : Int32))])) _
      refine st49 _ ?_
      show Steps p.tables e below (T49.setTop (mkF m 12 #[.val (.int p1), .val (.int (9 : Int32)), .unset, .unset] [(.ref (A 9))])) _
      refine XS.astoreN X49.here hx rfl (hb hby at_12) rfl rfl (l' := #[.val (.int p1), .val (.int (9 : Int32)), .val (.ref (A 9)), .unset]) rfl ?_
      show Steps p.tables e below (T49.setTop (mkF m 13 #[.val (.int p1), .val (.int (9 : Int32)), .val (.ref (A 9)), .unset] [])) _
      refine XS.iloadN X49.here hx rfl (hb hby at_13) rfl ?_
      show Steps p.tables e below (T49.setTop (mkF m 14 #[.val (.int p1), .val (.int (9 : Int32)), .val (.ref (A 9)), .unset] [(.int (9 : Int32))])) _
      refine XS.bipush X49.here hx rfl (hb hby at_14) ?_
      show Steps p.tables e below (T49.setTop (mkF m 16 #[.val (.int p1), .val (.int (9 : Int32)), .val (.ref (A 9)), .unset] [(.int (26 : Int32)), (.int (9 : Int32))])) _
      refine XS.icmpYes X49.here hx rfl (pc0 := 16) (pc' := 23) rfl (hb hby at_16) rfl (tlt (by decide : (9 : Int32) < (26 : Int32))).1 (by decide) (by decide) ?_
      show Steps p.tables e below (T49.setTop (mkF m 23 #[.val (.int p1), .val (.int (9 : Int32)), .val (.ref (A 9)), .unset] [])) _
      refine XS.iconst X49.here hx rfl (hb hby at_23) ?_
      show Steps p.tables e below (T49.setTop (mkF m 24 #[.val (.int p1), .val (.int (9 : Int32)), .val (.ref (A 9)), .unset] [(.int (0 : Int32))])) _
      refine XS.istoreN X49.here hx rfl (hb hby at_24) rfl (l' := #[.val (.int p1), .val (.int (9 : Int32)), .val (.ref (A 9)), .val (.int (0 : Int32))]) rfl ?_
      show Steps p.tables e below (T49.setTop (mkF m 25 #[.val (.int p1), .val (.int (9 : Int32)), .val (.ref (A 9)), .val (.int (0 : Int32))] [])) _
      refine XS.aloadN X49.here hx rfl (hb hby at_25) rfl rfl ?_
      show Steps p.tables e below (T49.setTop (mkF m 26 #[.val (.int p1), .val (.int (9 : Int32)), .val (.ref (A 9)), .val (.int (0 : Int32))] [(.ref (A 9))])) _
      refine st52.trans ?_
      show Steps p.tables e below (T52.setTop (mkF m 29 #[.val (.int p1), .val (.int (9 : Int32)), .val (.ref (A 9)), .val (.int (0 : Int32))] [(.int (0 : Int32))])) _
      refine XS.iloadN X52.here hx rfl (hb hby at_29) rfl ?_
      show Steps p.tables e below (T52.setTop (mkF m 30 #[.val (.int p1), .val (.int (9 : Int32)), .val (.ref (A 9)), .val (.int (0 : Int32))] [(.int (0 : Int32)), (.int (0 : Int32))])) _
      refine XS.icmpNo X52.here hx rfl (hb hby at_30) rfl (teq (by decide : (0 : Int32) = (0 : Int32))).2 ?_
      show Steps p.tables e below (T52.setTop (mkF m 33 #[.val (.int p1), .val (.int (9 : Int32)), .val (.ref (A 9)), .val (.int (0 : Int32))] [])) _
      refine XS.iconst X52.here hx rfl (hb hby at_33) ?_
      show Steps p.tables e below (T52.setTop (mkF m 34 #[.val (.int p1), .val (.int (9 : Int32)), .val (.ref (A 9)), .val (.int (0 : Int32))] [(.int (1 : Int32))])) _
      refine XS.goto X52.here hx rfl (pc0 := 34) (pc' := 38) rfl (hb hby at_34) (by decide) (by decide) ?_
      show Steps p.tables e below (T52.setTop (mkF m 38 #[.val (.int p1), .val (.int (9 : Int32)), .val (.ref (A 9)), .val (.int (0 : Int32))] [(.int (1 : Int32))])) _
      exact retN X52 hx (t := .boolean) Bd.returns (by simp) (hb hby at_38) hr
    · show LQ n0 _ T52.heap _
      exact ⟨rfl, N52, trivial⟩
  | 10, _, hk2 =>
    obtain ⟨_, _, ⟨T54, L54, k54, n54⟩, -, X54, ⟨Lc54, hQ54, l54, y54, z54⟩, st54⟩ := Jvm.LawKit.callS X0 hx (y := own_m1) hown (mvT hZ (hw _ (List.mem_of_getElem? (i := 1) rfl))) (mvT hZ (hw _ (List.mem_of_getElem? (i := 2) rfl))) (mvT hZ (hw _ (List.mem_of_getElem? (i := 3) rfl))) (mvT hZ (hw _ (List.mem_of_getElem? (i := 4) rfl))) (by decide) (backOf (W := 0) (rm21 l Z a0 hw [] h0 n0 p1 A K EN OL0) hZ (hw _ (List.mem_of_getElem? (i := 4) rfl)) (hw _ (List.mem_of_getElem? (i := 3) rfl)) (by decide) (by decide)) (g := (mkF m 9 #[.val (.int p1), .val (.int (10 : Int32)), .unset, .unset] [(.int (10 : Int32))])) rfl (by rw [hml]; rfl) (argsL := [(.int (10 : Int32))]) (rest := []) (lenOf own_pd0 rfl) rfl (by show 2 * 0 + _ ≤ _; exact Nat.le_of_eq rfl) (hb hby at_9) (fun _ _ => ⟨rfl, e0, (by decide : 0 + 0 ≤ _), (by decide : 0 + 0 ≤ _)⟩)
    dsimp only [Pt.U, Pt.locs, Pt.cells, Pt.slots] at X54 l54 y54 z54 st54 hQ54
    subst l54 y54 z54
    obtain ⟨rfl, N54q, e54⟩ := hQ54
    have N54 := Fr.app N0 N54q
    obtain ⟨cq57, kq57, q57a, q57b, q57c⟩ := isOf hZ e54 (EN.2.2.1.2.2.2.2.2.1.ext OL0.2)
    obtain ⟨_, _, ⟨T57, L57, k57, n57⟩, -, X57, ⟨Lc57, hQ57, l57, y57, z57⟩, st57⟩ := X54.virtualBack hx (y := own_m0) (z := own_m0) hown (mvT hZ (hw _ (List.mem_of_getElem? (i := 8) rfl))) (mvT hZ (hw _ (List.mem_of_getElem? (i := 9) rfl))) (notFace_of_selects (args := #[]) (mvT hZ (hw _ (List.mem_of_getElem? (i := 11) rfl)))) (mvT hZ (hw _ (List.mem_of_getElem? (i := 11) rfl))) (mvT hZ (hw _ (List.mem_of_getElem? (i := 10) rfl))) (by decide) (backOf (W := 0) (rm22 l Z a0 hw [] h0 n0 p1 A K EN OL0) hZ (hw _ (List.mem_of_getElem? (i := 12) rfl)) (hw _ (List.mem_of_getElem? (i := 6) rfl)) (by decide) (by decide)) q57a q57c (g := (mkF m 26 #[.val (.int p1), .val (.int (10 : Int32)), .val (.ref (A 10)), .val (.int (0 : Int32))] [(.ref (A 10))])) rfl (by rw [hml]; rfl) (Steps.refl _) (argsL := []) (rest := []) (lenOf own_pd1 rfl) rfl (by show 2 * 0 + _ ≤ _; exact Nat.le_of_eq rfl) (hb hby at_26) (fun _ _ => ⟨rfl, e54, (by decide : 0 + 0 ≤ _), (by decide : 0 + 0 ≤ _)⟩)
    dsimp only [Pt.U, Pt.locs, Pt.cells, Pt.slots] at X57 l57 y57 z57 st57 hQ57
    subst l57 y57 z57
    obtain ⟨rfl, N57q, e57⟩ := hQ57
    have N57 := Fr.app N54 N57q
    obtain ⟨fs, hr, hrun, hended, hW, hsame⟩ := X57.leave (v := some (.int (1 : Int32))) (fun h => by rw [Bd.returns] at h; cases h)
    refine ⟨_, _, pre1 _ ?_, hrun, hended, _, _, rfl, ?_, ⟨_, rfl⟩, hW, hsame.mono (by decide) (by decide)⟩
    · show Steps p.tables e below (s₁.setTop (mkF m 7 #[.val (.int p1), .unset, .unset, .unset] [(.int ((p1 &&& (2147483647 : Int32)) % (28 : Int32)))])) _
      rw [hk2]
      show Steps p.tables e below (s₁.setTop (mkF m 7 #[.val (.int p1), .unset, .unset, .unset] [(.int (10 : Int32))])) _
      refine XS.istoreN X0.here hx rfl (hb hby at_7) rfl (l' := #[.val (.int p1), .val (.int (10 : Int32)), .unset, .unset]) rfl ?_
      show Steps p.tables e below (s₁.setTop (mkF m 8 #[.val (.int p1), .val (.int (10 : Int32)), .unset, .unset] [])) _
      refine XS.iloadN X0.here hx rfl (hb hby at_8) rfl ?_
      show Steps p.tables e below (s₁.setTop (mkF m 9 #[.val (.int p1), .val (.int (10 : Int32)), .unset, .unset] [(.int (10 : Int32))])) _
      refine st54 _ ?_
      show Steps p.tables e below (T54.setTop (mkF m 12 #[.val (.int p1), .val (.int (10 : Int32)), .unset, .unset] [(.ref (A 10))])) _
      refine XS.astoreN X54.here hx rfl (hb hby at_12) rfl rfl (l' := #[.val (.int p1), .val (.int (10 : Int32)), .val (.ref (A 10)), .unset]) rfl ?_
      show Steps p.tables e below (T54.setTop (mkF m 13 #[.val (.int p1), .val (.int (10 : Int32)), .val (.ref (A 10)), .unset] [])) _
      refine XS.iloadN X54.here hx rfl (hb hby at_13) rfl ?_
      show Steps p.tables e below (T54.setTop (mkF m 14 #[.val (.int p1), .val (.int (10 : Int32)), .val (.ref (A 10)), .unset] [(.int (10 : Int32))])) _
      refine XS.bipush X54.here hx rfl (hb hby at_14) ?_
      show Steps p.tables e below (T54.setTop (mkF m 16 #[.val (.int p1), .val (.int (10 : Int32)), .val (.ref (A 10)), .unset] [(.int (26 : Int32)), (.int (10 : Int32))])) _
      refine XS.icmpYes X54.here hx rfl (pc0 := 16) (pc' := 23) rfl (hb hby at_16) rfl (tlt (by decide : (10 : Int32) < (26 : Int32))).1 (by decide) (by decide) ?_
      show Steps p.tables e below (T54.setTop (mkF m 23 #[.val (.int p1), .val (.int (10 : Int32)), .val (.ref (A 10)), .unset] [])) _
      refine XS.iconst X54.here hx rfl (hb hby at_23) ?_
      show Steps p.tables e below (T54.setTop (mkF m 24 #[.val (.int p1), .val (.int (10 : Int32)), .val (.ref (A 10)), .unset] [(.int (0 : Int32))])) _
      refine XS.istoreN X54.here hx rfl (hb hby at_24) rfl (l' := #[.val (.int p1), .val (.int (10 : Int32)), .val (.ref (A 10)), .val (.int (0 : Int32))]) rfl ?_
      show Steps p.tables e below (T54.setTop (mkF m 25 #[.val (.int p1), .val (.int (10 : Int32)), .val (.ref (A 10)), .val (.int (0 : Int32))] [])) _
      refine XS.aloadN X54.here hx rfl (hb hby at_25) rfl rfl ?_
      show Steps p.tables e below (T54.setTop (mkF m 26 #[.val (.int p1), .val (.int (10 : Int32)), .val (.ref (A 10)), .val (.int (0 : Int32))] [(.ref (A 10))])) _
      refine st57.trans ?_
      show Steps p.tables e below (T57.setTop (mkF m 29 #[.val (.int p1), .val (.int (10 : Int32)), .val (.ref (A 10)), .val (.int (0 : Int32))] [(.int (0 : Int32))])) _
      refine XS.iloadN X57.here hx rfl (hb hby at_29) rfl ?_
      show Steps p.tables e below (T57.setTop (mkF m 30 #[.val (.int p1), .val (.int (10 : Int32)), .val (.ref (A 10)), .val (.int (0 : Int32))] [(.int (0 : Int32)), (.int (0 : Int32))])) _
      refine XS.icmpNo X57.here hx rfl (hb hby at_30) rfl (teq (by decide : (0 : Int32) = (0 : Int32))).2 ?_
      show Steps p.tables e below (T57.setTop (mkF m 33 #[.val (.int p1), .val (.int (10 : Int32)), .val (.ref (A 10)), .val (.int (0 : Int32))] [])) _
      refine XS.iconst X57.here hx rfl (hb hby at_33) ?_
      show Steps p.tables e below (T57.setTop (mkF m 34 #[.val (.int p1), .val (.int (10 : Int32)), .val (.ref (A 10)), .val (.int (0 : Int32))] [(.int (1 : Int32))])) _
      refine XS.goto X57.here hx rfl (pc0 := 34) (pc' := 38) rfl (hb hby at_34) (by decide) (by decide) ?_
      show Steps p.tables e below (T57.setTop (mkF m 38 #[.val (.int p1), .val (.int (10 : Int32)), .val (.ref (A 10)), .val (.int (0 : Int32))] [(.int (1 : Int32))])) _
      exact retN X57 hx (t := .boolean) Bd.returns (by simp) (hb hby at_38) hr
    · show LQ n0 _ T57.heap _
      exact ⟨rfl, N57, trivial⟩
  | 11, _, hk2 =>
    obtain ⟨_, _, ⟨T59, L59, k59, n59⟩, -, X59, ⟨Lc59, hQ59, l59, y59, z59⟩, st59⟩ := Jvm.LawKit.callS X0 hx (y := own_m1) hown (mvT hZ (hw _ (List.mem_of_getElem? (i := 1) rfl))) (mvT hZ (hw _ (List.mem_of_getElem? (i := 2) rfl))) (mvT hZ (hw _ (List.mem_of_getElem? (i := 3) rfl))) (mvT hZ (hw _ (List.mem_of_getElem? (i := 4) rfl))) (by decide) (backOf (W := 0) (rm23 l Z a0 hw [] h0 n0 p1 A K EN OL0) hZ (hw _ (List.mem_of_getElem? (i := 4) rfl)) (hw _ (List.mem_of_getElem? (i := 3) rfl)) (by decide) (by decide)) (g := (mkF m 9 #[.val (.int p1), .val (.int (11 : Int32)), .unset, .unset] [(.int (11 : Int32))])) rfl (by rw [hml]; rfl) (argsL := [(.int (11 : Int32))]) (rest := []) (lenOf own_pd0 rfl) rfl (by show 2 * 0 + _ ≤ _; exact Nat.le_of_eq rfl) (hb hby at_9) (fun _ _ => ⟨rfl, e0, (by decide : 0 + 0 ≤ _), (by decide : 0 + 0 ≤ _)⟩)
    dsimp only [Pt.U, Pt.locs, Pt.cells, Pt.slots] at X59 l59 y59 z59 st59 hQ59
    subst l59 y59 z59
    obtain ⟨rfl, N59q, e59⟩ := hQ59
    have N59 := Fr.app N0 N59q
    obtain ⟨cq62, kq62, q62a, q62b, q62c⟩ := isOf hZ e59 (EN.2.2.1.2.2.2.2.2.2.2.1.ext OL0.2)
    obtain ⟨_, _, ⟨T62, L62, k62, n62⟩, -, X62, ⟨Lc62, hQ62, l62, y62, z62⟩, st62⟩ := X59.virtualBack hx (y := own_m0) (z := own_m0) hown (mvT hZ (hw _ (List.mem_of_getElem? (i := 8) rfl))) (mvT hZ (hw _ (List.mem_of_getElem? (i := 9) rfl))) (notFace_of_selects (args := #[]) (mvT hZ (hw _ (List.mem_of_getElem? (i := 11) rfl)))) (mvT hZ (hw _ (List.mem_of_getElem? (i := 11) rfl))) (mvT hZ (hw _ (List.mem_of_getElem? (i := 10) rfl))) (by decide) (backOf (W := 0) (rm24 l Z a0 hw [] h0 n0 p1 A K EN OL0) hZ (hw _ (List.mem_of_getElem? (i := 12) rfl)) (hw _ (List.mem_of_getElem? (i := 6) rfl)) (by decide) (by decide)) q62a q62c (g := (mkF m 26 #[.val (.int p1), .val (.int (11 : Int32)), .val (.ref (A 11)), .val (.int (0 : Int32))] [(.ref (A 11))])) rfl (by rw [hml]; rfl) (Steps.refl _) (argsL := []) (rest := []) (lenOf own_pd1 rfl) rfl (by show 2 * 0 + _ ≤ _; exact Nat.le_of_eq rfl) (hb hby at_26) (fun _ _ => ⟨rfl, e59, (by decide : 0 + 0 ≤ _), (by decide : 0 + 0 ≤ _)⟩)
    dsimp only [Pt.U, Pt.locs, Pt.cells, Pt.slots] at X62 l62 y62 z62 st62 hQ62
    subst l62 y62 z62
    obtain ⟨rfl, N62q, e62⟩ := hQ62
    have N62 := Fr.app N59 N62q
    obtain ⟨fs, hr, hrun, hended, hW, hsame⟩ := X62.leave (v := some (.int (1 : Int32))) (fun h => by rw [Bd.returns] at h; cases h)
    refine ⟨_, _, pre1 _ ?_, hrun, hended, _, _, rfl, ?_, ⟨_, rfl⟩, hW, hsame.mono (by decide) (by decide)⟩
    · show Steps p.tables e below (s₁.setTop (mkF m 7 #[.val (.int p1), .unset, .unset, .unset] [(.int ((p1 &&& (2147483647 : Int32)) % (28 : Int32)))])) _
      rw [hk2]
      show Steps p.tables e below (s₁.setTop (mkF m 7 #[.val (.int p1), .unset, .unset, .unset] [(.int (11 : Int32))])) _
      refine XS.istoreN X0.here hx rfl (hb hby at_7) rfl (l' := #[.val (.int p1), .val (.int (11 : Int32)), .unset, .unset]) rfl ?_
      show Steps p.tables e below (s₁.setTop (mkF m 8 #[.val (.int p1), .val (.int (11 : Int32)), .unset, .unset] [])) _
      refine XS.iloadN X0.here hx rfl (hb hby at_8) rfl ?_
      show Steps p.tables e below (s₁.setTop (mkF m 9 #[.val (.int p1), .val (.int (11 : Int32)), .unset, .unset] [(.int (11 : Int32))])) _
      refine st59 _ ?_
      show Steps p.tables e below (T59.setTop (mkF m 12 #[.val (.int p1), .val (.int (11 : Int32)), .unset, .unset] [(.ref (A 11))])) _
      refine XS.astoreN X59.here hx rfl (hb hby at_12) rfl rfl (l' := #[.val (.int p1), .val (.int (11 : Int32)), .val (.ref (A 11)), .unset]) rfl ?_
      show Steps p.tables e below (T59.setTop (mkF m 13 #[.val (.int p1), .val (.int (11 : Int32)), .val (.ref (A 11)), .unset] [])) _
      refine XS.iloadN X59.here hx rfl (hb hby at_13) rfl ?_
      show Steps p.tables e below (T59.setTop (mkF m 14 #[.val (.int p1), .val (.int (11 : Int32)), .val (.ref (A 11)), .unset] [(.int (11 : Int32))])) _
      refine XS.bipush X59.here hx rfl (hb hby at_14) ?_
      show Steps p.tables e below (T59.setTop (mkF m 16 #[.val (.int p1), .val (.int (11 : Int32)), .val (.ref (A 11)), .unset] [(.int (26 : Int32)), (.int (11 : Int32))])) _
      refine XS.icmpYes X59.here hx rfl (pc0 := 16) (pc' := 23) rfl (hb hby at_16) rfl (tlt (by decide : (11 : Int32) < (26 : Int32))).1 (by decide) (by decide) ?_
      show Steps p.tables e below (T59.setTop (mkF m 23 #[.val (.int p1), .val (.int (11 : Int32)), .val (.ref (A 11)), .unset] [])) _
      refine XS.iconst X59.here hx rfl (hb hby at_23) ?_
      show Steps p.tables e below (T59.setTop (mkF m 24 #[.val (.int p1), .val (.int (11 : Int32)), .val (.ref (A 11)), .unset] [(.int (0 : Int32))])) _
      refine XS.istoreN X59.here hx rfl (hb hby at_24) rfl (l' := #[.val (.int p1), .val (.int (11 : Int32)), .val (.ref (A 11)), .val (.int (0 : Int32))]) rfl ?_
      show Steps p.tables e below (T59.setTop (mkF m 25 #[.val (.int p1), .val (.int (11 : Int32)), .val (.ref (A 11)), .val (.int (0 : Int32))] [])) _
      refine XS.aloadN X59.here hx rfl (hb hby at_25) rfl rfl ?_
      show Steps p.tables e below (T59.setTop (mkF m 26 #[.val (.int p1), .val (.int (11 : Int32)), .val (.ref (A 11)), .val (.int (0 : Int32))] [(.ref (A 11))])) _
      refine st62.trans ?_
      show Steps p.tables e below (T62.setTop (mkF m 29 #[.val (.int p1), .val (.int (11 : Int32)), .val (.ref (A 11)), .val (.int (0 : Int32))] [(.int (0 : Int32))])) _
      refine XS.iloadN X62.here hx rfl (hb hby at_29) rfl ?_
      show Steps p.tables e below (T62.setTop (mkF m 30 #[.val (.int p1), .val (.int (11 : Int32)), .val (.ref (A 11)), .val (.int (0 : Int32))] [(.int (0 : Int32)), (.int (0 : Int32))])) _
      refine XS.icmpNo X62.here hx rfl (hb hby at_30) rfl (teq (by decide : (0 : Int32) = (0 : Int32))).2 ?_
      show Steps p.tables e below (T62.setTop (mkF m 33 #[.val (.int p1), .val (.int (11 : Int32)), .val (.ref (A 11)), .val (.int (0 : Int32))] [])) _
      refine XS.iconst X62.here hx rfl (hb hby at_33) ?_
      show Steps p.tables e below (T62.setTop (mkF m 34 #[.val (.int p1), .val (.int (11 : Int32)), .val (.ref (A 11)), .val (.int (0 : Int32))] [(.int (1 : Int32))])) _
      refine XS.goto X62.here hx rfl (pc0 := 34) (pc' := 38) rfl (hb hby at_34) (by decide) (by decide) ?_
      show Steps p.tables e below (T62.setTop (mkF m 38 #[.val (.int p1), .val (.int (11 : Int32)), .val (.ref (A 11)), .val (.int (0 : Int32))] [(.int (1 : Int32))])) _
      exact retN X62 hx (t := .boolean) Bd.returns (by simp) (hb hby at_38) hr
    · show LQ n0 _ T62.heap _
      exact ⟨rfl, N62, trivial⟩
  | 12, _, hk2 =>
    obtain ⟨_, _, ⟨T64, L64, k64, n64⟩, -, X64, ⟨Lc64, hQ64, l64, y64, z64⟩, st64⟩ := Jvm.LawKit.callS X0 hx (y := own_m1) hown (mvT hZ (hw _ (List.mem_of_getElem? (i := 1) rfl))) (mvT hZ (hw _ (List.mem_of_getElem? (i := 2) rfl))) (mvT hZ (hw _ (List.mem_of_getElem? (i := 3) rfl))) (mvT hZ (hw _ (List.mem_of_getElem? (i := 4) rfl))) (by decide) (backOf (W := 0) (rm25 l Z a0 hw [] h0 n0 p1 A K EN OL0) hZ (hw _ (List.mem_of_getElem? (i := 4) rfl)) (hw _ (List.mem_of_getElem? (i := 3) rfl)) (by decide) (by decide)) (g := (mkF m 9 #[.val (.int p1), .val (.int (12 : Int32)), .unset, .unset] [(.int (12 : Int32))])) rfl (by rw [hml]; rfl) (argsL := [(.int (12 : Int32))]) (rest := []) (lenOf own_pd0 rfl) rfl (by show 2 * 0 + _ ≤ _; exact Nat.le_of_eq rfl) (hb hby at_9) (fun _ _ => ⟨rfl, e0, (by decide : 0 + 0 ≤ _), (by decide : 0 + 0 ≤ _)⟩)
    dsimp only [Pt.U, Pt.locs, Pt.cells, Pt.slots] at X64 l64 y64 z64 st64 hQ64
    subst l64 y64 z64
    obtain ⟨rfl, N64q, e64⟩ := hQ64
    have N64 := Fr.app N0 N64q
    obtain ⟨cq67, kq67, q67a, q67b, q67c⟩ := isOf hZ e64 (EN.2.2.2.1.2.1.ext OL0.2)
    obtain ⟨_, _, ⟨T67, L67, k67, n67⟩, -, X67, ⟨Lc67, hQ67, l67, y67, z67⟩, st67⟩ := X64.virtualBack hx (y := own_m0) (z := own_m0) hown (mvT hZ (hw _ (List.mem_of_getElem? (i := 8) rfl))) (mvT hZ (hw _ (List.mem_of_getElem? (i := 9) rfl))) (notFace_of_selects (args := #[]) (mvT hZ (hw _ (List.mem_of_getElem? (i := 11) rfl)))) (mvT hZ (hw _ (List.mem_of_getElem? (i := 11) rfl))) (mvT hZ (hw _ (List.mem_of_getElem? (i := 10) rfl))) (by decide) (backOf (W := 0) (rm26 l Z a0 hw [] h0 n0 p1 A K EN OL0) hZ (hw _ (List.mem_of_getElem? (i := 12) rfl)) (hw _ (List.mem_of_getElem? (i := 6) rfl)) (by decide) (by decide)) q67a q67c (g := (mkF m 26 #[.val (.int p1), .val (.int (12 : Int32)), .val (.ref (A 12)), .val (.int (0 : Int32))] [(.ref (A 12))])) rfl (by rw [hml]; rfl) (Steps.refl _) (argsL := []) (rest := []) (lenOf own_pd1 rfl) rfl (by show 2 * 0 + _ ≤ _; exact Nat.le_of_eq rfl) (hb hby at_26) (fun _ _ => ⟨rfl, e64, (by decide : 0 + 0 ≤ _), (by decide : 0 + 0 ≤ _)⟩)
    dsimp only [Pt.U, Pt.locs, Pt.cells, Pt.slots] at X67 l67 y67 z67 st67 hQ67
    subst l67 y67 z67
    obtain ⟨rfl, N67q, e67⟩ := hQ67
    have N67 := Fr.app N64 N67q
    obtain ⟨fs, hr, hrun, hended, hW, hsame⟩ := X67.leave (v := some (.int (1 : Int32))) (fun h => by rw [Bd.returns] at h; cases h)
    refine ⟨_, _, pre1 _ ?_, hrun, hended, _, _, rfl, ?_, ⟨_, rfl⟩, hW, hsame.mono (by decide) (by decide)⟩
    · show Steps p.tables e below (s₁.setTop (mkF m 7 #[.val (.int p1), .unset, .unset, .unset] [(.int ((p1 &&& (2147483647 : Int32)) % (28 : Int32)))])) _
      rw [hk2]
      show Steps p.tables e below (s₁.setTop (mkF m 7 #[.val (.int p1), .unset, .unset, .unset] [(.int (12 : Int32))])) _
      refine XS.istoreN X0.here hx rfl (hb hby at_7) rfl (l' := #[.val (.int p1), .val (.int (12 : Int32)), .unset, .unset]) rfl ?_
      show Steps p.tables e below (s₁.setTop (mkF m 8 #[.val (.int p1), .val (.int (12 : Int32)), .unset, .unset] [])) _
      refine XS.iloadN X0.here hx rfl (hb hby at_8) rfl ?_
      show Steps p.tables e below (s₁.setTop (mkF m 9 #[.val (.int p1), .val (.int (12 : Int32)), .unset, .unset] [(.int (12 : Int32))])) _
      refine st64 _ ?_
      show Steps p.tables e below (T64.setTop (mkF m 12 #[.val (.int p1), .val (.int (12 : Int32)), .unset, .unset] [(.ref (A 12))])) _
      refine XS.astoreN X64.here hx rfl (hb hby at_12) rfl rfl (l' := #[.val (.int p1), .val (.int (12 : Int32)), .val (.ref (A 12)), .unset]) rfl ?_
      show Steps p.tables e below (T64.setTop (mkF m 13 #[.val (.int p1), .val (.int (12 : Int32)), .val (.ref (A 12)), .unset] [])) _
      refine XS.iloadN X64.here hx rfl (hb hby at_13) rfl ?_
      show Steps p.tables e below (T64.setTop (mkF m 14 #[.val (.int p1), .val (.int (12 : Int32)), .val (.ref (A 12)), .unset] [(.int (12 : Int32))])) _
      refine XS.bipush X64.here hx rfl (hb hby at_14) ?_
      show Steps p.tables e below (T64.setTop (mkF m 16 #[.val (.int p1), .val (.int (12 : Int32)), .val (.ref (A 12)), .unset] [(.int (26 : Int32)), (.int (12 : Int32))])) _
      refine XS.icmpYes X64.here hx rfl (pc0 := 16) (pc' := 23) rfl (hb hby at_16) rfl (tlt (by decide : (12 : Int32) < (26 : Int32))).1 (by decide) (by decide) ?_
      show Steps p.tables e below (T64.setTop (mkF m 23 #[.val (.int p1), .val (.int (12 : Int32)), .val (.ref (A 12)), .unset] [])) _
      refine XS.iconst X64.here hx rfl (hb hby at_23) ?_
      show Steps p.tables e below (T64.setTop (mkF m 24 #[.val (.int p1), .val (.int (12 : Int32)), .val (.ref (A 12)), .unset] [(.int (0 : Int32))])) _
      refine XS.istoreN X64.here hx rfl (hb hby at_24) rfl (l' := #[.val (.int p1), .val (.int (12 : Int32)), .val (.ref (A 12)), .val (.int (0 : Int32))]) rfl ?_
      show Steps p.tables e below (T64.setTop (mkF m 25 #[.val (.int p1), .val (.int (12 : Int32)), .val (.ref (A 12)), .val (.int (0 : Int32))] [])) _
      refine XS.aloadN X64.here hx rfl (hb hby at_25) rfl rfl ?_
      show Steps p.tables e below (T64.setTop (mkF m 26 #[.val (.int p1), .val (.int (12 : Int32)), .val (.ref (A 12)), .val (.int (0 : Int32))] [(.ref (A 12))])) _
      refine st67.trans ?_
      show Steps p.tables e below (T67.setTop (mkF m 29 #[.val (.int p1), .val (.int (12 : Int32)), .val (.ref (A 12)), .val (.int (0 : Int32))] [(.int (0 : Int32))])) _
      refine XS.iloadN X67.here hx rfl (hb hby at_29) rfl ?_
      show Steps p.tables e below (T67.setTop (mkF m 30 #[.val (.int p1), .val (.int (12 : Int32)), .val (.ref (A 12)), .val (.int (0 : Int32))] [(.int (0 : Int32)), (.int (0 : Int32))])) _
      refine XS.icmpNo X67.here hx rfl (hb hby at_30) rfl (teq (by decide : (0 : Int32) = (0 : Int32))).2 ?_
      show Steps p.tables e below (T67.setTop (mkF m 33 #[.val (.int p1), .val (.int (12 : Int32)), .val (.ref (A 12)), .val (.int (0 : Int32))] [])) _
      refine XS.iconst X67.here hx rfl (hb hby at_33) ?_
      show Steps p.tables e below (T67.setTop (mkF m 34 #[.val (.int p1), .val (.int (12 : Int32)), .val (.ref (A 12)), .val (.int (0 : Int32))] [(.int (1 : Int32))])) _
      refine XS.goto X67.here hx rfl (pc0 := 34) (pc' := 38) rfl (hb hby at_34) (by decide) (by decide) ?_
      show Steps p.tables e below (T67.setTop (mkF m 38 #[.val (.int p1), .val (.int (12 : Int32)), .val (.ref (A 12)), .val (.int (0 : Int32))] [(.int (1 : Int32))])) _
      exact retN X67 hx (t := .boolean) Bd.returns (by simp) (hb hby at_38) hr
    · show LQ n0 _ T67.heap _
      exact ⟨rfl, N67, trivial⟩
  | 13, _, hk2 =>
    obtain ⟨_, _, ⟨T69, L69, k69, n69⟩, -, X69, ⟨Lc69, hQ69, l69, y69, z69⟩, st69⟩ := Jvm.LawKit.callS X0 hx (y := own_m1) hown (mvT hZ (hw _ (List.mem_of_getElem? (i := 1) rfl))) (mvT hZ (hw _ (List.mem_of_getElem? (i := 2) rfl))) (mvT hZ (hw _ (List.mem_of_getElem? (i := 3) rfl))) (mvT hZ (hw _ (List.mem_of_getElem? (i := 4) rfl))) (by decide) (backOf (W := 0) (rm27 l Z a0 hw [] h0 n0 p1 A K EN OL0) hZ (hw _ (List.mem_of_getElem? (i := 4) rfl)) (hw _ (List.mem_of_getElem? (i := 3) rfl)) (by decide) (by decide)) (g := (mkF m 9 #[.val (.int p1), .val (.int (13 : Int32)), .unset, .unset] [(.int (13 : Int32))])) rfl (by rw [hml]; rfl) (argsL := [(.int (13 : Int32))]) (rest := []) (lenOf own_pd0 rfl) rfl (by show 2 * 0 + _ ≤ _; exact Nat.le_of_eq rfl) (hb hby at_9) (fun _ _ => ⟨rfl, e0, (by decide : 0 + 0 ≤ _), (by decide : 0 + 0 ≤ _)⟩)
    dsimp only [Pt.U, Pt.locs, Pt.cells, Pt.slots] at X69 l69 y69 z69 st69 hQ69
    subst l69 y69 z69
    obtain ⟨rfl, N69q, e69⟩ := hQ69
    have N69 := Fr.app N0 N69q
    obtain ⟨cq72, kq72, q72a, q72b, q72c⟩ := isOf hZ e69 (EN.2.2.2.1.2.2.2.1.ext OL0.2)
    obtain ⟨_, _, ⟨T72, L72, k72, n72⟩, -, X72, ⟨Lc72, hQ72, l72, y72, z72⟩, st72⟩ := X69.virtualBack hx (y := own_m0) (z := own_m0) hown (mvT hZ (hw _ (List.mem_of_getElem? (i := 8) rfl))) (mvT hZ (hw _ (List.mem_of_getElem? (i := 9) rfl))) (notFace_of_selects (args := #[]) (mvT hZ (hw _ (List.mem_of_getElem? (i := 11) rfl)))) (mvT hZ (hw _ (List.mem_of_getElem? (i := 11) rfl))) (mvT hZ (hw _ (List.mem_of_getElem? (i := 10) rfl))) (by decide) (backOf (W := 0) (rm28 l Z a0 hw [] h0 n0 p1 A K EN OL0) hZ (hw _ (List.mem_of_getElem? (i := 12) rfl)) (hw _ (List.mem_of_getElem? (i := 6) rfl)) (by decide) (by decide)) q72a q72c (g := (mkF m 26 #[.val (.int p1), .val (.int (13 : Int32)), .val (.ref (A 13)), .val (.int (0 : Int32))] [(.ref (A 13))])) rfl (by rw [hml]; rfl) (Steps.refl _) (argsL := []) (rest := []) (lenOf own_pd1 rfl) rfl (by show 2 * 0 + _ ≤ _; exact Nat.le_of_eq rfl) (hb hby at_26) (fun _ _ => ⟨rfl, e69, (by decide : 0 + 0 ≤ _), (by decide : 0 + 0 ≤ _)⟩)
    dsimp only [Pt.U, Pt.locs, Pt.cells, Pt.slots] at X72 l72 y72 z72 st72 hQ72
    subst l72 y72 z72
    obtain ⟨rfl, N72q, e72⟩ := hQ72
    have N72 := Fr.app N69 N72q
    obtain ⟨fs, hr, hrun, hended, hW, hsame⟩ := X72.leave (v := some (.int (1 : Int32))) (fun h => by rw [Bd.returns] at h; cases h)
    refine ⟨_, _, pre1 _ ?_, hrun, hended, _, _, rfl, ?_, ⟨_, rfl⟩, hW, hsame.mono (by decide) (by decide)⟩
    · show Steps p.tables e below (s₁.setTop (mkF m 7 #[.val (.int p1), .unset, .unset, .unset] [(.int ((p1 &&& (2147483647 : Int32)) % (28 : Int32)))])) _
      rw [hk2]
      show Steps p.tables e below (s₁.setTop (mkF m 7 #[.val (.int p1), .unset, .unset, .unset] [(.int (13 : Int32))])) _
      refine XS.istoreN X0.here hx rfl (hb hby at_7) rfl (l' := #[.val (.int p1), .val (.int (13 : Int32)), .unset, .unset]) rfl ?_
      show Steps p.tables e below (s₁.setTop (mkF m 8 #[.val (.int p1), .val (.int (13 : Int32)), .unset, .unset] [])) _
      refine XS.iloadN X0.here hx rfl (hb hby at_8) rfl ?_
      show Steps p.tables e below (s₁.setTop (mkF m 9 #[.val (.int p1), .val (.int (13 : Int32)), .unset, .unset] [(.int (13 : Int32))])) _
      refine st69 _ ?_
      show Steps p.tables e below (T69.setTop (mkF m 12 #[.val (.int p1), .val (.int (13 : Int32)), .unset, .unset] [(.ref (A 13))])) _
      refine XS.astoreN X69.here hx rfl (hb hby at_12) rfl rfl (l' := #[.val (.int p1), .val (.int (13 : Int32)), .val (.ref (A 13)), .unset]) rfl ?_
      show Steps p.tables e below (T69.setTop (mkF m 13 #[.val (.int p1), .val (.int (13 : Int32)), .val (.ref (A 13)), .unset] [])) _
      refine XS.iloadN X69.here hx rfl (hb hby at_13) rfl ?_
      show Steps p.tables e below (T69.setTop (mkF m 14 #[.val (.int p1), .val (.int (13 : Int32)), .val (.ref (A 13)), .unset] [(.int (13 : Int32))])) _
      refine XS.bipush X69.here hx rfl (hb hby at_14) ?_
      show Steps p.tables e below (T69.setTop (mkF m 16 #[.val (.int p1), .val (.int (13 : Int32)), .val (.ref (A 13)), .unset] [(.int (26 : Int32)), (.int (13 : Int32))])) _
      refine XS.icmpYes X69.here hx rfl (pc0 := 16) (pc' := 23) rfl (hb hby at_16) rfl (tlt (by decide : (13 : Int32) < (26 : Int32))).1 (by decide) (by decide) ?_
      show Steps p.tables e below (T69.setTop (mkF m 23 #[.val (.int p1), .val (.int (13 : Int32)), .val (.ref (A 13)), .unset] [])) _
      refine XS.iconst X69.here hx rfl (hb hby at_23) ?_
      show Steps p.tables e below (T69.setTop (mkF m 24 #[.val (.int p1), .val (.int (13 : Int32)), .val (.ref (A 13)), .unset] [(.int (0 : Int32))])) _
      refine XS.istoreN X69.here hx rfl (hb hby at_24) rfl (l' := #[.val (.int p1), .val (.int (13 : Int32)), .val (.ref (A 13)), .val (.int (0 : Int32))]) rfl ?_
      show Steps p.tables e below (T69.setTop (mkF m 25 #[.val (.int p1), .val (.int (13 : Int32)), .val (.ref (A 13)), .val (.int (0 : Int32))] [])) _
      refine XS.aloadN X69.here hx rfl (hb hby at_25) rfl rfl ?_
      show Steps p.tables e below (T69.setTop (mkF m 26 #[.val (.int p1), .val (.int (13 : Int32)), .val (.ref (A 13)), .val (.int (0 : Int32))] [(.ref (A 13))])) _
      refine st72.trans ?_
      show Steps p.tables e below (T72.setTop (mkF m 29 #[.val (.int p1), .val (.int (13 : Int32)), .val (.ref (A 13)), .val (.int (0 : Int32))] [(.int (0 : Int32))])) _
      refine XS.iloadN X72.here hx rfl (hb hby at_29) rfl ?_
      show Steps p.tables e below (T72.setTop (mkF m 30 #[.val (.int p1), .val (.int (13 : Int32)), .val (.ref (A 13)), .val (.int (0 : Int32))] [(.int (0 : Int32)), (.int (0 : Int32))])) _
      refine XS.icmpNo X72.here hx rfl (hb hby at_30) rfl (teq (by decide : (0 : Int32) = (0 : Int32))).2 ?_
      show Steps p.tables e below (T72.setTop (mkF m 33 #[.val (.int p1), .val (.int (13 : Int32)), .val (.ref (A 13)), .val (.int (0 : Int32))] [])) _
      refine XS.iconst X72.here hx rfl (hb hby at_33) ?_
      show Steps p.tables e below (T72.setTop (mkF m 34 #[.val (.int p1), .val (.int (13 : Int32)), .val (.ref (A 13)), .val (.int (0 : Int32))] [(.int (1 : Int32))])) _
      refine XS.goto X72.here hx rfl (pc0 := 34) (pc' := 38) rfl (hb hby at_34) (by decide) (by decide) ?_
      show Steps p.tables e below (T72.setTop (mkF m 38 #[.val (.int p1), .val (.int (13 : Int32)), .val (.ref (A 13)), .val (.int (0 : Int32))] [(.int (1 : Int32))])) _
      exact retN X72 hx (t := .boolean) Bd.returns (by simp) (hb hby at_38) hr
    · show LQ n0 _ T72.heap _
      exact ⟨rfl, N72, trivial⟩
  | 14, _, hk2 =>
    obtain ⟨_, _, ⟨T74, L74, k74, n74⟩, -, X74, ⟨Lc74, hQ74, l74, y74, z74⟩, st74⟩ := Jvm.LawKit.callS X0 hx (y := own_m1) hown (mvT hZ (hw _ (List.mem_of_getElem? (i := 1) rfl))) (mvT hZ (hw _ (List.mem_of_getElem? (i := 2) rfl))) (mvT hZ (hw _ (List.mem_of_getElem? (i := 3) rfl))) (mvT hZ (hw _ (List.mem_of_getElem? (i := 4) rfl))) (by decide) (backOf (W := 0) (rm29 l Z a0 hw [] h0 n0 p1 A K EN OL0) hZ (hw _ (List.mem_of_getElem? (i := 4) rfl)) (hw _ (List.mem_of_getElem? (i := 3) rfl)) (by decide) (by decide)) (g := (mkF m 9 #[.val (.int p1), .val (.int (14 : Int32)), .unset, .unset] [(.int (14 : Int32))])) rfl (by rw [hml]; rfl) (argsL := [(.int (14 : Int32))]) (rest := []) (lenOf own_pd0 rfl) rfl (by show 2 * 0 + _ ≤ _; exact Nat.le_of_eq rfl) (hb hby at_9) (fun _ _ => ⟨rfl, e0, (by decide : 0 + 0 ≤ _), (by decide : 0 + 0 ≤ _)⟩)
    dsimp only [Pt.U, Pt.locs, Pt.cells, Pt.slots] at X74 l74 y74 z74 st74 hQ74
    subst l74 y74 z74
    obtain ⟨rfl, N74q, e74⟩ := hQ74
    have N74 := Fr.app N0 N74q
    obtain ⟨cq77, kq77, q77a, q77b, q77c⟩ := isOf hZ e74 (EN.2.2.2.1.2.2.2.2.2.1.ext OL0.2)
    obtain ⟨_, _, ⟨T77, L77, k77, n77⟩, -, X77, ⟨Lc77, hQ77, l77, y77, z77⟩, st77⟩ := X74.virtualBack hx (y := own_m0) (z := own_m0) hown (mvT hZ (hw _ (List.mem_of_getElem? (i := 8) rfl))) (mvT hZ (hw _ (List.mem_of_getElem? (i := 9) rfl))) (notFace_of_selects (args := #[]) (mvT hZ (hw _ (List.mem_of_getElem? (i := 11) rfl)))) (mvT hZ (hw _ (List.mem_of_getElem? (i := 11) rfl))) (mvT hZ (hw _ (List.mem_of_getElem? (i := 10) rfl))) (by decide) (backOf (W := 0) (rm30 l Z a0 hw [] h0 n0 p1 A K EN OL0) hZ (hw _ (List.mem_of_getElem? (i := 12) rfl)) (hw _ (List.mem_of_getElem? (i := 6) rfl)) (by decide) (by decide)) q77a q77c (g := (mkF m 26 #[.val (.int p1), .val (.int (14 : Int32)), .val (.ref (A 14)), .val (.int (0 : Int32))] [(.ref (A 14))])) rfl (by rw [hml]; rfl) (Steps.refl _) (argsL := []) (rest := []) (lenOf own_pd1 rfl) rfl (by show 2 * 0 + _ ≤ _; exact Nat.le_of_eq rfl) (hb hby at_26) (fun _ _ => ⟨rfl, e74, (by decide : 0 + 0 ≤ _), (by decide : 0 + 0 ≤ _)⟩)
    dsimp only [Pt.U, Pt.locs, Pt.cells, Pt.slots] at X77 l77 y77 z77 st77 hQ77
    subst l77 y77 z77
    obtain ⟨rfl, N77q, e77⟩ := hQ77
    have N77 := Fr.app N74 N77q
    obtain ⟨fs, hr, hrun, hended, hW, hsame⟩ := X77.leave (v := some (.int (1 : Int32))) (fun h => by rw [Bd.returns] at h; cases h)
    refine ⟨_, _, pre1 _ ?_, hrun, hended, _, _, rfl, ?_, ⟨_, rfl⟩, hW, hsame.mono (by decide) (by decide)⟩
    · show Steps p.tables e below (s₁.setTop (mkF m 7 #[.val (.int p1), .unset, .unset, .unset] [(.int ((p1 &&& (2147483647 : Int32)) % (28 : Int32)))])) _
      rw [hk2]
      show Steps p.tables e below (s₁.setTop (mkF m 7 #[.val (.int p1), .unset, .unset, .unset] [(.int (14 : Int32))])) _
      refine XS.istoreN X0.here hx rfl (hb hby at_7) rfl (l' := #[.val (.int p1), .val (.int (14 : Int32)), .unset, .unset]) rfl ?_
      show Steps p.tables e below (s₁.setTop (mkF m 8 #[.val (.int p1), .val (.int (14 : Int32)), .unset, .unset] [])) _
      refine XS.iloadN X0.here hx rfl (hb hby at_8) rfl ?_
      show Steps p.tables e below (s₁.setTop (mkF m 9 #[.val (.int p1), .val (.int (14 : Int32)), .unset, .unset] [(.int (14 : Int32))])) _
      refine st74 _ ?_
      show Steps p.tables e below (T74.setTop (mkF m 12 #[.val (.int p1), .val (.int (14 : Int32)), .unset, .unset] [(.ref (A 14))])) _
      refine XS.astoreN X74.here hx rfl (hb hby at_12) rfl rfl (l' := #[.val (.int p1), .val (.int (14 : Int32)), .val (.ref (A 14)), .unset]) rfl ?_
      show Steps p.tables e below (T74.setTop (mkF m 13 #[.val (.int p1), .val (.int (14 : Int32)), .val (.ref (A 14)), .unset] [])) _
      refine XS.iloadN X74.here hx rfl (hb hby at_13) rfl ?_
      show Steps p.tables e below (T74.setTop (mkF m 14 #[.val (.int p1), .val (.int (14 : Int32)), .val (.ref (A 14)), .unset] [(.int (14 : Int32))])) _
      refine XS.bipush X74.here hx rfl (hb hby at_14) ?_
      show Steps p.tables e below (T74.setTop (mkF m 16 #[.val (.int p1), .val (.int (14 : Int32)), .val (.ref (A 14)), .unset] [(.int (26 : Int32)), (.int (14 : Int32))])) _
      refine XS.icmpYes X74.here hx rfl (pc0 := 16) (pc' := 23) rfl (hb hby at_16) rfl (tlt (by decide : (14 : Int32) < (26 : Int32))).1 (by decide) (by decide) ?_
      show Steps p.tables e below (T74.setTop (mkF m 23 #[.val (.int p1), .val (.int (14 : Int32)), .val (.ref (A 14)), .unset] [])) _
      refine XS.iconst X74.here hx rfl (hb hby at_23) ?_
      show Steps p.tables e below (T74.setTop (mkF m 24 #[.val (.int p1), .val (.int (14 : Int32)), .val (.ref (A 14)), .unset] [(.int (0 : Int32))])) _
      refine XS.istoreN X74.here hx rfl (hb hby at_24) rfl (l' := #[.val (.int p1), .val (.int (14 : Int32)), .val (.ref (A 14)), .val (.int (0 : Int32))]) rfl ?_
      show Steps p.tables e below (T74.setTop (mkF m 25 #[.val (.int p1), .val (.int (14 : Int32)), .val (.ref (A 14)), .val (.int (0 : Int32))] [])) _
      refine XS.aloadN X74.here hx rfl (hb hby at_25) rfl rfl ?_
      show Steps p.tables e below (T74.setTop (mkF m 26 #[.val (.int p1), .val (.int (14 : Int32)), .val (.ref (A 14)), .val (.int (0 : Int32))] [(.ref (A 14))])) _
      refine st77.trans ?_
      show Steps p.tables e below (T77.setTop (mkF m 29 #[.val (.int p1), .val (.int (14 : Int32)), .val (.ref (A 14)), .val (.int (0 : Int32))] [(.int (0 : Int32))])) _
      refine XS.iloadN X77.here hx rfl (hb hby at_29) rfl ?_
      show Steps p.tables e below (T77.setTop (mkF m 30 #[.val (.int p1), .val (.int (14 : Int32)), .val (.ref (A 14)), .val (.int (0 : Int32))] [(.int (0 : Int32)), (.int (0 : Int32))])) _
      refine XS.icmpNo X77.here hx rfl (hb hby at_30) rfl (teq (by decide : (0 : Int32) = (0 : Int32))).2 ?_
      show Steps p.tables e below (T77.setTop (mkF m 33 #[.val (.int p1), .val (.int (14 : Int32)), .val (.ref (A 14)), .val (.int (0 : Int32))] [])) _
      refine XS.iconst X77.here hx rfl (hb hby at_33) ?_
      show Steps p.tables e below (T77.setTop (mkF m 34 #[.val (.int p1), .val (.int (14 : Int32)), .val (.ref (A 14)), .val (.int (0 : Int32))] [(.int (1 : Int32))])) _
      refine XS.goto X77.here hx rfl (pc0 := 34) (pc' := 38) rfl (hb hby at_34) (by decide) (by decide) ?_
      show Steps p.tables e below (T77.setTop (mkF m 38 #[.val (.int p1), .val (.int (14 : Int32)), .val (.ref (A 14)), .val (.int (0 : Int32))] [(.int (1 : Int32))])) _
      exact retN X77 hx (t := .boolean) Bd.returns (by simp) (hb hby at_38) hr
    · show LQ n0 _ T77.heap _
      exact ⟨rfl, N77, trivial⟩
  | 15, _, hk2 =>
    obtain ⟨_, _, ⟨T79, L79, k79, n79⟩, -, X79, ⟨Lc79, hQ79, l79, y79, z79⟩, st79⟩ := Jvm.LawKit.callS X0 hx (y := own_m1) hown (mvT hZ (hw _ (List.mem_of_getElem? (i := 1) rfl))) (mvT hZ (hw _ (List.mem_of_getElem? (i := 2) rfl))) (mvT hZ (hw _ (List.mem_of_getElem? (i := 3) rfl))) (mvT hZ (hw _ (List.mem_of_getElem? (i := 4) rfl))) (by decide) (backOf (W := 0) (rm31 l Z a0 hw [] h0 n0 p1 A K EN OL0) hZ (hw _ (List.mem_of_getElem? (i := 4) rfl)) (hw _ (List.mem_of_getElem? (i := 3) rfl)) (by decide) (by decide)) (g := (mkF m 9 #[.val (.int p1), .val (.int (15 : Int32)), .unset, .unset] [(.int (15 : Int32))])) rfl (by rw [hml]; rfl) (argsL := [(.int (15 : Int32))]) (rest := []) (lenOf own_pd0 rfl) rfl (by show 2 * 0 + _ ≤ _; exact Nat.le_of_eq rfl) (hb hby at_9) (fun _ _ => ⟨rfl, e0, (by decide : 0 + 0 ≤ _), (by decide : 0 + 0 ≤ _)⟩)
    dsimp only [Pt.U, Pt.locs, Pt.cells, Pt.slots] at X79 l79 y79 z79 st79 hQ79
    subst l79 y79 z79
    obtain ⟨rfl, N79q, e79⟩ := hQ79
    have N79 := Fr.app N0 N79q
    obtain ⟨cq82, kq82, q82a, q82b, q82c⟩ := isOf hZ e79 (EN.2.2.2.1.2.2.2.2.2.2.2.1.ext OL0.2)
    obtain ⟨_, _, ⟨T82, L82, k82, n82⟩, -, X82, ⟨Lc82, hQ82, l82, y82, z82⟩, st82⟩ := X79.virtualBack hx (y := own_m0) (z := own_m0) hown (mvT hZ (hw _ (List.mem_of_getElem? (i := 8) rfl))) (mvT hZ (hw _ (List.mem_of_getElem? (i := 9) rfl))) (notFace_of_selects (args := #[]) (mvT hZ (hw _ (List.mem_of_getElem? (i := 11) rfl)))) (mvT hZ (hw _ (List.mem_of_getElem? (i := 11) rfl))) (mvT hZ (hw _ (List.mem_of_getElem? (i := 10) rfl))) (by decide) (backOf (W := 0) (rm32 l Z a0 hw [] h0 n0 p1 A K EN OL0) hZ (hw _ (List.mem_of_getElem? (i := 12) rfl)) (hw _ (List.mem_of_getElem? (i := 6) rfl)) (by decide) (by decide)) q82a q82c (g := (mkF m 26 #[.val (.int p1), .val (.int (15 : Int32)), .val (.ref (A 15)), .val (.int (0 : Int32))] [(.ref (A 15))])) rfl (by rw [hml]; rfl) (Steps.refl _) (argsL := []) (rest := []) (lenOf own_pd1 rfl) rfl (by show 2 * 0 + _ ≤ _; exact Nat.le_of_eq rfl) (hb hby at_26) (fun _ _ => ⟨rfl, e79, (by decide : 0 + 0 ≤ _), (by decide : 0 + 0 ≤ _)⟩)
    dsimp only [Pt.U, Pt.locs, Pt.cells, Pt.slots] at X82 l82 y82 z82 st82 hQ82
    subst l82 y82 z82
    obtain ⟨rfl, N82q, e82⟩ := hQ82
    have N82 := Fr.app N79 N82q
    obtain ⟨fs, hr, hrun, hended, hW, hsame⟩ := X82.leave (v := some (.int (1 : Int32))) (fun h => by rw [Bd.returns] at h; cases h)
    refine ⟨_, _, pre1 _ ?_, hrun, hended, _, _, rfl, ?_, ⟨_, rfl⟩, hW, hsame.mono (by decide) (by decide)⟩
    · show Steps p.tables e below (s₁.setTop (mkF m 7 #[.val (.int p1), .unset, .unset, .unset] [(.int ((p1 &&& (2147483647 : Int32)) % (28 : Int32)))])) _
      rw [hk2]
      show Steps p.tables e below (s₁.setTop (mkF m 7 #[.val (.int p1), .unset, .unset, .unset] [(.int (15 : Int32))])) _
      refine XS.istoreN X0.here hx rfl (hb hby at_7) rfl (l' := #[.val (.int p1), .val (.int (15 : Int32)), .unset, .unset]) rfl ?_
      show Steps p.tables e below (s₁.setTop (mkF m 8 #[.val (.int p1), .val (.int (15 : Int32)), .unset, .unset] [])) _
      refine XS.iloadN X0.here hx rfl (hb hby at_8) rfl ?_
      show Steps p.tables e below (s₁.setTop (mkF m 9 #[.val (.int p1), .val (.int (15 : Int32)), .unset, .unset] [(.int (15 : Int32))])) _
      refine st79 _ ?_
      show Steps p.tables e below (T79.setTop (mkF m 12 #[.val (.int p1), .val (.int (15 : Int32)), .unset, .unset] [(.ref (A 15))])) _
      refine XS.astoreN X79.here hx rfl (hb hby at_12) rfl rfl (l' := #[.val (.int p1), .val (.int (15 : Int32)), .val (.ref (A 15)), .unset]) rfl ?_
      show Steps p.tables e below (T79.setTop (mkF m 13 #[.val (.int p1), .val (.int (15 : Int32)), .val (.ref (A 15)), .unset] [])) _
      refine XS.iloadN X79.here hx rfl (hb hby at_13) rfl ?_
      show Steps p.tables e below (T79.setTop (mkF m 14 #[.val (.int p1), .val (.int (15 : Int32)), .val (.ref (A 15)), .unset] [(.int (15 : Int32))])) _
      refine XS.bipush X79.here hx rfl (hb hby at_14) ?_
      show Steps p.tables e below (T79.setTop (mkF m 16 #[.val (.int p1), .val (.int (15 : Int32)), .val (.ref (A 15)), .unset] [(.int (26 : Int32)), (.int (15 : Int32))])) _
      refine XS.icmpYes X79.here hx rfl (pc0 := 16) (pc' := 23) rfl (hb hby at_16) rfl (tlt (by decide : (15 : Int32) < (26 : Int32))).1 (by decide) (by decide) ?_
      show Steps p.tables e below (T79.setTop (mkF m 23 #[.val (.int p1), .val (.int (15 : Int32)), .val (.ref (A 15)), .unset] [])) _
      refine XS.iconst X79.here hx rfl (hb hby at_23) ?_
      show Steps p.tables e below (T79.setTop (mkF m 24 #[.val (.int p1), .val (.int (15 : Int32)), .val (.ref (A 15)), .unset] [(.int (0 : Int32))])) _
      refine XS.istoreN X79.here hx rfl (hb hby at_24) rfl (l' := #[.val (.int p1), .val (.int (15 : Int32)), .val (.ref (A 15)), .val (.int (0 : Int32))]) rfl ?_
      show Steps p.tables e below (T79.setTop (mkF m 25 #[.val (.int p1), .val (.int (15 : Int32)), .val (.ref (A 15)), .val (.int (0 : Int32))] [])) _
      refine XS.aloadN X79.here hx rfl (hb hby at_25) rfl rfl ?_
      show Steps p.tables e below (T79.setTop (mkF m 26 #[.val (.int p1), .val (.int (15 : Int32)), .val (.ref (A 15)), .val (.int (0 : Int32))] [(.ref (A 15))])) _
      refine st82.trans ?_
      show Steps p.tables e below (T82.setTop (mkF m 29 #[.val (.int p1), .val (.int (15 : Int32)), .val (.ref (A 15)), .val (.int (0 : Int32))] [(.int (0 : Int32))])) _
      refine XS.iloadN X82.here hx rfl (hb hby at_29) rfl ?_
      show Steps p.tables e below (T82.setTop (mkF m 30 #[.val (.int p1), .val (.int (15 : Int32)), .val (.ref (A 15)), .val (.int (0 : Int32))] [(.int (0 : Int32)), (.int (0 : Int32))])) _
      refine XS.icmpNo X82.here hx rfl (hb hby at_30) rfl (teq (by decide : (0 : Int32) = (0 : Int32))).2 ?_
      show Steps p.tables e below (T82.setTop (mkF m 33 #[.val (.int p1), .val (.int (15 : Int32)), .val (.ref (A 15)), .val (.int (0 : Int32))] [])) _
      refine XS.iconst X82.here hx rfl (hb hby at_33) ?_
      show Steps p.tables e below (T82.setTop (mkF m 34 #[.val (.int p1), .val (.int (15 : Int32)), .val (.ref (A 15)), .val (.int (0 : Int32))] [(.int (1 : Int32))])) _
      refine XS.goto X82.here hx rfl (pc0 := 34) (pc' := 38) rfl (hb hby at_34) (by decide) (by decide) ?_
      show Steps p.tables e below (T82.setTop (mkF m 38 #[.val (.int p1), .val (.int (15 : Int32)), .val (.ref (A 15)), .val (.int (0 : Int32))] [(.int (1 : Int32))])) _
      exact retN X82 hx (t := .boolean) Bd.returns (by simp) (hb hby at_38) hr
    · show LQ n0 _ T82.heap _
      exact ⟨rfl, N82, trivial⟩
  | 16, _, hk2 =>
    obtain ⟨_, _, ⟨T84, L84, k84, n84⟩, -, X84, ⟨Lc84, hQ84, l84, y84, z84⟩, st84⟩ := Jvm.LawKit.callS X0 hx (y := own_m1) hown (mvT hZ (hw _ (List.mem_of_getElem? (i := 1) rfl))) (mvT hZ (hw _ (List.mem_of_getElem? (i := 2) rfl))) (mvT hZ (hw _ (List.mem_of_getElem? (i := 3) rfl))) (mvT hZ (hw _ (List.mem_of_getElem? (i := 4) rfl))) (by decide) (backOf (W := 0) (rm33 l Z a0 hw [] h0 n0 p1 A K EN OL0) hZ (hw _ (List.mem_of_getElem? (i := 4) rfl)) (hw _ (List.mem_of_getElem? (i := 3) rfl)) (by decide) (by decide)) (g := (mkF m 9 #[.val (.int p1), .val (.int (16 : Int32)), .unset, .unset] [(.int (16 : Int32))])) rfl (by rw [hml]; rfl) (argsL := [(.int (16 : Int32))]) (rest := []) (lenOf own_pd0 rfl) rfl (by show 2 * 0 + _ ≤ _; exact Nat.le_of_eq rfl) (hb hby at_9) (fun _ _ => ⟨rfl, e0, (by decide : 0 + 0 ≤ _), (by decide : 0 + 0 ≤ _)⟩)
    dsimp only [Pt.U, Pt.locs, Pt.cells, Pt.slots] at X84 l84 y84 z84 st84 hQ84
    subst l84 y84 z84
    obtain ⟨rfl, N84q, e84⟩ := hQ84
    have N84 := Fr.app N0 N84q
    obtain ⟨cq87, kq87, q87a, q87b, q87c⟩ := isOf hZ e84 (EN.2.2.2.2.1.2.1.ext OL0.2)
    obtain ⟨_, _, ⟨T87, L87, k87, n87⟩, -, X87, ⟨Lc87, hQ87, l87, y87, z87⟩, st87⟩ := X84.virtualBack hx (y := own_m0) (z := own_m0) hown (mvT hZ (hw _ (List.mem_of_getElem? (i := 8) rfl))) (mvT hZ (hw _ (List.mem_of_getElem? (i := 9) rfl))) (notFace_of_selects (args := #[]) (mvT hZ (hw _ (List.mem_of_getElem? (i := 11) rfl)))) (mvT hZ (hw _ (List.mem_of_getElem? (i := 11) rfl))) (mvT hZ (hw _ (List.mem_of_getElem? (i := 10) rfl))) (by decide) (backOf (W := 0) (rm34 l Z a0 hw [] h0 n0 p1 A K EN OL0) hZ (hw _ (List.mem_of_getElem? (i := 12) rfl)) (hw _ (List.mem_of_getElem? (i := 6) rfl)) (by decide) (by decide)) q87a q87c (g := (mkF m 26 #[.val (.int p1), .val (.int (16 : Int32)), .val (.ref (A 16)), .val (.int (0 : Int32))] [(.ref (A 16))])) rfl (by rw [hml]; rfl) (Steps.refl _) (argsL := []) (rest := []) (lenOf own_pd1 rfl) rfl (by show 2 * 0 + _ ≤ _; exact Nat.le_of_eq rfl) (hb hby at_26) (fun _ _ => ⟨rfl, e84, (by decide : 0 + 0 ≤ _), (by decide : 0 + 0 ≤ _)⟩)
    dsimp only [Pt.U, Pt.locs, Pt.cells, Pt.slots] at X87 l87 y87 z87 st87 hQ87
    subst l87 y87 z87
    obtain ⟨rfl, N87q, e87⟩ := hQ87
    have N87 := Fr.app N84 N87q
    obtain ⟨fs, hr, hrun, hended, hW, hsame⟩ := X87.leave (v := some (.int (1 : Int32))) (fun h => by rw [Bd.returns] at h; cases h)
    refine ⟨_, _, pre1 _ ?_, hrun, hended, _, _, rfl, ?_, ⟨_, rfl⟩, hW, hsame.mono (by decide) (by decide)⟩
    · show Steps p.tables e below (s₁.setTop (mkF m 7 #[.val (.int p1), .unset, .unset, .unset] [(.int ((p1 &&& (2147483647 : Int32)) % (28 : Int32)))])) _
      rw [hk2]
      show Steps p.tables e below (s₁.setTop (mkF m 7 #[.val (.int p1), .unset, .unset, .unset] [(.int (16 : Int32))])) _
      refine XS.istoreN X0.here hx rfl (hb hby at_7) rfl (l' := #[.val (.int p1), .val (.int (16 : Int32)), .unset, .unset]) rfl ?_
      show Steps p.tables e below (s₁.setTop (mkF m 8 #[.val (.int p1), .val (.int (16 : Int32)), .unset, .unset] [])) _
      refine XS.iloadN X0.here hx rfl (hb hby at_8) rfl ?_
      show Steps p.tables e below (s₁.setTop (mkF m 9 #[.val (.int p1), .val (.int (16 : Int32)), .unset, .unset] [(.int (16 : Int32))])) _
      refine st84 _ ?_
      show Steps p.tables e below (T84.setTop (mkF m 12 #[.val (.int p1), .val (.int (16 : Int32)), .unset, .unset] [(.ref (A 16))])) _
      refine XS.astoreN X84.here hx rfl (hb hby at_12) rfl rfl (l' := #[.val (.int p1), .val (.int (16 : Int32)), .val (.ref (A 16)), .unset]) rfl ?_
      show Steps p.tables e below (T84.setTop (mkF m 13 #[.val (.int p1), .val (.int (16 : Int32)), .val (.ref (A 16)), .unset] [])) _
      refine XS.iloadN X84.here hx rfl (hb hby at_13) rfl ?_
      show Steps p.tables e below (T84.setTop (mkF m 14 #[.val (.int p1), .val (.int (16 : Int32)), .val (.ref (A 16)), .unset] [(.int (16 : Int32))])) _
      refine XS.bipush X84.here hx rfl (hb hby at_14) ?_
      show Steps p.tables e below (T84.setTop (mkF m 16 #[.val (.int p1), .val (.int (16 : Int32)), .val (.ref (A 16)), .unset] [(.int (26 : Int32)), (.int (16 : Int32))])) _
      refine XS.icmpYes X84.here hx rfl (pc0 := 16) (pc' := 23) rfl (hb hby at_16) rfl (tlt (by decide : (16 : Int32) < (26 : Int32))).1 (by decide) (by decide) ?_
      show Steps p.tables e below (T84.setTop (mkF m 23 #[.val (.int p1), .val (.int (16 : Int32)), .val (.ref (A 16)), .unset] [])) _
      refine XS.iconst X84.here hx rfl (hb hby at_23) ?_
      show Steps p.tables e below (T84.setTop (mkF m 24 #[.val (.int p1), .val (.int (16 : Int32)), .val (.ref (A 16)), .unset] [(.int (0 : Int32))])) _
      refine XS.istoreN X84.here hx rfl (hb hby at_24) rfl (l' := #[.val (.int p1), .val (.int (16 : Int32)), .val (.ref (A 16)), .val (.int (0 : Int32))]) rfl ?_
      show Steps p.tables e below (T84.setTop (mkF m 25 #[.val (.int p1), .val (.int (16 : Int32)), .val (.ref (A 16)), .val (.int (0 : Int32))] [])) _
      refine XS.aloadN X84.here hx rfl (hb hby at_25) rfl rfl ?_
      show Steps p.tables e below (T84.setTop (mkF m 26 #[.val (.int p1), .val (.int (16 : Int32)), .val (.ref (A 16)), .val (.int (0 : Int32))] [(.ref (A 16))])) _
      refine st87.trans ?_
      show Steps p.tables e below (T87.setTop (mkF m 29 #[.val (.int p1), .val (.int (16 : Int32)), .val (.ref (A 16)), .val (.int (0 : Int32))] [(.int (0 : Int32))])) _
      refine XS.iloadN X87.here hx rfl (hb hby at_29) rfl ?_
      show Steps p.tables e below (T87.setTop (mkF m 30 #[.val (.int p1), .val (.int (16 : Int32)), .val (.ref (A 16)), .val (.int (0 : Int32))] [(.int (0 : Int32)), (.int (0 : Int32))])) _
      refine XS.icmpNo X87.here hx rfl (hb hby at_30) rfl (teq (by decide : (0 : Int32) = (0 : Int32))).2 ?_
      show Steps p.tables e below (T87.setTop (mkF m 33 #[.val (.int p1), .val (.int (16 : Int32)), .val (.ref (A 16)), .val (.int (0 : Int32))] [])) _
      refine XS.iconst X87.here hx rfl (hb hby at_33) ?_
      show Steps p.tables e below (T87.setTop (mkF m 34 #[.val (.int p1), .val (.int (16 : Int32)), .val (.ref (A 16)), .val (.int (0 : Int32))] [(.int (1 : Int32))])) _
      refine XS.goto X87.here hx rfl (pc0 := 34) (pc' := 38) rfl (hb hby at_34) (by decide) (by decide) ?_
      show Steps p.tables e below (T87.setTop (mkF m 38 #[.val (.int p1), .val (.int (16 : Int32)), .val (.ref (A 16)), .val (.int (0 : Int32))] [(.int (1 : Int32))])) _
      exact retN X87 hx (t := .boolean) Bd.returns (by simp) (hb hby at_38) hr
    · show LQ n0 _ T87.heap _
      exact ⟨rfl, N87, trivial⟩
  | 17, _, hk2 =>
    obtain ⟨_, _, ⟨T89, L89, k89, n89⟩, -, X89, ⟨Lc89, hQ89, l89, y89, z89⟩, st89⟩ := Jvm.LawKit.callS X0 hx (y := own_m1) hown (mvT hZ (hw _ (List.mem_of_getElem? (i := 1) rfl))) (mvT hZ (hw _ (List.mem_of_getElem? (i := 2) rfl))) (mvT hZ (hw _ (List.mem_of_getElem? (i := 3) rfl))) (mvT hZ (hw _ (List.mem_of_getElem? (i := 4) rfl))) (by decide) (backOf (W := 0) (rm35 l Z a0 hw [] h0 n0 p1 A K EN OL0) hZ (hw _ (List.mem_of_getElem? (i := 4) rfl)) (hw _ (List.mem_of_getElem? (i := 3) rfl)) (by decide) (by decide)) (g := (mkF m 9 #[.val (.int p1), .val (.int (17 : Int32)), .unset, .unset] [(.int (17 : Int32))])) rfl (by rw [hml]; rfl) (argsL := [(.int (17 : Int32))]) (rest := []) (lenOf own_pd0 rfl) rfl (by show 2 * 0 + _ ≤ _; exact Nat.le_of_eq rfl) (hb hby at_9) (fun _ _ => ⟨rfl, e0, (by decide : 0 + 0 ≤ _), (by decide : 0 + 0 ≤ _)⟩)
    dsimp only [Pt.U, Pt.locs, Pt.cells, Pt.slots] at X89 l89 y89 z89 st89 hQ89
    subst l89 y89 z89
    obtain ⟨rfl, N89q, e89⟩ := hQ89
    have N89 := Fr.app N0 N89q
    obtain ⟨cq92, kq92, q92a, q92b, q92c⟩ := isOf hZ e89 (EN.2.2.2.2.1.2.2.2.1.ext OL0.2)
    obtain ⟨_, _, ⟨T92, L92, k92, n92⟩, -, X92, ⟨Lc92, hQ92, l92, y92, z92⟩, st92⟩ := X89.virtualBack hx (y := own_m0) (z := own_m0) hown (mvT hZ (hw _ (List.mem_of_getElem? (i := 8) rfl))) (mvT hZ (hw _ (List.mem_of_getElem? (i := 9) rfl))) (notFace_of_selects (args := #[]) (mvT hZ (hw _ (List.mem_of_getElem? (i := 11) rfl)))) (mvT hZ (hw _ (List.mem_of_getElem? (i := 11) rfl))) (mvT hZ (hw _ (List.mem_of_getElem? (i := 10) rfl))) (by decide) (backOf (W := 0) (rm36 l Z a0 hw [] h0 n0 p1 A K EN OL0) hZ (hw _ (List.mem_of_getElem? (i := 12) rfl)) (hw _ (List.mem_of_getElem? (i := 6) rfl)) (by decide) (by decide)) q92a q92c (g := (mkF m 26 #[.val (.int p1), .val (.int (17 : Int32)), .val (.ref (A 17)), .val (.int (0 : Int32))] [(.ref (A 17))])) rfl (by rw [hml]; rfl) (Steps.refl _) (argsL := []) (rest := []) (lenOf own_pd1 rfl) rfl (by show 2 * 0 + _ ≤ _; exact Nat.le_of_eq rfl) (hb hby at_26) (fun _ _ => ⟨rfl, e89, (by decide : 0 + 0 ≤ _), (by decide : 0 + 0 ≤ _)⟩)
    dsimp only [Pt.U, Pt.locs, Pt.cells, Pt.slots] at X92 l92 y92 z92 st92 hQ92
    subst l92 y92 z92
    obtain ⟨rfl, N92q, e92⟩ := hQ92
    have N92 := Fr.app N89 N92q
    obtain ⟨fs, hr, hrun, hended, hW, hsame⟩ := X92.leave (v := some (.int (1 : Int32))) (fun h => by rw [Bd.returns] at h; cases h)
    refine ⟨_, _, pre1 _ ?_, hrun, hended, _, _, rfl, ?_, ⟨_, rfl⟩, hW, hsame.mono (by decide) (by decide)⟩
    · show Steps p.tables e below (s₁.setTop (mkF m 7 #[.val (.int p1), .unset, .unset, .unset] [(.int ((p1 &&& (2147483647 : Int32)) % (28 : Int32)))])) _
      rw [hk2]
      show Steps p.tables e below (s₁.setTop (mkF m 7 #[.val (.int p1), .unset, .unset, .unset] [(.int (17 : Int32))])) _
      refine XS.istoreN X0.here hx rfl (hb hby at_7) rfl (l' := #[.val (.int p1), .val (.int (17 : Int32)), .unset, .unset]) rfl ?_
      show Steps p.tables e below (s₁.setTop (mkF m 8 #[.val (.int p1), .val (.int (17 : Int32)), .unset, .unset] [])) _
      refine XS.iloadN X0.here hx rfl (hb hby at_8) rfl ?_
      show Steps p.tables e below (s₁.setTop (mkF m 9 #[.val (.int p1), .val (.int (17 : Int32)), .unset, .unset] [(.int (17 : Int32))])) _
      refine st89 _ ?_
      show Steps p.tables e below (T89.setTop (mkF m 12 #[.val (.int p1), .val (.int (17 : Int32)), .unset, .unset] [(.ref (A 17))])) _
      refine XS.astoreN X89.here hx rfl (hb hby at_12) rfl rfl (l' := #[.val (.int p1), .val (.int (17 : Int32)), .val (.ref (A 17)), .unset]) rfl ?_
      show Steps p.tables e below (T89.setTop (mkF m 13 #[.val (.int p1), .val (.int (17 : Int32)), .val (.ref (A 17)), .unset] [])) _
      refine XS.iloadN X89.here hx rfl (hb hby at_13) rfl ?_
      show Steps p.tables e below (T89.setTop (mkF m 14 #[.val (.int p1), .val (.int (17 : Int32)), .val (.ref (A 17)), .unset] [(.int (17 : Int32))])) _
      refine XS.bipush X89.here hx rfl (hb hby at_14) ?_
      show Steps p.tables e below (T89.setTop (mkF m 16 #[.val (.int p1), .val (.int (17 : Int32)), .val (.ref (A 17)), .unset] [(.int (26 : Int32)), (.int (17 : Int32))])) _
      refine XS.icmpYes X89.here hx rfl (pc0 := 16) (pc' := 23) rfl (hb hby at_16) rfl (tlt (by decide : (17 : Int32) < (26 : Int32))).1 (by decide) (by decide) ?_
      show Steps p.tables e below (T89.setTop (mkF m 23 #[.val (.int p1), .val (.int (17 : Int32)), .val (.ref (A 17)), .unset] [])) _
      refine XS.iconst X89.here hx rfl (hb hby at_23) ?_
      show Steps p.tables e below (T89.setTop (mkF m 24 #[.val (.int p1), .val (.int (17 : Int32)), .val (.ref (A 17)), .unset] [(.int (0 : Int32))])) _
      refine XS.istoreN X89.here hx rfl (hb hby at_24) rfl (l' := #[.val (.int p1), .val (.int (17 : Int32)), .val (.ref (A 17)), .val (.int (0 : Int32))]) rfl ?_
      show Steps p.tables e below (T89.setTop (mkF m 25 #[.val (.int p1), .val (.int (17 : Int32)), .val (.ref (A 17)), .val (.int (0 : Int32))] [])) _
      refine XS.aloadN X89.here hx rfl (hb hby at_25) rfl rfl ?_
      show Steps p.tables e below (T89.setTop (mkF m 26 #[.val (.int p1), .val (.int (17 : Int32)), .val (.ref (A 17)), .val (.int (0 : Int32))] [(.ref (A 17))])) _
      refine st92.trans ?_
      show Steps p.tables e below (T92.setTop (mkF m 29 #[.val (.int p1), .val (.int (17 : Int32)), .val (.ref (A 17)), .val (.int (0 : Int32))] [(.int (0 : Int32))])) _
      refine XS.iloadN X92.here hx rfl (hb hby at_29) rfl ?_
      show Steps p.tables e below (T92.setTop (mkF m 30 #[.val (.int p1), .val (.int (17 : Int32)), .val (.ref (A 17)), .val (.int (0 : Int32))] [(.int (0 : Int32)), (.int (0 : Int32))])) _
      refine XS.icmpNo X92.here hx rfl (hb hby at_30) rfl (teq (by decide : (0 : Int32) = (0 : Int32))).2 ?_
      show Steps p.tables e below (T92.setTop (mkF m 33 #[.val (.int p1), .val (.int (17 : Int32)), .val (.ref (A 17)), .val (.int (0 : Int32))] [])) _
      refine XS.iconst X92.here hx rfl (hb hby at_33) ?_
      show Steps p.tables e below (T92.setTop (mkF m 34 #[.val (.int p1), .val (.int (17 : Int32)), .val (.ref (A 17)), .val (.int (0 : Int32))] [(.int (1 : Int32))])) _
      refine XS.goto X92.here hx rfl (pc0 := 34) (pc' := 38) rfl (hb hby at_34) (by decide) (by decide) ?_
      show Steps p.tables e below (T92.setTop (mkF m 38 #[.val (.int p1), .val (.int (17 : Int32)), .val (.ref (A 17)), .val (.int (0 : Int32))] [(.int (1 : Int32))])) _
      exact retN X92 hx (t := .boolean) Bd.returns (by simp) (hb hby at_38) hr
    · show LQ n0 _ T92.heap _
      exact ⟨rfl, N92, trivial⟩
  | 18, _, hk2 =>
    obtain ⟨_, _, ⟨T94, L94, k94, n94⟩, -, X94, ⟨Lc94, hQ94, l94, y94, z94⟩, st94⟩ := Jvm.LawKit.callS X0 hx (y := own_m1) hown (mvT hZ (hw _ (List.mem_of_getElem? (i := 1) rfl))) (mvT hZ (hw _ (List.mem_of_getElem? (i := 2) rfl))) (mvT hZ (hw _ (List.mem_of_getElem? (i := 3) rfl))) (mvT hZ (hw _ (List.mem_of_getElem? (i := 4) rfl))) (by decide) (backOf (W := 0) (rm37 l Z a0 hw [] h0 n0 p1 A K EN OL0) hZ (hw _ (List.mem_of_getElem? (i := 4) rfl)) (hw _ (List.mem_of_getElem? (i := 3) rfl)) (by decide) (by decide)) (g := (mkF m 9 #[.val (.int p1), .val (.int (18 : Int32)), .unset, .unset] [(.int (18 : Int32))])) rfl (by rw [hml]; rfl) (argsL := [(.int (18 : Int32))]) (rest := []) (lenOf own_pd0 rfl) rfl (by show 2 * 0 + _ ≤ _; exact Nat.le_of_eq rfl) (hb hby at_9) (fun _ _ => ⟨rfl, e0, (by decide : 0 + 0 ≤ _), (by decide : 0 + 0 ≤ _)⟩)
    dsimp only [Pt.U, Pt.locs, Pt.cells, Pt.slots] at X94 l94 y94 z94 st94 hQ94
    subst l94 y94 z94
    obtain ⟨rfl, N94q, e94⟩ := hQ94
    have N94 := Fr.app N0 N94q
    obtain ⟨cq97, kq97, q97a, q97b, q97c⟩ := isOf hZ e94 (EN.2.2.2.2.1.2.2.2.2.2.1.ext OL0.2)
    obtain ⟨_, _, ⟨T97, L97, k97, n97⟩, -, X97, ⟨Lc97, hQ97, l97, y97, z97⟩, st97⟩ := X94.virtualBack hx (y := own_m0) (z := own_m0) hown (mvT hZ (hw _ (List.mem_of_getElem? (i := 8) rfl))) (mvT hZ (hw _ (List.mem_of_getElem? (i := 9) rfl))) (notFace_of_selects (args := #[]) (mvT hZ (hw _ (List.mem_of_getElem? (i := 11) rfl)))) (mvT hZ (hw _ (List.mem_of_getElem? (i := 11) rfl))) (mvT hZ (hw _ (List.mem_of_getElem? (i := 10) rfl))) (by decide) (backOf (W := 0) (rm38 l Z a0 hw [] h0 n0 p1 A K EN OL0) hZ (hw _ (List.mem_of_getElem? (i := 12) rfl)) (hw _ (List.mem_of_getElem? (i := 6) rfl)) (by decide) (by decide)) q97a q97c (g := (mkF m 26 #[.val (.int p1), .val (.int (18 : Int32)), .val (.ref (A 18)), .val (.int (0 : Int32))] [(.ref (A 18))])) rfl (by rw [hml]; rfl) (Steps.refl _) (argsL := []) (rest := []) (lenOf own_pd1 rfl) rfl (by show 2 * 0 + _ ≤ _; exact Nat.le_of_eq rfl) (hb hby at_26) (fun _ _ => ⟨rfl, e94, (by decide : 0 + 0 ≤ _), (by decide : 0 + 0 ≤ _)⟩)
    dsimp only [Pt.U, Pt.locs, Pt.cells, Pt.slots] at X97 l97 y97 z97 st97 hQ97
    subst l97 y97 z97
    obtain ⟨rfl, N97q, e97⟩ := hQ97
    have N97 := Fr.app N94 N97q
    obtain ⟨fs, hr, hrun, hended, hW, hsame⟩ := X97.leave (v := some (.int (1 : Int32))) (fun h => by rw [Bd.returns] at h; cases h)
    refine ⟨_, _, pre1 _ ?_, hrun, hended, _, _, rfl, ?_, ⟨_, rfl⟩, hW, hsame.mono (by decide) (by decide)⟩
    · show Steps p.tables e below (s₁.setTop (mkF m 7 #[.val (.int p1), .unset, .unset, .unset] [(.int ((p1 &&& (2147483647 : Int32)) % (28 : Int32)))])) _
      rw [hk2]
      show Steps p.tables e below (s₁.setTop (mkF m 7 #[.val (.int p1), .unset, .unset, .unset] [(.int (18 : Int32))])) _
      refine XS.istoreN X0.here hx rfl (hb hby at_7) rfl (l' := #[.val (.int p1), .val (.int (18 : Int32)), .unset, .unset]) rfl ?_
      show Steps p.tables e below (s₁.setTop (mkF m 8 #[.val (.int p1), .val (.int (18 : Int32)), .unset, .unset] [])) _
      refine XS.iloadN X0.here hx rfl (hb hby at_8) rfl ?_
      show Steps p.tables e below (s₁.setTop (mkF m 9 #[.val (.int p1), .val (.int (18 : Int32)), .unset, .unset] [(.int (18 : Int32))])) _
      refine st94 _ ?_
      show Steps p.tables e below (T94.setTop (mkF m 12 #[.val (.int p1), .val (.int (18 : Int32)), .unset, .unset] [(.ref (A 18))])) _
      refine XS.astoreN X94.here hx rfl (hb hby at_12) rfl rfl (l' := #[.val (.int p1), .val (.int (18 : Int32)), .val (.ref (A 18)), .unset]) rfl ?_
      show Steps p.tables e below (T94.setTop (mkF m 13 #[.val (.int p1), .val (.int (18 : Int32)), .val (.ref (A 18)), .unset] [])) _
      refine XS.iloadN X94.here hx rfl (hb hby at_13) rfl ?_
      show Steps p.tables e below (T94.setTop (mkF m 14 #[.val (.int p1), .val (.int (18 : Int32)), .val (.ref (A 18)), .unset] [(.int (18 : Int32))])) _
      refine XS.bipush X94.here hx rfl (hb hby at_14) ?_
      show Steps p.tables e below (T94.setTop (mkF m 16 #[.val (.int p1), .val (.int (18 : Int32)), .val (.ref (A 18)), .unset] [(.int (26 : Int32)), (.int (18 : Int32))])) _
      refine XS.icmpYes X94.here hx rfl (pc0 := 16) (pc' := 23) rfl (hb hby at_16) rfl (tlt (by decide : (18 : Int32) < (26 : Int32))).1 (by decide) (by decide) ?_
      show Steps p.tables e below (T94.setTop (mkF m 23 #[.val (.int p1), .val (.int (18 : Int32)), .val (.ref (A 18)), .unset] [])) _
      refine XS.iconst X94.here hx rfl (hb hby at_23) ?_
      show Steps p.tables e below (T94.setTop (mkF m 24 #[.val (.int p1), .val (.int (18 : Int32)), .val (.ref (A 18)), .unset] [(.int (0 : Int32))])) _
      refine XS.istoreN X94.here hx rfl (hb hby at_24) rfl (l' := #[.val (.int p1), .val (.int (18 : Int32)), .val (.ref (A 18)), .val (.int (0 : Int32))]) rfl ?_
      show Steps p.tables e below (T94.setTop (mkF m 25 #[.val (.int p1), .val (.int (18 : Int32)), .val (.ref (A 18)), .val (.int (0 : Int32))] [])) _
      refine XS.aloadN X94.here hx rfl (hb hby at_25) rfl rfl ?_
      show Steps p.tables e below (T94.setTop (mkF m 26 #[.val (.int p1), .val (.int (18 : Int32)), .val (.ref (A 18)), .val (.int (0 : Int32))] [(.ref (A 18))])) _
      refine st97.trans ?_
      show Steps p.tables e below (T97.setTop (mkF m 29 #[.val (.int p1), .val (.int (18 : Int32)), .val (.ref (A 18)), .val (.int (0 : Int32))] [(.int (0 : Int32))])) _
      refine XS.iloadN X97.here hx rfl (hb hby at_29) rfl ?_
      show Steps p.tables e below (T97.setTop (mkF m 30 #[.val (.int p1), .val (.int (18 : Int32)), .val (.ref (A 18)), .val (.int (0 : Int32))] [(.int (0 : Int32)), (.int (0 : Int32))])) _
      refine XS.icmpNo X97.here hx rfl (hb hby at_30) rfl (teq (by decide : (0 : Int32) = (0 : Int32))).2 ?_
      show Steps p.tables e below (T97.setTop (mkF m 33 #[.val (.int p1), .val (.int (18 : Int32)), .val (.ref (A 18)), .val (.int (0 : Int32))] [])) _
      refine XS.iconst X97.here hx rfl (hb hby at_33) ?_
      show Steps p.tables e below (T97.setTop (mkF m 34 #[.val (.int p1), .val (.int (18 : Int32)), .val (.ref (A 18)), .val (.int (0 : Int32))] [(.int (1 : Int32))])) _
      refine XS.goto X97.here hx rfl (pc0 := 34) (pc' := 38) rfl (hb hby at_34) (by decide) (by decide) ?_
      show Steps p.tables e below (T97.setTop (mkF m 38 #[.val (.int p1), .val (.int (18 : Int32)), .val (.ref (A 18)), .val (.int (0 : Int32))] [(.int (1 : Int32))])) _
      exact retN X97 hx (t := .boolean) Bd.returns (by simp) (hb hby at_38) hr
    · show LQ n0 _ T97.heap _
      exact ⟨rfl, N97, trivial⟩
  | 19, _, hk2 =>
    obtain ⟨_, _, ⟨T99, L99, k99, n99⟩, -, X99, ⟨Lc99, hQ99, l99, y99, z99⟩, st99⟩ := Jvm.LawKit.callS X0 hx (y := own_m1) hown (mvT hZ (hw _ (List.mem_of_getElem? (i := 1) rfl))) (mvT hZ (hw _ (List.mem_of_getElem? (i := 2) rfl))) (mvT hZ (hw _ (List.mem_of_getElem? (i := 3) rfl))) (mvT hZ (hw _ (List.mem_of_getElem? (i := 4) rfl))) (by decide) (backOf (W := 0) (rm39 l Z a0 hw [] h0 n0 p1 A K EN OL0) hZ (hw _ (List.mem_of_getElem? (i := 4) rfl)) (hw _ (List.mem_of_getElem? (i := 3) rfl)) (by decide) (by decide)) (g := (mkF m 9 #[.val (.int p1), .val (.int (19 : Int32)), .unset, .unset] [(.int (19 : Int32))])) rfl (by rw [hml]; rfl) (argsL := [(.int (19 : Int32))]) (rest := []) (lenOf own_pd0 rfl) rfl (by show 2 * 0 + _ ≤ _; exact Nat.le_of_eq rfl) (hb hby at_9) (fun _ _ => ⟨rfl, e0, (by decide : 0 + 0 ≤ _), (by decide : 0 + 0 ≤ _)⟩)
    dsimp only [Pt.U, Pt.locs, Pt.cells, Pt.slots] at X99 l99 y99 z99 st99 hQ99
    subst l99 y99 z99
    obtain ⟨rfl, N99q, e99⟩ := hQ99
    have N99 := Fr.app N0 N99q
    obtain ⟨cq102, kq102, q102a, q102b, q102c⟩ := isOf hZ e99 (EN.2.2.2.2.1.2.2.2.2.2.2.2.1.ext OL0.2)
    obtain ⟨_, _, ⟨T102, L102, k102, n102⟩, -, X102, ⟨Lc102, hQ102, l102, y102, z102⟩, st102⟩ := X99.virtualBack hx (y := own_m0) (z := own_m0) hown (mvT hZ (hw _ (List.mem_of_getElem? (i := 8) rfl))) (mvT hZ (hw _ (List.mem_of_getElem? (i := 9) rfl))) (notFace_of_selects (args := #[]) (mvT hZ (hw _ (List.mem_of_getElem? (i := 11) rfl)))) (mvT hZ (hw _ (List.mem_of_getElem? (i := 11) rfl))) (mvT hZ (hw _ (List.mem_of_getElem? (i := 10) rfl))) (by decide) (backOf (W := 0) (rm40 l Z a0 hw [] h0 n0 p1 A K EN OL0) hZ (hw _ (List.mem_of_getElem? (i := 12) rfl)) (hw _ (List.mem_of_getElem? (i := 6) rfl)) (by decide) (by decide)) q102a q102c (g := (mkF m 26 #[.val (.int p1), .val (.int (19 : Int32)), .val (.ref (A 19)), .val (.int (0 : Int32))] [(.ref (A 19))])) rfl (by rw [hml]; rfl) (Steps.refl _) (argsL := []) (rest := []) (lenOf own_pd1 rfl) rfl (by show 2 * 0 + _ ≤ _; exact Nat.le_of_eq rfl) (hb hby at_26) (fun _ _ => ⟨rfl, e99, (by decide : 0 + 0 ≤ _), (by decide : 0 + 0 ≤ _)⟩)
    dsimp only [Pt.U, Pt.locs, Pt.cells, Pt.slots] at X102 l102 y102 z102 st102 hQ102
    subst l102 y102 z102
    obtain ⟨rfl, N102q, e102⟩ := hQ102
    have N102 := Fr.app N99 N102q
    obtain ⟨fs, hr, hrun, hended, hW, hsame⟩ := X102.leave (v := some (.int (1 : Int32))) (fun h => by rw [Bd.returns] at h; cases h)
    refine ⟨_, _, pre1 _ ?_, hrun, hended, _, _, rfl, ?_, ⟨_, rfl⟩, hW, hsame.mono (by decide) (by decide)⟩
    · show Steps p.tables e below (s₁.setTop (mkF m 7 #[.val (.int p1), .unset, .unset, .unset] [(.int ((p1 &&& (2147483647 : Int32)) % (28 : Int32)))])) _
      rw [hk2]
      show Steps p.tables e below (s₁.setTop (mkF m 7 #[.val (.int p1), .unset, .unset, .unset] [(.int (19 : Int32))])) _
      refine XS.istoreN X0.here hx rfl (hb hby at_7) rfl (l' := #[.val (.int p1), .val (.int (19 : Int32)), .unset, .unset]) rfl ?_
      show Steps p.tables e below (s₁.setTop (mkF m 8 #[.val (.int p1), .val (.int (19 : Int32)), .unset, .unset] [])) _
      refine XS.iloadN X0.here hx rfl (hb hby at_8) rfl ?_
      show Steps p.tables e below (s₁.setTop (mkF m 9 #[.val (.int p1), .val (.int (19 : Int32)), .unset, .unset] [(.int (19 : Int32))])) _
      refine st99 _ ?_
      show Steps p.tables e below (T99.setTop (mkF m 12 #[.val (.int p1), .val (.int (19 : Int32)), .unset, .unset] [(.ref (A 19))])) _
      refine XS.astoreN X99.here hx rfl (hb hby at_12) rfl rfl (l' := #[.val (.int p1), .val (.int (19 : Int32)), .val (.ref (A 19)), .unset]) rfl ?_
      show Steps p.tables e below (T99.setTop (mkF m 13 #[.val (.int p1), .val (.int (19 : Int32)), .val (.ref (A 19)), .unset] [])) _
      refine XS.iloadN X99.here hx rfl (hb hby at_13) rfl ?_
      show Steps p.tables e below (T99.setTop (mkF m 14 #[.val (.int p1), .val (.int (19 : Int32)), .val (.ref (A 19)), .unset] [(.int (19 : Int32))])) _
      refine XS.bipush X99.here hx rfl (hb hby at_14) ?_
      show Steps p.tables e below (T99.setTop (mkF m 16 #[.val (.int p1), .val (.int (19 : Int32)), .val (.ref (A 19)), .unset] [(.int (26 : Int32)), (.int (19 : Int32))])) _
      refine XS.icmpYes X99.here hx rfl (pc0 := 16) (pc' := 23) rfl (hb hby at_16) rfl (tlt (by decide : (19 : Int32) < (26 : Int32))).1 (by decide) (by decide) ?_
      show Steps p.tables e below (T99.setTop (mkF m 23 #[.val (.int p1), .val (.int (19 : Int32)), .val (.ref (A 19)), .unset] [])) _
      refine XS.iconst X99.here hx rfl (hb hby at_23) ?_
      show Steps p.tables e below (T99.setTop (mkF m 24 #[.val (.int p1), .val (.int (19 : Int32)), .val (.ref (A 19)), .unset] [(.int (0 : Int32))])) _
      refine XS.istoreN X99.here hx rfl (hb hby at_24) rfl (l' := #[.val (.int p1), .val (.int (19 : Int32)), .val (.ref (A 19)), .val (.int (0 : Int32))]) rfl ?_
      show Steps p.tables e below (T99.setTop (mkF m 25 #[.val (.int p1), .val (.int (19 : Int32)), .val (.ref (A 19)), .val (.int (0 : Int32))] [])) _
      refine XS.aloadN X99.here hx rfl (hb hby at_25) rfl rfl ?_
      show Steps p.tables e below (T99.setTop (mkF m 26 #[.val (.int p1), .val (.int (19 : Int32)), .val (.ref (A 19)), .val (.int (0 : Int32))] [(.ref (A 19))])) _
      refine st102.trans ?_
      show Steps p.tables e below (T102.setTop (mkF m 29 #[.val (.int p1), .val (.int (19 : Int32)), .val (.ref (A 19)), .val (.int (0 : Int32))] [(.int (0 : Int32))])) _
      refine XS.iloadN X102.here hx rfl (hb hby at_29) rfl ?_
      show Steps p.tables e below (T102.setTop (mkF m 30 #[.val (.int p1), .val (.int (19 : Int32)), .val (.ref (A 19)), .val (.int (0 : Int32))] [(.int (0 : Int32)), (.int (0 : Int32))])) _
      refine XS.icmpNo X102.here hx rfl (hb hby at_30) rfl (teq (by decide : (0 : Int32) = (0 : Int32))).2 ?_
      show Steps p.tables e below (T102.setTop (mkF m 33 #[.val (.int p1), .val (.int (19 : Int32)), .val (.ref (A 19)), .val (.int (0 : Int32))] [])) _
      refine XS.iconst X102.here hx rfl (hb hby at_33) ?_
      show Steps p.tables e below (T102.setTop (mkF m 34 #[.val (.int p1), .val (.int (19 : Int32)), .val (.ref (A 19)), .val (.int (0 : Int32))] [(.int (1 : Int32))])) _
      refine XS.goto X102.here hx rfl (pc0 := 34) (pc' := 38) rfl (hb hby at_34) (by decide) (by decide) ?_
      show Steps p.tables e below (T102.setTop (mkF m 38 #[.val (.int p1), .val (.int (19 : Int32)), .val (.ref (A 19)), .val (.int (0 : Int32))] [(.int (1 : Int32))])) _
      exact retN X102 hx (t := .boolean) Bd.returns (by simp) (hb hby at_38) hr
    · show LQ n0 _ T102.heap _
      exact ⟨rfl, N102, trivial⟩
  | 20, _, hk2 =>
    obtain ⟨_, _, ⟨T104, L104, k104, n104⟩, -, X104, ⟨Lc104, hQ104, l104, y104, z104⟩, st104⟩ := Jvm.LawKit.callS X0 hx (y := own_m1) hown (mvT hZ (hw _ (List.mem_of_getElem? (i := 1) rfl))) (mvT hZ (hw _ (List.mem_of_getElem? (i := 2) rfl))) (mvT hZ (hw _ (List.mem_of_getElem? (i := 3) rfl))) (mvT hZ (hw _ (List.mem_of_getElem? (i := 4) rfl))) (by decide) (backOf (W := 0) (rm41 l Z a0 hw [] h0 n0 p1 A K EN OL0) hZ (hw _ (List.mem_of_getElem? (i := 4) rfl)) (hw _ (List.mem_of_getElem? (i := 3) rfl)) (by decide) (by decide)) (g := (mkF m 9 #[.val (.int p1), .val (.int (20 : Int32)), .unset, .unset] [(.int (20 : Int32))])) rfl (by rw [hml]; rfl) (argsL := [(.int (20 : Int32))]) (rest := []) (lenOf own_pd0 rfl) rfl (by show 2 * 0 + _ ≤ _; exact Nat.le_of_eq rfl) (hb hby at_9) (fun _ _ => ⟨rfl, e0, (by decide : 0 + 0 ≤ _), (by decide : 0 + 0 ≤ _)⟩)
    dsimp only [Pt.U, Pt.locs, Pt.cells, Pt.slots] at X104 l104 y104 z104 st104 hQ104
    subst l104 y104 z104
    obtain ⟨rfl, N104q, e104⟩ := hQ104
    have N104 := Fr.app N0 N104q
    obtain ⟨cq107, kq107, q107a, q107b, q107c⟩ := isOf hZ e104 (EN.2.2.2.2.2.1.2.1.ext OL0.2)
    obtain ⟨_, _, ⟨T107, L107, k107, n107⟩, -, X107, ⟨Lc107, hQ107, l107, y107, z107⟩, st107⟩ := X104.virtualBack hx (y := own_m0) (z := own_m0) hown (mvT hZ (hw _ (List.mem_of_getElem? (i := 8) rfl))) (mvT hZ (hw _ (List.mem_of_getElem? (i := 9) rfl))) (notFace_of_selects (args := #[]) (mvT hZ (hw _ (List.mem_of_getElem? (i := 11) rfl)))) (mvT hZ (hw _ (List.mem_of_getElem? (i := 11) rfl))) (mvT hZ (hw _ (List.mem_of_getElem? (i := 10) rfl))) (by decide) (backOf (W := 0) (rm42 l Z a0 hw [] h0 n0 p1 A K EN OL0) hZ (hw _ (List.mem_of_getElem? (i := 12) rfl)) (hw _ (List.mem_of_getElem? (i := 6) rfl)) (by decide) (by decide)) q107a q107c (g := (mkF m 26 #[.val (.int p1), .val (.int (20 : Int32)), .val (.ref (A 20)), .val (.int (0 : Int32))] [(.ref (A 20))])) rfl (by rw [hml]; rfl) (Steps.refl _) (argsL := []) (rest := []) (lenOf own_pd1 rfl) rfl (by show 2 * 0 + _ ≤ _; exact Nat.le_of_eq rfl) (hb hby at_26) (fun _ _ => ⟨rfl, e104, (by decide : 0 + 0 ≤ _), (by decide : 0 + 0 ≤ _)⟩)
    dsimp only [Pt.U, Pt.locs, Pt.cells, Pt.slots] at X107 l107 y107 z107 st107 hQ107
    subst l107 y107 z107
    obtain ⟨rfl, N107q, e107⟩ := hQ107
    have N107 := Fr.app N104 N107q
    obtain ⟨fs, hr, hrun, hended, hW, hsame⟩ := X107.leave (v := some (.int (1 : Int32))) (fun h => by rw [Bd.returns] at h; cases h)
    refine ⟨_, _, pre1 _ ?_, hrun, hended, _, _, rfl, ?_, ⟨_, rfl⟩, hW, hsame.mono (by decide) (by decide)⟩
    · show Steps p.tables e below (s₁.setTop (mkF m 7 #[.val (.int p1), .unset, .unset, .unset] [(.int ((p1 &&& (2147483647 : Int32)) % (28 : Int32)))])) _
      rw [hk2]
      show Steps p.tables e below (s₁.setTop (mkF m 7 #[.val (.int p1), .unset, .unset, .unset] [(.int (20 : Int32))])) _
      refine XS.istoreN X0.here hx rfl (hb hby at_7) rfl (l' := #[.val (.int p1), .val (.int (20 : Int32)), .unset, .unset]) rfl ?_
      show Steps p.tables e below (s₁.setTop (mkF m 8 #[.val (.int p1), .val (.int (20 : Int32)), .unset, .unset] [])) _
      refine XS.iloadN X0.here hx rfl (hb hby at_8) rfl ?_
      show Steps p.tables e below (s₁.setTop (mkF m 9 #[.val (.int p1), .val (.int (20 : Int32)), .unset, .unset] [(.int (20 : Int32))])) _
      refine st104 _ ?_
      show Steps p.tables e below (T104.setTop (mkF m 12 #[.val (.int p1), .val (.int (20 : Int32)), .unset, .unset] [(.ref (A 20))])) _
      refine XS.astoreN X104.here hx rfl (hb hby at_12) rfl rfl (l' := #[.val (.int p1), .val (.int (20 : Int32)), .val (.ref (A 20)), .unset]) rfl ?_
      show Steps p.tables e below (T104.setTop (mkF m 13 #[.val (.int p1), .val (.int (20 : Int32)), .val (.ref (A 20)), .unset] [])) _
      refine XS.iloadN X104.here hx rfl (hb hby at_13) rfl ?_
      show Steps p.tables e below (T104.setTop (mkF m 14 #[.val (.int p1), .val (.int (20 : Int32)), .val (.ref (A 20)), .unset] [(.int (20 : Int32))])) _
      refine XS.bipush X104.here hx rfl (hb hby at_14) ?_
      show Steps p.tables e below (T104.setTop (mkF m 16 #[.val (.int p1), .val (.int (20 : Int32)), .val (.ref (A 20)), .unset] [(.int (26 : Int32)), (.int (20 : Int32))])) _
      refine XS.icmpYes X104.here hx rfl (pc0 := 16) (pc' := 23) rfl (hb hby at_16) rfl (tlt (by decide : (20 : Int32) < (26 : Int32))).1 (by decide) (by decide) ?_
      show Steps p.tables e below (T104.setTop (mkF m 23 #[.val (.int p1), .val (.int (20 : Int32)), .val (.ref (A 20)), .unset] [])) _
      refine XS.iconst X104.here hx rfl (hb hby at_23) ?_
      show Steps p.tables e below (T104.setTop (mkF m 24 #[.val (.int p1), .val (.int (20 : Int32)), .val (.ref (A 20)), .unset] [(.int (0 : Int32))])) _
      refine XS.istoreN X104.here hx rfl (hb hby at_24) rfl (l' := #[.val (.int p1), .val (.int (20 : Int32)), .val (.ref (A 20)), .val (.int (0 : Int32))]) rfl ?_
      show Steps p.tables e below (T104.setTop (mkF m 25 #[.val (.int p1), .val (.int (20 : Int32)), .val (.ref (A 20)), .val (.int (0 : Int32))] [])) _
      refine XS.aloadN X104.here hx rfl (hb hby at_25) rfl rfl ?_
      show Steps p.tables e below (T104.setTop (mkF m 26 #[.val (.int p1), .val (.int (20 : Int32)), .val (.ref (A 20)), .val (.int (0 : Int32))] [(.ref (A 20))])) _
      refine st107.trans ?_
      show Steps p.tables e below (T107.setTop (mkF m 29 #[.val (.int p1), .val (.int (20 : Int32)), .val (.ref (A 20)), .val (.int (0 : Int32))] [(.int (0 : Int32))])) _
      refine XS.iloadN X107.here hx rfl (hb hby at_29) rfl ?_
      show Steps p.tables e below (T107.setTop (mkF m 30 #[.val (.int p1), .val (.int (20 : Int32)), .val (.ref (A 20)), .val (.int (0 : Int32))] [(.int (0 : Int32)), (.int (0 : Int32))])) _
      refine XS.icmpNo X107.here hx rfl (hb hby at_30) rfl (teq (by decide : (0 : Int32) = (0 : Int32))).2 ?_
      show Steps p.tables e below (T107.setTop (mkF m 33 #[.val (.int p1), .val (.int (20 : Int32)), .val (.ref (A 20)), .val (.int (0 : Int32))] [])) _
      refine XS.iconst X107.here hx rfl (hb hby at_33) ?_
      show Steps p.tables e below (T107.setTop (mkF m 34 #[.val (.int p1), .val (.int (20 : Int32)), .val (.ref (A 20)), .val (.int (0 : Int32))] [(.int (1 : Int32))])) _
      refine XS.goto X107.here hx rfl (pc0 := 34) (pc' := 38) rfl (hb hby at_34) (by decide) (by decide) ?_
      show Steps p.tables e below (T107.setTop (mkF m 38 #[.val (.int p1), .val (.int (20 : Int32)), .val (.ref (A 20)), .val (.int (0 : Int32))] [(.int (1 : Int32))])) _
      exact retN X107 hx (t := .boolean) Bd.returns (by simp) (hb hby at_38) hr
    · show LQ n0 _ T107.heap _
      exact ⟨rfl, N107, trivial⟩
  | 21, _, hk2 =>
    obtain ⟨_, _, ⟨T109, L109, k109, n109⟩, -, X109, ⟨Lc109, hQ109, l109, y109, z109⟩, st109⟩ := Jvm.LawKit.callS X0 hx (y := own_m1) hown (mvT hZ (hw _ (List.mem_of_getElem? (i := 1) rfl))) (mvT hZ (hw _ (List.mem_of_getElem? (i := 2) rfl))) (mvT hZ (hw _ (List.mem_of_getElem? (i := 3) rfl))) (mvT hZ (hw _ (List.mem_of_getElem? (i := 4) rfl))) (by decide) (backOf (W := 0) (rm43 l Z a0 hw [] h0 n0 p1 A K EN OL0) hZ (hw _ (List.mem_of_getElem? (i := 4) rfl)) (hw _ (List.mem_of_getElem? (i := 3) rfl)) (by decide) (by decide)) (g := (mkF m 9 #[.val (.int p1), .val (.int (21 : Int32)), .unset, .unset] [(.int (21 : Int32))])) rfl (by rw [hml]; rfl) (argsL := [(.int (21 : Int32))]) (rest := []) (lenOf own_pd0 rfl) rfl (by show 2 * 0 + _ ≤ _; exact Nat.le_of_eq rfl) (hb hby at_9) (fun _ _ => ⟨rfl, e0, (by decide : 0 + 0 ≤ _), (by decide : 0 + 0 ≤ _)⟩)
    dsimp only [Pt.U, Pt.locs, Pt.cells, Pt.slots] at X109 l109 y109 z109 st109 hQ109
    subst l109 y109 z109
    obtain ⟨rfl, N109q, e109⟩ := hQ109
    have N109 := Fr.app N0 N109q
    obtain ⟨cq112, kq112, q112a, q112b, q112c⟩ := isOf hZ e109 (EN.2.2.2.2.2.1.2.2.2.1.ext OL0.2)
    obtain ⟨_, _, ⟨T112, L112, k112, n112⟩, -, X112, ⟨Lc112, hQ112, l112, y112, z112⟩, st112⟩ := X109.virtualBack hx (y := own_m0) (z := own_m0) hown (mvT hZ (hw _ (List.mem_of_getElem? (i := 8) rfl))) (mvT hZ (hw _ (List.mem_of_getElem? (i := 9) rfl))) (notFace_of_selects (args := #[]) (mvT hZ (hw _ (List.mem_of_getElem? (i := 11) rfl)))) (mvT hZ (hw _ (List.mem_of_getElem? (i := 11) rfl))) (mvT hZ (hw _ (List.mem_of_getElem? (i := 10) rfl))) (by decide) (backOf (W := 0) (rm44 l Z a0 hw [] h0 n0 p1 A K EN OL0) hZ (hw _ (List.mem_of_getElem? (i := 12) rfl)) (hw _ (List.mem_of_getElem? (i := 6) rfl)) (by decide) (by decide)) q112a q112c (g := (mkF m 26 #[.val (.int p1), .val (.int (21 : Int32)), .val (.ref (A 21)), .val (.int (0 : Int32))] [(.ref (A 21))])) rfl (by rw [hml]; rfl) (Steps.refl _) (argsL := []) (rest := []) (lenOf own_pd1 rfl) rfl (by show 2 * 0 + _ ≤ _; exact Nat.le_of_eq rfl) (hb hby at_26) (fun _ _ => ⟨rfl, e109, (by decide : 0 + 0 ≤ _), (by decide : 0 + 0 ≤ _)⟩)
    dsimp only [Pt.U, Pt.locs, Pt.cells, Pt.slots] at X112 l112 y112 z112 st112 hQ112
    subst l112 y112 z112
    obtain ⟨rfl, N112q, e112⟩ := hQ112
    have N112 := Fr.app N109 N112q
    obtain ⟨fs, hr, hrun, hended, hW, hsame⟩ := X112.leave (v := some (.int (1 : Int32))) (fun h => by rw [Bd.returns] at h; cases h)
    refine ⟨_, _, pre1 _ ?_, hrun, hended, _, _, rfl, ?_, ⟨_, rfl⟩, hW, hsame.mono (by decide) (by decide)⟩
    · show Steps p.tables e below (s₁.setTop (mkF m 7 #[.val (.int p1), .unset, .unset, .unset] [(.int ((p1 &&& (2147483647 : Int32)) % (28 : Int32)))])) _
      rw [hk2]
      show Steps p.tables e below (s₁.setTop (mkF m 7 #[.val (.int p1), .unset, .unset, .unset] [(.int (21 : Int32))])) _
      refine XS.istoreN X0.here hx rfl (hb hby at_7) rfl (l' := #[.val (.int p1), .val (.int (21 : Int32)), .unset, .unset]) rfl ?_
      show Steps p.tables e below (s₁.setTop (mkF m 8 #[.val (.int p1), .val (.int (21 : Int32)), .unset, .unset] [])) _
      refine XS.iloadN X0.here hx rfl (hb hby at_8) rfl ?_
      show Steps p.tables e below (s₁.setTop (mkF m 9 #[.val (.int p1), .val (.int (21 : Int32)), .unset, .unset] [(.int (21 : Int32))])) _
      refine st109 _ ?_
      show Steps p.tables e below (T109.setTop (mkF m 12 #[.val (.int p1), .val (.int (21 : Int32)), .unset, .unset] [(.ref (A 21))])) _
      refine XS.astoreN X109.here hx rfl (hb hby at_12) rfl rfl (l' := #[.val (.int p1), .val (.int (21 : Int32)), .val (.ref (A 21)), .unset]) rfl ?_
      show Steps p.tables e below (T109.setTop (mkF m 13 #[.val (.int p1), .val (.int (21 : Int32)), .val (.ref (A 21)), .unset] [])) _
      refine XS.iloadN X109.here hx rfl (hb hby at_13) rfl ?_
      show Steps p.tables e below (T109.setTop (mkF m 14 #[.val (.int p1), .val (.int (21 : Int32)), .val (.ref (A 21)), .unset] [(.int (21 : Int32))])) _
      refine XS.bipush X109.here hx rfl (hb hby at_14) ?_
      show Steps p.tables e below (T109.setTop (mkF m 16 #[.val (.int p1), .val (.int (21 : Int32)), .val (.ref (A 21)), .unset] [(.int (26 : Int32)), (.int (21 : Int32))])) _
      refine XS.icmpYes X109.here hx rfl (pc0 := 16) (pc' := 23) rfl (hb hby at_16) rfl (tlt (by decide : (21 : Int32) < (26 : Int32))).1 (by decide) (by decide) ?_
      show Steps p.tables e below (T109.setTop (mkF m 23 #[.val (.int p1), .val (.int (21 : Int32)), .val (.ref (A 21)), .unset] [])) _
      refine XS.iconst X109.here hx rfl (hb hby at_23) ?_
      show Steps p.tables e below (T109.setTop (mkF m 24 #[.val (.int p1), .val (.int (21 : Int32)), .val (.ref (A 21)), .unset] [(.int (0 : Int32))])) _
      refine XS.istoreN X109.here hx rfl (hb hby at_24) rfl (l' := #[.val (.int p1), .val (.int (21 : Int32)), .val (.ref (A 21)), .val (.int (0 : Int32))]) rfl ?_
      show Steps p.tables e below (T109.setTop (mkF m 25 #[.val (.int p1), .val (.int (21 : Int32)), .val (.ref (A 21)), .val (.int (0 : Int32))] [])) _
      refine XS.aloadN X109.here hx rfl (hb hby at_25) rfl rfl ?_
      show Steps p.tables e below (T109.setTop (mkF m 26 #[.val (.int p1), .val (.int (21 : Int32)), .val (.ref (A 21)), .val (.int (0 : Int32))] [(.ref (A 21))])) _
      refine st112.trans ?_
      show Steps p.tables e below (T112.setTop (mkF m 29 #[.val (.int p1), .val (.int (21 : Int32)), .val (.ref (A 21)), .val (.int (0 : Int32))] [(.int (0 : Int32))])) _
      refine XS.iloadN X112.here hx rfl (hb hby at_29) rfl ?_
      show Steps p.tables e below (T112.setTop (mkF m 30 #[.val (.int p1), .val (.int (21 : Int32)), .val (.ref (A 21)), .val (.int (0 : Int32))] [(.int (0 : Int32)), (.int (0 : Int32))])) _
      refine XS.icmpNo X112.here hx rfl (hb hby at_30) rfl (teq (by decide : (0 : Int32) = (0 : Int32))).2 ?_
      show Steps p.tables e below (T112.setTop (mkF m 33 #[.val (.int p1), .val (.int (21 : Int32)), .val (.ref (A 21)), .val (.int (0 : Int32))] [])) _
      refine XS.iconst X112.here hx rfl (hb hby at_33) ?_
      show Steps p.tables e below (T112.setTop (mkF m 34 #[.val (.int p1), .val (.int (21 : Int32)), .val (.ref (A 21)), .val (.int (0 : Int32))] [(.int (1 : Int32))])) _
      refine XS.goto X112.here hx rfl (pc0 := 34) (pc' := 38) rfl (hb hby at_34) (by decide) (by decide) ?_
      show Steps p.tables e below (T112.setTop (mkF m 38 #[.val (.int p1), .val (.int (21 : Int32)), .val (.ref (A 21)), .val (.int (0 : Int32))] [(.int (1 : Int32))])) _
      exact retN X112 hx (t := .boolean) Bd.returns (by simp) (hb hby at_38) hr
    · show LQ n0 _ T112.heap _
      exact ⟨rfl, N112, trivial⟩
  | 22, _, hk2 =>
    obtain ⟨_, _, ⟨T114, L114, k114, n114⟩, -, X114, ⟨Lc114, hQ114, l114, y114, z114⟩, st114⟩ := Jvm.LawKit.callS X0 hx (y := own_m1) hown (mvT hZ (hw _ (List.mem_of_getElem? (i := 1) rfl))) (mvT hZ (hw _ (List.mem_of_getElem? (i := 2) rfl))) (mvT hZ (hw _ (List.mem_of_getElem? (i := 3) rfl))) (mvT hZ (hw _ (List.mem_of_getElem? (i := 4) rfl))) (by decide) (backOf (W := 0) (rm45 l Z a0 hw [] h0 n0 p1 A K EN OL0) hZ (hw _ (List.mem_of_getElem? (i := 4) rfl)) (hw _ (List.mem_of_getElem? (i := 3) rfl)) (by decide) (by decide)) (g := (mkF m 9 #[.val (.int p1), .val (.int (22 : Int32)), .unset, .unset] [(.int (22 : Int32))])) rfl (by rw [hml]; rfl) (argsL := [(.int (22 : Int32))]) (rest := []) (lenOf own_pd0 rfl) rfl (by show 2 * 0 + _ ≤ _; exact Nat.le_of_eq rfl) (hb hby at_9) (fun _ _ => ⟨rfl, e0, (by decide : 0 + 0 ≤ _), (by decide : 0 + 0 ≤ _)⟩)
    dsimp only [Pt.U, Pt.locs, Pt.cells, Pt.slots] at X114 l114 y114 z114 st114 hQ114
    subst l114 y114 z114
    obtain ⟨rfl, N114q, e114⟩ := hQ114
    have N114 := Fr.app N0 N114q
    obtain ⟨cq117, kq117, q117a, q117b, q117c⟩ := isOf hZ e114 (EN.2.2.2.2.2.1.2.2.2.2.2.1.ext OL0.2)
    obtain ⟨_, _, ⟨T117, L117, k117, n117⟩, -, X117, ⟨Lc117, hQ117, l117, y117, z117⟩, st117⟩ := X114.virtualBack hx (y := own_m0) (z := own_m0) hown (mvT hZ (hw _ (List.mem_of_getElem? (i := 8) rfl))) (mvT hZ (hw _ (List.mem_of_getElem? (i := 9) rfl))) (notFace_of_selects (args := #[]) (mvT hZ (hw _ (List.mem_of_getElem? (i := 11) rfl)))) (mvT hZ (hw _ (List.mem_of_getElem? (i := 11) rfl))) (mvT hZ (hw _ (List.mem_of_getElem? (i := 10) rfl))) (by decide) (backOf (W := 0) (rm46 l Z a0 hw [] h0 n0 p1 A K EN OL0) hZ (hw _ (List.mem_of_getElem? (i := 12) rfl)) (hw _ (List.mem_of_getElem? (i := 6) rfl)) (by decide) (by decide)) q117a q117c (g := (mkF m 26 #[.val (.int p1), .val (.int (22 : Int32)), .val (.ref (A 22)), .val (.int (0 : Int32))] [(.ref (A 22))])) rfl (by rw [hml]; rfl) (Steps.refl _) (argsL := []) (rest := []) (lenOf own_pd1 rfl) rfl (by show 2 * 0 + _ ≤ _; exact Nat.le_of_eq rfl) (hb hby at_26) (fun _ _ => ⟨rfl, e114, (by decide : 0 + 0 ≤ _), (by decide : 0 + 0 ≤ _)⟩)
    dsimp only [Pt.U, Pt.locs, Pt.cells, Pt.slots] at X117 l117 y117 z117 st117 hQ117
    subst l117 y117 z117
    obtain ⟨rfl, N117q, e117⟩ := hQ117
    have N117 := Fr.app N114 N117q
    obtain ⟨fs, hr, hrun, hended, hW, hsame⟩ := X117.leave (v := some (.int (1 : Int32))) (fun h => by rw [Bd.returns] at h; cases h)
    refine ⟨_, _, pre1 _ ?_, hrun, hended, _, _, rfl, ?_, ⟨_, rfl⟩, hW, hsame.mono (by decide) (by decide)⟩
    · show Steps p.tables e below (s₁.setTop (mkF m 7 #[.val (.int p1), .unset, .unset, .unset] [(.int ((p1 &&& (2147483647 : Int32)) % (28 : Int32)))])) _
      rw [hk2]
      show Steps p.tables e below (s₁.setTop (mkF m 7 #[.val (.int p1), .unset, .unset, .unset] [(.int (22 : Int32))])) _
      refine XS.istoreN X0.here hx rfl (hb hby at_7) rfl (l' := #[.val (.int p1), .val (.int (22 : Int32)), .unset, .unset]) rfl ?_
      show Steps p.tables e below (s₁.setTop (mkF m 8 #[.val (.int p1), .val (.int (22 : Int32)), .unset, .unset] [])) _
      refine XS.iloadN X0.here hx rfl (hb hby at_8) rfl ?_
      show Steps p.tables e below (s₁.setTop (mkF m 9 #[.val (.int p1), .val (.int (22 : Int32)), .unset, .unset] [(.int (22 : Int32))])) _
      refine st114 _ ?_
      show Steps p.tables e below (T114.setTop (mkF m 12 #[.val (.int p1), .val (.int (22 : Int32)), .unset, .unset] [(.ref (A 22))])) _
      refine XS.astoreN X114.here hx rfl (hb hby at_12) rfl rfl (l' := #[.val (.int p1), .val (.int (22 : Int32)), .val (.ref (A 22)), .unset]) rfl ?_
      show Steps p.tables e below (T114.setTop (mkF m 13 #[.val (.int p1), .val (.int (22 : Int32)), .val (.ref (A 22)), .unset] [])) _
      refine XS.iloadN X114.here hx rfl (hb hby at_13) rfl ?_
      show Steps p.tables e below (T114.setTop (mkF m 14 #[.val (.int p1), .val (.int (22 : Int32)), .val (.ref (A 22)), .unset] [(.int (22 : Int32))])) _
      refine XS.bipush X114.here hx rfl (hb hby at_14) ?_
      show Steps p.tables e below (T114.setTop (mkF m 16 #[.val (.int p1), .val (.int (22 : Int32)), .val (.ref (A 22)), .unset] [(.int (26 : Int32)), (.int (22 : Int32))])) _
      refine XS.icmpYes X114.here hx rfl (pc0 := 16) (pc' := 23) rfl (hb hby at_16) rfl (tlt (by decide : (22 : Int32) < (26 : Int32))).1 (by decide) (by decide) ?_
      show Steps p.tables e below (T114.setTop (mkF m 23 #[.val (.int p1), .val (.int (22 : Int32)), .val (.ref (A 22)), .unset] [])) _
      refine XS.iconst X114.here hx rfl (hb hby at_23) ?_
      show Steps p.tables e below (T114.setTop (mkF m 24 #[.val (.int p1), .val (.int (22 : Int32)), .val (.ref (A 22)), .unset] [(.int (0 : Int32))])) _
      refine XS.istoreN X114.here hx rfl (hb hby at_24) rfl (l' := #[.val (.int p1), .val (.int (22 : Int32)), .val (.ref (A 22)), .val (.int (0 : Int32))]) rfl ?_
      show Steps p.tables e below (T114.setTop (mkF m 25 #[.val (.int p1), .val (.int (22 : Int32)), .val (.ref (A 22)), .val (.int (0 : Int32))] [])) _
      refine XS.aloadN X114.here hx rfl (hb hby at_25) rfl rfl ?_
      show Steps p.tables e below (T114.setTop (mkF m 26 #[.val (.int p1), .val (.int (22 : Int32)), .val (.ref (A 22)), .val (.int (0 : Int32))] [(.ref (A 22))])) _
      refine st117.trans ?_
      show Steps p.tables e below (T117.setTop (mkF m 29 #[.val (.int p1), .val (.int (22 : Int32)), .val (.ref (A 22)), .val (.int (0 : Int32))] [(.int (0 : Int32))])) _
      refine XS.iloadN X117.here hx rfl (hb hby at_29) rfl ?_
      show Steps p.tables e below (T117.setTop (mkF m 30 #[.val (.int p1), .val (.int (22 : Int32)), .val (.ref (A 22)), .val (.int (0 : Int32))] [(.int (0 : Int32)), (.int (0 : Int32))])) _
      refine XS.icmpNo X117.here hx rfl (hb hby at_30) rfl (teq (by decide : (0 : Int32) = (0 : Int32))).2 ?_
      show Steps p.tables e below (T117.setTop (mkF m 33 #[.val (.int p1), .val (.int (22 : Int32)), .val (.ref (A 22)), .val (.int (0 : Int32))] [])) _
      refine XS.iconst X117.here hx rfl (hb hby at_33) ?_
      show Steps p.tables e below (T117.setTop (mkF m 34 #[.val (.int p1), .val (.int (22 : Int32)), .val (.ref (A 22)), .val (.int (0 : Int32))] [(.int (1 : Int32))])) _
      refine XS.goto X117.here hx rfl (pc0 := 34) (pc' := 38) rfl (hb hby at_34) (by decide) (by decide) ?_
      show Steps p.tables e below (T117.setTop (mkF m 38 #[.val (.int p1), .val (.int (22 : Int32)), .val (.ref (A 22)), .val (.int (0 : Int32))] [(.int (1 : Int32))])) _
      exact retN X117 hx (t := .boolean) Bd.returns (by simp) (hb hby at_38) hr
    · show LQ n0 _ T117.heap _
      exact ⟨rfl, N117, trivial⟩
  | 23, _, hk2 =>
    obtain ⟨_, _, ⟨T119, L119, k119, n119⟩, -, X119, ⟨Lc119, hQ119, l119, y119, z119⟩, st119⟩ := Jvm.LawKit.callS X0 hx (y := own_m1) hown (mvT hZ (hw _ (List.mem_of_getElem? (i := 1) rfl))) (mvT hZ (hw _ (List.mem_of_getElem? (i := 2) rfl))) (mvT hZ (hw _ (List.mem_of_getElem? (i := 3) rfl))) (mvT hZ (hw _ (List.mem_of_getElem? (i := 4) rfl))) (by decide) (backOf (W := 0) (rm47 l Z a0 hw [] h0 n0 p1 A K EN OL0) hZ (hw _ (List.mem_of_getElem? (i := 4) rfl)) (hw _ (List.mem_of_getElem? (i := 3) rfl)) (by decide) (by decide)) (g := (mkF m 9 #[.val (.int p1), .val (.int (23 : Int32)), .unset, .unset] [(.int (23 : Int32))])) rfl (by rw [hml]; rfl) (argsL := [(.int (23 : Int32))]) (rest := []) (lenOf own_pd0 rfl) rfl (by show 2 * 0 + _ ≤ _; exact Nat.le_of_eq rfl) (hb hby at_9) (fun _ _ => ⟨rfl, e0, (by decide : 0 + 0 ≤ _), (by decide : 0 + 0 ≤ _)⟩)
    dsimp only [Pt.U, Pt.locs, Pt.cells, Pt.slots] at X119 l119 y119 z119 st119 hQ119
    subst l119 y119 z119
    obtain ⟨rfl, N119q, e119⟩ := hQ119
    have N119 := Fr.app N0 N119q
    obtain ⟨cq122, kq122, q122a, q122b, q122c⟩ := isOf hZ e119 (EN.2.2.2.2.2.1.2.2.2.2.2.2.2.1.ext OL0.2)
    obtain ⟨_, _, ⟨T122, L122, k122, n122⟩, -, X122, ⟨Lc122, hQ122, l122, y122, z122⟩, st122⟩ := X119.virtualBack hx (y := own_m0) (z := own_m0) hown (mvT hZ (hw _ (List.mem_of_getElem? (i := 8) rfl))) (mvT hZ (hw _ (List.mem_of_getElem? (i := 9) rfl))) (notFace_of_selects (args := #[]) (mvT hZ (hw _ (List.mem_of_getElem? (i := 11) rfl)))) (mvT hZ (hw _ (List.mem_of_getElem? (i := 11) rfl))) (mvT hZ (hw _ (List.mem_of_getElem? (i := 10) rfl))) (by decide) (backOf (W := 0) (rm48 l Z a0 hw [] h0 n0 p1 A K EN OL0) hZ (hw _ (List.mem_of_getElem? (i := 12) rfl)) (hw _ (List.mem_of_getElem? (i := 6) rfl)) (by decide) (by decide)) q122a q122c (g := (mkF m 26 #[.val (.int p1), .val (.int (23 : Int32)), .val (.ref (A 23)), .val (.int (0 : Int32))] [(.ref (A 23))])) rfl (by rw [hml]; rfl) (Steps.refl _) (argsL := []) (rest := []) (lenOf own_pd1 rfl) rfl (by show 2 * 0 + _ ≤ _; exact Nat.le_of_eq rfl) (hb hby at_26) (fun _ _ => ⟨rfl, e119, (by decide : 0 + 0 ≤ _), (by decide : 0 + 0 ≤ _)⟩)
    dsimp only [Pt.U, Pt.locs, Pt.cells, Pt.slots] at X122 l122 y122 z122 st122 hQ122
    subst l122 y122 z122
    obtain ⟨rfl, N122q, e122⟩ := hQ122
    have N122 := Fr.app N119 N122q
    obtain ⟨fs, hr, hrun, hended, hW, hsame⟩ := X122.leave (v := some (.int (1 : Int32))) (fun h => by rw [Bd.returns] at h; cases h)
    refine ⟨_, _, pre1 _ ?_, hrun, hended, _, _, rfl, ?_, ⟨_, rfl⟩, hW, hsame.mono (by decide) (by decide)⟩
    · show Steps p.tables e below (s₁.setTop (mkF m 7 #[.val (.int p1), .unset, .unset, .unset] [(.int ((p1 &&& (2147483647 : Int32)) % (28 : Int32)))])) _
      rw [hk2]
      show Steps p.tables e below (s₁.setTop (mkF m 7 #[.val (.int p1), .unset, .unset, .unset] [(.int (23 : Int32))])) _
      refine XS.istoreN X0.here hx rfl (hb hby at_7) rfl (l' := #[.val (.int p1), .val (.int (23 : Int32)), .unset, .unset]) rfl ?_
      show Steps p.tables e below (s₁.setTop (mkF m 8 #[.val (.int p1), .val (.int (23 : Int32)), .unset, .unset] [])) _
      refine XS.iloadN X0.here hx rfl (hb hby at_8) rfl ?_
      show Steps p.tables e below (s₁.setTop (mkF m 9 #[.val (.int p1), .val (.int (23 : Int32)), .unset, .unset] [(.int (23 : Int32))])) _
      refine st119 _ ?_
      show Steps p.tables e below (T119.setTop (mkF m 12 #[.val (.int p1), .val (.int (23 : Int32)), .unset, .unset] [(.ref (A 23))])) _
      refine XS.astoreN X119.here hx rfl (hb hby at_12) rfl rfl (l' := #[.val (.int p1), .val (.int (23 : Int32)), .val (.ref (A 23)), .unset]) rfl ?_
      show Steps p.tables e below (T119.setTop (mkF m 13 #[.val (.int p1), .val (.int (23 : Int32)), .val (.ref (A 23)), .unset] [])) _
      refine XS.iloadN X119.here hx rfl (hb hby at_13) rfl ?_
      show Steps p.tables e below (T119.setTop (mkF m 14 #[.val (.int p1), .val (.int (23 : Int32)), .val (.ref (A 23)), .unset] [(.int (23 : Int32))])) _
      refine XS.bipush X119.here hx rfl (hb hby at_14) ?_
      show Steps p.tables e below (T119.setTop (mkF m 16 #[.val (.int p1), .val (.int (23 : Int32)), .val (.ref (A 23)), .unset] [(.int (26 : Int32)), (.int (23 : Int32))])) _
      refine XS.icmpYes X119.here hx rfl (pc0 := 16) (pc' := 23) rfl (hb hby at_16) rfl (tlt (by decide : (23 : Int32) < (26 : Int32))).1 (by decide) (by decide) ?_
      show Steps p.tables e below (T119.setTop (mkF m 23 #[.val (.int p1), .val (.int (23 : Int32)), .val (.ref (A 23)), .unset] [])) _
      refine XS.iconst X119.here hx rfl (hb hby at_23) ?_
      show Steps p.tables e below (T119.setTop (mkF m 24 #[.val (.int p1), .val (.int (23 : Int32)), .val (.ref (A 23)), .unset] [(.int (0 : Int32))])) _
      refine XS.istoreN X119.here hx rfl (hb hby at_24) rfl (l' := #[.val (.int p1), .val (.int (23 : Int32)), .val (.ref (A 23)), .val (.int (0 : Int32))]) rfl ?_
      show Steps p.tables e below (T119.setTop (mkF m 25 #[.val (.int p1), .val (.int (23 : Int32)), .val (.ref (A 23)), .val (.int (0 : Int32))] [])) _
      refine XS.aloadN X119.here hx rfl (hb hby at_25) rfl rfl ?_
      show Steps p.tables e below (T119.setTop (mkF m 26 #[.val (.int p1), .val (.int (23 : Int32)), .val (.ref (A 23)), .val (.int (0 : Int32))] [(.ref (A 23))])) _
      refine st122.trans ?_
      show Steps p.tables e below (T122.setTop (mkF m 29 #[.val (.int p1), .val (.int (23 : Int32)), .val (.ref (A 23)), .val (.int (0 : Int32))] [(.int (0 : Int32))])) _
      refine XS.iloadN X122.here hx rfl (hb hby at_29) rfl ?_
      show Steps p.tables e below (T122.setTop (mkF m 30 #[.val (.int p1), .val (.int (23 : Int32)), .val (.ref (A 23)), .val (.int (0 : Int32))] [(.int (0 : Int32)), (.int (0 : Int32))])) _
      refine XS.icmpNo X122.here hx rfl (hb hby at_30) rfl (teq (by decide : (0 : Int32) = (0 : Int32))).2 ?_
      show Steps p.tables e below (T122.setTop (mkF m 33 #[.val (.int p1), .val (.int (23 : Int32)), .val (.ref (A 23)), .val (.int (0 : Int32))] [])) _
      refine XS.iconst X122.here hx rfl (hb hby at_33) ?_
      show Steps p.tables e below (T122.setTop (mkF m 34 #[.val (.int p1), .val (.int (23 : Int32)), .val (.ref (A 23)), .val (.int (0 : Int32))] [(.int (1 : Int32))])) _
      refine XS.goto X122.here hx rfl (pc0 := 34) (pc' := 38) rfl (hb hby at_34) (by decide) (by decide) ?_
      show Steps p.tables e below (T122.setTop (mkF m 38 #[.val (.int p1), .val (.int (23 : Int32)), .val (.ref (A 23)), .val (.int (0 : Int32))] [(.int (1 : Int32))])) _
      exact retN X122 hx (t := .boolean) Bd.returns (by simp) (hb hby at_38) hr
    · show LQ n0 _ T122.heap _
      exact ⟨rfl, N122, trivial⟩
  | 24, _, hk2 =>
    obtain ⟨_, _, ⟨T124, L124, k124, n124⟩, -, X124, ⟨Lc124, hQ124, l124, y124, z124⟩, st124⟩ := Jvm.LawKit.callS X0 hx (y := own_m1) hown (mvT hZ (hw _ (List.mem_of_getElem? (i := 1) rfl))) (mvT hZ (hw _ (List.mem_of_getElem? (i := 2) rfl))) (mvT hZ (hw _ (List.mem_of_getElem? (i := 3) rfl))) (mvT hZ (hw _ (List.mem_of_getElem? (i := 4) rfl))) (by decide) (backOf (W := 0) (rm49 l Z a0 hw [] h0 n0 p1 A K EN OL0) hZ (hw _ (List.mem_of_getElem? (i := 4) rfl)) (hw _ (List.mem_of_getElem? (i := 3) rfl)) (by decide) (by decide)) (g := (mkF m 9 #[.val (.int p1), .val (.int (24 : Int32)), .unset, .unset] [(.int (24 : Int32))])) rfl (by rw [hml]; rfl) (argsL := [(.int (24 : Int32))]) (rest := []) (lenOf own_pd0 rfl) rfl (by show 2 * 0 + _ ≤ _; exact Nat.le_of_eq rfl) (hb hby at_9) (fun _ _ => ⟨rfl, e0, (by decide : 0 + 0 ≤ _), (by decide : 0 + 0 ≤ _)⟩)
    dsimp only [Pt.U, Pt.locs, Pt.cells, Pt.slots] at X124 l124 y124 z124 st124 hQ124
    subst l124 y124 z124
    obtain ⟨rfl, N124q, e124⟩ := hQ124
    have N124 := Fr.app N0 N124q
    obtain ⟨cq127, kq127, q127a, q127b, q127c⟩ := isOf hZ e124 (EN.2.2.2.2.2.2.1.2.1.ext OL0.2)
    obtain ⟨_, _, ⟨T127, L127, k127, n127⟩, -, X127, ⟨Lc127, hQ127, l127, y127, z127⟩, st127⟩ := X124.virtualBack hx (y := own_m0) (z := own_m0) hown (mvT hZ (hw _ (List.mem_of_getElem? (i := 8) rfl))) (mvT hZ (hw _ (List.mem_of_getElem? (i := 9) rfl))) (notFace_of_selects (args := #[]) (mvT hZ (hw _ (List.mem_of_getElem? (i := 11) rfl)))) (mvT hZ (hw _ (List.mem_of_getElem? (i := 11) rfl))) (mvT hZ (hw _ (List.mem_of_getElem? (i := 10) rfl))) (by decide) (backOf (W := 0) (rm50 l Z a0 hw [] h0 n0 p1 A K EN OL0) hZ (hw _ (List.mem_of_getElem? (i := 12) rfl)) (hw _ (List.mem_of_getElem? (i := 6) rfl)) (by decide) (by decide)) q127a q127c (g := (mkF m 26 #[.val (.int p1), .val (.int (24 : Int32)), .val (.ref (A 24)), .val (.int (0 : Int32))] [(.ref (A 24))])) rfl (by rw [hml]; rfl) (Steps.refl _) (argsL := []) (rest := []) (lenOf own_pd1 rfl) rfl (by show 2 * 0 + _ ≤ _; exact Nat.le_of_eq rfl) (hb hby at_26) (fun _ _ => ⟨rfl, e124, (by decide : 0 + 0 ≤ _), (by decide : 0 + 0 ≤ _)⟩)
    dsimp only [Pt.U, Pt.locs, Pt.cells, Pt.slots] at X127 l127 y127 z127 st127 hQ127
    subst l127 y127 z127
    obtain ⟨rfl, N127q, e127⟩ := hQ127
    have N127 := Fr.app N124 N127q
    obtain ⟨fs, hr, hrun, hended, hW, hsame⟩ := X127.leave (v := some (.int (1 : Int32))) (fun h => by rw [Bd.returns] at h; cases h)
    refine ⟨_, _, pre1 _ ?_, hrun, hended, _, _, rfl, ?_, ⟨_, rfl⟩, hW, hsame.mono (by decide) (by decide)⟩
    · show Steps p.tables e below (s₁.setTop (mkF m 7 #[.val (.int p1), .unset, .unset, .unset] [(.int ((p1 &&& (2147483647 : Int32)) % (28 : Int32)))])) _
      rw [hk2]
      show Steps p.tables e below (s₁.setTop (mkF m 7 #[.val (.int p1), .unset, .unset, .unset] [(.int (24 : Int32))])) _
      refine XS.istoreN X0.here hx rfl (hb hby at_7) rfl (l' := #[.val (.int p1), .val (.int (24 : Int32)), .unset, .unset]) rfl ?_
      show Steps p.tables e below (s₁.setTop (mkF m 8 #[.val (.int p1), .val (.int (24 : Int32)), .unset, .unset] [])) _
      refine XS.iloadN X0.here hx rfl (hb hby at_8) rfl ?_
      show Steps p.tables e below (s₁.setTop (mkF m 9 #[.val (.int p1), .val (.int (24 : Int32)), .unset, .unset] [(.int (24 : Int32))])) _
      refine st124 _ ?_
      show Steps p.tables e below (T124.setTop (mkF m 12 #[.val (.int p1), .val (.int (24 : Int32)), .unset, .unset] [(.ref (A 24))])) _
      refine XS.astoreN X124.here hx rfl (hb hby at_12) rfl rfl (l' := #[.val (.int p1), .val (.int (24 : Int32)), .val (.ref (A 24)), .unset]) rfl ?_
      show Steps p.tables e below (T124.setTop (mkF m 13 #[.val (.int p1), .val (.int (24 : Int32)), .val (.ref (A 24)), .unset] [])) _
      refine XS.iloadN X124.here hx rfl (hb hby at_13) rfl ?_
      show Steps p.tables e below (T124.setTop (mkF m 14 #[.val (.int p1), .val (.int (24 : Int32)), .val (.ref (A 24)), .unset] [(.int (24 : Int32))])) _
      refine XS.bipush X124.here hx rfl (hb hby at_14) ?_
      show Steps p.tables e below (T124.setTop (mkF m 16 #[.val (.int p1), .val (.int (24 : Int32)), .val (.ref (A 24)), .unset] [(.int (26 : Int32)), (.int (24 : Int32))])) _
      refine XS.icmpYes X124.here hx rfl (pc0 := 16) (pc' := 23) rfl (hb hby at_16) rfl (tlt (by decide : (24 : Int32) < (26 : Int32))).1 (by decide) (by decide) ?_
      show Steps p.tables e below (T124.setTop (mkF m 23 #[.val (.int p1), .val (.int (24 : Int32)), .val (.ref (A 24)), .unset] [])) _
      refine XS.iconst X124.here hx rfl (hb hby at_23) ?_
      show Steps p.tables e below (T124.setTop (mkF m 24 #[.val (.int p1), .val (.int (24 : Int32)), .val (.ref (A 24)), .unset] [(.int (0 : Int32))])) _
      refine XS.istoreN X124.here hx rfl (hb hby at_24) rfl (l' := #[.val (.int p1), .val (.int (24 : Int32)), .val (.ref (A 24)), .val (.int (0 : Int32))]) rfl ?_
      show Steps p.tables e below (T124.setTop (mkF m 25 #[.val (.int p1), .val (.int (24 : Int32)), .val (.ref (A 24)), .val (.int (0 : Int32))] [])) _
      refine XS.aloadN X124.here hx rfl (hb hby at_25) rfl rfl ?_
      show Steps p.tables e below (T124.setTop (mkF m 26 #[.val (.int p1), .val (.int (24 : Int32)), .val (.ref (A 24)), .val (.int (0 : Int32))] [(.ref (A 24))])) _
      refine st127.trans ?_
      show Steps p.tables e below (T127.setTop (mkF m 29 #[.val (.int p1), .val (.int (24 : Int32)), .val (.ref (A 24)), .val (.int (0 : Int32))] [(.int (0 : Int32))])) _
      refine XS.iloadN X127.here hx rfl (hb hby at_29) rfl ?_
      show Steps p.tables e below (T127.setTop (mkF m 30 #[.val (.int p1), .val (.int (24 : Int32)), .val (.ref (A 24)), .val (.int (0 : Int32))] [(.int (0 : Int32)), (.int (0 : Int32))])) _
      refine XS.icmpNo X127.here hx rfl (hb hby at_30) rfl (teq (by decide : (0 : Int32) = (0 : Int32))).2 ?_
      show Steps p.tables e below (T127.setTop (mkF m 33 #[.val (.int p1), .val (.int (24 : Int32)), .val (.ref (A 24)), .val (.int (0 : Int32))] [])) _
      refine XS.iconst X127.here hx rfl (hb hby at_33) ?_
      show Steps p.tables e below (T127.setTop (mkF m 34 #[.val (.int p1), .val (.int (24 : Int32)), .val (.ref (A 24)), .val (.int (0 : Int32))] [(.int (1 : Int32))])) _
      refine XS.goto X127.here hx rfl (pc0 := 34) (pc' := 38) rfl (hb hby at_34) (by decide) (by decide) ?_
      show Steps p.tables e below (T127.setTop (mkF m 38 #[.val (.int p1), .val (.int (24 : Int32)), .val (.ref (A 24)), .val (.int (0 : Int32))] [(.int (1 : Int32))])) _
      exact retN X127 hx (t := .boolean) Bd.returns (by simp) (hb hby at_38) hr
    · show LQ n0 _ T127.heap _
      exact ⟨rfl, N127, trivial⟩
  | 25, _, hk2 =>
    obtain ⟨_, _, ⟨T129, L129, k129, n129⟩, -, X129, ⟨Lc129, hQ129, l129, y129, z129⟩, st129⟩ := Jvm.LawKit.callS X0 hx (y := own_m1) hown (mvT hZ (hw _ (List.mem_of_getElem? (i := 1) rfl))) (mvT hZ (hw _ (List.mem_of_getElem? (i := 2) rfl))) (mvT hZ (hw _ (List.mem_of_getElem? (i := 3) rfl))) (mvT hZ (hw _ (List.mem_of_getElem? (i := 4) rfl))) (by decide) (backOf (W := 0) (rm51 l Z a0 hw [] h0 n0 p1 A K EN OL0) hZ (hw _ (List.mem_of_getElem? (i := 4) rfl)) (hw _ (List.mem_of_getElem? (i := 3) rfl)) (by decide) (by decide)) (g := (mkF m 9 #[.val (.int p1), .val (.int (25 : Int32)), .unset, .unset] [(.int (25 : Int32))])) rfl (by rw [hml]; rfl) (argsL := [(.int (25 : Int32))]) (rest := []) (lenOf own_pd0 rfl) rfl (by show 2 * 0 + _ ≤ _; exact Nat.le_of_eq rfl) (hb hby at_9) (fun _ _ => ⟨rfl, e0, (by decide : 0 + 0 ≤ _), (by decide : 0 + 0 ≤ _)⟩)
    dsimp only [Pt.U, Pt.locs, Pt.cells, Pt.slots] at X129 l129 y129 z129 st129 hQ129
    subst l129 y129 z129
    obtain ⟨rfl, N129q, e129⟩ := hQ129
    have N129 := Fr.app N0 N129q
    obtain ⟨cq132, kq132, q132a, q132b, q132c⟩ := isOf hZ e129 (EN.2.2.2.2.2.2.1.2.2.2.1.ext OL0.2)
    obtain ⟨_, _, ⟨T132, L132, k132, n132⟩, -, X132, ⟨Lc132, hQ132, l132, y132, z132⟩, st132⟩ := X129.virtualBack hx (y := own_m0) (z := own_m0) hown (mvT hZ (hw _ (List.mem_of_getElem? (i := 8) rfl))) (mvT hZ (hw _ (List.mem_of_getElem? (i := 9) rfl))) (notFace_of_selects (args := #[]) (mvT hZ (hw _ (List.mem_of_getElem? (i := 11) rfl)))) (mvT hZ (hw _ (List.mem_of_getElem? (i := 11) rfl))) (mvT hZ (hw _ (List.mem_of_getElem? (i := 10) rfl))) (by decide) (backOf (W := 0) (rm52 l Z a0 hw [] h0 n0 p1 A K EN OL0) hZ (hw _ (List.mem_of_getElem? (i := 12) rfl)) (hw _ (List.mem_of_getElem? (i := 6) rfl)) (by decide) (by decide)) q132a q132c (g := (mkF m 26 #[.val (.int p1), .val (.int (25 : Int32)), .val (.ref (A 25)), .val (.int (0 : Int32))] [(.ref (A 25))])) rfl (by rw [hml]; rfl) (Steps.refl _) (argsL := []) (rest := []) (lenOf own_pd1 rfl) rfl (by show 2 * 0 + _ ≤ _; exact Nat.le_of_eq rfl) (hb hby at_26) (fun _ _ => ⟨rfl, e129, (by decide : 0 + 0 ≤ _), (by decide : 0 + 0 ≤ _)⟩)
    dsimp only [Pt.U, Pt.locs, Pt.cells, Pt.slots] at X132 l132 y132 z132 st132 hQ132
    subst l132 y132 z132
    obtain ⟨rfl, N132q, e132⟩ := hQ132
    have N132 := Fr.app N129 N132q
    obtain ⟨fs, hr, hrun, hended, hW, hsame⟩ := X132.leave (v := some (.int (1 : Int32))) (fun h => by rw [Bd.returns] at h; cases h)
    refine ⟨_, _, pre1 _ ?_, hrun, hended, _, _, rfl, ?_, ⟨_, rfl⟩, hW, hsame.mono (by decide) (by decide)⟩
    · show Steps p.tables e below (s₁.setTop (mkF m 7 #[.val (.int p1), .unset, .unset, .unset] [(.int ((p1 &&& (2147483647 : Int32)) % (28 : Int32)))])) _
      rw [hk2]
      show Steps p.tables e below (s₁.setTop (mkF m 7 #[.val (.int p1), .unset, .unset, .unset] [(.int (25 : Int32))])) _
      refine XS.istoreN X0.here hx rfl (hb hby at_7) rfl (l' := #[.val (.int p1), .val (.int (25 : Int32)), .unset, .unset]) rfl ?_
      show Steps p.tables e below (s₁.setTop (mkF m 8 #[.val (.int p1), .val (.int (25 : Int32)), .unset, .unset] [])) _
      refine XS.iloadN X0.here hx rfl (hb hby at_8) rfl ?_
      show Steps p.tables e below (s₁.setTop (mkF m 9 #[.val (.int p1), .val (.int (25 : Int32)), .unset, .unset] [(.int (25 : Int32))])) _
      refine st129 _ ?_
      show Steps p.tables e below (T129.setTop (mkF m 12 #[.val (.int p1), .val (.int (25 : Int32)), .unset, .unset] [(.ref (A 25))])) _
      refine XS.astoreN X129.here hx rfl (hb hby at_12) rfl rfl (l' := #[.val (.int p1), .val (.int (25 : Int32)), .val (.ref (A 25)), .unset]) rfl ?_
      show Steps p.tables e below (T129.setTop (mkF m 13 #[.val (.int p1), .val (.int (25 : Int32)), .val (.ref (A 25)), .unset] [])) _
      refine XS.iloadN X129.here hx rfl (hb hby at_13) rfl ?_
      show Steps p.tables e below (T129.setTop (mkF m 14 #[.val (.int p1), .val (.int (25 : Int32)), .val (.ref (A 25)), .unset] [(.int (25 : Int32))])) _
      refine XS.bipush X129.here hx rfl (hb hby at_14) ?_
      show Steps p.tables e below (T129.setTop (mkF m 16 #[.val (.int p1), .val (.int (25 : Int32)), .val (.ref (A 25)), .unset] [(.int (26 : Int32)), (.int (25 : Int32))])) _
      refine XS.icmpYes X129.here hx rfl (pc0 := 16) (pc' := 23) rfl (hb hby at_16) rfl (tlt (by decide : (25 : Int32) < (26 : Int32))).1 (by decide) (by decide) ?_
      show Steps p.tables e below (T129.setTop (mkF m 23 #[.val (.int p1), .val (.int (25 : Int32)), .val (.ref (A 25)), .unset] [])) _
      refine XS.iconst X129.here hx rfl (hb hby at_23) ?_
      show Steps p.tables e below (T129.setTop (mkF m 24 #[.val (.int p1), .val (.int (25 : Int32)), .val (.ref (A 25)), .unset] [(.int (0 : Int32))])) _
      refine XS.istoreN X129.here hx rfl (hb hby at_24) rfl (l' := #[.val (.int p1), .val (.int (25 : Int32)), .val (.ref (A 25)), .val (.int (0 : Int32))]) rfl ?_
      show Steps p.tables e below (T129.setTop (mkF m 25 #[.val (.int p1), .val (.int (25 : Int32)), .val (.ref (A 25)), .val (.int (0 : Int32))] [])) _
      refine XS.aloadN X129.here hx rfl (hb hby at_25) rfl rfl ?_
      show Steps p.tables e below (T129.setTop (mkF m 26 #[.val (.int p1), .val (.int (25 : Int32)), .val (.ref (A 25)), .val (.int (0 : Int32))] [(.ref (A 25))])) _
      refine st132.trans ?_
      show Steps p.tables e below (T132.setTop (mkF m 29 #[.val (.int p1), .val (.int (25 : Int32)), .val (.ref (A 25)), .val (.int (0 : Int32))] [(.int (0 : Int32))])) _
      refine XS.iloadN X132.here hx rfl (hb hby at_29) rfl ?_
      show Steps p.tables e below (T132.setTop (mkF m 30 #[.val (.int p1), .val (.int (25 : Int32)), .val (.ref (A 25)), .val (.int (0 : Int32))] [(.int (0 : Int32)), (.int (0 : Int32))])) _
      refine XS.icmpNo X132.here hx rfl (hb hby at_30) rfl (teq (by decide : (0 : Int32) = (0 : Int32))).2 ?_
      show Steps p.tables e below (T132.setTop (mkF m 33 #[.val (.int p1), .val (.int (25 : Int32)), .val (.ref (A 25)), .val (.int (0 : Int32))] [])) _
      refine XS.iconst X132.here hx rfl (hb hby at_33) ?_
      show Steps p.tables e below (T132.setTop (mkF m 34 #[.val (.int p1), .val (.int (25 : Int32)), .val (.ref (A 25)), .val (.int (0 : Int32))] [(.int (1 : Int32))])) _
      refine XS.goto X132.here hx rfl (pc0 := 34) (pc' := 38) rfl (hb hby at_34) (by decide) (by decide) ?_
      show Steps p.tables e below (T132.setTop (mkF m 38 #[.val (.int p1), .val (.int (25 : Int32)), .val (.ref (A 25)), .val (.int (0 : Int32))] [(.int (1 : Int32))])) _
      exact retN X132 hx (t := .boolean) Bd.returns (by simp) (hb hby at_38) hr
    · show LQ n0 _ T132.heap _
      exact ⟨rfl, N132, trivial⟩
  | 26, _, hk2 =>
    obtain ⟨_, _, ⟨T134, L134, k134, n134⟩, -, X134, ⟨Lc134, hQ134, l134, y134, z134⟩, st134⟩ := Jvm.LawKit.callS X0 hx (y := own_m1) hown (mvT hZ (hw _ (List.mem_of_getElem? (i := 1) rfl))) (mvT hZ (hw _ (List.mem_of_getElem? (i := 2) rfl))) (mvT hZ (hw _ (List.mem_of_getElem? (i := 3) rfl))) (mvT hZ (hw _ (List.mem_of_getElem? (i := 4) rfl))) (by decide) (backOf (W := 0) (rm53 l Z a0 hw [] h0 n0 p1 A K EN OL0) hZ (hw _ (List.mem_of_getElem? (i := 4) rfl)) (hw _ (List.mem_of_getElem? (i := 3) rfl)) (by decide) (by decide)) (g := (mkF m 9 #[.val (.int p1), .val (.int (26 : Int32)), .unset, .unset] [(.int (26 : Int32))])) rfl (by rw [hml]; rfl) (argsL := [(.int (26 : Int32))]) (rest := []) (lenOf own_pd0 rfl) rfl (by show 2 * 0 + _ ≤ _; exact Nat.le_of_eq rfl) (hb hby at_9) (fun _ _ => ⟨rfl, e0, (by decide : 0 + 0 ≤ _), (by decide : 0 + 0 ≤ _)⟩)
    dsimp only [Pt.U, Pt.locs, Pt.cells, Pt.slots] at X134 l134 y134 z134 st134 hQ134
    subst l134 y134 z134
    obtain ⟨rfl, N134q, e134⟩ := hQ134
    have N134 := Fr.app N0 N134q
    obtain ⟨cq136, kq136, q136a, q136b, q136c⟩ := isOf hZ e134 (EN.2.2.2.2.2.2.1.2.2.2.2.2.1.ext OL0.2)
    obtain ⟨_, _, ⟨T136, L136, k136, n136⟩, -, X136, ⟨Lc136, hQ136, l136, y136, z136⟩, st136⟩ := X134.virtualBack hx (y := own_m0) (z := own_m0) hown (mvT hZ (hw _ (List.mem_of_getElem? (i := 8) rfl))) (mvT hZ (hw _ (List.mem_of_getElem? (i := 9) rfl))) (notFace_of_selects (args := #[]) (mvT hZ (hw _ (List.mem_of_getElem? (i := 11) rfl)))) (mvT hZ (hw _ (List.mem_of_getElem? (i := 11) rfl))) (mvT hZ (hw _ (List.mem_of_getElem? (i := 10) rfl))) (by decide) (backOf (W := 0) (rm54 l Z a0 hw [] h0 n0 p1 A K EN OL0) hZ (hw _ (List.mem_of_getElem? (i := 12) rfl)) (hw _ (List.mem_of_getElem? (i := 6) rfl)) (by decide) (by decide)) q136a q136c (g := (mkF m 26 #[.val (.int p1), .val (.int (26 : Int32)), .val (.ref (A 26)), .val (.int (1 : Int32))] [(.ref (A 26))])) rfl (by rw [hml]; rfl) (Steps.refl _) (argsL := []) (rest := []) (lenOf own_pd1 rfl) rfl (by show 2 * 0 + _ ≤ _; exact Nat.le_of_eq rfl) (hb hby at_26) (fun _ _ => ⟨rfl, e134, (by decide : 0 + 0 ≤ _), (by decide : 0 + 0 ≤ _)⟩)
    dsimp only [Pt.U, Pt.locs, Pt.cells, Pt.slots] at X136 l136 y136 z136 st136 hQ136
    subst l136 y136 z136
    obtain ⟨rfl, N136q, e136⟩ := hQ136
    have N136 := Fr.app N134 N136q
    obtain ⟨fs, hr, hrun, hended, hW, hsame⟩ := X136.leave (v := some (.int (1 : Int32))) (fun h => by rw [Bd.returns] at h; cases h)
    refine ⟨_, _, pre1 _ ?_, hrun, hended, _, _, rfl, ?_, ⟨_, rfl⟩, hW, hsame.mono (by decide) (by decide)⟩
    · show Steps p.tables e below (s₁.setTop (mkF m 7 #[.val (.int p1), .unset, .unset, .unset] [(.int ((p1 &&& (2147483647 : Int32)) % (28 : Int32)))])) _
      rw [hk2]
      show Steps p.tables e below (s₁.setTop (mkF m 7 #[.val (.int p1), .unset, .unset, .unset] [(.int (26 : Int32))])) _
      refine XS.istoreN X0.here hx rfl (hb hby at_7) rfl (l' := #[.val (.int p1), .val (.int (26 : Int32)), .unset, .unset]) rfl ?_
      show Steps p.tables e below (s₁.setTop (mkF m 8 #[.val (.int p1), .val (.int (26 : Int32)), .unset, .unset] [])) _
      refine XS.iloadN X0.here hx rfl (hb hby at_8) rfl ?_
      show Steps p.tables e below (s₁.setTop (mkF m 9 #[.val (.int p1), .val (.int (26 : Int32)), .unset, .unset] [(.int (26 : Int32))])) _
      refine st134 _ ?_
      show Steps p.tables e below (T134.setTop (mkF m 12 #[.val (.int p1), .val (.int (26 : Int32)), .unset, .unset] [(.ref (A 26))])) _
      refine XS.astoreN X134.here hx rfl (hb hby at_12) rfl rfl (l' := #[.val (.int p1), .val (.int (26 : Int32)), .val (.ref (A 26)), .unset]) rfl ?_
      show Steps p.tables e below (T134.setTop (mkF m 13 #[.val (.int p1), .val (.int (26 : Int32)), .val (.ref (A 26)), .unset] [])) _
      refine XS.iloadN X134.here hx rfl (hb hby at_13) rfl ?_
      show Steps p.tables e below (T134.setTop (mkF m 14 #[.val (.int p1), .val (.int (26 : Int32)), .val (.ref (A 26)), .unset] [(.int (26 : Int32))])) _
      refine XS.bipush X134.here hx rfl (hb hby at_14) ?_
      show Steps p.tables e below (T134.setTop (mkF m 16 #[.val (.int p1), .val (.int (26 : Int32)), .val (.ref (A 26)), .unset] [(.int (26 : Int32)), (.int (26 : Int32))])) _
      refine XS.icmpNo X134.here hx rfl (hb hby at_16) rfl (flt (by decide : ¬ ((26 : Int32) < (26 : Int32)))).1 ?_
      show Steps p.tables e below (T134.setTop (mkF m 19 #[.val (.int p1), .val (.int (26 : Int32)), .val (.ref (A 26)), .unset] [])) _
      refine XS.iconst X134.here hx rfl (hb hby at_19) ?_
      show Steps p.tables e below (T134.setTop (mkF m 20 #[.val (.int p1), .val (.int (26 : Int32)), .val (.ref (A 26)), .unset] [(.int (1 : Int32))])) _
      refine XS.goto X134.here hx rfl (pc0 := 20) (pc' := 24) rfl (hb hby at_20) (by decide) (by decide) ?_
      show Steps p.tables e below (T134.setTop (mkF m 24 #[.val (.int p1), .val (.int (26 : Int32)), .val (.ref (A 26)), .unset] [(.int (1 : Int32))])) _
      refine XS.istoreN X134.here hx rfl (hb hby at_24) rfl (l' := #[.val (.int p1), .val (.int (26 : Int32)), .val (.ref (A 26)), .val (.int (1 : Int32))]) rfl ?_
      show Steps p.tables e below (T134.setTop (mkF m 25 #[.val (.int p1), .val (.int (26 : Int32)), .val (.ref (A 26)), .val (.int (1 : Int32))] [])) _
      refine XS.aloadN X134.here hx rfl (hb hby at_25) rfl rfl ?_
      show Steps p.tables e below (T134.setTop (mkF m 26 #[.val (.int p1), .val (.int (26 : Int32)), .val (.ref (A 26)), .val (.int (1 : Int32))] [(.ref (A 26))])) _
      refine st136.trans ?_
      show Steps p.tables e below (T136.setTop (mkF m 29 #[.val (.int p1), .val (.int (26 : Int32)), .val (.ref (A 26)), .val (.int (1 : Int32))] [(.int (1 : Int32))])) _
      refine XS.iloadN X136.here hx rfl (hb hby at_29) rfl ?_
      show Steps p.tables e below (T136.setTop (mkF m 30 #[.val (.int p1), .val (.int (26 : Int32)), .val (.ref (A 26)), .val (.int (1 : Int32))] [(.int (1 : Int32)), (.int (1 : Int32))])) _
      refine XS.icmpNo X136.here hx rfl (hb hby at_30) rfl (teq (by decide : (1 : Int32) = (1 : Int32))).2 ?_
      show Steps p.tables e below (T136.setTop (mkF m 33 #[.val (.int p1), .val (.int (26 : Int32)), .val (.ref (A 26)), .val (.int (1 : Int32))] [])) _
      refine XS.iconst X136.here hx rfl (hb hby at_33) ?_
      show Steps p.tables e below (T136.setTop (mkF m 34 #[.val (.int p1), .val (.int (26 : Int32)), .val (.ref (A 26)), .val (.int (1 : Int32))] [(.int (1 : Int32))])) _
      refine XS.goto X136.here hx rfl (pc0 := 34) (pc' := 38) rfl (hb hby at_34) (by decide) (by decide) ?_
      show Steps p.tables e below (T136.setTop (mkF m 38 #[.val (.int p1), .val (.int (26 : Int32)), .val (.ref (A 26)), .val (.int (1 : Int32))] [(.int (1 : Int32))])) _
      exact retN X136 hx (t := .boolean) Bd.returns (by simp) (hb hby at_38) hr
    · show LQ n0 _ T136.heap _
      exact ⟨rfl, N136, trivial⟩
  | 27, _, hk2 =>
    obtain ⟨_, _, ⟨T138, L138, k138, n138⟩, -, X138, ⟨Lc138, hQ138, l138, y138, z138⟩, st138⟩ := Jvm.LawKit.callS X0 hx (y := own_m1) hown (mvT hZ (hw _ (List.mem_of_getElem? (i := 1) rfl))) (mvT hZ (hw _ (List.mem_of_getElem? (i := 2) rfl))) (mvT hZ (hw _ (List.mem_of_getElem? (i := 3) rfl))) (mvT hZ (hw _ (List.mem_of_getElem? (i := 4) rfl))) (by decide) (backOf (W := 0) (rm55 l Z a0 hw [] h0 n0 p1 A K EN OL0) hZ (hw _ (List.mem_of_getElem? (i := 4) rfl)) (hw _ (List.mem_of_getElem? (i := 3) rfl)) (by decide) (by decide)) (g := (mkF m 9 #[.val (.int p1), .val (.int (27 : Int32)), .unset, .unset] [(.int (27 : Int32))])) rfl (by rw [hml]; rfl) (argsL := [(.int (27 : Int32))]) (rest := []) (lenOf own_pd0 rfl) rfl (by show 2 * 0 + _ ≤ _; exact Nat.le_of_eq rfl) (hb hby at_9) (fun _ _ => ⟨rfl, e0, (by decide : 0 + 0 ≤ _), (by decide : 0 + 0 ≤ _)⟩)
    dsimp only [Pt.U, Pt.locs, Pt.cells, Pt.slots] at X138 l138 y138 z138 st138 hQ138
    subst l138 y138 z138
    obtain ⟨rfl, N138q, e138⟩ := hQ138
    have N138 := Fr.app N0 N138q
    obtain ⟨cq141, kq141, q141a, q141b, q141c⟩ := isOf hZ e138 (EN.2.2.2.2.2.2.1.2.2.2.2.2.2.2.1.ext OL0.2)
    obtain ⟨_, _, ⟨T141, L141, k141, n141⟩, -, X141, ⟨Lc141, hQ141, l141, y141, z141⟩, st141⟩ := X138.virtualBack hx (y := own_m0) (z := own_m0) hown (mvT hZ (hw _ (List.mem_of_getElem? (i := 8) rfl))) (mvT hZ (hw _ (List.mem_of_getElem? (i := 9) rfl))) (notFace_of_selects (args := #[]) (mvT hZ (hw _ (List.mem_of_getElem? (i := 11) rfl)))) (mvT hZ (hw _ (List.mem_of_getElem? (i := 11) rfl))) (mvT hZ (hw _ (List.mem_of_getElem? (i := 10) rfl))) (by decide) (backOf (W := 0) (rm56 l Z a0 hw [] h0 n0 p1 A K EN OL0) hZ (hw _ (List.mem_of_getElem? (i := 12) rfl)) (hw _ (List.mem_of_getElem? (i := 6) rfl)) (by decide) (by decide)) q141a q141c (g := (mkF m 26 #[.val (.int p1), .val (.int (27 : Int32)), .val (.ref (A 27)), .val (.int (1 : Int32))] [(.ref (A 27))])) rfl (by rw [hml]; rfl) (Steps.refl _) (argsL := []) (rest := []) (lenOf own_pd1 rfl) rfl (by show 2 * 0 + _ ≤ _; exact Nat.le_of_eq rfl) (hb hby at_26) (fun _ _ => ⟨rfl, e138, (by decide : 0 + 0 ≤ _), (by decide : 0 + 0 ≤ _)⟩)
    dsimp only [Pt.U, Pt.locs, Pt.cells, Pt.slots] at X141 l141 y141 z141 st141 hQ141
    subst l141 y141 z141
    obtain ⟨rfl, N141q, e141⟩ := hQ141
    have N141 := Fr.app N138 N141q
    obtain ⟨fs, hr, hrun, hended, hW, hsame⟩ := X141.leave (v := some (.int (1 : Int32))) (fun h => by rw [Bd.returns] at h; cases h)
    refine ⟨_, _, pre1 _ ?_, hrun, hended, _, _, rfl, ?_, ⟨_, rfl⟩, hW, hsame.mono (by decide) (by decide)⟩
    · show Steps p.tables e below (s₁.setTop (mkF m 7 #[.val (.int p1), .unset, .unset, .unset] [(.int ((p1 &&& (2147483647 : Int32)) % (28 : Int32)))])) _
      rw [hk2]
      show Steps p.tables e below (s₁.setTop (mkF m 7 #[.val (.int p1), .unset, .unset, .unset] [(.int (27 : Int32))])) _
      refine XS.istoreN X0.here hx rfl (hb hby at_7) rfl (l' := #[.val (.int p1), .val (.int (27 : Int32)), .unset, .unset]) rfl ?_
      show Steps p.tables e below (s₁.setTop (mkF m 8 #[.val (.int p1), .val (.int (27 : Int32)), .unset, .unset] [])) _
      refine XS.iloadN X0.here hx rfl (hb hby at_8) rfl ?_
      show Steps p.tables e below (s₁.setTop (mkF m 9 #[.val (.int p1), .val (.int (27 : Int32)), .unset, .unset] [(.int (27 : Int32))])) _
      refine st138 _ ?_
      show Steps p.tables e below (T138.setTop (mkF m 12 #[.val (.int p1), .val (.int (27 : Int32)), .unset, .unset] [(.ref (A 27))])) _
      refine XS.astoreN X138.here hx rfl (hb hby at_12) rfl rfl (l' := #[.val (.int p1), .val (.int (27 : Int32)), .val (.ref (A 27)), .unset]) rfl ?_
      show Steps p.tables e below (T138.setTop (mkF m 13 #[.val (.int p1), .val (.int (27 : Int32)), .val (.ref (A 27)), .unset] [])) _
      refine XS.iloadN X138.here hx rfl (hb hby at_13) rfl ?_
      show Steps p.tables e below (T138.setTop (mkF m 14 #[.val (.int p1), .val (.int (27 : Int32)), .val (.ref (A 27)), .unset] [(.int (27 : Int32))])) _
      refine XS.bipush X138.here hx rfl (hb hby at_14) ?_
      show Steps p.tables e below (T138.setTop (mkF m 16 #[.val (.int p1), .val (.int (27 : Int32)), .val (.ref (A 27)), .unset] [(.int (26 : Int32)), (.int (27 : Int32))])) _
      refine XS.icmpNo X138.here hx rfl (hb hby at_16) rfl (flt (by decide : ¬ ((27 : Int32) < (26 : Int32)))).1 ?_
      show Steps p.tables e below (T138.setTop (mkF m 19 #[.val (.int p1), .val (.int (27 : Int32)), .val (.ref (A 27)), .unset] [])) _
      refine XS.iconst X138.here hx rfl (hb hby at_19) ?_
      show Steps p.tables e below (T138.setTop (mkF m 20 #[.val (.int p1), .val (.int (27 : Int32)), .val (.ref (A 27)), .unset] [(.int (1 : Int32))])) _
      refine XS.goto X138.here hx rfl (pc0 := 20) (pc' := 24) rfl (hb hby at_20) (by decide) (by decide) ?_
      show Steps p.tables e below (T138.setTop (mkF m 24 #[.val (.int p1), .val (.int (27 : Int32)), .val (.ref (A 27)), .unset] [(.int (1 : Int32))])) _
      refine XS.istoreN X138.here hx rfl (hb hby at_24) rfl (l' := #[.val (.int p1), .val (.int (27 : Int32)), .val (.ref (A 27)), .val (.int (1 : Int32))]) rfl ?_
      show Steps p.tables e below (T138.setTop (mkF m 25 #[.val (.int p1), .val (.int (27 : Int32)), .val (.ref (A 27)), .val (.int (1 : Int32))] [])) _
      refine XS.aloadN X138.here hx rfl (hb hby at_25) rfl rfl ?_
      show Steps p.tables e below (T138.setTop (mkF m 26 #[.val (.int p1), .val (.int (27 : Int32)), .val (.ref (A 27)), .val (.int (1 : Int32))] [(.ref (A 27))])) _
      refine st141.trans ?_
      show Steps p.tables e below (T141.setTop (mkF m 29 #[.val (.int p1), .val (.int (27 : Int32)), .val (.ref (A 27)), .val (.int (1 : Int32))] [(.int (1 : Int32))])) _
      refine XS.iloadN X141.here hx rfl (hb hby at_29) rfl ?_
      show Steps p.tables e below (T141.setTop (mkF m 30 #[.val (.int p1), .val (.int (27 : Int32)), .val (.ref (A 27)), .val (.int (1 : Int32))] [(.int (1 : Int32)), (.int (1 : Int32))])) _
      refine XS.icmpNo X141.here hx rfl (hb hby at_30) rfl (teq (by decide : (1 : Int32) = (1 : Int32))).2 ?_
      show Steps p.tables e below (T141.setTop (mkF m 33 #[.val (.int p1), .val (.int (27 : Int32)), .val (.ref (A 27)), .val (.int (1 : Int32))] [])) _
      refine XS.iconst X141.here hx rfl (hb hby at_33) ?_
      show Steps p.tables e below (T141.setTop (mkF m 34 #[.val (.int p1), .val (.int (27 : Int32)), .val (.ref (A 27)), .val (.int (1 : Int32))] [(.int (1 : Int32))])) _
      refine XS.goto X141.here hx rfl (pc0 := 34) (pc' := 38) rfl (hb hby at_34) (by decide) (by decide) ?_
      show Steps p.tables e below (T141.setTop (mkF m 38 #[.val (.int p1), .val (.int (27 : Int32)), .val (.ref (A 27)), .val (.int (1 : Int32))] [(.int (1 : Int32))])) _
      exact retN X141 hx (t := .boolean) Bd.returns (by simp) (hb hby at_38) hr
    · show LQ n0 _ T141.heap _
      exact ⟨rfl, N141, trivial⟩
  | kk + 28, h, _ => exact absurd h (by omega)
set_option maxRecDepth 65536 in
set_option maxHeartbeats 40000000 in
theorem comes_1 {Post : Tables → Env → Array Value → State → Outcome → State → Prop} (hpost : ∀ tb e args s v u, (limb_1_1.after args s (.returned v) u = true ∧ limb_1_2.after args s (.returned v) u = true ∧ True) → FrameEnd s (.returned v) u (Jvm.fieldLocs frame_1_writes args s ++ Jvm.arrayLocs frame_1_arrays args s ++ Jvm.staticLocs frame_1_statics s) 0 0 → Post tb e args s (.returned v) u) :
    ArmFor flags0 classFile x code maxLocals ret World_1 tables_1 room_1 Calls_1 rest_1 Pre_1 Post := by
  intro l hfl _ _ p e ha hc hk s m args below hf hA hF happ hP
  obtain ⟨hcalls, hrest, hpre⟩ := hP
  obtain ⟨-, -, -, hnamed, -, -, -, hat⟩ := (Spec.applies_iff hf).mp happ
  obtain ⟨hg, hn⟩ := and_e (Cond.before_iff.mp (show (Jvm.Cond.and given_1 narrow_1).before args s = true from hpre))
  obtain ⟨gA0, gB0⟩ := and_e hg
  obtain ⟨w0, rfl⟩ : ∃ w0 : Value, args = #[w0] := by
    have hs : args.size = 1 := by simpa [Cond.value, given_1] using gA0
    obtain ⟨L⟩ := args
    match L, hs with
    | [w0], _ => exact ⟨w0, rfl⟩
  have hw := fun d (hd : d ∈ tables_1) => atoms_spec (ws := Jvm.Cond.code x code maxLocals ret :: tables_1) hat d (List.mem_cons_of_mem _ hd)
  have hfit : Fit s := fun {y c} hc i hi => by
    obtain ⟨ha, rfl⟩ := Array.getElem?_eq_some_iff.mp hc
    have q := List.all_eq_true.mp ((Array.all_eq_true_iff_forall_mem.mp hF) _ (Array.getElem_mem ha)) i (List.mem_range.mpr hi)
    simpa [Array.getElem?_eq_getElem hi] using q
  obtain ⟨i0, ei0⟩ := is_v gB0
  obtain rfl : w0 = (.int i0) := Option.some.inj ei0
  obtain ⟨hx0, hr0⟩ := and_e hn
  obtain ⟨hx1, hr1⟩ := and_e hr0
  obtain ⟨hx2, hr2⟩ := and_e hr1
  obtain ⟨hx3, hr3⟩ := and_e hr2
  obtain ⟨hx4, hr4⟩ := and_e hr3
  obtain ⟨hx5, hr5⟩ := and_e hr4
  obtain ⟨hx6, hr6⟩ := and_e hr5
  obtain ⟨hx7, hr7⟩ := and_e hr6
  obtain ⟨hx8, hr8⟩ := and_e hr7
  obtain ⟨hx9, hr9⟩ := and_e hr8
  obtain ⟨hx10, hr10⟩ := and_e hr9
  obtain ⟨hx11, hr11⟩ := and_e hr10
  obtain ⟨hx12, hr12⟩ := and_e hr11
  obtain ⟨hx13, hr13⟩ := and_e hr12
  obtain ⟨hx14, hr14⟩ := and_e hr13
  obtain ⟨hx15, hr15⟩ := and_e hr14
  obtain ⟨hx16, hr16⟩ := and_e hr15
  obtain ⟨hx17, hr17⟩ := and_e hr16
  obtain ⟨hx18, hr18⟩ := and_e hr17
  obtain ⟨hx19, hr19⟩ := and_e hr18
  obtain ⟨hx20, hr20⟩ := and_e hr19
  obtain ⟨hx21, hr21⟩ := and_e hr20
  obtain ⟨hx22, hr22⟩ := and_e hr21
  obtain ⟨hx23, hr23⟩ := and_e hr22
  obtain ⟨hx24, hr24⟩ := and_e hr23
  obtain ⟨hx25, hr25⟩ := and_e hr24
  obtain ⟨hx26, hr26⟩ := and_e hr25
  obtain ⟨hx27, hr27⟩ := and_e hr26
  obtain ⟨hx28, hr28⟩ := and_e hr27
  obtain ⟨hx29, hr29⟩ := and_e hr28
  obtain ⟨hx30, hr30⟩ := and_e hr29
  obtain ⟨hx31, hr31⟩ := and_e hr30
  obtain ⟨hx32, hr32⟩ := and_e hr31
  obtain ⟨hx33, hr33⟩ := and_e hr32
  obtain ⟨hx34, hr34⟩ := and_e hr33
  obtain ⟨hx35, hr35⟩ := and_e hr34
  obtain ⟨hx36, hr36⟩ := and_e hr35
  obtain ⟨hx37, hr37⟩ := and_e hr36
  obtain ⟨hx38, hr38⟩ := and_e hr37
  obtain ⟨hx39, hr39⟩ := and_e hr38
  obtain ⟨hx40, hr40⟩ := and_e hr39
  obtain ⟨hx41, hr41⟩ := and_e hr40
  obtain ⟨hx42, hr42⟩ := and_e hr41
  obtain ⟨hx43, hr43⟩ := and_e hr42
  obtain ⟨hx44, hr44⟩ := and_e hr43
  obtain ⟨hx45, hr45⟩ := and_e hr44
  obtain ⟨hx46, hr46⟩ := and_e hr45
  obtain ⟨hx47, hr47⟩ := and_e hr46
  obtain ⟨hx48, hr48⟩ := and_e hr47
  obtain ⟨hx49, hr49⟩ := and_e hr48
  obtain ⟨hx50, hr50⟩ := and_e hr49
  obtain ⟨hx51, hr51⟩ := and_e hr50
  obtain ⟨hx52, hr52⟩ := and_e hr51
  obtain ⟨hx53, hr53⟩ := and_e hr52
  obtain ⟨hx54, hr54⟩ := and_e hr53
  obtain ⟨aS0, eS0⟩ := exa_v hx0
  obtain ⟨aS1, eS1⟩ := exa_v hx20
  obtain ⟨aS2, eS2⟩ := exa_v hx12
  obtain ⟨aS3, eS3⟩ := exa_v hx6
  obtain ⟨aS4, eS4⟩ := exa_v hx40
  obtain ⟨aS5, eS5⟩ := exa_v hx48
  obtain ⟨aS6, eS6⟩ := exa_v hx32
  obtain ⟨aS7, eS7⟩ := exa_v hx10
  obtain ⟨aS8, eS8⟩ := exa_v hx18
  obtain ⟨aS9, eS9⟩ := exa_v hx24
  obtain ⟨aS10, eS10⟩ := exa_v hx22
  obtain ⟨aS11, eS11⟩ := exa_v hx14
  obtain ⟨aS12, eS12⟩ := exa_v hx50
  obtain ⟨aS13, eS13⟩ := exa_v hx38
  obtain ⟨aS14, eS14⟩ := exa_v hx46
  obtain ⟨aS15, eS15⟩ := exa_v hx30
  obtain ⟨aS16, eS16⟩ := exa_v hx28
  obtain ⟨aS17, eS17⟩ := exa_v hx44
  obtain ⟨aS18, eS18⟩ := exa_v hx8
  obtain ⟨aS19, eS19⟩ := exa_v hx26
  obtain ⟨aS20, eS20⟩ := exa_v hx34
  obtain ⟨aS21, eS21⟩ := exa_v hx54
  obtain ⟨aS22, eS22⟩ := exa_v hx42
  obtain ⟨aS23, eS23⟩ := exa_v hx36
  obtain ⟨aS24, eS24⟩ := exa_v hx16
  obtain ⟨aS25, eS25⟩ := exa_v hx52
  obtain ⟨aS26, eS26⟩ := exa_v hx1
  obtain ⟨aS27, eS27⟩ := exa_v hx4
  have EN : own_St s (fun n => [aS0, aS1, aS2, aS3, aS4, aS5, aS6, aS7, aS8, aS9, aS10, aS11, aS12, aS13, aS14, aS15, aS16, aS17, aS18, aS19, aS20, aS21, aS22, aS23, aS24, aS25, aS26, aS27].getD n 0) (fun n => [].getD n 0) := ⟨⟨Sta.start eS0 (Or.inr ⟨(hw _ (List.mem_of_getElem? (i := 6) rfl)), (hw _ (List.mem_of_getElem? (i := 7) rfl))⟩), Exa.start eS0 hx0, Sta.start eS1 (Or.inr ⟨(hw _ (List.mem_of_getElem? (i := 6) rfl)), (hw _ (List.mem_of_getElem? (i := 34) rfl))⟩), Exa.start eS1 hx20, Sta.start eS2 (Or.inr ⟨(hw _ (List.mem_of_getElem? (i := 6) rfl)), (hw _ (List.mem_of_getElem? (i := 26) rfl))⟩), Exa.start eS2 hx12, Sta.start eS3 (Or.inr ⟨(hw _ (List.mem_of_getElem? (i := 6) rfl)), (hw _ (List.mem_of_getElem? (i := 18) rfl))⟩), Exa.start eS3 hx6, trivial⟩, ⟨Sta.start eS4 (Or.inr ⟨(hw _ (List.mem_of_getElem? (i := 6) rfl)), (hw _ (List.mem_of_getElem? (i := 54) rfl))⟩), Exa.start eS4 hx40, Sta.start eS5 (Or.inr ⟨(hw _ (List.mem_of_getElem? (i := 6) rfl)), (hw _ (List.mem_of_getElem? (i := 62) rfl))⟩), Exa.start eS5 hx48, Sta.start eS6 (Or.inr ⟨(hw _ (List.mem_of_getElem? (i := 6) rfl)), (hw _ (List.mem_of_getElem? (i := 46) rfl))⟩), Exa.start eS6 hx32, Sta.start eS7 (Or.inr ⟨(hw _ (List.mem_of_getElem? (i := 6) rfl)), (hw _ (List.mem_of_getElem? (i := 24) rfl))⟩), Exa.start eS7 hx10, trivial⟩, ⟨Sta.start eS8 (Or.inr ⟨(hw _ (List.mem_of_getElem? (i := 6) rfl)), (hw _ (List.mem_of_getElem? (i := 32) rfl))⟩), Exa.start eS8 hx18, Sta.start eS9 (Or.inr ⟨(hw _ (List.mem_of_getElem? (i := 6) rfl)), (hw _ (List.mem_of_getElem? (i := 38) rfl))⟩), Exa.start eS9 hx24, Sta.start eS10 (Or.inr ⟨(hw _ (List.mem_of_getElem? (i := 6) rfl)), (hw _ (List.mem_of_getElem? (i := 36) rfl))⟩), Exa.start eS10 hx22, Sta.start eS11 (Or.inr ⟨(hw _ (List.mem_of_getElem? (i := 6) rfl)), (hw _ (List.mem_of_getElem? (i := 28) rfl))⟩), Exa.start eS11 hx14, trivial⟩, ⟨Sta.start eS12 (Or.inr ⟨(hw _ (List.mem_of_getElem? (i := 6) rfl)), (hw _ (List.mem_of_getElem? (i := 64) rfl))⟩), Exa.start eS12 hx50, Sta.start eS13 (Or.inr ⟨(hw _ (List.mem_of_getElem? (i := 6) rfl)), (hw _ (List.mem_of_getElem? (i := 52) rfl))⟩), Exa.start eS13 hx38, Sta.start eS14 (Or.inr ⟨(hw _ (List.mem_of_getElem? (i := 6) rfl)), (hw _ (List.mem_of_getElem? (i := 60) rfl))⟩), Exa.start eS14 hx46, Sta.start eS15 (Or.inr ⟨(hw _ (List.mem_of_getElem? (i := 6) rfl)), (hw _ (List.mem_of_getElem? (i := 44) rfl))⟩), Exa.start eS15 hx30, trivial⟩, ⟨Sta.start eS16 (Or.inr ⟨(hw _ (List.mem_of_getElem? (i := 6) rfl)), (hw _ (List.mem_of_getElem? (i := 42) rfl))⟩), Exa.start eS16 hx28, Sta.start eS17 (Or.inr ⟨(hw _ (List.mem_of_getElem? (i := 6) rfl)), (hw _ (List.mem_of_getElem? (i := 58) rfl))⟩), Exa.start eS17 hx44, Sta.start eS18 (Or.inr ⟨(hw _ (List.mem_of_getElem? (i := 6) rfl)), (hw _ (List.mem_of_getElem? (i := 22) rfl))⟩), Exa.start eS18 hx8, Sta.start eS19 (Or.inr ⟨(hw _ (List.mem_of_getElem? (i := 6) rfl)), (hw _ (List.mem_of_getElem? (i := 40) rfl))⟩), Exa.start eS19 hx26, trivial⟩, ⟨Sta.start eS20 (Or.inr ⟨(hw _ (List.mem_of_getElem? (i := 6) rfl)), (hw _ (List.mem_of_getElem? (i := 48) rfl))⟩), Exa.start eS20 hx34, Sta.start eS21 (Or.inr ⟨(hw _ (List.mem_of_getElem? (i := 6) rfl)), (hw _ (List.mem_of_getElem? (i := 68) rfl))⟩), Exa.start eS21 hx54, Sta.start eS22 (Or.inr ⟨(hw _ (List.mem_of_getElem? (i := 6) rfl)), (hw _ (List.mem_of_getElem? (i := 56) rfl))⟩), Exa.start eS22 hx42, Sta.start eS23 (Or.inr ⟨(hw _ (List.mem_of_getElem? (i := 6) rfl)), (hw _ (List.mem_of_getElem? (i := 50) rfl))⟩), Exa.start eS23 hx36, trivial⟩, ⟨Sta.start eS24 (Or.inr ⟨(hw _ (List.mem_of_getElem? (i := 6) rfl)), (hw _ (List.mem_of_getElem? (i := 30) rfl))⟩), Exa.start eS24 hx16, Sta.start eS25 (Or.inr ⟨(hw _ (List.mem_of_getElem? (i := 6) rfl)), (hw _ (List.mem_of_getElem? (i := 66) rfl))⟩), Exa.start eS25 hx52, Sta.start eS26 (Or.inr ⟨(hw _ (List.mem_of_getElem? (i := 6) rfl)), (hw _ (List.mem_of_getElem? (i := 14) rfl))⟩), Exa.start eS26 hx1, Sta.start eS27 (Or.inr ⟨(hw _ (List.mem_of_getElem? (i := 6) rfl)), (hw _ (List.mem_of_getElem? (i := 16) rfl))⟩), Exa.start eS27 hx4, trivial⟩, ⟨own_fld eS0 (own_eqv (Term.int_eval _) hx2), own_fld eS26 (own_eqv (Term.int_eval _) hx3), own_fld eS27 (own_eqv (Term.int_eval _) hx5), own_fld eS3 (own_eqv (Term.int_eval _) hx7), own_fld eS18 (own_eqv (Term.int_eval _) hx9), own_fld eS7 (own_eqv (Term.int_eval _) hx11), own_fld eS2 (own_eqv (Term.int_eval _) hx13), own_fld eS11 (own_eqv (Term.int_eval _) hx15), trivial⟩, ⟨own_fld eS24 (own_eqv (Term.int_eval _) hx17), own_fld eS8 (own_eqv (Term.int_eval _) hx19), own_fld eS1 (own_eqv (Term.int_eval _) hx21), own_fld eS10 (own_eqv (Term.int_eval _) hx23), own_fld eS9 (own_eqv (Term.int_eval _) hx25), own_fld eS19 (own_eqv (Term.int_eval _) hx27), own_fld eS16 (own_eqv (Term.int_eval _) hx29), own_fld eS15 (own_eqv (Term.int_eval _) hx31), trivial⟩, ⟨own_fld eS6 (own_eqv (Term.int_eval _) hx33), own_fld eS20 (own_eqv (Term.int_eval _) hx35), own_fld eS23 (own_eqv (Term.int_eval _) hx37), own_fld eS13 (own_eqv (Term.int_eval _) hx39), own_fld eS4 (own_eqv (Term.int_eval _) hx41), own_fld eS22 (own_eqv (Term.int_eval _) hx43), own_fld eS17 (own_eqv (Term.int_eval _) hx45), own_fld eS14 (own_eqv (Term.int_eval _) hx47), trivial⟩, ⟨own_fld eS5 (own_eqv (Term.int_eval _) hx49), own_fld eS12 (own_eqv (Term.int_eval _) hx51), own_fld eS25 (own_eqv (Term.int_eval _) hx53), own_fld eS21 (own_eqv (Term.int_eval _) hr54), trivial⟩, trivial⟩
  obtain ⟨n, o, h1, h2, h3, _, L, rfl, hQ, hq⟩ := rm0 l s _ hw tables_1 s.heap s.heap.size i0 (fun n => [aS0, aS1, aS2, aS3, aS4, aS5, aS6, aS7, aS8, aS9, aS10, aS11, aS12, aS13, aS14, aS15, aS16, aS17, aS18, aS19, aS20, aS21, aS22, aS23, aS24, aS25, aS26, aS27].getD n 0) (fun n => [].getD n 0) EN (Old.start s) p e ha hc hk s m _ below hf ((Spec.applies_iff_loose hf).mp happ).1 ⟨rfl, State.Warmed39.refl s, rfl⟩ trivial
  obtain ⟨rfl, N, -⟩ := hQ
  refine ⟨n, _, h1, h2, h3, hpost _ _ _ _ _ _ ⟨Cond.after_iff.mpr rfl, Cond.after_iff.mpr (eq_i res_at (Term.int_eval (1)) rfl), trivial⟩ ⟨hq.1, hq.2.1, (hq.2.2.sift fun y hy => Or.inr (N y hy)).mono (by decide) (by decide)⟩⟩
theorem main_1_1 : Claimed_1_1 := comes_1 fun _ _ _ _ _ _ h hF => ⟨h.1, hF⟩
theorem main_1_2 : Claimed_1_2 := comes_1 fun _ _ _ _ _ _ h hF => ⟨h.2.1, hF⟩
end Jvm.Pilot.@@N@@
namespace Jvm.Pilot.@@N@@
open Jvm Jvm.ClassFile Sem Op Lib Jvm.Free Jvm.Stand Jvm.Pilot.@@N@@.Jvm.D
/-! MADE BY PROGRAM (witnessworld.py) out of the Statement's table words and the real class files: 12 classes; the members and pool entries that the words name. The judged class is class 1, her method 1. -/
namespace start1
open Jvm.ClassFile
def u (s : String) : CpInfo := .utf8 (stringToUtf16 s)
/-- a pool by its gaps: so many unusable entries, then the entry; so many at the end -/
def gap : Nat → List CpInfo → List CpInfo
  | 0, r => r
  | n + 1, r => .unusable :: gap n r
def poolList (es : List (Nat × CpInfo)) (last : Nat) : List CpInfo := es.foldr (fun e r => gap e.1 (e.2 :: r)) (gap last [])
def pool (es : List (Nat × CpInfo)) (last : Nat) : Array CpInfo := ⟨poolList es last⟩
def fileOf (pool : Array CpInfo) (this : Nat) (attrs : Array Attribute := #[]) (ms : Array MethodInfo := #[]) (fl : Nat := 33) (sup : Nat := 0) (ifs : Array Nat := #[]) (fds : Array FieldInfo := #[]) : ClassFile where
  minorVersion := 0
  majorVersion := 65
  constantPool := pool
  accessFlags := fl
  thisClass := this
  superClass := sup
  interfaces := ifs
  fields := fds
  methods := ms
  attributes := attrs
def plain (name : String) (sup : Option ClassId) : Class where
  name := name
  kind := .ordinary
  loader := none
  accessFlags := 33
  super := sup
  interfaces := #[]
  cf := none
  fields := #[]
  methods := #[]
  instanceTypes := #[]
  staticTypes := #[]
  resolved := #[]
  callSites := []
  init := .initialized
  statics := none
  mirror := none

def pool0 : Array CpInfo := pool [(5, u "<init>"), (0, u "()V"), (1, .class_ 10), (1, u "java/lang/Object")] 113

def k0m0 : Method := { name := "<init>", desc := "()V", sig := { parameters := [], returnType := none }, accessFlags := 1, code := none }
/-- java/lang/Object -/
def k0 : Class := { plain "java/lang/Object" none with
  accessFlags := 33
  interfaces := #[]
  cf := some (fileOf pool0 8 #[] #[{ accessFlags := 1, nameIndex := 5, descriptorIndex := 6, attributes := #[] }] 33 0 #[] #[])
  fields := #[]
  methods := #[k0m0]
  instanceTypes := #[]
  staticTypes := #[]
  resolved := Array.replicate 124 none
  statics := none }

def pool1 : Array CpInfo := pool [(2, .class_ 4), (1, u "java/lang/Object"), (0, u "<init>"), (0, u "()V"), (0, .integer 2147483647), (0, .methodref 9 10), (0, .class_ 11), (0, .nameAndType 12 13), (0, u "com/example/tallywire/tallywire/wire/FieldTypeIsDataPinLaw"), (0, u "typeAt"), (0, u "(I)Lcom/example/tallywire/tallywire/wire/FieldType;"), (0, .methodref 15 16), (0, .class_ 17), (0, .nameAndType 18 19), (0, u "com/example/tallywire/tallywire/wire/FieldType"), (0, u "isData"), (0, u "()Z"), (0, .fieldref 15 21), (0, .nameAndType 22 23), (0, u "INT"), (0, u "Lcom/example/tallywire/tallywire/wire/FieldType;"), (0, .fieldref 15 25), (0, .nameAndType 26 23), (0, u "SEQNUM"), (0, .fieldref 15 28), (0, .nameAndType 29 23), (0, u "LENGTH"), (0, .fieldref 15 31), (0, .nameAndType 32 23), (0, u "NUMINGROUP"), (0, .fieldref 15 34), (0, .nameAndType 35 23), (0, u "FLOAT"), (0, .fieldref 15 37), (0, .nameAndType 38 23), (0, u "QTY"), (0, .fieldref 15 40), (0, .nameAndType 41 23), (0, u "PRICE"), (0, .fieldref 15 43), (0, .nameAndType 44 23), (0, u "AMT"), (0, .fieldref 15 46), (0, .nameAndType 47 23), (0, u "PERCENTAGE"), (0, .fieldref 15 49), (0, .nameAndType 50 23), (0, u "PRICEOFFSET"), (0, .fieldref 15 52), (0, .nameAndType 53 23), (0, u "CHAR"), (0, .fieldref 15 55), (0, .nameAndType 56 23), (0, u "BOOLEAN"), (0, .fieldref 15 58), (0, .nameAndType 59 23), (0, u "STRING"), (0, .fieldref 15 61), (0, .nameAndType 62 23), (0, u "MULTIPLEVALUESTRING"), (0, .fieldref 15 64), (0, .nameAndType 65 23), (0, u "MULTIPLESTRINGVALUE"), (0, .fieldref 15 67), (0, .nameAndType 68 23), (0, u "MULTIPLECHARVALUE"), (0, .fieldref 15 70), (0, .nameAndType 71 23), (0, u "EXCHANGE"), (0, .fieldref 15 73), (0, .nameAndType 74 23), (0, u "CURRENCY"), (0, .fieldref 15 76), (0, .nameAndType 77 23), (0, u "COUNTRY"), (0, .fieldref 15 79), (0, .nameAndType 80 23), (0, u "LOCALMKTDATE"), (0, .fieldref 15 82), (0, .nameAndType 83 23), (0, u "UTCDATEONLY"), (0, .fieldref 15 85), (0, .nameAndType 86 23), (0, u "MONTHYEAR"), (0, .fieldref 15 88), (0, .nameAndType 89 23), (0, u "UTCTIMESTAMP"), (0, .fieldref 15 91), (0, .nameAndType 92 23), (0, u "UTCTIMEONLY"), (0, .fieldref 15 94), (0, .nameAndType 95 23), (0, u "TZTIMEONLY"), (0, .fieldref 15 97), (0, .nameAndType 98 23), (0, u "TZTIMESTAMP"), (0, .fieldref 15 100), (0, .nameAndType 101 23), (0, u "DATA"), (0, .fieldref 15 103), (0, .nameAndType 104 23), (0, u "XMLDATA"), (2, u "law"), (0, u "(I)Z")] 3

def k1m0 : Method := { name := "<init>", desc := "()V", sig := { parameters := [], returnType := none }, accessFlags := 1, code := none }
def k1c1 : Code := { maxStack := 2, maxLocals := 4, code := code, exceptionTable := #[], attributes := #[] }
def k1m1 : Method := { name := "law", desc := "(I)Z", sig := { parameters := [.int], returnType := some .boolean }, accessFlags := 9, code := some k1c1 }
def k1c2 : Code := { maxStack := 1, maxLocals := 1, code := method_3_code, exceptionTable := #[], attributes := #[] }
def k1m2 : Method := { name := "typeAt", desc := "(I)Lcom/example/tallywire/tallywire/wire/FieldType;", sig := { parameters := [.int], returnType := some (.object "com/example/tallywire/tallywire/wire/FieldType") }, accessFlags := 10, code := some k1c2 }
/-- com/example/tallywire/tallywire/wire/FieldTypeIsDataPinLaw -/
def k1 : Class := { plain "com/example/tallywire/tallywire/wire/FieldTypeIsDataPinLaw" (some 0) with
  accessFlags := 49
  interfaces := #[]
  cf := some (fileOf pool1 9 #[] #[{ accessFlags := 1, nameIndex := 5, descriptorIndex := 6, attributes := #[] }, { accessFlags := 9, nameIndex := 107, descriptorIndex := 108, attributes := #[] }, { accessFlags := 10, nameIndex := 12, descriptorIndex := 13, attributes := #[] }] 49 2 #[] #[])
  fields := #[]
  methods := #[k1m0, k1m1, k1m2]
  instanceTypes := #[]
  staticTypes := #[]
  resolved := Array.replicate 112 none
  statics := none }

def pool2 : Array CpInfo := pool [(1, .class_ 2), (0, u "java/lang/constant/Constable"), (0, .class_ 4), (0, u "java/lang/Object")] 6

/-- java/lang/constant/Constable -/
def k2 : Class := { plain "java/lang/constant/Constable" (some 0) with
  accessFlags := 1537
  interfaces := #[]
  cf := some (fileOf pool2 1 #[] #[] 1537 3 #[] #[])
  fields := #[]
  methods := #[]
  instanceTypes := #[]
  staticTypes := #[]
  resolved := Array.replicate 11 none
  statics := none }

def pool3 : Array CpInfo := pool [(1, .class_ 2), (0, u "java/lang/Comparable"), (0, .class_ 4), (0, u "java/lang/Object")] 7

/-- java/lang/Comparable -/
def k3 : Class := { plain "java/lang/Comparable" (some 0) with
  accessFlags := 1537
  interfaces := #[]
  cf := some (fileOf pool3 1 #[] #[] 1537 3 #[] #[])
  fields := #[]
  methods := #[]
  instanceTypes := #[]
  staticTypes := #[]
  resolved := Array.replicate 12 none
  statics := none }

def pool4 : Array CpInfo := pool [(1, .class_ 2), (0, u "java/io/Serializable"), (0, .class_ 4), (0, u "java/lang/Object")] 2

/-- java/io/Serializable -/
def k4 : Class := { plain "java/io/Serializable" (some 0) with
  accessFlags := 1537
  interfaces := #[]
  cf := some (fileOf pool4 1 #[] #[] 1537 3 #[] #[])
  fields := #[]
  methods := #[]
  instanceTypes := #[]
  staticTypes := #[]
  resolved := Array.replicate 7 none
  statics := none }

def pool5 : Array CpInfo := pool [(2, .class_ 4), (1, u "java/lang/Enum"), (0, u "name"), (0, u "Ljava/lang/String;"), (2, u "ordinal"), (0, u "I"), (1, .class_ 14), (1, u "java/lang/Object"), (4, u "hash"), (86, .class_ 108), (1, u "java/lang/Enum$EnumDesc"), (2, .class_ 112), (0, u "java/lang/constant/Constable"), (0, .class_ 114), (0, u "java/lang/Comparable"), (0, .class_ 116), (0, u "java/io/Serializable")] 87

/-- java/lang/Enum -/
def k5 : Class := { plain "java/lang/Enum" (some 0) with
  accessFlags := 1057
  interfaces := #[2, 3, 4]
  cf := some (fileOf pool5 2 #[.nestMembers #[106]] #[] 1057 12 #[111, 113, 115] #[{ accessFlags := 18, nameIndex := 5, descriptorIndex := 6, attributes := #[] }, { accessFlags := 18, nameIndex := 9, descriptorIndex := 10, attributes := #[] }, { accessFlags := 2, nameIndex := 19, descriptorIndex := 10, attributes := #[] }])
  fields := #[{ name := "name", type := (.object "java/lang/String"), accessFlags := 18, slot := 0, constantValue := 0 }, { name := "ordinal", type := .int, accessFlags := 18, slot := 1, constantValue := 0 }, { name := "hash", type := .int, accessFlags := 2, slot := 2, constantValue := 0 }]
  methods := #[]
  instanceTypes := #[(.object "java/lang/String"), .int, .int]
  staticTypes := #[]
  resolved := Array.replicate 204 none
  statics := none }

def pool6 : Array CpInfo := pool [(1, .class_ 2), (0, u "com/example/tallywire/tallywire/wire/FieldType"), (2, u "INT"), (0, u "Lcom/example/tallywire/tallywire/wire/FieldType;"), (2, u "SEQNUM"), (2, u "LENGTH"), (2, u "NUMINGROUP"), (2, u "FLOAT"), (2, u "QTY"), (2, u "PRICE"), (2, u "AMT"), (2, u "PERCENTAGE"), (2, u "PRICEOFFSET"), (2, u "CHAR"), (2, u "BOOLEAN"), (2, u "STRING"), (2, u "MULTIPLEVALUESTRING"), (2, u "MULTIPLESTRINGVALUE"), (2, u "MULTIPLECHARVALUE"), (2, u "EXCHANGE"), (2, u "CURRENCY"), (2, u "COUNTRY"), (2, u "LOCALMKTDATE"), (2, u "UTCDATEONLY"), (2, u "MONTHYEAR"), (2, u "UTCTIMESTAMP"), (2, u "UTCTIMEONLY"), (2, u "TZTIMEONLY"), (2, u "TZTIMESTAMP"), (0, .fieldref 1 83), (0, .nameAndType 84 6), (0, u "DATA"), (0, .fieldref 1 86), (0, .nameAndType 87 6), (0, u "XMLDATA"), (2, u "$VALUES"), (0, u "[Lcom/example/tallywire/tallywire/wire/FieldType;"), (6, .class_ 100), (1, u "java/lang/Enum"), (123, u "MISSING"), (0, u "I"), (9, u "isData"), (0, u "()Z")] 8

def k6c0 : Code := { maxStack := 2, maxLocals := 1, code := prog_40_method_4_code, exceptionTable := #[], attributes := #[] }
def k6m0 : Method := { name := "isData", desc := "()Z", sig := { parameters := [], returnType := some .boolean }, accessFlags := 1, code := some k6c0 }
/-- com/example/tallywire/tallywire/wire/FieldType -/
def k6 : Class := { plain "com/example/tallywire/tallywire/wire/FieldType" (some 5) with
  accessFlags := 16433
  interfaces := #[]
  cf := some (fileOf pool6 1 #[] #[{ accessFlags := 1, nameIndex := 235, descriptorIndex := 236, attributes := #[] }] 16433 98 #[] #[{ accessFlags := 16409, nameIndex := 5, descriptorIndex := 6, attributes := #[] }, { accessFlags := 16409, nameIndex := 9, descriptorIndex := 6, attributes := #[] }, { accessFlags := 16409, nameIndex := 12, descriptorIndex := 6, attributes := #[] }, { accessFlags := 16409, nameIndex := 15, descriptorIndex := 6, attributes := #[] }, { accessFlags := 16409, nameIndex := 18, descriptorIndex := 6, attributes := #[] }, { accessFlags := 16409, nameIndex := 21, descriptorIndex := 6, attributes := #[] }, { accessFlags := 16409, nameIndex := 24, descriptorIndex := 6, attributes := #[] }, { accessFlags := 16409, nameIndex := 27, descriptorIndex := 6, attributes := #[] }, { accessFlags := 16409, nameIndex := 30, descriptorIndex := 6, attributes := #[] }, { accessFlags := 16409, nameIndex := 33, descriptorIndex := 6, attributes := #[] }, { accessFlags := 16409, nameIndex := 36, descriptorIndex := 6, attributes := #[] }, { accessFlags := 16409, nameIndex := 39, descriptorIndex := 6, attributes := #[] }, { accessFlags := 16409, nameIndex := 42, descriptorIndex := 6, attributes := #[] }, { accessFlags := 16409, nameIndex := 45, descriptorIndex := 6, attributes := #[] }, { accessFlags := 16409, nameIndex := 48, descriptorIndex := 6, attributes := #[] }, { accessFlags := 16409, nameIndex := 51, descriptorIndex := 6, attributes := #[] }, { accessFlags := 16409, nameIndex := 54, descriptorIndex := 6, attributes := #[] }, { accessFlags := 16409, nameIndex := 57, descriptorIndex := 6, attributes := #[] }, { accessFlags := 16409, nameIndex := 60, descriptorIndex := 6, attributes := #[] }, { accessFlags := 16409, nameIndex := 63, descriptorIndex := 6, attributes := #[] }, { accessFlags := 16409, nameIndex := 66, descriptorIndex := 6, attributes := #[] }, { accessFlags := 16409, nameIndex := 69, descriptorIndex := 6, attributes := #[] }, { accessFlags := 16409, nameIndex := 72, descriptorIndex := 6, attributes := #[] }, { accessFlags := 16409, nameIndex := 75, descriptorIndex := 6, attributes := #[] }, { accessFlags := 16409, nameIndex := 78, descriptorIndex := 6, attributes := #[] }, { accessFlags := 16409, nameIndex := 81, descriptorIndex := 6, attributes := #[] }, { accessFlags := 16409, nameIndex := 84, descriptorIndex := 6, attributes := #[] }, { accessFlags := 16409, nameIndex := 87, descriptorIndex := 6, attributes := #[] }, { accessFlags := 26, nameIndex := 224, descriptorIndex := 225, attributes := #[] }, { accessFlags := 4122, nameIndex := 90, descriptorIndex := 91, attributes := #[] }])
  fields := #[{ name := "INT", type := (.object "com/example/tallywire/tallywire/wire/FieldType"), accessFlags := 16409, slot := 0, constantValue := 0 }, { name := "SEQNUM", type := (.object "com/example/tallywire/tallywire/wire/FieldType"), accessFlags := 16409, slot := 1, constantValue := 0 }, { name := "LENGTH", type := (.object "com/example/tallywire/tallywire/wire/FieldType"), accessFlags := 16409, slot := 2, constantValue := 0 }, { name := "NUMINGROUP", type := (.object "com/example/tallywire/tallywire/wire/FieldType"), accessFlags := 16409, slot := 3, constantValue := 0 }, { name := "FLOAT", type := (.object "com/example/tallywire/tallywire/wire/FieldType"), accessFlags := 16409, slot := 4, constantValue := 0 }, { name := "QTY", type := (.object "com/example/tallywire/tallywire/wire/FieldType"), accessFlags := 16409, slot := 5, constantValue := 0 }, { name := "PRICE", type := (.object "com/example/tallywire/tallywire/wire/FieldType"), accessFlags := 16409, slot := 6, constantValue := 0 }, { name := "AMT", type := (.object "com/example/tallywire/tallywire/wire/FieldType"), accessFlags := 16409, slot := 7, constantValue := 0 }, { name := "PERCENTAGE", type := (.object "com/example/tallywire/tallywire/wire/FieldType"), accessFlags := 16409, slot := 8, constantValue := 0 }, { name := "PRICEOFFSET", type := (.object "com/example/tallywire/tallywire/wire/FieldType"), accessFlags := 16409, slot := 9, constantValue := 0 }, { name := "CHAR", type := (.object "com/example/tallywire/tallywire/wire/FieldType"), accessFlags := 16409, slot := 10, constantValue := 0 }, { name := "BOOLEAN", type := (.object "com/example/tallywire/tallywire/wire/FieldType"), accessFlags := 16409, slot := 11, constantValue := 0 }, { name := "STRING", type := (.object "com/example/tallywire/tallywire/wire/FieldType"), accessFlags := 16409, slot := 12, constantValue := 0 }, { name := "MULTIPLEVALUESTRING", type := (.object "com/example/tallywire/tallywire/wire/FieldType"), accessFlags := 16409, slot := 13, constantValue := 0 }, { name := "MULTIPLESTRINGVALUE", type := (.object "com/example/tallywire/tallywire/wire/FieldType"), accessFlags := 16409, slot := 14, constantValue := 0 }, { name := "MULTIPLECHARVALUE", type := (.object "com/example/tallywire/tallywire/wire/FieldType"), accessFlags := 16409, slot := 15, constantValue := 0 }, { name := "EXCHANGE", type := (.object "com/example/tallywire/tallywire/wire/FieldType"), accessFlags := 16409, slot := 16, constantValue := 0 }, { name := "CURRENCY", type := (.object "com/example/tallywire/tallywire/wire/FieldType"), accessFlags := 16409, slot := 17, constantValue := 0 }, { name := "COUNTRY", type := (.object "com/example/tallywire/tallywire/wire/FieldType"), accessFlags := 16409, slot := 18, constantValue := 0 }, { name := "LOCALMKTDATE", type := (.object "com/example/tallywire/tallywire/wire/FieldType"), accessFlags := 16409, slot := 19, constantValue := 0 }, { name := "UTCDATEONLY", type := (.object "com/example/tallywire/tallywire/wire/FieldType"), accessFlags := 16409, slot := 20, constantValue := 0 }, { name := "MONTHYEAR", type := (.object "com/example/tallywire/tallywire/wire/FieldType"), accessFlags := 16409, slot := 21, constantValue := 0 }, { name := "UTCTIMESTAMP", type := (.object "com/example/tallywire/tallywire/wire/FieldType"), accessFlags := 16409, slot := 22, constantValue := 0 }, { name := "UTCTIMEONLY", type := (.object "com/example/tallywire/tallywire/wire/FieldType"), accessFlags := 16409, slot := 23, constantValue := 0 }, { name := "TZTIMEONLY", type := (.object "com/example/tallywire/tallywire/wire/FieldType"), accessFlags := 16409, slot := 24, constantValue := 0 }, { name := "TZTIMESTAMP", type := (.object "com/example/tallywire/tallywire/wire/FieldType"), accessFlags := 16409, slot := 25, constantValue := 0 }, { name := "DATA", type := (.object "com/example/tallywire/tallywire/wire/FieldType"), accessFlags := 16409, slot := 26, constantValue := 0 }, { name := "XMLDATA", type := (.object "com/example/tallywire/tallywire/wire/FieldType"), accessFlags := 16409, slot := 27, constantValue := 0 }, { name := "MISSING", type := .int, accessFlags := 26, slot := 28, constantValue := 0 }, { name := "$VALUES", type := (.array (.object "com/example/tallywire/tallywire/wire/FieldType")), accessFlags := 4122, slot := 29, constantValue := 0 }]
  methods := #[k6m0]
  instanceTypes := #[(.object "java/lang/String"), .int, .int]
  staticTypes := #[(.object "com/example/tallywire/tallywire/wire/FieldType"), (.object "com/example/tallywire/tallywire/wire/FieldType"), (.object "com/example/tallywire/tallywire/wire/FieldType"), (.object "com/example/tallywire/tallywire/wire/FieldType"), (.object "com/example/tallywire/tallywire/wire/FieldType"), (.object "com/example/tallywire/tallywire/wire/FieldType"), (.object "com/example/tallywire/tallywire/wire/FieldType"), (.object "com/example/tallywire/tallywire/wire/FieldType"), (.object "com/example/tallywire/tallywire/wire/FieldType"), (.object "com/example/tallywire/tallywire/wire/FieldType"), (.object "com/example/tallywire/tallywire/wire/FieldType"), (.object "com/example/tallywire/tallywire/wire/FieldType"), (.object "com/example/tallywire/tallywire/wire/FieldType"), (.object "com/example/tallywire/tallywire/wire/FieldType"), (.object "com/example/tallywire/tallywire/wire/FieldType"), (.object "com/example/tallywire/tallywire/wire/FieldType"), (.object "com/example/tallywire/tallywire/wire/FieldType"), (.object "com/example/tallywire/tallywire/wire/FieldType"), (.object "com/example/tallywire/tallywire/wire/FieldType"), (.object "com/example/tallywire/tallywire/wire/FieldType"), (.object "com/example/tallywire/tallywire/wire/FieldType"), (.object "com/example/tallywire/tallywire/wire/FieldType"), (.object "com/example/tallywire/tallywire/wire/FieldType"), (.object "com/example/tallywire/tallywire/wire/FieldType"), (.object "com/example/tallywire/tallywire/wire/FieldType"), (.object "com/example/tallywire/tallywire/wire/FieldType"), (.object "com/example/tallywire/tallywire/wire/FieldType"), (.object "com/example/tallywire/tallywire/wire/FieldType"), .int, (.array (.object "com/example/tallywire/tallywire/wire/FieldType"))]
  resolved := Array.replicate 245 none
  statics := some 0 }

def pool7 : Array CpInfo := pool [(1, u "java/lang/Cloneable"), (0, .class_ 1), (0, u "java/lang/Object"), (0, .class_ 3)] 3

/-- java/lang/Cloneable -/
def k7 : Class := { plain "java/lang/Cloneable" (some 0) with
  accessFlags := 1537
  interfaces := #[]
  cf := some (fileOf pool7 2 #[] #[] 1537 4 #[] #[])
  fields := #[]
  methods := #[]
  instanceTypes := #[]
  staticTypes := #[]
  resolved := Array.replicate 8 none
  statics := none }

/-- the primitive byte -/
def k8 : Class := { plain "byte" none with kind := .primitive 'B', accessFlags := 0x411 }
/-- [B -/
def k9 : Class := { plain "[B" (some 0) with kind := .array 8 .byte, interfaces := #[7, 4], accessFlags := 1041 }

/-- the primitive int -/
def k10 : Class := { plain "int" none with kind := .primitive 'I', accessFlags := 0x411 }
/-- [I -/
def k11 : Class := { plain "[I" (some 0) with kind := .array 10 .int, interfaces := #[7, 4], accessFlags := 1041 }

def heap : Heap := #[{ cls := 6, slots := #[.ref 1, .ref 11, .ref 7, .ref 4, .ref 21, .ref 25, .ref 17, .ref 6, .ref 10, .ref 13, .ref 12, .ref 8, .ref 26, .ref 20, .ref 24, .ref 16, .ref 15, .ref 23, .ref 5, .ref 14, .ref 18, .ref 28, .ref 22, .ref 19, .ref 9, .ref 27, .ref 2, .ref 3, .int 0, .null], vm := .statics 6 },
  { cls := 6, slots := #[.null, .int 0, .int 0], vm := .none },
  { cls := 6, slots := #[.null, .int 26, .int 0], vm := .none },
  { cls := 6, slots := #[.null, .int 27, .int 0], vm := .none },
  { cls := 6, slots := #[.null, .int 3, .int 0], vm := .none },
  { cls := 6, slots := #[.null, .int 18, .int 0], vm := .none },
  { cls := 6, slots := #[.null, .int 7, .int 0], vm := .none },
  { cls := 6, slots := #[.null, .int 2, .int 0], vm := .none },
  { cls := 6, slots := #[.null, .int 11, .int 0], vm := .none },
  { cls := 6, slots := #[.null, .int 24, .int 0], vm := .none },
  { cls := 6, slots := #[.null, .int 8, .int 0], vm := .none },
  { cls := 6, slots := #[.null, .int 1, .int 0], vm := .none },
  { cls := 6, slots := #[.null, .int 10, .int 0], vm := .none },
  { cls := 6, slots := #[.null, .int 9, .int 0], vm := .none },
  { cls := 6, slots := #[.null, .int 19, .int 0], vm := .none },
  { cls := 6, slots := #[.null, .int 16, .int 0], vm := .none },
  { cls := 6, slots := #[.null, .int 15, .int 0], vm := .none },
  { cls := 6, slots := #[.null, .int 6, .int 0], vm := .none },
  { cls := 6, slots := #[.null, .int 20, .int 0], vm := .none },
  { cls := 6, slots := #[.null, .int 23, .int 0], vm := .none },
  { cls := 6, slots := #[.null, .int 13, .int 0], vm := .none },
  { cls := 6, slots := #[.null, .int 4, .int 0], vm := .none },
  { cls := 6, slots := #[.null, .int 22, .int 0], vm := .none },
  { cls := 6, slots := #[.null, .int 17, .int 0], vm := .none },
  { cls := 6, slots := #[.null, .int 14, .int 0], vm := .none },
  { cls := 6, slots := #[.null, .int 5, .int 0], vm := .none },
  { cls := 6, slots := #[.null, .int 12, .int 0], vm := .none },
  { cls := 6, slots := #[.null, .int 25, .int 0], vm := .none },
  { cls := 6, slots := #[.null, .int 21, .int 0], vm := .none }]
def classes : Array Class := #[k0, k1, k2, k3, k4, k5, k6, k7, k8, k9, k10, k11]
def interned : List (Array UInt16 × Addr) := []
def slotsUsed : Nat := 114
def theMethod : MethodId := ⟨1, 1⟩
def args0 : Array Value := #[.int 5]
def aboutOver (below : List Frame) : State where
  vm := { classes := classes, interned := interned.toArray }
  heap := heap
  slotsUsed := slotsUsed
  threads := #[{ frames := .invoking theMethod args0 :: below }]
def below0 : List Frame := [.native { method := ⟨0, 0⟩, args := #[] }]
def about1 : State := aboutOver below0
def p0 : Program := .bare "" "" ""
def e0 : Env := launch0.env 0 0 0
theorem w_frames : about1.frames = Frame.invoking theMethod args0 :: below0 := rfl
set_option maxRecDepth 65536 in
theorem w_args : argsFit about1.vm theMethod args0 = true := by decide +kernel
set_option maxRecDepth 65536 in
theorem w_heap : heapFits about1 = true := by decide +kernel
set_option maxRecDepth 65536 in
theorem w_runnable : about1.curStatus? = some .runnable := by decide +kernel
set_option maxRecDepth 65536 in
theorem w_alone : about1.alone = true := by decide +kernel
set_option maxRecDepth 65536 in
theorem w_named : about1.methodNamed? x = some theMethod := by decide +kernel
set_option maxRecDepth 65536 in
theorem w_hears : about1.hears theMethod below0 = true := by decide +kernel
set_option maxRecDepth 65536 in
theorem w_ripe : about1.ripe theMethod args0 below0 = true := by decide +kernel
theorem w_running : about1.status = .running := rfl
set_option maxRecDepth 65536 in
theorem w_room : about1.hasRoom e0.platform room_1 = true :=
  launch0.hasRoom_least _ room_1 (by decide +kernel) (by decide +kernel) (by decide +kernel) (by decide +kernel) (by decide +kernel) (by decide +kernel)
theorem allAtoms_all (ts : List Jvm.Cond) (a : Array Jvm.Value) (st : Jvm.State) : (allAtoms ts).before a st = ts.all (fun c => c.before a st) := by
  induction ts with
  | nil => rfl
  | cons c t ih =>
    show (Jvm.Cond.and c (allAtoms t)).before a st = _
    rw [Jvm.Cond.before_and, ih, List.all_cons]
def words1 : List Jvm.Cond := Jvm.Cond.code x code maxLocals ret :: tables_1
/-- a 'code' word, met by the world's own term for the bytes: nothing is compared byte by byte -/
theorem code_word {y : MethodName} {bytes : ByteArray} {mx : Nat} {rt : Option FieldType} {a : Array Value} {s : State} {m : MethodId} {meth : Method} {c : Code} (h1 : s.methodNamed? y = some m) (h2 : s.vm.method? m = some meth) (h3 : meth.code = some c) (h4 : c.code = bytes)
    (h5 : (c.maxLocals == mx && c.exceptionTable.isEmpty && decide (c.maxStack ≤ mostOperands) && decide (meth.sig.returnType = rt) && !meth.locks && decide (parseMethodDescriptor y.desc = some meth.sig)) = true) : (Jvm.Cond.code y bytes mx rt).before a s = true := by
  simp only [Bool.and_eq_true, beq_iff_eq, Bool.not_eq_true', decide_eq_true_eq] at h5
  obtain ⟨⟨⟨⟨⟨g1, g2⟩, g3⟩, g4⟩, g5⟩, g6⟩ := h5
  simp [Cond.before, Cond.holds, Cond.value, h1, h2, h3, h4, g1, g2, g3, g4, g5, g6]
def isCode : Jvm.Cond → Bool
  | .code _ _ _ _ => true
  | _ => false
theorem all_split {L : List Jvm.Cond} {P : Jvm.Cond → Bool} (h1 : L.all (fun c => isCode c || P c) = true) (h2 : ∀ c ∈ L.filter isCode, P c = true) : L.all P = true := by
  refine List.all_eq_true.mpr fun c hc => ?_
  have h := List.all_eq_true.mp h1 c hc
  rcases Bool.eq_false_or_eq_true (isCode c) with hi | hi
  · exact h2 c (List.mem_filter.mpr ⟨hc, hi⟩)
  · simpa [hi] using h
set_option maxRecDepth 65536 in
theorem w_c0 : (Jvm.Cond.code x code maxLocals ret).before args0 about1 = true := code_word (m := ⟨1, 1⟩) (meth := k1m1) (c := k1c1) (by decide +kernel) rfl rfl rfl (by decide +kernel)
set_option maxRecDepth 65536 in
theorem w_c1 : (Jvm.Cond.code ({ cls := "com/example/tallywire/tallywire/wire/FieldTypeIsDataPinLaw", name := "typeAt", desc := "(I)Lcom/example/tallywire/tallywire/wire/FieldType;" } : Jvm.MethodName) method_3_code (1 : Nat) (Option.some (Jvm.ClassFile.FieldType.object "com/example/tallywire/tallywire/wire/FieldType"))).before args0 about1 = true := code_word (m := ⟨1, 2⟩) (meth := k1m2) (c := k1c2) (by decide +kernel) rfl rfl rfl (by decide +kernel)
set_option maxRecDepth 65536 in
theorem w_c2 : (Jvm.Cond.code ({ cls := "com/example/tallywire/tallywire/wire/FieldType", name := "isData", desc := "()Z" } : Jvm.MethodName) prog_40_method_4_code (1 : Nat) (Option.some Jvm.ClassFile.FieldType.boolean)).before args0 about1 = true := code_word (m := ⟨6, 0⟩) (meth := k6m0) (c := k6c0) (by decide +kernel) rfl rfl rfl (by decide +kernel)
def codes1 : List Jvm.Cond := [Jvm.Cond.code x code maxLocals ret, Jvm.Cond.code ({ cls := "com/example/tallywire/tallywire/wire/FieldTypeIsDataPinLaw", name := "typeAt", desc := "(I)Lcom/example/tallywire/tallywire/wire/FieldType;" } : Jvm.MethodName) method_3_code (1 : Nat) (Option.some (Jvm.ClassFile.FieldType.object "com/example/tallywire/tallywire/wire/FieldType")), Jvm.Cond.code ({ cls := "com/example/tallywire/tallywire/wire/FieldType", name := "isData", desc := "()Z" } : Jvm.MethodName) prog_40_method_4_code (1 : Nat) (Option.some Jvm.ClassFile.FieldType.boolean)]
set_option maxRecDepth 65536 in
theorem codes_eq : words1.filter isCode = codes1 := rfl
theorem w_codes : ∀ c ∈ words1.filter isCode, c.before args0 about1 = true := by
  rw [codes_eq]
  intro c hc
  simp only [codes1, List.mem_cons, List.not_mem_nil, or_false] at hc
  rcases hc with rfl | rfl | rfl
  · exact w_c0
  · exact w_c1
  · exact w_c2
set_option maxRecDepth 65536 in
theorem w_t1 : (words1.take 24).all (fun c => isCode c || c.before args0 about1) = true := by decide +kernel
set_option maxRecDepth 65536 in
theorem w_t2 : ((words1.drop 24).take 24).all (fun c => isCode c || c.before args0 about1) = true := by decide +kernel
set_option maxRecDepth 65536 in
theorem w_t3 : ((words1.drop 24).drop 24).all (fun c => isCode c || c.before args0 about1) = true := by decide +kernel
theorem w_tables : (allAtoms (Jvm.Cond.code x code maxLocals ret :: tables_1)).before args0 about1 = true := by
  rw [allAtoms_all]
  show words1.all (fun c => c.before args0 about1) = true
  refine all_split ?_ w_codes
  rw [← List.take_append_drop 24 words1, List.all_append, w_t1, ← List.take_append_drop 24 (words1.drop 24), List.all_append, w_t2, w_t3]
  rfl
set_option maxRecDepth 65536 in
theorem w_case : (Jvm.Cond.and given_1 narrow_1).before args0 about1 = true := by decide +kernel
theorem w_applies : (headSpec (Jvm.Cond.code x code maxLocals ret :: tables_1) room_1).applies x e0.platform about1 = true :=
  (Spec.applies_iff w_frames).mpr ⟨w_running, w_runnable, w_alone, w_named, w_hears, w_ripe, w_room, w_tables⟩
theorem atStart : AtStart classFile x code maxLocals ret World_1 tables_1 room_1 Calls_1 rest_1 Pre_1 launch0 p0 e0 about1 theMethod args0 below0 :=
  ⟨lists_1, trivial, launch0.admits_env _ _ _, launch0.least_env, fairChoices_fair.cas, fairChoices_fair.clock, w_frames, w_args, w_heap, w_applies, trivial, trivial, w_case⟩
end start1
theorem witness_1 : WitnessClaimed_1 := ⟨start1.p0, start1.e0, start1.about1, start1.theMethod, start1.args0, start1.below0, start1.atStart⟩
end Jvm.Pilot.@@N@@
